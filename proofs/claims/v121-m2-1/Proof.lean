import JvmDerived
import JvmDerived.Pilot.@@N@@Statement
import JvmDerived.Pilot.@@N@@Code
set_option linter.unusedVariables false
set_option linter.unusedSimpArgs false
@@BLOCK:NumsL.lean.txt@@
namespace Jvm.RoadKit
open Sem ClassFile Op Lib Jvm.Stand Jvm.Free Jvm.LawKit
section New
variable {p : Program} {l : Launch} {e : Env} {R : Room} {s : State} {m : MethodId} {args : Array Value} {below : List Frame} {meth : Method} {c : Code} {T : State} {locs : List Loc} {cells slots : Nat}
theorem retI (X : Stand p l e R s m args below meth c T locs cells slots) (hx : p.tables.exec = Jvm.exec) {pc : Nat} {Ls : Array Slot} {z : Int32} {rest : List Value} (hret : meth.sig.returnType = some .int) (hd : decode c.code pc = .ok (.ireturn, 1)) {fs : List Frame}
    (hl : ∀ (f : JFrame) (acts : List Action), f.method = m → f.locked = none → f.entered = [] → (doReturn e (T.setTop f) acts (some (.int z))).1 = T.setFrames fs) : Steps p.tables e below (T.setTop (mkF m pc Ls (.int z :: rest))) (T.setFrames fs) := by
  have hm' : T.vm.method? m = some meth := X.method'
  have hn : narrow .int (.int z) = .int z := rfl
  show Steps p.tables e below (T.setTop { method := m, pc := pc, locals := Ls, stack := _ :: rest, locked := none }) _
  jvm_step X.here [X.here.top, hx, hd, hm', hret, hn]
  first | (intro acts; rw [hl _ acts rfl rfl rfl]) | rw [hl _ _ rfl rfl rfl]
  exact Steps.refl _
end New
end Jvm.RoadKit
namespace Jvm.Pilot.@@N@@
open Jvm Jvm.ClassFile Sem Op Lib Jvm.Free Jvm.Stand Jvm.LawKit Jvm.RoadKit Bundle Jvm.Pilot.@@N@@.Jvm.D

def fPC (p1 : Int32) (p2 : Int32) : Int32 := p1
def fCI (p1 : Int32) (p2 : Int32) : Int32 := (fPC p1 p2)
/-! an int[] (a long[]) by its cell: n places, place j holds f j -/
def upd {α : Type} (f : Nat → α) (i : Nat) (v : α) : Nat → α := fun j => if j = i then v else f j
theorem upd_same {α : Type} (f : Nat → α) (i : Nat) (v : α) : upd f i v i = v := if_pos rfl
theorem upd_other {α : Type} (f : Nat → α) {i j : Nat} (v : α) (h : j ≠ i) : upd f i v j = f j := if_neg h
def ArI (Z : State) (h : Heap) (a : Addr) (n : Int32) (f : Nat → Int32) : Prop := ∃ c : Cell, Arr Z h a c .int ∧ c.slots.size = n.toNatClampNeg ∧ ∀ j, j < c.slots.size → c.slots[j]? = some (.int (f j))
def ArJ (Z : State) (h : Heap) (a : Addr) (n : Int32) (f : Nat → Int64) : Prop := ∃ c : Cell, Arr Z h a c .long ∧ c.slots.size = n.toNatClampNeg ∧ ∀ j, j < c.slots.size → c.slots[j]? = some (.long (f j))
section OwnArrays
variable {Z : State} {h h' : Heap} {a b : Addr} {n : Int32} {f : Nat → Int32} {g : Nat → Int64}
theorem ArI.lt (F : ArI Z h a n f) : a < h.size := by obtain ⟨c, A, -⟩ := F; exact A.lt
theorem ArJ.lt (F : ArJ Z h a n g) : a < h.size := by obtain ⟨c, A, -⟩ := F; exact A.lt
theorem ArI.ext (F : ArI Z h a n f) (E : Ext h h') : ArI Z h' a n f := by obtain ⟨c, A, r⟩ := F; exact ⟨c, A.ext E, r⟩
theorem ArJ.ext (F : ArJ Z h a n g) (E : Ext h h') : ArJ Z h' a n g := by obtain ⟨c, A, r⟩ := F; exact ⟨c, A.ext E, r⟩
theorem ArI.other {sl : Nat} {v : Value} (F : ArI Z h b n f) (W : Wr h h' a sl v) (q : b ≠ a) : ArI Z h' b n f := by obtain ⟨c, A, r⟩ := F; exact ⟨c, A.other W q, r⟩
theorem ArJ.other {sl : Nat} {v : Value} (F : ArJ Z h b n g) (W : Wr h h' a sl v) (q : b ≠ a) : ArJ Z h' b n g := by obtain ⟨c, A, r⟩ := F; exact ⟨c, A.other W q, r⟩
theorem ArI.keep {ws : List Addr} (F : ArI Z h a n f) (K : Keep h h' ws) (q : a ∉ ws) : ArI Z h' a n f := by obtain ⟨c, A, r⟩ := F; exact ⟨c, ⟨K.2.1 a c A.1 q, A.2⟩, r⟩
theorem ArJ.keep {ws : List Addr} (F : ArJ Z h a n g) (K : Keep h h' ws) (q : a ∉ ws) : ArJ Z h' a n g := by obtain ⟨c, A, r⟩ := F; exact ⟨c, ⟨K.2.1 a c A.1 q, A.2⟩, r⟩
theorem ArI.new {k : ClassId} (A : Arr Z h a (newA k .int n) .int) (q : ¬ n < 0) : ArI Z h a n (fun _ => 0) := by
  obtain ⟨c, A', -, s, -, H, -⟩ := Arv.new A q
  exact ⟨c, A', s, fun j hj => H j hj⟩
theorem ArJ.new {k : ClassId} (A : Arr Z h a (newA k .long n) .long) (q : ¬ n < 0) : ArJ Z h a n (fun _ => 0) := by
  obtain ⟨c, A', -, s, -, H, -⟩ := Arv.new A q
  exact ⟨c, A', s, fun j hj => H j hj⟩
theorem ArI.open {j : Int32} (F : ArI Z h a n f) (q : ¬ j < 0 ∧ j < n) : ∃ c : Cell, Arr Z h a c .int ∧ c.slots.size = n.toNatClampNeg ∧ ¬ (j < 0 ∨ c.slots.size ≤ j.toNatClampNeg) ∧ c.slots[j.toNatClampNeg]? = some (.int (f j.toNatClampNeg)) := by
  obtain ⟨c, A, s, H⟩ := F
  have hin := inb_of s q
  exact ⟨c, A, s, hin, H _ (Nat.lt_of_not_le fun y => hin (Or.inr y))⟩
theorem ArJ.open {j : Int32} (F : ArJ Z h a n g) (q : ¬ j < 0 ∧ j < n) : ∃ c : Cell, Arr Z h a c .long ∧ c.slots.size = n.toNatClampNeg ∧ ¬ (j < 0 ∨ c.slots.size ≤ j.toNatClampNeg) ∧ c.slots[j.toNatClampNeg]? = some (.long (g j.toNatClampNeg)) := by
  obtain ⟨c, A, s, H⟩ := F
  have hin := inb_of s q
  exact ⟨c, A, s, hin, H _ (Nat.lt_of_not_le fun y => hin (Or.inr y))⟩
theorem ArI.set {i : Nat} {x : Int32} (F : ArI Z h a n f) (W : Wr h h' a i (.int x)) : ArI Z h' a n (upd f i x) := by
  obtain ⟨c, A, s, H⟩ := F
  have A' := A.same W
  refine ⟨_, A', by rw [sz_set]; exact s, fun j hj => ?_⟩
  rw [sz_set] at hj
  show (c.slots.setIfInBounds i (.int x))[j]? = _
  rw [Array.getElem?_setIfInBounds]
  by_cases e : i = j
  · subst e; rw [if_pos rfl, if_pos hj, upd_same]
  · rw [if_neg e, upd_other _ _ (fun q => e q.symm)]; exact H j hj
theorem ArJ.set {i : Nat} {x : Int64} (F : ArJ Z h a n g) (W : Wr h h' a i (.long x)) : ArJ Z h' a n (upd g i x) := by
  obtain ⟨c, A, s, H⟩ := F
  have A' := A.same W
  refine ⟨_, A', by rw [sz_set]; exact s, fun j hj => ?_⟩
  rw [sz_set] at hj
  show (c.slots.setIfInBounds i (.long x))[j]? = _
  rw [Array.getElem?_setIfInBounds]
  by_cases e : i = j
  · subst e; rw [if_pos rfl, if_pos hj, upd_same]
  · rw [if_neg e, upd_other _ _ (fun q => e q.symm)]; exact H j hj
end OwnArrays
/-! an array of references by its cell: n places, place j holds f j; it may take objects of C -/
def ArR (Z : State) (h : Heap) (a : Addr) (k : ClassId) (C : String) (n : Int32) (f : Nat → Value) : Prop := Ovr Z k C ∧ ∃ c : Cell, Arr Z h a c (.object C) ∧ c.cls = k ∧ c.slots.size = n.toNatClampNeg ∧ ∀ j, j < c.slots.size → c.slots[j]? = some (f j)
section OwnRefArrays
variable {Z : State} {h h' : Heap} {a b : Addr} {n : Int32} {k : ClassId} {C : String} {f : Nat → Value}
theorem ArR.lt (F : ArR Z h a k C n f) : a < h.size := by obtain ⟨-, c, A, -⟩ := F; exact A.lt
theorem ArR.ext (F : ArR Z h a k C n f) (E : Ext h h') : ArR Z h' a k C n f := by obtain ⟨o, c, A, r⟩ := F; exact ⟨o, c, A.ext E, r⟩
theorem ArR.other {sl : Nat} {v : Value} (F : ArR Z h b k C n f) (W : Wr h h' a sl v) (q : b ≠ a) : ArR Z h' b k C n f := by obtain ⟨o, c, A, r⟩ := F; exact ⟨o, c, A.other W q, r⟩
theorem ArR.keep {ws : List Addr} (F : ArR Z h a k C n f) (K : Keep h h' ws) (q : a ∉ ws) : ArR Z h' a k C n f := by obtain ⟨o, c, A, r⟩ := F; exact ⟨o, c, ⟨K.2.1 a c A.1 q, A.2⟩, r⟩
theorem ArR.new (A : Arr Z h a (newA k (.object C) n) (.object C)) (o : Ovr Z k C) (q : ¬ n < 0) : ArR Z h a k C n (fun _ => .null) := by
  obtain ⟨c, A', hk, s, -, H, -⟩ := Arv.new A q
  exact ⟨o, c, A', hk, s, fun j hj => H j hj⟩
theorem ArR.open {j : Int32} (F : ArR Z h a k C n f) (q : ¬ j < 0 ∧ j < n) : ∃ c : Cell, Arr Z h a c (.object C) ∧ c.slots.size = n.toNatClampNeg ∧ ¬ (j < 0 ∨ c.slots.size ≤ j.toNatClampNeg) ∧ c.slots[j.toNatClampNeg]? = some (f j.toNatClampNeg) ∧ c.cls = k := by
  obtain ⟨-, c, A, hk, s, H⟩ := F
  have hin := inb_of s q
  exact ⟨c, A, s, hin, H _ (Nat.lt_of_not_le fun y => hin (Or.inr y)), hk⟩
theorem ArR.set {i : Nat} {x : Value} (F : ArR Z h a k C n f) (W : Wr h h' a i x) : ArR Z h' a k C n (upd f i x) := by
  obtain ⟨o, c, A, hk, s, H⟩ := F
  have A' := A.same W
  refine ⟨o, _, A', hk, by rw [sz_set]; exact s, fun j hj => ?_⟩
  rw [sz_set] at hj
  show (c.slots.setIfInBounds i x)[j]? = _
  rw [Array.getElem?_setIfInBounds]
  by_cases e : i = j
  · subst e; rw [if_pos rfl, if_pos hj, upd_same]
  · rw [if_neg e, upd_other _ _ (fun q => e q.symm)]; exact H j hj
theorem ArR.sto {y : Addr} (F : ArR Z h a k C n f) (I : Ins Z h y C true) : Sto Z h a (.ref y) := by
  obtain ⟨o, c, A, hk, s, H⟩ := F
  exact Sto.ofV A hk o I
theorem ArR.len (F : ArR Z h a k C n f) (q : ¬ n < 0) : ∃ c : Cell, Arr Z h a c (.object C) ∧ c.slots.size.toInt32 = n := by
  obtain ⟨o, c, A, hk, s, H⟩ := F
  exact ⟨c, A, len_of s q⟩
theorem ArI.len {g : Nat → Int32} (F : ArI Z h a n g) (q : ¬ n < 0) : ∃ c : Cell, Arr Z h a c .int ∧ c.slots.size.toInt32 = n := by
  obtain ⟨c, A, s, H⟩ := F
  exact ⟨c, A, len_of s q⟩
theorem ArJ.len {g : Nat → Int64} (F : ArJ Z h a n g) (q : ¬ n < 0) : ∃ c : Cell, Arr Z h a c .long ∧ c.slots.size.toInt32 = n := by
  obtain ⟨c, A, s, H⟩ := F
  exact ⟨c, A, len_of s q⟩
end OwnRefArrays
/-- an empty array of objects -/
def ArZ (Z : State) (h : Heap) (a : Addr) : Prop := ∃ c : Cell, Arr Z h a c (.object "java/lang/Object") ∧ c.slots.size = 0
theorem ArZ.ext {Z : State} {h h' : Heap} {a : Addr} (F : ArZ Z h a) (E : Ext h h') : ArZ Z h' a := by obtain ⟨c, A, r⟩ := F; exact ⟨c, A.ext E, r⟩
theorem ArZ.lt {Z : State} {h : Heap} {a : Addr} (F : ArZ Z h a) : a < h.size := by obtain ⟨c, A, r⟩ := F; exact A.lt
theorem ArZ.len {Z : State} {h : Heap} {a : Addr} (F : ArZ Z h a) (q : True) : ∃ c : Cell, Arr Z h a c (.object "java/lang/Object") ∧ c.slots.size.toInt32 = (0 : Int32) := by
  obtain ⟨c, A, r⟩ := F
  exact ⟨c, A, by rw [r]; rfl⟩
theorem own_len0 {args : Array Value} {s : State} {t : Term} {a : Addr} {c : Cell} (ev : t.eval args s none [] s = some (.ref a)) (A : Arr s s.heap a c (.object "java/lang/Object")) (h : (Jvm.Cond.eq (.length t) (.int 0)).value args s none s [] = some true) : c.slots.size = 0 := by
  have ha : s.arrayAt? a = some c := Arr.fin (Vm.Alike.refl _) A
  by_cases hl : c.slots.size < 2 ^ 31
  · have e1 : (Term.length t).eval args s none [] s = some (.int c.slots.size.toInt32) := len_f ev ha hl
    have e2 : (Term.int 0).eval args s none [] s = some (.int 0) := Term.int_eval 0
    have e3 : c.slots.size.toInt32 = 0 := by simpa [Cond.value, e1, e2] using h
    have e4 := len_toInt hl
    rw [e3] at e4
    have : (0 : Int32).toInt = 0 := rfl
    omega
  · have e1 : (Term.length t).eval args s none [] s = none := by simp [Term.eval, ev, ha, hl]
    simp [Cond.value, e1] at h
/-- a private method is selected by itself (the sheet bears no such word) -/
theorem own_sel {Z s : State} {a0 args : Array Value} {y : MethodName} {n : Nat} (hZ : Z.Warmed39 s.vm) (wi : (Jvm.Cond.instantiable y.cls n).before a0 Z = true) (wp : (Jvm.Cond.privateMethod y).before a0 Z = true) (wm : (Jvm.Cond.instanceMethod y).before a0 Z = true)
    (hy : y.cls ≠ "java/lang/invoke/MethodHandle" ∧ y.cls ≠ "java/lang/invoke/VarHandle") : (Jvm.Cond.selects y.cls y y).before args s = true := by
  have wi' : (Jvm.Cond.instantiable y.cls n).before args s = true := mvT hZ wi
  obtain ⟨c, k, h1, h2, -, h4, -⟩ := Cond.instantiable_spec wi'
  rw [Bool.or_eq_false_iff] at h4
  exact Jvm.Stand.selects_self_of_private h1 h2 h4.1 (Cond.privateMethod_at (mvP hZ wp (args := args))) (mvT hZ wm) hy

theorem own_eq {a : Int32} {n : Int} (h : a.toInt = n) {b : Int32} (hb' : b.toInt = n) : a = b := Int32.toInt_inj.mp (h.trans hb'.symm)
theorem own_v6 {p v6 : Int32} (h : v6 = ((p &&& (2147483647 : Int32)) % (4 : Int32))) : v6 = 0 ∨ v6 = 1 ∨ v6 = 2 ∨ v6 = 3 := by
  have e : (p &&& (2147483647 : Int32)).toInt = p.toInt % 2 ^ 31 := Jvm.Kit.i32_mask p 2147483647 (k := 31) (by decide) (by decide)
  have r : v6.toInt = (p &&& (2147483647 : Int32)).toInt % 4 := by rw [h]; exact Jvm.Kit.i32_rem_nonneg (by omega)
  have : v6.toInt = 0 ∨ v6.toInt = 1 ∨ v6.toInt = 2 ∨ v6.toInt = 3 := by omega
  rcases this with q | q | q | q
  · exact Or.inl (own_eq q rfl)
  · exact Or.inr (Or.inl (own_eq q rfl))
  · exact Or.inr (Or.inr (Or.inl (own_eq q rfl)))
  · exact Or.inr (Or.inr (Or.inr (own_eq q rfl)))
theorem own_cases {p v6 v12 v18 v25 : Int32} (h6 : v6 = ((p &&& (2147483647 : Int32)) % (4 : Int32))) (h12 : v12 = ((v6 + (1 : Int32)) % (4 : Int32))) (h18 : v18 = ((v6 + (2 : Int32)) % (4 : Int32))) (h25 : v25 = ((v6 + (3 : Int32)) % (4 : Int32))) :
    (v6 = 0 ∧ v12 = 1 ∧ v18 = 2 ∧ v25 = 3) ∨ (v6 = 1 ∧ v12 = 2 ∧ v18 = 3 ∧ v25 = 0) ∨ (v6 = 2 ∧ v12 = 3 ∧ v18 = 0 ∧ v25 = 1) ∨ (v6 = 3 ∧ v12 = 0 ∧ v18 = 1 ∧ v25 = 2) := by
  have q := own_v6 h6
  clear h6
  rcases q with rfl | rfl | rfl | rfl
  · exact Or.inl ⟨rfl, h12, h18, h25⟩
  · exact Or.inr (Or.inl ⟨rfl, h12, h18, h25⟩)
  · exact Or.inr (Or.inr (Or.inl ⟨rfl, h12, h18, h25⟩))
  · exact Or.inr (Or.inr (Or.inr ⟨rfl, h12, h18, h25⟩))
theorem own_m4 {p v30 : Int32} (h : v30 = (p &&& (3 : Int32))) : v30 = 0 ∨ v30 = 1 ∨ v30 = 2 ∨ v30 = 3 := by
  have e : v30.toInt = p.toInt % 2 ^ 2 := by rw [h]; exact Jvm.Kit.i32_mask p 3 (k := 2) (by decide) (by decide)
  have : v30.toInt = 0 ∨ v30.toInt = 1 ∨ v30.toInt = 2 ∨ v30.toInt = 3 := by omega
  rcases this with q | q | q | q
  · exact Or.inl (own_eq q rfl)
  · exact Or.inr (Or.inl (own_eq q rfl))
  · exact Or.inr (Or.inr (Or.inl (own_eq q rfl)))
  · exact Or.inr (Or.inr (Or.inr (own_eq q rfl)))
theorem own_m {p v30 : Int32} (h : v30 = (p &&& (3 : Int32))) : ¬ v30 < (0 : Int32) ∧ v30 < (4 : Int32) := by
  rcases own_m4 h with q | q | q | q <;> rw [q] <;> decide

theorem d5_0 : decode jdk_22_method_1_code 0 = .ok (.aload_n 0, 1) := by decide +kernel
theorem d5_1 : decode jdk_22_method_1_code 1 = .ok (.invokespecial 1, 3) := by decide +kernel
theorem d5_4 : decode jdk_22_method_1_code 4 = .ok (.return_, 1) := by decide +kernel
theorem d4_0 : decode jdk_39_method_1_code 0 = .ok (.aload_n 0, 1) := by decide +kernel
theorem d4_1 : decode jdk_39_method_1_code 1 = .ok (.invokespecial 1, 3) := by decide +kernel
theorem d4_4 : decode jdk_39_method_1_code 4 = .ok (.aload_n 0, 1) := by decide +kernel
theorem d4_5 : decode jdk_39_method_1_code 5 = .ok (.iconst 0, 1) := by decide +kernel
theorem d4_6 : decode jdk_39_method_1_code 6 = .ok (.putfield 7, 3) := by decide +kernel
theorem d4_9 : decode jdk_39_method_1_code 9 = .ok (.return_, 1) := by decide +kernel
theorem d3_0 : decode jdk_38_method_1_code 0 = .ok (.aload_n 0, 1) := by decide +kernel
theorem d3_1 : decode jdk_38_method_1_code 1 = .ok (.invokespecial 1, 3) := by decide +kernel
theorem d3_4 : decode jdk_38_method_1_code 4 = .ok (.iload_n 1, 1) := by decide +kernel
theorem d3_5 : decode jdk_38_method_1_code 5 = .ok (.ifCond .le 14, 3) := by decide +kernel
theorem d3_8 : decode jdk_38_method_1_code 8 = .ok (.aload_n 0, 1) := by decide +kernel
theorem d3_9 : decode jdk_38_method_1_code 9 = .ok (.iload_n 1, 1) := by decide +kernel
theorem d3_10 : decode jdk_38_method_1_code 10 = .ok (.anewarray 7, 3) := by decide +kernel
theorem d3_13 : decode jdk_38_method_1_code 13 = .ok (.putfield 9, 3) := by decide +kernel
theorem d3_16 : decode jdk_38_method_1_code 16 = .ok (.goto 44, 3) := by decide +kernel
theorem d3_60 : decode jdk_38_method_1_code 60 = .ok (.return_, 1) := by decide +kernel
theorem d6_0 : decode jdk_65_method_101_code 0 = .ok (.iconst 0, 1) := by decide +kernel
theorem d6_1 : decode jdk_65_method_101_code 1 = .ok (.istore_n 3, 1) := by decide +kernel
theorem d6_2 : decode jdk_65_method_101_code 2 = .ok (.aload_n 0, 1) := by decide +kernel
theorem d6_3 : decode jdk_65_method_101_code 3 = .ok (.arraylength, 1) := by decide +kernel
theorem d6_4 : decode jdk_65_method_101_code 4 = .ok (.istore 4, 2) := by decide +kernel
theorem d6_6 : decode jdk_65_method_101_code 6 = .ok (.iload_n 3, 1) := by decide +kernel
theorem d6_7 : decode jdk_65_method_101_code 7 = .ok (.iload 4, 2) := by decide +kernel
theorem d6_9 : decode jdk_65_method_101_code 9 = .ok (.if_icmp .ge 13, 3) := by decide +kernel
theorem d6_12 : decode jdk_65_method_101_code 12 = .ok (.aload_n 0, 1) := by decide +kernel
theorem d6_13 : decode jdk_65_method_101_code 13 = .ok (.iload_n 3, 1) := by decide +kernel
theorem d6_14 : decode jdk_65_method_101_code 14 = .ok (.lload_n 1, 1) := by decide +kernel
theorem d6_15 : decode jdk_65_method_101_code 15 = .ok (.lastore, 1) := by decide +kernel
theorem d6_16 : decode jdk_65_method_101_code 16 = .ok (.iinc 3 1, 3) := by decide +kernel
theorem d6_19 : decode jdk_65_method_101_code 19 = .ok (.goto (-13), 3) := by decide +kernel
theorem d6_22 : decode jdk_65_method_101_code 22 = .ok (.return_, 1) := by decide +kernel
theorem d7_0 : decode jdk_38_method_2_code 0 = .ok (.aload_n 0, 1) := by decide +kernel
theorem d7_1 : decode jdk_38_method_2_code 1 = .ok (.invokespecial 1, 3) := by decide +kernel
theorem d7_4 : decode jdk_38_method_2_code 4 = .ok (.aload_n 0, 1) := by decide +kernel
theorem d7_5 : decode jdk_38_method_2_code 5 = .ok (.getstatic 39, 3) := by decide +kernel
theorem d7_8 : decode jdk_38_method_2_code 8 = .ok (.putfield 9, 3) := by decide +kernel
theorem d7_11 : decode jdk_38_method_2_code 11 = .ok (.return_, 1) := by decide +kernel
theorem d18_0 : decode jdk_29_method_65_code 0 = .ok (.iload_n 0, 1) := by decide +kernel
theorem d18_1 : decode jdk_29_method_65_code 1 = .ok (.iload_n 1, 1) := by decide +kernel
theorem d18_2 : decode jdk_29_method_65_code 2 = .ok (.if_icmp .lt 7, 3) := by decide +kernel
theorem d18_5 : decode jdk_29_method_65_code 5 = .ok (.iload_n 0, 1) := by decide +kernel
theorem d18_6 : decode jdk_29_method_65_code 6 = .ok (.goto 4, 3) := by decide +kernel
theorem d18_10 : decode jdk_29_method_65_code 10 = .ok (.ireturn, 1) := by decide +kernel
theorem d17_0 : decode jdk_38_method_6_code 0 = .ok (.aload_n 0, 1) := by decide +kernel
theorem d17_1 : decode jdk_38_method_6_code 1 = .ok (.getfield 9, 3) := by decide +kernel
theorem d17_4 : decode jdk_38_method_6_code 4 = .ok (.arraylength, 1) := by decide +kernel
theorem d17_5 : decode jdk_38_method_6_code 5 = .ok (.istore_n 2, 1) := by decide +kernel
theorem d17_6 : decode jdk_38_method_6_code 6 = .ok (.iload_n 2, 1) := by decide +kernel
theorem d17_7 : decode jdk_38_method_6_code 7 = .ok (.ifCond .gt 13, 3) := by decide +kernel
theorem d17_10 : decode jdk_38_method_6_code 10 = .ok (.aload_n 0, 1) := by decide +kernel
theorem d17_11 : decode jdk_38_method_6_code 11 = .ok (.getfield 9, 3) := by decide +kernel
theorem d17_14 : decode jdk_38_method_6_code 14 = .ok (.getstatic 39, 3) := by decide +kernel
theorem d17_17 : decode jdk_38_method_6_code 17 = .ok (.if_acmp .eq 28, 3) := by decide +kernel
theorem d17_45 : decode jdk_38_method_6_code 45 = .ok (.aload_n 0, 1) := by decide +kernel
theorem d17_46 : decode jdk_38_method_6_code 46 = .ok (.bipush 10, 2) := by decide +kernel
theorem d17_48 : decode jdk_38_method_6_code 48 = .ok (.iload_n 1, 1) := by decide +kernel
theorem d17_49 : decode jdk_38_method_6_code 49 = .ok (.invokestatic 79, 3) := by decide +kernel
theorem d17_52 : decode jdk_38_method_6_code 52 = .ok (.anewarray 7, 3) := by decide +kernel
theorem d17_55 : decode jdk_38_method_6_code 55 = .ok (.dup_x1, 1) := by decide +kernel
theorem d17_56 : decode jdk_38_method_6_code 56 = .ok (.putfield 9, 3) := by decide +kernel
theorem d17_59 : decode jdk_38_method_6_code 59 = .ok (.areturn, 1) := by decide +kernel
theorem d16_0 : decode jdk_38_method_7_code 0 = .ok (.aload_n 0, 1) := by decide +kernel
theorem d16_1 : decode jdk_38_method_7_code 1 = .ok (.aload_n 0, 1) := by decide +kernel
theorem d16_2 : decode jdk_38_method_7_code 2 = .ok (.getfield 48, 3) := by decide +kernel
theorem d16_5 : decode jdk_38_method_7_code 5 = .ok (.iconst 1, 1) := by decide +kernel
theorem d16_6 : decode jdk_38_method_7_code 6 = .ok (.iadd, 1) := by decide +kernel
theorem d16_7 : decode jdk_38_method_7_code 7 = .ok (.invokevirtual 69, 3) := by decide +kernel
theorem d16_10 : decode jdk_38_method_7_code 10 = .ok (.areturn, 1) := by decide +kernel
theorem d9_0 : decode jdk_38_method_24_code 0 = .ok (.iload_n 3, 1) := by decide +kernel
theorem d9_1 : decode jdk_38_method_24_code 1 = .ok (.aload_n 2, 1) := by decide +kernel
theorem d9_2 : decode jdk_38_method_24_code 2 = .ok (.arraylength, 1) := by decide +kernel
theorem d9_3 : decode jdk_38_method_24_code 3 = .ok (.if_icmp .ne 8, 3) := by decide +kernel
theorem d9_11 : decode jdk_38_method_24_code 11 = .ok (.aload_n 2, 1) := by decide +kernel
theorem d9_12 : decode jdk_38_method_24_code 12 = .ok (.iload_n 3, 1) := by decide +kernel
theorem d9_13 : decode jdk_38_method_24_code 13 = .ok (.aload_n 1, 1) := by decide +kernel
theorem d9_14 : decode jdk_38_method_24_code 14 = .ok (.aastore, 1) := by decide +kernel
theorem d9_15 : decode jdk_38_method_24_code 15 = .ok (.aload_n 0, 1) := by decide +kernel
theorem d9_16 : decode jdk_38_method_24_code 16 = .ok (.iload_n 3, 1) := by decide +kernel
theorem d9_17 : decode jdk_38_method_24_code 17 = .ok (.iconst 1, 1) := by decide +kernel
theorem d9_18 : decode jdk_38_method_24_code 18 = .ok (.iadd, 1) := by decide +kernel
theorem d9_19 : decode jdk_38_method_24_code 19 = .ok (.putfield 48, 3) := by decide +kernel
theorem d9_22 : decode jdk_38_method_24_code 22 = .ok (.return_, 1) := by decide +kernel
theorem d8_0 : decode jdk_38_method_25_code 0 = .ok (.aload_n 0, 1) := by decide +kernel
theorem d8_1 : decode jdk_38_method_25_code 1 = .ok (.dup, 1) := by decide +kernel
theorem d8_2 : decode jdk_38_method_25_code 2 = .ok (.getfield 63, 3) := by decide +kernel
theorem d8_5 : decode jdk_38_method_25_code 5 = .ok (.iconst 1, 1) := by decide +kernel
theorem d8_6 : decode jdk_38_method_25_code 6 = .ok (.iadd, 1) := by decide +kernel
theorem d8_7 : decode jdk_38_method_25_code 7 = .ok (.putfield 63, 3) := by decide +kernel
theorem d8_10 : decode jdk_38_method_25_code 10 = .ok (.aload_n 0, 1) := by decide +kernel
theorem d8_11 : decode jdk_38_method_25_code 11 = .ok (.aload_n 1, 1) := by decide +kernel
theorem d8_12 : decode jdk_38_method_25_code 12 = .ok (.aload_n 0, 1) := by decide +kernel
theorem d8_13 : decode jdk_38_method_25_code 13 = .ok (.getfield 9, 3) := by decide +kernel
theorem d8_16 : decode jdk_38_method_25_code 16 = .ok (.aload_n 0, 1) := by decide +kernel
theorem d8_17 : decode jdk_38_method_25_code 17 = .ok (.getfield 48, 3) := by decide +kernel
theorem d8_20 : decode jdk_38_method_25_code 20 = .ok (.invokevirtual 131, 3) := by decide +kernel
theorem d8_23 : decode jdk_38_method_25_code 23 = .ok (.iconst 1, 1) := by decide +kernel
theorem d8_24 : decode jdk_38_method_25_code 24 = .ok (.ireturn, 1) := by decide +kernel
theorem d9_6 : decode jdk_38_method_24_code 6 = .ok (.aload_n 0, 1) := by decide +kernel
theorem d9_7 : decode jdk_38_method_24_code 7 = .ok (.invokevirtual 129, 3) := by decide +kernel
theorem d9_10 : decode jdk_38_method_24_code 10 = .ok (.astore_n 2, 1) := by decide +kernel
theorem d14_0 : decode jdk_41_method_11_code 0 = .ok (.iload_n 0, 1) := by decide +kernel
theorem d14_1 : decode jdk_41_method_11_code 1 = .ok (.ifCond .lt 8, 3) := by decide +kernel
theorem d14_4 : decode jdk_41_method_11_code 4 = .ok (.iload_n 0, 1) := by decide +kernel
theorem d14_5 : decode jdk_41_method_11_code 5 = .ok (.iload_n 1, 1) := by decide +kernel
theorem d14_6 : decode jdk_41_method_11_code 6 = .ok (.if_icmp .lt 10, 3) := by decide +kernel
theorem d14_16 : decode jdk_41_method_11_code 16 = .ok (.iload_n 0, 1) := by decide +kernel
theorem d14_17 : decode jdk_41_method_11_code 17 = .ok (.ireturn, 1) := by decide +kernel
theorem d13_0 : decode jdk_31_method_17_code 0 = .ok (.iload_n 0, 1) := by decide +kernel
theorem d13_1 : decode jdk_31_method_17_code 1 = .ok (.iload_n 1, 1) := by decide +kernel
theorem d13_2 : decode jdk_31_method_17_code 2 = .ok (.aconst_null, 1) := by decide +kernel
theorem d13_3 : decode jdk_31_method_17_code 3 = .ok (.invokestatic 105, 3) := by decide +kernel
theorem d13_6 : decode jdk_31_method_17_code 6 = .ok (.ireturn, 1) := by decide +kernel
theorem d15_0 : decode jdk_38_method_18_code 0 = .ok (.aload_n 0, 1) := by decide +kernel
theorem d15_1 : decode jdk_38_method_18_code 1 = .ok (.getfield 9, 3) := by decide +kernel
theorem d15_4 : decode jdk_38_method_18_code 4 = .ok (.iload_n 1, 1) := by decide +kernel
theorem d15_5 : decode jdk_38_method_18_code 5 = .ok (.aaload, 1) := by decide +kernel
theorem d15_6 : decode jdk_38_method_18_code 6 = .ok (.areturn, 1) := by decide +kernel
theorem d12_0 : decode jdk_38_method_20_code 0 = .ok (.iload_n 1, 1) := by decide +kernel
theorem d12_1 : decode jdk_38_method_20_code 1 = .ok (.aload_n 0, 1) := by decide +kernel
theorem d12_2 : decode jdk_38_method_20_code 2 = .ok (.getfield 48, 3) := by decide +kernel
theorem d12_5 : decode jdk_38_method_20_code 5 = .ok (.invokestatic 118, 3) := by decide +kernel
theorem d12_8 : decode jdk_38_method_20_code 8 = .ok (.pop, 1) := by decide +kernel
theorem d12_9 : decode jdk_38_method_20_code 9 = .ok (.aload_n 0, 1) := by decide +kernel
theorem d12_10 : decode jdk_38_method_20_code 10 = .ok (.iload_n 1, 1) := by decide +kernel
theorem d12_11 : decode jdk_38_method_20_code 11 = .ok (.invokevirtual 123, 3) := by decide +kernel
theorem d12_14 : decode jdk_38_method_20_code 14 = .ok (.areturn, 1) := by decide +kernel
theorem d22_0 : decode jdk_49_method_1_code 0 = .ok (.aload_n 0, 1) := by decide +kernel
theorem d22_1 : decode jdk_49_method_1_code 1 = .ok (.aload_n 1, 1) := by decide +kernel
theorem d22_2 : decode jdk_49_method_1_code 2 = .ok (.putfield 1, 3) := by decide +kernel
theorem d22_5 : decode jdk_49_method_1_code 5 = .ok (.aload_n 0, 1) := by decide +kernel
theorem d22_6 : decode jdk_49_method_1_code 6 = .ok (.invokespecial 7, 3) := by decide +kernel
theorem d22_9 : decode jdk_49_method_1_code 9 = .ok (.aload_n 0, 1) := by decide +kernel
theorem d22_10 : decode jdk_49_method_1_code 10 = .ok (.iconst (-1), 1) := by decide +kernel
theorem d22_11 : decode jdk_49_method_1_code 11 = .ok (.putfield 13, 3) := by decide +kernel
theorem d22_14 : decode jdk_49_method_1_code 14 = .ok (.aload_n 0, 1) := by decide +kernel
theorem d22_15 : decode jdk_49_method_1_code 15 = .ok (.aload_n 0, 1) := by decide +kernel
theorem d22_16 : decode jdk_49_method_1_code 16 = .ok (.getfield 1, 3) := by decide +kernel
theorem d22_19 : decode jdk_49_method_1_code 19 = .ok (.getfield 17, 3) := by decide +kernel
theorem d22_22 : decode jdk_49_method_1_code 22 = .ok (.putfield 22, 3) := by decide +kernel
theorem d22_25 : decode jdk_49_method_1_code 25 = .ok (.return_, 1) := by decide +kernel
theorem d21_0 : decode jdk_38_method_55_code 0 = .ok (.new 267, 3) := by decide +kernel
theorem d21_3 : decode jdk_38_method_55_code 3 = .ok (.dup, 1) := by decide +kernel
theorem d21_4 : decode jdk_38_method_55_code 4 = .ok (.aload_n 0, 1) := by decide +kernel
theorem d21_5 : decode jdk_38_method_55_code 5 = .ok (.invokespecial 269, 3) := by decide +kernel
theorem d21_8 : decode jdk_38_method_55_code 8 = .ok (.areturn, 1) := by decide +kernel
theorem d23_0 : decode jdk_49_method_2_code 0 = .ok (.aload_n 0, 1) := by decide +kernel
theorem d23_1 : decode jdk_49_method_2_code 1 = .ok (.getfield 25, 3) := by decide +kernel
theorem d23_4 : decode jdk_49_method_2_code 4 = .ok (.aload_n 0, 1) := by decide +kernel
theorem d23_5 : decode jdk_49_method_2_code 5 = .ok (.getfield 1, 3) := by decide +kernel
theorem d23_8 : decode jdk_49_method_2_code 8 = .ok (.getfield 28, 3) := by decide +kernel
theorem d23_11 : decode jdk_49_method_2_code 11 = .ok (.if_icmp .eq 7, 3) := by decide +kernel
theorem d23_18 : decode jdk_49_method_2_code 18 = .ok (.iconst 0, 1) := by decide +kernel
theorem d23_19 : decode jdk_49_method_2_code 19 = .ok (.ireturn, 1) := by decide +kernel
theorem d23_14 : decode jdk_49_method_2_code 14 = .ok (.iconst 1, 1) := by decide +kernel
theorem d23_15 : decode jdk_49_method_2_code 15 = .ok (.goto 4, 3) := by decide +kernel
theorem d25_0 : decode jdk_49_method_6_code 0 = .ok (.aload_n 0, 1) := by decide +kernel
theorem d25_1 : decode jdk_49_method_6_code 1 = .ok (.getfield 1, 3) := by decide +kernel
theorem d25_4 : decode jdk_49_method_6_code 4 = .ok (.getfield 17, 3) := by decide +kernel
theorem d25_7 : decode jdk_49_method_6_code 7 = .ok (.aload_n 0, 1) := by decide +kernel
theorem d25_8 : decode jdk_49_method_6_code 8 = .ok (.getfield 22, 3) := by decide +kernel
theorem d25_11 : decode jdk_49_method_6_code 11 = .ok (.if_icmp .eq 11, 3) := by decide +kernel
theorem d25_22 : decode jdk_49_method_6_code 22 = .ok (.return_, 1) := by decide +kernel
theorem d24_0 : decode jdk_49_method_3_code 0 = .ok (.aload_n 0, 1) := by decide +kernel
theorem d24_1 : decode jdk_49_method_3_code 1 = .ok (.invokevirtual 31, 3) := by decide +kernel
theorem d24_4 : decode jdk_49_method_3_code 4 = .ok (.aload_n 0, 1) := by decide +kernel
theorem d24_5 : decode jdk_49_method_3_code 5 = .ok (.getfield 25, 3) := by decide +kernel
theorem d24_8 : decode jdk_49_method_3_code 8 = .ok (.istore_n 1, 1) := by decide +kernel
theorem d24_9 : decode jdk_49_method_3_code 9 = .ok (.iload_n 1, 1) := by decide +kernel
theorem d24_10 : decode jdk_49_method_3_code 10 = .ok (.aload_n 0, 1) := by decide +kernel
theorem d24_11 : decode jdk_49_method_3_code 11 = .ok (.getfield 1, 3) := by decide +kernel
theorem d24_14 : decode jdk_49_method_3_code 14 = .ok (.getfield 28, 3) := by decide +kernel
theorem d24_17 : decode jdk_49_method_3_code 17 = .ok (.if_icmp .lt 11, 3) := by decide +kernel
theorem d24_28 : decode jdk_49_method_3_code 28 = .ok (.aload_n 0, 1) := by decide +kernel
theorem d24_29 : decode jdk_49_method_3_code 29 = .ok (.getfield 1, 3) := by decide +kernel
theorem d24_32 : decode jdk_49_method_3_code 32 = .ok (.getfield 37, 3) := by decide +kernel
theorem d24_35 : decode jdk_49_method_3_code 35 = .ok (.astore_n 2, 1) := by decide +kernel
theorem d24_36 : decode jdk_49_method_3_code 36 = .ok (.iload_n 1, 1) := by decide +kernel
theorem d24_37 : decode jdk_49_method_3_code 37 = .ok (.aload_n 2, 1) := by decide +kernel
theorem d24_38 : decode jdk_49_method_3_code 38 = .ok (.arraylength, 1) := by decide +kernel
theorem d24_39 : decode jdk_49_method_3_code 39 = .ok (.if_icmp .lt 11, 3) := by decide +kernel
theorem d24_50 : decode jdk_49_method_3_code 50 = .ok (.aload_n 0, 1) := by decide +kernel
theorem d24_51 : decode jdk_49_method_3_code 51 = .ok (.iload_n 1, 1) := by decide +kernel
theorem d24_52 : decode jdk_49_method_3_code 52 = .ok (.iconst 1, 1) := by decide +kernel
theorem d24_53 : decode jdk_49_method_3_code 53 = .ok (.iadd, 1) := by decide +kernel
theorem d24_54 : decode jdk_49_method_3_code 54 = .ok (.putfield 25, 3) := by decide +kernel
theorem d24_57 : decode jdk_49_method_3_code 57 = .ok (.aload_n 2, 1) := by decide +kernel
theorem d24_58 : decode jdk_49_method_3_code 58 = .ok (.aload_n 0, 1) := by decide +kernel
theorem d24_59 : decode jdk_49_method_3_code 59 = .ok (.iload_n 1, 1) := by decide +kernel
theorem d24_60 : decode jdk_49_method_3_code 60 = .ok (.dup_x1, 1) := by decide +kernel
theorem d24_61 : decode jdk_49_method_3_code 61 = .ok (.putfield 13, 3) := by decide +kernel
theorem d24_64 : decode jdk_49_method_3_code 64 = .ok (.aaload, 1) := by decide +kernel
theorem d24_65 : decode jdk_49_method_3_code 65 = .ok (.areturn, 1) := by decide +kernel
theorem d26_0 : decode jdk_38_method_40_code 0 = .ok (.aload_n 0, 1) := by decide +kernel
theorem d26_1 : decode jdk_38_method_40_code 1 = .ok (.dup, 1) := by decide +kernel
theorem d26_2 : decode jdk_38_method_40_code 2 = .ok (.getfield 63, 3) := by decide +kernel
theorem d26_5 : decode jdk_38_method_40_code 5 = .ok (.iconst 1, 1) := by decide +kernel
theorem d26_6 : decode jdk_38_method_40_code 6 = .ok (.iadd, 1) := by decide +kernel
theorem d26_7 : decode jdk_38_method_40_code 7 = .ok (.putfield 63, 3) := by decide +kernel
theorem d26_10 : decode jdk_38_method_40_code 10 = .ok (.aload_n 0, 1) := by decide +kernel
theorem d26_11 : decode jdk_38_method_40_code 11 = .ok (.getfield 9, 3) := by decide +kernel
theorem d26_14 : decode jdk_38_method_40_code 14 = .ok (.astore_n 1, 1) := by decide +kernel
theorem d26_15 : decode jdk_38_method_40_code 15 = .ok (.aload_n 0, 1) := by decide +kernel
theorem d26_16 : decode jdk_38_method_40_code 16 = .ok (.getfield 48, 3) := by decide +kernel
theorem d26_19 : decode jdk_38_method_40_code 19 = .ok (.istore_n 2, 1) := by decide +kernel
theorem d26_20 : decode jdk_38_method_40_code 20 = .ok (.aload_n 0, 1) := by decide +kernel
theorem d26_21 : decode jdk_38_method_40_code 21 = .ok (.iconst 0, 1) := by decide +kernel
theorem d26_22 : decode jdk_38_method_40_code 22 = .ok (.dup_x1, 1) := by decide +kernel
theorem d26_23 : decode jdk_38_method_40_code 23 = .ok (.putfield 48, 3) := by decide +kernel
theorem d26_26 : decode jdk_38_method_40_code 26 = .ok (.istore_n 3, 1) := by decide +kernel
theorem d26_27 : decode jdk_38_method_40_code 27 = .ok (.iload_n 3, 1) := by decide +kernel
theorem d26_28 : decode jdk_38_method_40_code 28 = .ok (.iload_n 2, 1) := by decide +kernel
theorem d26_29 : decode jdk_38_method_40_code 29 = .ok (.if_icmp .ge 13, 3) := by decide +kernel
theorem d26_42 : decode jdk_38_method_40_code 42 = .ok (.return_, 1) := by decide +kernel
theorem d26_32 : decode jdk_38_method_40_code 32 = .ok (.aload_n 1, 1) := by decide +kernel
theorem d26_33 : decode jdk_38_method_40_code 33 = .ok (.iload_n 3, 1) := by decide +kernel
theorem d26_34 : decode jdk_38_method_40_code 34 = .ok (.aconst_null, 1) := by decide +kernel
theorem d26_35 : decode jdk_38_method_40_code 35 = .ok (.aastore, 1) := by decide +kernel
theorem d26_36 : decode jdk_38_method_40_code 36 = .ok (.iinc 3 1, 3) := by decide +kernel
theorem d26_39 : decode jdk_38_method_40_code 39 = .ok (.goto (-12), 3) := by decide +kernel
theorem d10_0 : decode prog_41_method_2_code 0 = .ok (.aload_n 0, 1) := by decide +kernel
theorem d10_1 : decode prog_41_method_2_code 1 = .ok (.getfield 7, 3) := by decide +kernel
theorem d10_4 : decode prog_41_method_2_code 4 = .ok (.iload_n 1, 1) := by decide +kernel
theorem d10_5 : decode prog_41_method_2_code 5 = .ok (.dup2, 1) := by decide +kernel
theorem d10_6 : decode prog_41_method_2_code 6 = .ok (.iaload, 1) := by decide +kernel
theorem d10_7 : decode prog_41_method_2_code 7 = .ok (.iconst 1, 1) := by decide +kernel
theorem d10_8 : decode prog_41_method_2_code 8 = .ok (.iadd, 1) := by decide +kernel
theorem d10_9 : decode prog_41_method_2_code 9 = .ok (.iastore, 1) := by decide +kernel
theorem d10_10 : decode prog_41_method_2_code 10 = .ok (.aload_n 0, 1) := by decide +kernel
theorem d10_11 : decode prog_41_method_2_code 11 = .ok (.getfield 13, 3) := by decide +kernel
theorem d10_14 : decode prog_41_method_2_code 14 = .ok (.iload_n 1, 1) := by decide +kernel
theorem d10_15 : decode prog_41_method_2_code 15 = .ok (.ldc2_w 26, 3) := by decide +kernel
theorem d10_18 : decode prog_41_method_2_code 18 = .ok (.lastore, 1) := by decide +kernel
theorem d10_19 : decode prog_41_method_2_code 19 = .ok (.return_, 1) := by decide +kernel
theorem d11_0 : decode prog_41_method_3_code 0 = .ok (.aload_n 0, 1) := by decide +kernel
theorem d11_1 : decode prog_41_method_3_code 1 = .ok (.getfield 13, 3) := by decide +kernel
theorem d11_4 : decode prog_41_method_3_code 4 = .ok (.iload_n 2, 1) := by decide +kernel
theorem d11_5 : decode prog_41_method_3_code 5 = .ok (.laload, 1) := by decide +kernel
theorem d11_6 : decode prog_41_method_3_code 6 = .ok (.ldc2_w 26, 3) := by decide +kernel
theorem d11_9 : decode prog_41_method_3_code 9 = .ok (.lcmp, 1) := by decide +kernel
theorem d11_10 : decode prog_41_method_3_code 10 = .ok (.ifCond .eq 4, 3) := by decide +kernel
theorem d11_14 : decode prog_41_method_3_code 14 = .ok (.aload_n 0, 1) := by decide +kernel
theorem d11_15 : decode prog_41_method_3_code 15 = .ok (.getfield 13, 3) := by decide +kernel
theorem d11_18 : decode prog_41_method_3_code 18 = .ok (.iload_n 1, 1) := by decide +kernel
theorem d11_19 : decode prog_41_method_3_code 19 = .ok (.laload, 1) := by decide +kernel
theorem d11_20 : decode prog_41_method_3_code 20 = .ok (.ldc2_w 26, 3) := by decide +kernel
theorem d11_23 : decode prog_41_method_3_code 23 = .ok (.lcmp, 1) := by decide +kernel
theorem d11_24 : decode prog_41_method_3_code 24 = .ok (.ifCond .eq 11, 3) := by decide +kernel
theorem d11_35 : decode prog_41_method_3_code 35 = .ok (.aload_n 0, 1) := by decide +kernel
theorem d11_36 : decode prog_41_method_3_code 36 = .ok (.getfield 22, 3) := by decide +kernel
theorem d11_39 : decode prog_41_method_3_code 39 = .ok (.iload_n 1, 1) := by decide +kernel
theorem d11_40 : decode prog_41_method_3_code 40 = .ok (.invokeinterface 48 2, 5) := by decide +kernel
theorem d11_45 : decode prog_41_method_3_code 45 = .ok (.checkcast 36, 3) := by decide +kernel
theorem d11_48 : decode prog_41_method_3_code 48 = .ok (.iconst 2, 1) := by decide +kernel
theorem d11_49 : decode prog_41_method_3_code 49 = .ok (.newarray .int, 2) := by decide +kernel
theorem d11_51 : decode prog_41_method_3_code 51 = .ok (.dup, 1) := by decide +kernel
theorem d11_52 : decode prog_41_method_3_code 52 = .ok (.iconst 0, 1) := by decide +kernel
theorem d11_53 : decode prog_41_method_3_code 53 = .ok (.iload_n 2, 1) := by decide +kernel
theorem d11_54 : decode prog_41_method_3_code 54 = .ok (.iastore, 1) := by decide +kernel
theorem d11_55 : decode prog_41_method_3_code 55 = .ok (.dup, 1) := by decide +kernel
theorem d11_56 : decode prog_41_method_3_code 56 = .ok (.iconst 1, 1) := by decide +kernel
theorem d11_57 : decode prog_41_method_3_code 57 = .ok (.aload_n 0, 1) := by decide +kernel
theorem d11_58 : decode prog_41_method_3_code 58 = .ok (.getfield 7, 3) := by decide +kernel
theorem d11_61 : decode prog_41_method_3_code 61 = .ok (.iload_n 2, 1) := by decide +kernel
theorem d11_62 : decode prog_41_method_3_code 62 = .ok (.iaload, 1) := by decide +kernel
theorem d11_63 : decode prog_41_method_3_code 63 = .ok (.iastore, 1) := by decide +kernel
theorem d11_64 : decode prog_41_method_3_code 64 = .ok (.invokeinterface 35 2, 5) := by decide +kernel
theorem d11_69 : decode prog_41_method_3_code 69 = .ok (.pop, 1) := by decide +kernel
theorem d11_70 : decode prog_41_method_3_code 70 = .ok (.return_, 1) := by decide +kernel
theorem d20_0 : decode prog_41_method_5_code 0 = .ok (.aload_n 0, 1) := by decide +kernel
theorem d20_1 : decode prog_41_method_5_code 1 = .ok (.getfield 13, 3) := by decide +kernel
theorem d20_4 : decode prog_41_method_5_code 4 = .ok (.iload_n 1, 1) := by decide +kernel
theorem d20_5 : decode prog_41_method_5_code 5 = .ok (.aload_n 0, 1) := by decide +kernel
theorem d20_6 : decode prog_41_method_5_code 6 = .ok (.dup, 1) := by decide +kernel
theorem d20_7 : decode prog_41_method_5_code 7 = .ok (.getfield 41, 3) := by decide +kernel
theorem d20_10 : decode prog_41_method_5_code 10 = .ok (.dup2_x1, 1) := by decide +kernel
theorem d20_11 : decode prog_41_method_5_code 11 = .ok (.lconst 1, 1) := by decide +kernel
theorem d20_12 : decode prog_41_method_5_code 12 = .ok (.ladd, 1) := by decide +kernel
theorem d20_13 : decode prog_41_method_5_code 13 = .ok (.putfield 41, 3) := by decide +kernel
theorem d20_16 : decode prog_41_method_5_code 16 = .ok (.lastore, 1) := by decide +kernel
theorem d20_17 : decode prog_41_method_5_code 17 = .ok (.aload_n 0, 1) := by decide +kernel
theorem d20_18 : decode prog_41_method_5_code 18 = .ok (.getfield 22, 3) := by decide +kernel
theorem d20_21 : decode prog_41_method_5_code 21 = .ok (.iload_n 1, 1) := by decide +kernel
theorem d20_22 : decode prog_41_method_5_code 22 = .ok (.invokeinterface 48 2, 5) := by decide +kernel
theorem d20_27 : decode prog_41_method_5_code 27 = .ok (.checkcast 36, 3) := by decide +kernel
theorem d20_30 : decode prog_41_method_5_code 30 = .ok (.astore_n 2, 1) := by decide +kernel
theorem d20_31 : decode prog_41_method_5_code 31 = .ok (.aload_n 2, 1) := by decide +kernel
theorem d20_32 : decode prog_41_method_5_code 32 = .ok (.invokeinterface 52 1, 5) := by decide +kernel
theorem d20_37 : decode prog_41_method_5_code 37 = .ok (.astore_n 3, 1) := by decide +kernel
theorem d20_38 : decode prog_41_method_5_code 38 = .ok (.aload_n 3, 1) := by decide +kernel
theorem d20_39 : decode prog_41_method_5_code 39 = .ok (.invokeinterface 56 1, 5) := by decide +kernel
theorem d20_44 : decode prog_41_method_5_code 44 = .ok (.ifCond .eq 57, 3) := by decide +kernel
theorem d20_101 : decode prog_41_method_5_code 101 = .ok (.aload_n 2, 1) := by decide +kernel
theorem d20_102 : decode prog_41_method_5_code 102 = .ok (.invokeinterface 67 1, 5) := by decide +kernel
theorem d20_107 : decode prog_41_method_5_code 107 = .ok (.return_, 1) := by decide +kernel
theorem d20_47 : decode prog_41_method_5_code 47 = .ok (.aload_n 3, 1) := by decide +kernel
theorem d20_48 : decode prog_41_method_5_code 48 = .ok (.invokeinterface 62 1, 5) := by decide +kernel
theorem d20_53 : decode prog_41_method_5_code 53 = .ok (.checkcast 66, 3) := by decide +kernel
theorem d20_56 : decode prog_41_method_5_code 56 = .ok (.astore 4, 2) := by decide +kernel
theorem d20_58 : decode prog_41_method_5_code 58 = .ok (.aload 4, 2) := by decide +kernel
theorem d20_60 : decode prog_41_method_5_code 60 = .ok (.iconst 0, 1) := by decide +kernel
theorem d20_61 : decode prog_41_method_5_code 61 = .ok (.iaload, 1) := by decide +kernel
theorem d20_62 : decode prog_41_method_5_code 62 = .ok (.istore 5, 2) := by decide +kernel
theorem d20_64 : decode prog_41_method_5_code 64 = .ok (.aload 4, 2) := by decide +kernel
theorem d20_66 : decode prog_41_method_5_code 66 = .ok (.iconst 1, 1) := by decide +kernel
theorem d20_67 : decode prog_41_method_5_code 67 = .ok (.iaload, 1) := by decide +kernel
theorem d20_68 : decode prog_41_method_5_code 68 = .ok (.aload_n 0, 1) := by decide +kernel
theorem d20_69 : decode prog_41_method_5_code 69 = .ok (.getfield 7, 3) := by decide +kernel
theorem d20_72 : decode prog_41_method_5_code 72 = .ok (.iload 5, 2) := by decide +kernel
theorem d20_74 : decode prog_41_method_5_code 74 = .ok (.iaload, 1) := by decide +kernel
theorem d20_75 : decode prog_41_method_5_code 75 = .ok (.if_icmp .ne 23, 3) := by decide +kernel
theorem d20_78 : decode prog_41_method_5_code 78 = .ok (.aload_n 0, 1) := by decide +kernel
theorem d20_79 : decode prog_41_method_5_code 79 = .ok (.getfield 13, 3) := by decide +kernel
theorem d20_82 : decode prog_41_method_5_code 82 = .ok (.iload 5, 2) := by decide +kernel
theorem d20_84 : decode prog_41_method_5_code 84 = .ok (.laload, 1) := by decide +kernel
theorem d20_85 : decode prog_41_method_5_code 85 = .ok (.ldc2_w 26, 3) := by decide +kernel
theorem d20_88 : decode prog_41_method_5_code 88 = .ok (.lcmp, 1) := by decide +kernel
theorem d20_89 : decode prog_41_method_5_code 89 = .ok (.ifCond .ne 9, 3) := by decide +kernel
theorem d20_92 : decode prog_41_method_5_code 92 = .ok (.aload_n 0, 1) := by decide +kernel
theorem d20_93 : decode prog_41_method_5_code 93 = .ok (.iload 5, 2) := by decide +kernel
theorem d20_95 : decode prog_41_method_5_code 95 = .ok (.invokevirtual 45, 3) := by decide +kernel
theorem d20_98 : decode prog_41_method_5_code 98 = .ok (.goto (-60), 3) := by decide +kernel
theorem d19_0 : decode prog_41_method_4_code 0 = .ok (.aload_n 0, 1) := by decide +kernel
theorem d19_1 : decode prog_41_method_4_code 1 = .ok (.getfield 13, 3) := by decide +kernel
theorem d19_4 : decode prog_41_method_4_code 4 = .ok (.iload_n 1, 1) := by decide +kernel
theorem d19_5 : decode prog_41_method_4_code 5 = .ok (.laload, 1) := by decide +kernel
theorem d19_6 : decode prog_41_method_4_code 6 = .ok (.ldc2_w 26, 3) := by decide +kernel
theorem d19_9 : decode prog_41_method_4_code 9 = .ok (.lcmp, 1) := by decide +kernel
theorem d19_10 : decode prog_41_method_4_code 10 = .ok (.ifCond .ne 8, 3) := by decide +kernel
theorem d19_18 : decode prog_41_method_4_code 18 = .ok (.aload_n 0, 1) := by decide +kernel
theorem d19_19 : decode prog_41_method_4_code 19 = .ok (.getfield 13, 3) := by decide +kernel
theorem d19_22 : decode prog_41_method_4_code 22 = .ok (.iload_n 1, 1) := by decide +kernel
theorem d19_23 : decode prog_41_method_4_code 23 = .ok (.laload, 1) := by decide +kernel
theorem d19_24 : decode prog_41_method_4_code 24 = .ok (.lreturn, 1) := by decide +kernel
theorem d19_13 : decode prog_41_method_4_code 13 = .ok (.aload_n 0, 1) := by decide +kernel
theorem d19_14 : decode prog_41_method_4_code 14 = .ok (.iload_n 1, 1) := by decide +kernel
theorem d19_15 : decode prog_41_method_4_code 15 = .ok (.invokevirtual 45, 3) := by decide +kernel
theorem d1_0 : decode prog_41_method_1_code 0 = .ok (.aload_n 0, 1) := by decide +kernel
theorem d1_1 : decode prog_41_method_1_code 1 = .ok (.invokespecial 1, 3) := by decide +kernel
theorem d1_4 : decode prog_41_method_1_code 4 = .ok (.aload_n 0, 1) := by decide +kernel
theorem d1_5 : decode prog_41_method_1_code 5 = .ok (.iload_n 1, 1) := by decide +kernel
theorem d1_6 : decode prog_41_method_1_code 6 = .ok (.newarray .int, 2) := by decide +kernel
theorem d1_8 : decode prog_41_method_1_code 8 = .ok (.putfield 7, 3) := by decide +kernel
theorem d1_11 : decode prog_41_method_1_code 11 = .ok (.aload_n 0, 1) := by decide +kernel
theorem d1_12 : decode prog_41_method_1_code 12 = .ok (.iload_n 1, 1) := by decide +kernel
theorem d1_13 : decode prog_41_method_1_code 13 = .ok (.newarray .long, 2) := by decide +kernel
theorem d1_15 : decode prog_41_method_1_code 15 = .ok (.putfield 13, 3) := by decide +kernel
theorem d1_18 : decode prog_41_method_1_code 18 = .ok (.aload_n 0, 1) := by decide +kernel
theorem d1_19 : decode prog_41_method_1_code 19 = .ok (.new 17, 3) := by decide +kernel
theorem d1_22 : decode prog_41_method_1_code 22 = .ok (.dup, 1) := by decide +kernel
theorem d1_23 : decode prog_41_method_1_code 23 = .ok (.iload_n 1, 1) := by decide +kernel
theorem d1_24 : decode prog_41_method_1_code 24 = .ok (.invokespecial 19, 3) := by decide +kernel
theorem d1_27 : decode prog_41_method_1_code 27 = .ok (.putfield 22, 3) := by decide +kernel
theorem d1_30 : decode prog_41_method_1_code 30 = .ok (.aload_n 0, 1) := by decide +kernel
theorem d1_31 : decode prog_41_method_1_code 31 = .ok (.getfield 13, 3) := by decide +kernel
theorem d1_34 : decode prog_41_method_1_code 34 = .ok (.ldc2_w 26, 3) := by decide +kernel
theorem d1_37 : decode prog_41_method_1_code 37 = .ok (.invokestatic 28, 3) := by decide +kernel
theorem d1_40 : decode prog_41_method_1_code 40 = .ok (.iconst 0, 1) := by decide +kernel
theorem d1_41 : decode prog_41_method_1_code 41 = .ok (.istore_n 3, 1) := by decide +kernel
theorem d1_42 : decode prog_41_method_1_code 42 = .ok (.iload_n 3, 1) := by decide +kernel
theorem d1_43 : decode prog_41_method_1_code 43 = .ok (.iload_n 1, 1) := by decide +kernel
theorem d1_44 : decode prog_41_method_1_code 44 = .ok (.if_icmp .ge 26, 3) := by decide +kernel
theorem d1_47 : decode prog_41_method_1_code 47 = .ok (.aload_n 0, 1) := by decide +kernel
theorem d1_48 : decode prog_41_method_1_code 48 = .ok (.getfield 22, 3) := by decide +kernel
theorem d1_51 : decode prog_41_method_1_code 51 = .ok (.new 17, 3) := by decide +kernel
theorem d1_54 : decode prog_41_method_1_code 54 = .ok (.dup, 1) := by decide +kernel
theorem d1_55 : decode prog_41_method_1_code 55 = .ok (.invokespecial 34, 3) := by decide +kernel
theorem d1_58 : decode prog_41_method_1_code 58 = .ok (.invokeinterface 35 2, 5) := by decide +kernel
theorem d1_63 : decode prog_41_method_1_code 63 = .ok (.pop, 1) := by decide +kernel
theorem d1_64 : decode prog_41_method_1_code 64 = .ok (.iinc 3 1, 3) := by decide +kernel
theorem d1_67 : decode prog_41_method_1_code 67 = .ok (.goto (-25), 3) := by decide +kernel
theorem d1_70 : decode prog_41_method_1_code 70 = .ok (.aload_n 0, 1) := by decide +kernel
theorem d1_71 : decode prog_41_method_1_code 71 = .ok (.getfield 13, 3) := by decide +kernel
theorem d1_74 : decode prog_41_method_1_code 74 = .ok (.iload_n 2, 1) := by decide +kernel
theorem d1_75 : decode prog_41_method_1_code 75 = .ok (.aload_n 0, 1) := by decide +kernel
theorem d1_76 : decode prog_41_method_1_code 76 = .ok (.dup, 1) := by decide +kernel
theorem d1_77 : decode prog_41_method_1_code 77 = .ok (.getfield 41, 3) := by decide +kernel
theorem d1_80 : decode prog_41_method_1_code 80 = .ok (.dup2_x1, 1) := by decide +kernel
theorem d1_81 : decode prog_41_method_1_code 81 = .ok (.lconst 1, 1) := by decide +kernel
theorem d1_82 : decode prog_41_method_1_code 82 = .ok (.ladd, 1) := by decide +kernel
theorem d1_83 : decode prog_41_method_1_code 83 = .ok (.putfield 41, 3) := by decide +kernel
theorem d1_86 : decode prog_41_method_1_code 86 = .ok (.lastore, 1) := by decide +kernel
theorem d1_87 : decode prog_41_method_1_code 87 = .ok (.return_, 1) := by decide +kernel
theorem pn_0 : plainName "java/util/AbstractCollection" = true := by first | (simp [plainName, overriddenIn]; done) | decide +kernel
theorem pn_1 : plainName "java/util/AbstractList" = true := by first | (simp [plainName, overriddenIn]; done) | decide +kernel
theorem pn_2 : plainName "java/util/ArrayList" = true := by first | (simp [plainName, overriddenIn]; done) | decide +kernel
theorem pn_3 : plainName "java/util/Arrays" = true := by first | (simp [plainName, overriddenIn]; done) | decide +kernel
theorem pn_4 : plainName "jdk/internal/util/Preconditions" = true := by first | (simp [plainName, overriddenIn]; done) | decide +kernel
theorem pn_5 : plainName "java/util/Objects" = true := by first | (simp [plainName, overriddenIn]; done) | decide +kernel
theorem pn_6 : plainName "java/util/ArrayList$Itr" = true := by first | (simp [plainName, overriddenIn]; done) | decide +kernel
theorem pn_7 : plainName "com/example/wachter/wachter/sim/QueueOrder" = true := by first | (simp [plainName, overriddenIn]; done) | decide +kernel
theorem pn_8 : plainName "com/example/wachter/wachter/sim/QueueOrderAskedPinLaw" = true := by first | (simp [plainName, overriddenIn]; done) | decide +kernel
theorem pd_0 : parseMethodDescriptor "()V" = some ⟨[], none⟩ := by decide +kernel
theorem pd_1 : parseMethodDescriptor "(II)I" = some ⟨[.int, .int], some .int⟩ := by decide +kernel
theorem pd_2 : parseMethodDescriptor "(I)[Ljava/lang/Object;" = some ⟨[.int], some (.array (.object "java/lang/Object"))⟩ := by decide +kernel
theorem pd_3 : parseMethodDescriptor "(Ljava/lang/Object;[Ljava/lang/Object;I)V" = some ⟨[(.object "java/lang/Object"), (.array (.object "java/lang/Object")), .int], none⟩ := by decide +kernel
theorem pd_4 : parseMethodDescriptor "()[Ljava/lang/Object;" = some ⟨[], some (.array (.object "java/lang/Object"))⟩ := by decide +kernel
theorem pd_5 : parseMethodDescriptor "(IILjava/util/function/BiFunction;)I" = some ⟨[.int, .int, (.object "java/util/function/BiFunction")], some .int⟩ := by decide +kernel
theorem pd_6 : parseMethodDescriptor "(I)Ljava/lang/Object;" = some ⟨[.int], some (.object "java/lang/Object")⟩ := by decide +kernel
theorem pd_7 : parseMethodDescriptor "(Ljava/util/ArrayList;)V" = some ⟨[(.object "java/util/ArrayList")], none⟩ := by decide +kernel
theorem pd_8 : parseMethodDescriptor "(Ljava/lang/Object;)Z" = some ⟨[(.object "java/lang/Object")], some .boolean⟩ := by decide +kernel
theorem pd_9 : parseMethodDescriptor "()Ljava/util/Iterator;" = some ⟨[], some (.object "java/util/Iterator")⟩ := by decide +kernel
theorem pd_10 : parseMethodDescriptor "()Z" = some ⟨[], some .boolean⟩ := by decide +kernel
theorem pd_11 : parseMethodDescriptor "()Ljava/lang/Object;" = some ⟨[], some (.object "java/lang/Object")⟩ := by decide +kernel
theorem pd_12 : parseMethodDescriptor "(I)V" = some ⟨[.int], none⟩ := by decide +kernel
theorem pd_13 : parseMethodDescriptor "([JJ)V" = some ⟨[(.array .long), .long], none⟩ := by decide +kernel
theorem pd_14 : parseMethodDescriptor "(II)V" = some ⟨[.int, .int], none⟩ := by decide +kernel
theorem pd_15 : parseMethodDescriptor "(I)J" = some ⟨[.int], some .long⟩ := by decide +kernel
def QAC (Z : State) (a1 : Addr) (h0 : Heap) (n0 : Nat) (v : Option Value) (h : Heap) (L : List Loc) : Prop := v = none ∧ Fr n0 L ∧ h = h0
theorem ef_AC (m : MethodId) (a1 : Addr) : entryFrame m #[(.ref a1)] 1 = mkF m 0 #[.val (.ref a1)] [] := by first | (simp [entryFrame, mkF, argsToLocals, Value.category]; done) | rfl
set_option maxRecDepth 65536 in
set_option maxHeartbeats 40000000 in
theorem rmAC (l : Launch) (Z : State) (a0 : Array Value) (hw : ∀ d ∈ tables_1, d.before a0 Z = true) (ws : List Jvm.Cond) (a1 : Addr) (h0 : Heap) (n0 : Nat) (Zs : n0 ≤ h0.size)  :
    MetFree l (⟨"java/util/AbstractCollection", "<init>", "()V"⟩ : MethodName) (head1 (Jvm.Cond.code (⟨"java/util/AbstractCollection", "<init>", "()V"⟩ : MethodName) jdk_22_method_1_code 1 none :: ws) ({ frames := 1, cells := 0, slots := 0, locals := 12 } : Room)) (fun a U => a = #[(.ref a1)] ∧ Z.Warmed39 U.vm ∧ U.heap = h0) (fun _ _ _ _ _ => True) (fun _ U o U' => ∃ v L, o = .returned v ∧ QAC Z a1 h0 n0 v U'.heap L ∧ FrameEnd U o U' L ({ frames := 1, cells := 0, slots := 0, locals := 12 } : Room).cells ({ frames := 1, cells := 0, slots := 0, locals := 12 } : Room).slots) := by
  refine MetFree.of_bodySF (plainFor_of_name pn_0) hisR ?_
  intro p e s m args below meth c s₁ Bd hml0 hP hK
  obtain ⟨rfl, hZ, hh⟩ := hP
  have hx := Bd.exec
  have hby := Bd.bytes
  have hml : c.maxLocals = 1 := hml0
  have hown : s.vm.findClass "java/util/AbstractCollection" = some m.cls := findClass_of_methodNamed Bd.named
  have hnm := (name_of_methodNamed Bd.named Bd.method).1
  have X0 : Stand p l e ({ frames := 1, cells := 0, slots := 0, locals := 12 } : Room) s m #[(.ref a1)] below meth c s₁ [] 0 0 := Stand.of_body Bd
  have e0 : s₁.heap = h0 := by rw [← hh, Bd.state]; rfl
  have N0 := Fr.nil n0
  have pre0 : ∀ t, Steps p.tables e below (s₁.setTop (mkF m 0 #[.val (.ref a1)] [])) t → Steps p.tables e below (s₁.setTop (entryFrame m #[(.ref a1)] 1)) t := fun t k => castTop (ef_AC m a1) k
  obtain ⟨T1, X1, e1, st1⟩ := initO X0 hx hZ hown (hw _ (List.mem_of_getElem? (i := 34) rfl)) (hw _ (List.mem_of_getElem? (i := 8) rfl)) (hw _ (List.mem_of_getElem? (i := 9) rfl)) e0 (g := (mkF m 1 #[.val (.ref a1)] [(.ref a1)])) rfl (by rw [hml]; rfl) rfl (hb hby d5_1) (by decide) (W := 0) (by show 2 * 0 + _ ≤ _; exact Nat.le_of_eq rfl) (by decide)
  obtain ⟨fs, hr, hrun, hended, hW, hsame⟩ := X1.leave (v := none) (fun _ => rfl)
  refine ⟨_, _, pre0 _ ?_, hrun, hended, _, _, rfl, ?_, ⟨_, rfl⟩, hW, hsame.mono (by decide) (by decide)⟩
  · show Steps p.tables e below (s₁.setTop (mkF m 0 #[.val (.ref a1)] [])) _
    refine XS.aloadN X0.here hx rfl (hb hby d5_0) rfl rfl ?_
    show Steps p.tables e below (s₁.setTop (mkF m 1 #[.val (.ref a1)] [(.ref a1)])) _
    refine st1 _ ?_
    show Steps p.tables e below (T1.setTop (mkF m 4 #[.val (.ref a1)] [])) _
    exact X1.returnOut hx Bd.returns (hb hby d5_4) hr
  · show QAC Z a1 h0 n0 _ T1.heap _
    rw [e1]
    exact ⟨rfl, N0, rfl⟩
def QABL (Z : State) (a1 : Addr) (u2 : Int32) (u3 : Int32) (h0 : Heap) (n0 : Nat) (v : Option Value) (h : Heap) (L : List Loc) : Prop := v = none ∧ Fr n0 L ∧ (Keep h0 h [a1]) ∧ (Fld Z h a1 "java/util/ArrayList" "elementData" "[Ljava/lang/Object;" .null) ∧ (Fld Z h a1 "java/util/ArrayList" "size" "I" (.int u2)) ∧ (Fld Z h a1 "java/util/AbstractList" "modCount" "I" (.int (0 : Int32)))
theorem ef_ABL (m : MethodId) (a1 : Addr) : entryFrame m #[(.ref a1)] 1 = mkF m 0 #[.val (.ref a1)] [] := by first | (simp [entryFrame, mkF, argsToLocals, Value.category]; done) | rfl
set_option maxRecDepth 65536 in
set_option maxHeartbeats 40000000 in
theorem rmABL (l : Launch) (Z : State) (a0 : Array Value) (hw : ∀ d ∈ tables_1, d.before a0 Z = true) (ws : List Jvm.Cond) (a1 : Addr) (u2 : Int32) (u3 : Int32) (h0 : Heap) (n0 : Nat) (Zs : n0 ≤ h0.size) (E_a1 : Exa Z h0 a1 "java/util/ArrayList") (F_elementData_a1 : Fld Z h0 a1 "java/util/ArrayList" "elementData" "[Ljava/lang/Object;" .null) (F_size_a1 : Fld Z h0 a1 "java/util/ArrayList" "size" "I" (.int u2)) (F_modCount_a1 : Fld Z h0 a1 "java/util/AbstractList" "modCount" "I" (.int u3)) (g_a1 : n0 ≤ a1) :
    MetFree l (⟨"java/util/AbstractList", "<init>", "()V"⟩ : MethodName) (head1 (Jvm.Cond.code (⟨"java/util/AbstractList", "<init>", "()V"⟩ : MethodName) jdk_39_method_1_code 1 none :: ws) ({ frames := 2, cells := 0, slots := 0, locals := 24 } : Room)) (fun a U => a = #[(.ref a1)] ∧ Z.Warmed39 U.vm ∧ U.heap = h0) (fun _ _ _ _ _ => True) (fun _ U o U' => ∃ v L, o = .returned v ∧ QABL Z a1 u2 u3 h0 n0 v U'.heap L ∧ FrameEnd U o U' L ({ frames := 2, cells := 0, slots := 0, locals := 24 } : Room).cells ({ frames := 2, cells := 0, slots := 0, locals := 24 } : Room).slots) := by
  refine MetFree.of_bodySF (plainFor_of_name pn_1) hisR ?_
  intro p e s m args below meth c s₁ Bd hml0 hP hK
  obtain ⟨rfl, hZ, hh⟩ := hP
  have hx := Bd.exec
  have hby := Bd.bytes
  have hml : c.maxLocals = 1 := hml0
  have hown : s.vm.findClass "java/util/AbstractList" = some m.cls := findClass_of_methodNamed Bd.named
  have hnm := (name_of_methodNamed Bd.named Bd.method).1
  have X0 : Stand p l e ({ frames := 2, cells := 0, slots := 0, locals := 24 } : Room) s m #[(.ref a1)] below meth c s₁ [] 0 0 := Stand.of_body Bd
  have e0 : s₁.heap = h0 := by rw [← hh, Bd.state]; rfl
  have N0 := Fr.nil n0
  have pre0 : ∀ t, Steps p.tables e below (s₁.setTop (mkF m 0 #[.val (.ref a1)] [])) t → Steps p.tables e below (s₁.setTop (entryFrame m #[(.ref a1)] 1)) t := fun t k => castTop (ef_ABL m a1) k
  have Kp : Keep h0 h0 [a1] := Keep.refl h0 [a1]
  obtain ⟨_, _, ⟨T2, L2, k2, n2⟩, -, X2, ⟨Lc2, hQ2, l2, y2, z2⟩, st2⟩ := X0.specialBack hx (y := (⟨"java/util/AbstractCollection", "<init>", "()V"⟩ : MethodName)) rfl hown (mvT hZ (hw _ (List.mem_of_getElem? (i := 28) rfl))) (mvT hZ (hw _ (List.mem_of_getElem? (i := 29) rfl))) (mvT hZ (hw _ (List.mem_of_getElem? (i := 33) rfl))) (by decide) (backOf (W := 0) (rmAC l Z a0 hw [] a1 h0 n0 Zs ) hZ (hw _ (List.mem_of_getElem? (i := 33) rfl)) (hw _ (List.mem_of_getElem? (i := 32) rfl)) (by decide) (by decide)) (g := (mkF m 1 #[.val (.ref a1)] [(.ref a1)])) rfl (by rw [hml]; rfl) (Steps.refl _) (a := a1) (argsL := []) (rest := []) (lenOf pd_0 rfl) rfl (by show 2 * 0 + _ ≤ _; exact Nat.le_of_eq rfl) (hb hby d4_1) (fun _ _ => ⟨rfl, e0, (by decide : 0 + 0 ≤ _), (by decide : 0 + 0 ≤ _)⟩)
  dsimp only [Pt.U, Pt.locs, Pt.cells, Pt.slots] at X2 l2 y2 z2 st2 hQ2
  subst l2 y2 z2
  obtain ⟨rfl, N2q, e2⟩ := hQ2
  have N2 := Fr.app N0 N2q
  obtain ⟨T3, h3, X3, e3, W3, st3⟩ := putF X2 hx hZ hown (host := "") (Or.inl (hw _ (List.mem_of_getElem? (i := 35) rfl))) Via.refl e2 F_modCount_a1 E_a1 (Or.inl (hw _ (List.mem_of_getElem? (i := 36) rfl))) (hw _ (List.mem_of_getElem? (i := 17) rfl)) (ty := .int) (by decide) rfl rfl (g := (mkF m 6 #[.val (.ref a1)] [(.int (0 : Int32)), (.ref a1)])) rfl rfl (hb hby d4_6)
  have N3 := Fr.snoc X3 N2 g_a1
  have Zs : n0 ≤ h3.size := Nat.le_trans Zs (Keep.of_wr W3).1
  have E_a1 : Exa Z h3 a1 "java/util/ArrayList" := E_a1.wr W3
  have F_elementData_a1 : Fld Z h3 a1 "java/util/ArrayList" "elementData" "[Ljava/lang/Object;" .null := F_elementData_a1.other W3 (Or.inr (slot_ne (Or.inl (hw _ (List.mem_of_getElem? (i := 40) rfl))) (Or.inl (hw _ (List.mem_of_getElem? (i := 36) rfl))) (by decide) (t := (.array (.object "java/lang/Object"))) (t' := .int) (by decide) (by decide)))
  have F_size_a1 : Fld Z h3 a1 "java/util/ArrayList" "size" "I" (.int u2) := F_size_a1.other W3 (Or.inr (slot_ne (Or.inl (hw _ (List.mem_of_getElem? (i := 64) rfl))) (Or.inl (hw _ (List.mem_of_getElem? (i := 36) rfl))) (by decide) (t := .int) (t' := .int) (by decide) (by decide)))
  have F_modCount_a1 : Fld Z h3 a1 "java/util/AbstractList" "modCount" "I" (.int (0 : Int32)) := F_modCount_a1.same W3
  have Kp : Keep h0 h3 [a1] := Kp.wr W3 (Or.inl (List.mem_of_getElem? (i := 0) rfl))
  obtain ⟨fs, hr, hrun, hended, hW, hsame⟩ := X3.leave (v := none) (fun _ => rfl)
  refine ⟨_, _, pre0 _ ?_, hrun, hended, _, _, rfl, ?_, ⟨_, rfl⟩, hW, hsame.mono (by decide) (by decide)⟩
  · show Steps p.tables e below (s₁.setTop (mkF m 0 #[.val (.ref a1)] [])) _
    refine XS.aloadN X0.here hx rfl (hb hby d4_0) rfl rfl ?_
    show Steps p.tables e below (s₁.setTop (mkF m 1 #[.val (.ref a1)] [(.ref a1)])) _
    refine st2.trans ?_
    show Steps p.tables e below (T2.setTop (mkF m 4 #[.val (.ref a1)] [])) _
    refine XS.aloadN X2.here hx rfl (hb hby d4_4) rfl rfl ?_
    show Steps p.tables e below (T2.setTop (mkF m 5 #[.val (.ref a1)] [(.ref a1)])) _
    refine XS.iconst X2.here hx rfl (hb hby d4_5) ?_
    show Steps p.tables e below (T2.setTop (mkF m 6 #[.val (.ref a1)] [(.int (0 : Int32)), (.ref a1)])) _
    refine st3 _ ?_
    show Steps p.tables e below (T3.setTop (mkF m 9 #[.val (.ref a1)] [])) _
    exact X3.returnOut hx Bd.returns (hb hby d4_9) hr
  · show QABL Z a1 u2 u3 h0 n0 _ T3.heap _
    rw [e3]
    exact ⟨rfl, N3, Kp, F_elementData_a1, F_size_a1, F_modCount_a1⟩
def QALI (Z : State) (a1 : Addr) (u2 : Int32) (u3 : Int32) (h0 : Heap) (n0 : Nat) (v : Option Value) (h : Heap) (L : List Loc) : Prop := ∃ b : Addr, ∃ kb : ClassId, v = none ∧ Fr n0 L ∧ (Keep h0 h [a1]) ∧ (h0.size ≤ b) ∧ (n0 ≤ b) ∧ (Fld Z h a1 "java/util/ArrayList" "elementData" "[Ljava/lang/Object;" (.ref b)) ∧ (Fld Z h a1 "java/util/ArrayList" "size" "I" (.int u2)) ∧ (Fld Z h a1 "java/util/AbstractList" "modCount" "I" (.int (0 : Int32))) ∧ (ArR Z h b kb "java/lang/Object" (4 : Int32) (fun _ => .null))
theorem ef_ALI (m : MethodId) (a1 : Addr) : entryFrame m #[(.ref a1), (.int (4 : Int32))] 2 = mkF m 0 #[.val (.ref a1), .val (.int (4 : Int32))] [] := by first | (simp [entryFrame, mkF, argsToLocals, Value.category]; done) | rfl
set_option maxRecDepth 65536 in
set_option maxHeartbeats 40000000 in
theorem rmALI (l : Launch) (Z : State) (a0 : Array Value) (hw : ∀ d ∈ tables_1, d.before a0 Z = true) (ws : List Jvm.Cond) (a1 : Addr) (u2 : Int32) (u3 : Int32) (h0 : Heap) (n0 : Nat) (Zs : n0 ≤ h0.size) (E_a1 : Exa Z h0 a1 "java/util/ArrayList") (F_elementData_a1 : Fld Z h0 a1 "java/util/ArrayList" "elementData" "[Ljava/lang/Object;" .null) (F_size_a1 : Fld Z h0 a1 "java/util/ArrayList" "size" "I" (.int u2)) (F_modCount_a1 : Fld Z h0 a1 "java/util/AbstractList" "modCount" "I" (.int u3)) (g_a1 : n0 ≤ a1) :
    MetFree l (⟨"java/util/ArrayList", "<init>", "(I)V"⟩ : MethodName) (head1 (Jvm.Cond.code (⟨"java/util/ArrayList", "<init>", "(I)V"⟩ : MethodName) jdk_38_method_1_code 2 none :: ws) ({ frames := 3, cells := 1, slots := 4, locals := 36 } : Room)) (fun a U => a = #[(.ref a1), (.int (4 : Int32))] ∧ Z.Warmed39 U.vm ∧ U.heap = h0) (fun _ _ _ _ _ => True) (fun _ U o U' => ∃ v L, o = .returned v ∧ QALI Z a1 u2 u3 h0 n0 v U'.heap L ∧ FrameEnd U o U' L ({ frames := 3, cells := 1, slots := 4, locals := 36 } : Room).cells ({ frames := 3, cells := 1, slots := 4, locals := 36 } : Room).slots) := by
  refine MetFree.of_bodySF (plainFor_of_name pn_2) hisR ?_
  intro p e s m args below meth c s₁ Bd hml0 hP hK
  obtain ⟨rfl, hZ, hh⟩ := hP
  have hx := Bd.exec
  have hby := Bd.bytes
  have hml : c.maxLocals = 2 := hml0
  have hown : s.vm.findClass "java/util/ArrayList" = some m.cls := findClass_of_methodNamed Bd.named
  have hnm := (name_of_methodNamed Bd.named Bd.method).1
  have X0 : Stand p l e ({ frames := 3, cells := 1, slots := 4, locals := 36 } : Room) s m #[(.ref a1), (.int (4 : Int32))] below meth c s₁ [] 0 0 := Stand.of_body Bd
  have e0 : s₁.heap = h0 := by rw [← hh, Bd.state]; rfl
  have N0 := Fr.nil n0
  have pre0 : ∀ t, Steps p.tables e below (s₁.setTop (mkF m 0 #[.val (.ref a1), .val (.int (4 : Int32))] [])) t → Steps p.tables e below (s₁.setTop (entryFrame m #[(.ref a1), (.int (4 : Int32))] 2)) t := fun t k => castTop (ef_ALI m a1) k
  have Kp : Keep h0 h0 [a1] := Keep.refl h0 [a1]
  obtain ⟨_, _, ⟨T4, L4, k4, n4⟩, -, X4, ⟨Lc4, hQ4, l4, y4, z4⟩, st4⟩ := X0.specialBack hx (y := (⟨"java/util/AbstractList", "<init>", "()V"⟩ : MethodName)) rfl hown (mvT hZ (hw _ (List.mem_of_getElem? (i := 22) rfl))) (mvT hZ (hw _ (List.mem_of_getElem? (i := 23) rfl))) (mvT hZ (hw _ (List.mem_of_getElem? (i := 27) rfl))) (by decide) (backOf (W := 0) (rmABL l Z a0 hw [] a1 u2 u3 h0 n0 Zs E_a1 F_elementData_a1 F_size_a1 F_modCount_a1 g_a1) hZ (hw _ (List.mem_of_getElem? (i := 27) rfl)) (hw _ (List.mem_of_getElem? (i := 26) rfl)) (by decide) (by decide)) (g := (mkF m 1 #[.val (.ref a1), .val (.int (4 : Int32))] [(.ref a1)])) rfl (by rw [hml]; rfl) (Steps.refl _) (a := a1) (argsL := []) (rest := []) (lenOf pd_0 rfl) rfl (by show 2 * 0 + _ ≤ _; exact Nat.le_of_eq rfl) (hb hby d3_1) (fun _ _ => ⟨rfl, e0, (by decide : 0 + 0 ≤ _), (by decide : 0 + 0 ≤ _)⟩)
  dsimp only [Pt.U, Pt.locs, Pt.cells, Pt.slots] at X4 l4 y4 z4 st4 hQ4
  subst l4 y4 z4
  obtain ⟨rfl, N4q, K4, P4_1, P4_2, P4_3⟩ := hQ4
  have Zs : n0 ≤ T4.heap.size := Nat.le_trans Zs K4.1
  have E_a1 : Exa Z T4.heap a1 "java/util/ArrayList" := E_a1.keep K4
  have Kp : Keep h0 T4.heap [a1] := Kp.trans K4 (allS (Or.inl (List.mem_of_getElem? (i := 0) rfl)) all0)
  have F_elementData_a1 : Fld Z T4.heap a1 "java/util/ArrayList" "elementData" "[Ljava/lang/Object;" .null := P4_1
  have F_size_a1 : Fld Z T4.heap a1 "java/util/ArrayList" "size" "I" (.int u2) := P4_2
  have F_modCount_a1 : Fld Z T4.heap a1 "java/util/AbstractList" "modCount" "I" (.int (0 : Int32)) := P4_3
  have N4 := Fr.app N0 N4q
  obtain ⟨T5, h5, k5, X5, e5, E5, A5, B5, O5, st5⟩ := newRE X4 hx hZ hown (hw _ (List.mem_of_getElem? (i := 37) rfl)) (hw _ (List.mem_of_getElem? (i := 38) rfl)) rfl (g := (mkF m 10 #[.val (.ref a1), .val (.int (4 : Int32))] [(.int (4 : Int32)), (.ref a1)])) rfl (hb hby d3_10) rfl (by decide) (cap := 4) (by decide) (by decide) (by decide) (by decide) (ad := "[Ljava/lang/Object;") (by decide)
  obtain ⟨b5, g5⟩ : ∃ z, z = T4.heap.size := ⟨_, rfl⟩
  rw [← g5] at A5 B5 st5
  have g_b5 : n0 ≤ b5 := Nat.le_trans Zs (Nat.le_of_eq g5.symm)
  have sz_b5 : h0.size ≤ b5 := Nat.le_trans Kp.1 (Nat.le_of_eq g5.symm)
  have ne_a1_b5 : a1 ≠ b5 := Nat.ne_of_lt (Nat.lt_of_lt_of_le E_a1.lt (Nat.le_of_eq g5.symm))
  have Zs : n0 ≤ h5.size := Nat.le_trans Zs E5.1
  have E_a1 : Exa Z h5 a1 "java/util/ArrayList" := E_a1.ext E5
  have Kp : Keep h0 h5 [a1] := Kp.ext E5
  have F_elementData_a1 : Fld Z h5 a1 "java/util/ArrayList" "elementData" "[Ljava/lang/Object;" .null := F_elementData_a1.ext E5
  have F_size_a1 : Fld Z h5 a1 "java/util/ArrayList" "size" "I" (.int u2) := F_size_a1.ext E5
  have F_modCount_a1 : Fld Z h5 a1 "java/util/AbstractList" "modCount" "I" (.int (0 : Int32)) := F_modCount_a1.ext E5
  have A_b5 : ArR Z h5 b5 k5 "java/lang/Object" (4 : Int32) (fun _ => .null) := ArR.new A5 O5 (by decide)
  have E_b5 : Exa Z h5 b5 "[Ljava/lang/Object;" := B5
  obtain ⟨T6, h6, X6, e6, W6, st6⟩ := putF X5 hx hZ hown (host := "") (Or.inl (hw _ (List.mem_of_getElem? (i := 39) rfl))) Via.refl e5 F_elementData_a1 E_a1 (Or.inl (hw _ (List.mem_of_getElem? (i := 40) rfl))) (hw _ (List.mem_of_getElem? (i := 17) rfl)) (ty := (.array (.object "java/lang/Object"))) (by decide) rfl rfl (g := (mkF m 13 #[.val (.ref a1), .val (.int (4 : Int32))] [(.ref b5), (.ref a1)])) rfl rfl (hb hby d3_13)
  have N6 := Fr.snoc X6 N4 g_a1
  have Zs : n0 ≤ h6.size := Nat.le_trans Zs (Keep.of_wr W6).1
  have E_a1 : Exa Z h6 a1 "java/util/ArrayList" := E_a1.wr W6
  have Kp : Keep h0 h6 [a1] := Kp.wr W6 (Or.inl (List.mem_of_getElem? (i := 0) rfl))
  have F_elementData_a1 : Fld Z h6 a1 "java/util/ArrayList" "elementData" "[Ljava/lang/Object;" (.ref b5) := F_elementData_a1.same W6
  have F_size_a1 : Fld Z h6 a1 "java/util/ArrayList" "size" "I" (.int u2) := F_size_a1.other W6 (Or.inr (slot_ne (Or.inl (hw _ (List.mem_of_getElem? (i := 64) rfl))) (Or.inl (hw _ (List.mem_of_getElem? (i := 40) rfl))) (by decide) (t := .int) (t' := (.array (.object "java/lang/Object"))) (by decide) (by decide)))
  have F_modCount_a1 : Fld Z h6 a1 "java/util/AbstractList" "modCount" "I" (.int (0 : Int32)) := F_modCount_a1.other W6 (Or.inr (slot_ne (Or.inl (hw _ (List.mem_of_getElem? (i := 36) rfl))) (Or.inl (hw _ (List.mem_of_getElem? (i := 40) rfl))) (by decide) (t := .int) (t' := (.array (.object "java/lang/Object"))) (by decide) (by decide)))
  have A_b5 : ArR Z h6 b5 k5 "java/lang/Object" (4 : Int32) (fun _ => .null) := A_b5.other W6 (Ne.symm ne_a1_b5)
  have E_b5 : Exa Z h6 b5 "[Ljava/lang/Object;" := E_b5.wr W6
  obtain ⟨fs, hr, hrun, hended, hW, hsame⟩ := X6.leave (v := none) (fun _ => rfl)
  refine ⟨_, _, pre0 _ ?_, hrun, hended, _, _, rfl, ?_, ⟨_, rfl⟩, hW, hsame.mono (by decide) (by decide)⟩
  · show Steps p.tables e below (s₁.setTop (mkF m 0 #[.val (.ref a1), .val (.int (4 : Int32))] [])) _
    refine XS.aloadN X0.here hx rfl (hb hby d3_0) rfl rfl ?_
    show Steps p.tables e below (s₁.setTop (mkF m 1 #[.val (.ref a1), .val (.int (4 : Int32))] [(.ref a1)])) _
    refine st4.trans ?_
    show Steps p.tables e below (T4.setTop (mkF m 4 #[.val (.ref a1), .val (.int (4 : Int32))] [])) _
    refine XS.iloadN X4.here hx rfl (hb hby d3_4) rfl ?_
    show Steps p.tables e below (T4.setTop (mkF m 5 #[.val (.ref a1), .val (.int (4 : Int32))] [(.int (4 : Int32))])) _
    refine XS.ifNo X4.here hx rfl (hb hby d3_5) rfl ((if0 _ _).trans (tlt (by decide)).2.2.2) ?_
    show Steps p.tables e below (T4.setTop (mkF m 8 #[.val (.ref a1), .val (.int (4 : Int32))] [])) _
    refine XS.aloadN X4.here hx rfl (hb hby d3_8) rfl rfl ?_
    show Steps p.tables e below (T4.setTop (mkF m 9 #[.val (.ref a1), .val (.int (4 : Int32))] [(.ref a1)])) _
    refine XS.iloadN X4.here hx rfl (hb hby d3_9) rfl ?_
    show Steps p.tables e below (T4.setTop (mkF m 10 #[.val (.ref a1), .val (.int (4 : Int32))] [(.int (4 : Int32)), (.ref a1)])) _
    refine st5 _ ?_
    show Steps p.tables e below (T5.setTop (mkF m 13 #[.val (.ref a1), .val (.int (4 : Int32))] [(.ref b5), (.ref a1)])) _
    refine st6 _ ?_
    show Steps p.tables e below (T6.setTop (mkF m 16 #[.val (.ref a1), .val (.int (4 : Int32))] [])) _
    refine XS.goto X6.here hx rfl (pc0 := 16) (pc' := 60) rfl (hb hby d3_16) (by decide) (by decide) ?_
    show Steps p.tables e below (T6.setTop (mkF m 60 #[.val (.ref a1), .val (.int (4 : Int32))] [])) _
    exact X6.returnOut hx Bd.returns (hb hby d3_60) hr
  · show QALI Z a1 u2 u3 h0 n0 _ T6.heap _
    rw [e6]
    exact ⟨b5, k5, rfl, N6, Kp, sz_b5, g_b5, F_elementData_a1, F_size_a1, F_modCount_a1, A_b5⟩
def QFILL (Z : State) (a1 : Addr) (q2 : Int64) (f : Nat → Int64) (h0 : Heap) (n0 : Nat) (v : Option Value) (h : Heap) (L : List Loc) : Prop := v = none ∧ Fr n0 L ∧ (Keep h0 h [a1]) ∧ (ArJ Z h a1 (4 : Int32) (upd (upd (upd (upd f (0 : Int32).toNatClampNeg q2) (1 : Int32).toNatClampNeg q2) (2 : Int32).toNatClampNeg q2) (3 : Int32).toNatClampNeg q2))
theorem ef_FILL (m : MethodId) (a1 : Addr) (q2 : Int64) : entryFrame m #[(.ref a1), (.long q2)] 5 = mkF m 0 #[.val (.ref a1), .val (.long q2), .second, .unset, .unset] [] := by first | (simp [entryFrame, mkF, argsToLocals, Value.category]; done) | rfl
set_option maxRecDepth 65536 in
set_option maxHeartbeats 40000000 in
theorem rmFILL (l : Launch) (Z : State) (a0 : Array Value) (hw : ∀ d ∈ tables_1, d.before a0 Z = true) (ws : List Jvm.Cond) (a1 : Addr) (q2 : Int64) (f : Nat → Int64) (h0 : Heap) (n0 : Nat) (Zs : n0 ≤ h0.size) (A_a1 : ArJ Z h0 a1 (4 : Int32) f) (g_a1 : n0 ≤ a1) :
    MetFree l (⟨"java/util/Arrays", "fill", "([JJ)V"⟩ : MethodName) (head1 (Jvm.Cond.code (⟨"java/util/Arrays", "fill", "([JJ)V"⟩ : MethodName) jdk_65_method_101_code 5 none :: ws) ({ frames := 0, cells := 0, slots := 0, locals := 0 } : Room)) (fun a U => a = #[(.ref a1), (.long q2)] ∧ Z.Warmed39 U.vm ∧ U.heap = h0) (fun _ _ _ _ _ => True) (fun _ U o U' => ∃ v L, o = .returned v ∧ QFILL Z a1 q2 f h0 n0 v U'.heap L ∧ FrameEnd U o U' L ({ frames := 0, cells := 0, slots := 0, locals := 0 } : Room).cells ({ frames := 0, cells := 0, slots := 0, locals := 0 } : Room).slots) := by
  refine MetFree.of_bodySF (plainFor_of_name pn_3) hisR ?_
  intro p e s m args below meth c s₁ Bd hml0 hP hK
  obtain ⟨rfl, hZ, hh⟩ := hP
  have hx := Bd.exec
  have hby := Bd.bytes
  have hml : c.maxLocals = 5 := hml0
  have hown : s.vm.findClass "java/util/Arrays" = some m.cls := findClass_of_methodNamed Bd.named
  have hnm := (name_of_methodNamed Bd.named Bd.method).1
  have X0 : Stand p l e ({ frames := 0, cells := 0, slots := 0, locals := 0 } : Room) s m #[(.ref a1), (.long q2)] below meth c s₁ [] 0 0 := Stand.of_body Bd
  have e0 : s₁.heap = h0 := by rw [← hh, Bd.state]; rfl
  have N0 := Fr.nil n0
  have pre0 : ∀ t, Steps p.tables e below (s₁.setTop (mkF m 0 #[.val (.ref a1), .val (.long q2), .second, .unset, .unset] [])) t → Steps p.tables e below (s₁.setTop (entryFrame m #[(.ref a1), (.long q2)] 5)) t := fun t k => castTop (ef_FILL m a1 q2) k
  have Kp : Keep h0 h0 [a1] := Keep.refl h0 [a1]
  obtain ⟨cl7, Ar7, hl7⟩ := ArJ.len A_a1 (by decide)
  obtain ⟨cl8, Ar8, hs8, hin8, hat8⟩ := ArJ.open (j := (0 : Int32)) A_a1 (by decide)
  obtain ⟨T9, h9, X9, e9, W9, st9⟩ := stJ X0 hx hZ e0 Ar8 (j := (0 : Int32)) hin8 (g := (mkF m 15 #[.val (.ref a1), .val (.long q2), .second, .val (.int (0 : Int32)), .val (.int (4 : Int32))] [(.long q2), (.int (0 : Int32)), (.ref a1)])) rfl rfl (hb hby d6_15)
  have N9 := Fr.snoc X9 N0 g_a1
  have Zs : n0 ≤ h9.size := Nat.le_trans Zs (Keep.of_wr W9).1
  have Kp : Keep h0 h9 [a1] := Kp.wr W9 (Or.inl (List.mem_of_getElem? (i := 0) rfl))
  have A_a1 : ArJ Z h9 a1 (4 : Int32) (upd f (0 : Int32).toNatClampNeg q2) := ArJ.set A_a1 W9
  obtain ⟨cl10, Ar10, hs10, hin10, hat10⟩ := ArJ.open (j := (1 : Int32)) A_a1 (by decide)
  obtain ⟨T11, h11, X11, e11, W11, st11⟩ := stJ X9 hx hZ e9 Ar10 (j := (1 : Int32)) hin10 (g := (mkF m 15 #[.val (.ref a1), .val (.long q2), .second, .val (.int (1 : Int32)), .val (.int (4 : Int32))] [(.long q2), (.int (1 : Int32)), (.ref a1)])) rfl rfl (hb hby d6_15)
  have N11 := Fr.snoc X11 N9 g_a1
  have Zs : n0 ≤ h11.size := Nat.le_trans Zs (Keep.of_wr W11).1
  have Kp : Keep h0 h11 [a1] := Kp.wr W11 (Or.inl (List.mem_of_getElem? (i := 0) rfl))
  have A_a1 : ArJ Z h11 a1 (4 : Int32) (upd (upd f (0 : Int32).toNatClampNeg q2) (1 : Int32).toNatClampNeg q2) := ArJ.set A_a1 W11
  obtain ⟨cl12, Ar12, hs12, hin12, hat12⟩ := ArJ.open (j := (2 : Int32)) A_a1 (by decide)
  obtain ⟨T13, h13, X13, e13, W13, st13⟩ := stJ X11 hx hZ e11 Ar12 (j := (2 : Int32)) hin12 (g := (mkF m 15 #[.val (.ref a1), .val (.long q2), .second, .val (.int (2 : Int32)), .val (.int (4 : Int32))] [(.long q2), (.int (2 : Int32)), (.ref a1)])) rfl rfl (hb hby d6_15)
  have N13 := Fr.snoc X13 N11 g_a1
  have Zs : n0 ≤ h13.size := Nat.le_trans Zs (Keep.of_wr W13).1
  have Kp : Keep h0 h13 [a1] := Kp.wr W13 (Or.inl (List.mem_of_getElem? (i := 0) rfl))
  have A_a1 : ArJ Z h13 a1 (4 : Int32) (upd (upd (upd f (0 : Int32).toNatClampNeg q2) (1 : Int32).toNatClampNeg q2) (2 : Int32).toNatClampNeg q2) := ArJ.set A_a1 W13
  obtain ⟨cl14, Ar14, hs14, hin14, hat14⟩ := ArJ.open (j := (3 : Int32)) A_a1 (by decide)
  obtain ⟨T15, h15, X15, e15, W15, st15⟩ := stJ X13 hx hZ e13 Ar14 (j := (3 : Int32)) hin14 (g := (mkF m 15 #[.val (.ref a1), .val (.long q2), .second, .val (.int (3 : Int32)), .val (.int (4 : Int32))] [(.long q2), (.int (3 : Int32)), (.ref a1)])) rfl rfl (hb hby d6_15)
  have N15 := Fr.snoc X15 N13 g_a1
  have Zs : n0 ≤ h15.size := Nat.le_trans Zs (Keep.of_wr W15).1
  have Kp : Keep h0 h15 [a1] := Kp.wr W15 (Or.inl (List.mem_of_getElem? (i := 0) rfl))
  have A_a1 : ArJ Z h15 a1 (4 : Int32) (upd (upd (upd (upd f (0 : Int32).toNatClampNeg q2) (1 : Int32).toNatClampNeg q2) (2 : Int32).toNatClampNeg q2) (3 : Int32).toNatClampNeg q2) := ArJ.set A_a1 W15
  obtain ⟨fs, hr, hrun, hended, hW, hsame⟩ := X15.leave (v := none) (fun _ => rfl)
  refine ⟨_, _, pre0 _ ?_, hrun, hended, _, _, rfl, ?_, ⟨_, rfl⟩, hW, hsame.mono (by decide) (by decide)⟩
  · show Steps p.tables e below (s₁.setTop (mkF m 0 #[.val (.ref a1), .val (.long q2), .second, .unset, .unset] [])) _
    refine XS.iconst X0.here hx rfl (hb hby d6_0) ?_
    show Steps p.tables e below (s₁.setTop (mkF m 1 #[.val (.ref a1), .val (.long q2), .second, .unset, .unset] [(.int (0 : Int32))])) _
    refine XS.istoreN X0.here hx rfl (hb hby d6_1) rfl (l' := #[.val (.ref a1), .val (.long q2), .second, .val (.int (0 : Int32)), .unset]) rfl ?_
    show Steps p.tables e below (s₁.setTop (mkF m 2 #[.val (.ref a1), .val (.long q2), .second, .val (.int (0 : Int32)), .unset] [])) _
    refine XS.aloadN X0.here hx rfl (hb hby d6_2) rfl rfl ?_
    show Steps p.tables e below (s₁.setTop (mkF m 3 #[.val (.ref a1), .val (.long q2), .second, .val (.int (0 : Int32)), .unset] [(.ref a1)])) _
    refine X0.arraylength hx (by rw [e0]; exact Ar7.1) (State.isArrayOf_alike hZ.alike Ar7.2.1) (g := (mkF m 3 #[.val (.ref a1), .val (.long q2), .second, .val (.int (0 : Int32)), .unset] [(.ref a1)])) rfl rfl (hb hby d6_3) _ ?_
    rw [hl7]
    show Steps p.tables e below (s₁.setTop (mkF m 4 #[.val (.ref a1), .val (.long q2), .second, .val (.int (0 : Int32)), .unset] [(.int (4 : Int32))])) _
    refine XS.istore X0.here hx rfl (hb hby d6_4) rfl (l' := #[.val (.ref a1), .val (.long q2), .second, .val (.int (0 : Int32)), .val (.int (4 : Int32))]) rfl ?_
    show Steps p.tables e below (s₁.setTop (mkF m 6 #[.val (.ref a1), .val (.long q2), .second, .val (.int (0 : Int32)), .val (.int (4 : Int32))] [])) _
    refine XS.iloadN X0.here hx rfl (hb hby d6_6) rfl ?_
    show Steps p.tables e below (s₁.setTop (mkF m 7 #[.val (.ref a1), .val (.long q2), .second, .val (.int (0 : Int32)), .val (.int (4 : Int32))] [(.int (0 : Int32))])) _
    refine XS.iload X0.here hx rfl (hb hby d6_7) rfl ?_
    show Steps p.tables e below (s₁.setTop (mkF m 9 #[.val (.ref a1), .val (.long q2), .second, .val (.int (0 : Int32)), .val (.int (4 : Int32))] [(.int (4 : Int32)), (.int (0 : Int32))])) _
    refine XS.icmpNo X0.here hx rfl (hb hby d6_9) rfl (tlt (by decide)).2.1 ?_
    show Steps p.tables e below (s₁.setTop (mkF m 12 #[.val (.ref a1), .val (.long q2), .second, .val (.int (0 : Int32)), .val (.int (4 : Int32))] [])) _
    refine XS.aloadN X0.here hx rfl (hb hby d6_12) rfl rfl ?_
    show Steps p.tables e below (s₁.setTop (mkF m 13 #[.val (.ref a1), .val (.long q2), .second, .val (.int (0 : Int32)), .val (.int (4 : Int32))] [(.ref a1)])) _
    refine XS.iloadN X0.here hx rfl (hb hby d6_13) rfl ?_
    show Steps p.tables e below (s₁.setTop (mkF m 14 #[.val (.ref a1), .val (.long q2), .second, .val (.int (0 : Int32)), .val (.int (4 : Int32))] [(.int (0 : Int32)), (.ref a1)])) _
    refine XS.lloadN X0.here hx rfl (hb hby d6_14) rfl ?_
    show Steps p.tables e below (s₁.setTop (mkF m 15 #[.val (.ref a1), .val (.long q2), .second, .val (.int (0 : Int32)), .val (.int (4 : Int32))] [(.long q2), (.int (0 : Int32)), (.ref a1)])) _
    refine st9 _ ?_
    show Steps p.tables e below (T9.setTop (mkF m 16 #[.val (.ref a1), .val (.long q2), .second, .val (.int (0 : Int32)), .val (.int (4 : Int32))] [])) _
    refine XS.iinc X9.here hx rfl (hb hby d6_16) rfl (l' := #[.val (.ref a1), .val (.long q2), .second, .val (.int (1 : Int32)), .val (.int (4 : Int32))]) rfl ?_
    show Steps p.tables e below (T9.setTop (mkF m 19 #[.val (.ref a1), .val (.long q2), .second, .val (.int (1 : Int32)), .val (.int (4 : Int32))] [])) _
    refine XS.goto X9.here hx rfl (pc0 := 19) (pc' := 6) rfl (hb hby d6_19) (by decide) (by decide) ?_
    show Steps p.tables e below (T9.setTop (mkF m 6 #[.val (.ref a1), .val (.long q2), .second, .val (.int (1 : Int32)), .val (.int (4 : Int32))] [])) _
    refine XS.iloadN X9.here hx rfl (hb hby d6_6) rfl ?_
    show Steps p.tables e below (T9.setTop (mkF m 7 #[.val (.ref a1), .val (.long q2), .second, .val (.int (1 : Int32)), .val (.int (4 : Int32))] [(.int (1 : Int32))])) _
    refine XS.iload X9.here hx rfl (hb hby d6_7) rfl ?_
    show Steps p.tables e below (T9.setTop (mkF m 9 #[.val (.ref a1), .val (.long q2), .second, .val (.int (1 : Int32)), .val (.int (4 : Int32))] [(.int (4 : Int32)), (.int (1 : Int32))])) _
    refine XS.icmpNo X9.here hx rfl (hb hby d6_9) rfl (tlt (by decide)).2.1 ?_
    show Steps p.tables e below (T9.setTop (mkF m 12 #[.val (.ref a1), .val (.long q2), .second, .val (.int (1 : Int32)), .val (.int (4 : Int32))] [])) _
    refine XS.aloadN X9.here hx rfl (hb hby d6_12) rfl rfl ?_
    show Steps p.tables e below (T9.setTop (mkF m 13 #[.val (.ref a1), .val (.long q2), .second, .val (.int (1 : Int32)), .val (.int (4 : Int32))] [(.ref a1)])) _
    refine XS.iloadN X9.here hx rfl (hb hby d6_13) rfl ?_
    show Steps p.tables e below (T9.setTop (mkF m 14 #[.val (.ref a1), .val (.long q2), .second, .val (.int (1 : Int32)), .val (.int (4 : Int32))] [(.int (1 : Int32)), (.ref a1)])) _
    refine XS.lloadN X9.here hx rfl (hb hby d6_14) rfl ?_
    show Steps p.tables e below (T9.setTop (mkF m 15 #[.val (.ref a1), .val (.long q2), .second, .val (.int (1 : Int32)), .val (.int (4 : Int32))] [(.long q2), (.int (1 : Int32)), (.ref a1)])) _
    refine st11 _ ?_
    show Steps p.tables e below (T11.setTop (mkF m 16 #[.val (.ref a1), .val (.long q2), .second, .val (.int (1 : Int32)), .val (.int (4 : Int32))] [])) _
    refine XS.iinc X11.here hx rfl (hb hby d6_16) rfl (l' := #[.val (.ref a1), .val (.long q2), .second, .val (.int (2 : Int32)), .val (.int (4 : Int32))]) rfl ?_
    show Steps p.tables e below (T11.setTop (mkF m 19 #[.val (.ref a1), .val (.long q2), .second, .val (.int (2 : Int32)), .val (.int (4 : Int32))] [])) _
    refine XS.goto X11.here hx rfl (pc0 := 19) (pc' := 6) rfl (hb hby d6_19) (by decide) (by decide) ?_
    show Steps p.tables e below (T11.setTop (mkF m 6 #[.val (.ref a1), .val (.long q2), .second, .val (.int (2 : Int32)), .val (.int (4 : Int32))] [])) _
    refine XS.iloadN X11.here hx rfl (hb hby d6_6) rfl ?_
    show Steps p.tables e below (T11.setTop (mkF m 7 #[.val (.ref a1), .val (.long q2), .second, .val (.int (2 : Int32)), .val (.int (4 : Int32))] [(.int (2 : Int32))])) _
    refine XS.iload X11.here hx rfl (hb hby d6_7) rfl ?_
    show Steps p.tables e below (T11.setTop (mkF m 9 #[.val (.ref a1), .val (.long q2), .second, .val (.int (2 : Int32)), .val (.int (4 : Int32))] [(.int (4 : Int32)), (.int (2 : Int32))])) _
    refine XS.icmpNo X11.here hx rfl (hb hby d6_9) rfl (tlt (by decide)).2.1 ?_
    show Steps p.tables e below (T11.setTop (mkF m 12 #[.val (.ref a1), .val (.long q2), .second, .val (.int (2 : Int32)), .val (.int (4 : Int32))] [])) _
    refine XS.aloadN X11.here hx rfl (hb hby d6_12) rfl rfl ?_
    show Steps p.tables e below (T11.setTop (mkF m 13 #[.val (.ref a1), .val (.long q2), .second, .val (.int (2 : Int32)), .val (.int (4 : Int32))] [(.ref a1)])) _
    refine XS.iloadN X11.here hx rfl (hb hby d6_13) rfl ?_
    show Steps p.tables e below (T11.setTop (mkF m 14 #[.val (.ref a1), .val (.long q2), .second, .val (.int (2 : Int32)), .val (.int (4 : Int32))] [(.int (2 : Int32)), (.ref a1)])) _
    refine XS.lloadN X11.here hx rfl (hb hby d6_14) rfl ?_
    show Steps p.tables e below (T11.setTop (mkF m 15 #[.val (.ref a1), .val (.long q2), .second, .val (.int (2 : Int32)), .val (.int (4 : Int32))] [(.long q2), (.int (2 : Int32)), (.ref a1)])) _
    refine st13 _ ?_
    show Steps p.tables e below (T13.setTop (mkF m 16 #[.val (.ref a1), .val (.long q2), .second, .val (.int (2 : Int32)), .val (.int (4 : Int32))] [])) _
    refine XS.iinc X13.here hx rfl (hb hby d6_16) rfl (l' := #[.val (.ref a1), .val (.long q2), .second, .val (.int (3 : Int32)), .val (.int (4 : Int32))]) rfl ?_
    show Steps p.tables e below (T13.setTop (mkF m 19 #[.val (.ref a1), .val (.long q2), .second, .val (.int (3 : Int32)), .val (.int (4 : Int32))] [])) _
    refine XS.goto X13.here hx rfl (pc0 := 19) (pc' := 6) rfl (hb hby d6_19) (by decide) (by decide) ?_
    show Steps p.tables e below (T13.setTop (mkF m 6 #[.val (.ref a1), .val (.long q2), .second, .val (.int (3 : Int32)), .val (.int (4 : Int32))] [])) _
    refine XS.iloadN X13.here hx rfl (hb hby d6_6) rfl ?_
    show Steps p.tables e below (T13.setTop (mkF m 7 #[.val (.ref a1), .val (.long q2), .second, .val (.int (3 : Int32)), .val (.int (4 : Int32))] [(.int (3 : Int32))])) _
    refine XS.iload X13.here hx rfl (hb hby d6_7) rfl ?_
    show Steps p.tables e below (T13.setTop (mkF m 9 #[.val (.ref a1), .val (.long q2), .second, .val (.int (3 : Int32)), .val (.int (4 : Int32))] [(.int (4 : Int32)), (.int (3 : Int32))])) _
    refine XS.icmpNo X13.here hx rfl (hb hby d6_9) rfl (tlt (by decide)).2.1 ?_
    show Steps p.tables e below (T13.setTop (mkF m 12 #[.val (.ref a1), .val (.long q2), .second, .val (.int (3 : Int32)), .val (.int (4 : Int32))] [])) _
    refine XS.aloadN X13.here hx rfl (hb hby d6_12) rfl rfl ?_
    show Steps p.tables e below (T13.setTop (mkF m 13 #[.val (.ref a1), .val (.long q2), .second, .val (.int (3 : Int32)), .val (.int (4 : Int32))] [(.ref a1)])) _
    refine XS.iloadN X13.here hx rfl (hb hby d6_13) rfl ?_
    show Steps p.tables e below (T13.setTop (mkF m 14 #[.val (.ref a1), .val (.long q2), .second, .val (.int (3 : Int32)), .val (.int (4 : Int32))] [(.int (3 : Int32)), (.ref a1)])) _
    refine XS.lloadN X13.here hx rfl (hb hby d6_14) rfl ?_
    show Steps p.tables e below (T13.setTop (mkF m 15 #[.val (.ref a1), .val (.long q2), .second, .val (.int (3 : Int32)), .val (.int (4 : Int32))] [(.long q2), (.int (3 : Int32)), (.ref a1)])) _
    refine st15 _ ?_
    show Steps p.tables e below (T15.setTop (mkF m 16 #[.val (.ref a1), .val (.long q2), .second, .val (.int (3 : Int32)), .val (.int (4 : Int32))] [])) _
    refine XS.iinc X15.here hx rfl (hb hby d6_16) rfl (l' := #[.val (.ref a1), .val (.long q2), .second, .val (.int (4 : Int32)), .val (.int (4 : Int32))]) rfl ?_
    show Steps p.tables e below (T15.setTop (mkF m 19 #[.val (.ref a1), .val (.long q2), .second, .val (.int (4 : Int32)), .val (.int (4 : Int32))] [])) _
    refine XS.goto X15.here hx rfl (pc0 := 19) (pc' := 6) rfl (hb hby d6_19) (by decide) (by decide) ?_
    show Steps p.tables e below (T15.setTop (mkF m 6 #[.val (.ref a1), .val (.long q2), .second, .val (.int (4 : Int32)), .val (.int (4 : Int32))] [])) _
    refine XS.iloadN X15.here hx rfl (hb hby d6_6) rfl ?_
    show Steps p.tables e below (T15.setTop (mkF m 7 #[.val (.ref a1), .val (.long q2), .second, .val (.int (4 : Int32)), .val (.int (4 : Int32))] [(.int (4 : Int32))])) _
    refine XS.iload X15.here hx rfl (hb hby d6_7) rfl ?_
    show Steps p.tables e below (T15.setTop (mkF m 9 #[.val (.ref a1), .val (.long q2), .second, .val (.int (4 : Int32)), .val (.int (4 : Int32))] [(.int (4 : Int32)), (.int (4 : Int32))])) _
    refine XS.icmpYes X15.here hx rfl (pc0 := 9) (pc' := 22) rfl (hb hby d6_9) rfl (flt (by decide)).2.1 (by decide) (by decide) ?_
    show Steps p.tables e below (T15.setTop (mkF m 22 #[.val (.ref a1), .val (.long q2), .second, .val (.int (4 : Int32)), .val (.int (4 : Int32))] [])) _
    exact X15.returnOut hx Bd.returns (hb hby d6_22) hr
  · show QFILL Z a1 q2 f h0 n0 _ T15.heap _
    rw [e15]
    exact ⟨rfl, N15, Kp, A_a1⟩
def QAL0 (Z : State) (a1 : Addr) (u2 : Int32) (u3 : Int32) (dd : Addr) (h0 : Heap) (n0 : Nat) (v : Option Value) (h : Heap) (L : List Loc) : Prop := v = none ∧ Fr n0 L ∧ (Keep h0 h [a1]) ∧ (Fld Z h a1 "java/util/ArrayList" "elementData" "[Ljava/lang/Object;" (.ref dd)) ∧ (Fld Z h a1 "java/util/ArrayList" "size" "I" (.int u2)) ∧ (Fld Z h a1 "java/util/AbstractList" "modCount" "I" (.int (0 : Int32)))
theorem ef_AL0 (m : MethodId) (a1 : Addr) : entryFrame m #[(.ref a1)] 1 = mkF m 0 #[.val (.ref a1)] [] := by first | (simp [entryFrame, mkF, argsToLocals, Value.category]; done) | rfl
set_option maxRecDepth 65536 in
set_option maxHeartbeats 40000000 in
theorem rmAL0 (l : Launch) (Z : State) (a0 : Array Value) (hw : ∀ d ∈ tables_1, d.before a0 Z = true) (ws : List Jvm.Cond) (a1 : Addr) (u2 : Int32) (u3 : Int32) (dd : Addr) (h0 : Heap) (n0 : Nat) (Zs : n0 ≤ h0.size) (E_a1 : Exa Z h0 a1 "java/util/ArrayList") (F_elementData_a1 : Fld Z h0 a1 "java/util/ArrayList" "elementData" "[Ljava/lang/Object;" .null) (F_size_a1 : Fld Z h0 a1 "java/util/ArrayList" "size" "I" (.int u2)) (F_modCount_a1 : Fld Z h0 a1 "java/util/AbstractList" "modCount" "I" (.int u3)) (g_a1 : n0 ≤ a1) (Ol : Old Z n0 h0) (S_DEFAULTCAPACITY_EMPTY_ELEMENTDATA : Sta Z Z.heap "java/util/ArrayList" "DEFAULTCAPACITY_EMPTY_ELEMENTDATA" "[Ljava/lang/Object;" (.ref dd)) :
    MetFree l (⟨"java/util/ArrayList", "<init>", "()V"⟩ : MethodName) (head1 (Jvm.Cond.code (⟨"java/util/ArrayList", "<init>", "()V"⟩ : MethodName) jdk_38_method_2_code 1 none :: ws) ({ frames := 3, cells := 0, slots := 0, locals := 36 } : Room)) (fun a U => a = #[(.ref a1)] ∧ Z.Warmed39 U.vm ∧ U.heap = h0) (fun _ _ _ _ _ => True) (fun _ U o U' => ∃ v L, o = .returned v ∧ QAL0 Z a1 u2 u3 dd h0 n0 v U'.heap L ∧ FrameEnd U o U' L ({ frames := 3, cells := 0, slots := 0, locals := 36 } : Room).cells ({ frames := 3, cells := 0, slots := 0, locals := 36 } : Room).slots) := by
  refine MetFree.of_bodySF (plainFor_of_name pn_2) hisR ?_
  intro p e s m args below meth c s₁ Bd hml0 hP hK
  obtain ⟨rfl, hZ, hh⟩ := hP
  have hx := Bd.exec
  have hby := Bd.bytes
  have hml : c.maxLocals = 1 := hml0
  have hown : s.vm.findClass "java/util/ArrayList" = some m.cls := findClass_of_methodNamed Bd.named
  have hnm := (name_of_methodNamed Bd.named Bd.method).1
  have X0 : Stand p l e ({ frames := 3, cells := 0, slots := 0, locals := 36 } : Room) s m #[(.ref a1)] below meth c s₁ [] 0 0 := Stand.of_body Bd
  have e0 : s₁.heap = h0 := by rw [← hh, Bd.state]; rfl
  have N0 := Fr.nil n0
  have pre0 : ∀ t, Steps p.tables e below (s₁.setTop (mkF m 0 #[.val (.ref a1)] [])) t → Steps p.tables e below (s₁.setTop (entryFrame m #[(.ref a1)] 1)) t := fun t k => castTop (ef_AL0 m a1) k
  have Kp : Keep h0 h0 [a1] := Keep.refl h0 [a1]
  obtain ⟨_, _, ⟨T16, L16, k16, n16⟩, -, X16, ⟨Lc16, hQ16, l16, y16, z16⟩, st16⟩ := X0.specialBack hx (y := (⟨"java/util/AbstractList", "<init>", "()V"⟩ : MethodName)) rfl hown (mvT hZ (hw _ (List.mem_of_getElem? (i := 22) rfl))) (mvT hZ (hw _ (List.mem_of_getElem? (i := 23) rfl))) (mvT hZ (hw _ (List.mem_of_getElem? (i := 27) rfl))) (by decide) (backOf (W := 0) (rmABL l Z a0 hw [] a1 u2 u3 h0 n0 Zs E_a1 F_elementData_a1 F_size_a1 F_modCount_a1 g_a1) hZ (hw _ (List.mem_of_getElem? (i := 27) rfl)) (hw _ (List.mem_of_getElem? (i := 26) rfl)) (by decide) (by decide)) (g := (mkF m 1 #[.val (.ref a1)] [(.ref a1)])) rfl (by rw [hml]; rfl) (Steps.refl _) (a := a1) (argsL := []) (rest := []) (lenOf pd_0 rfl) rfl (by show 2 * 0 + _ ≤ _; exact Nat.le_of_eq rfl) (hb hby d7_1) (fun _ _ => ⟨rfl, e0, (by decide : 0 + 0 ≤ _), (by decide : 0 + 0 ≤ _)⟩)
  dsimp only [Pt.U, Pt.locs, Pt.cells, Pt.slots] at X16 l16 y16 z16 st16 hQ16
  subst l16 y16 z16
  obtain ⟨rfl, N16q, K16, P16_1, P16_2, P16_3⟩ := hQ16
  have Zs : n0 ≤ T16.heap.size := Nat.le_trans Zs K16.1
  have E_a1 : Exa Z T16.heap a1 "java/util/ArrayList" := E_a1.keep K16
  have Ol : Old Z n0 T16.heap := Ol.keep K16 (allS g_a1 all0)
  have Kp : Keep h0 T16.heap [a1] := Kp.trans K16 (allS (Or.inl (List.mem_of_getElem? (i := 0) rfl)) all0)
  have F_elementData_a1 : Fld Z T16.heap a1 "java/util/ArrayList" "elementData" "[Ljava/lang/Object;" .null := P16_1
  have F_size_a1 : Fld Z T16.heap a1 "java/util/ArrayList" "size" "I" (.int u2) := P16_2
  have F_modCount_a1 : Fld Z T16.heap a1 "java/util/AbstractList" "modCount" "I" (.int (0 : Int32)) := P16_3
  have N16 := Fr.app N0 N16q
  obtain ⟨T17, X17, e17, st17⟩ := getS2 X16 hx hZ hown (host := "") (Or.inl (hw _ (List.mem_of_getElem? (i := 51) rfl))) Via.refl rfl (Sta.ext Ol.2 S_DEFAULTCAPACITY_EMPTY_ELEMENTDATA) (g := (mkF m 5 #[.val (.ref a1)] [(.ref a1)])) rfl (hb hby d7_5)
  obtain ⟨T18, h18, X18, e18, W18, st18⟩ := putF X17 hx hZ hown (host := "") (Or.inl (hw _ (List.mem_of_getElem? (i := 39) rfl))) Via.refl e17 F_elementData_a1 E_a1 (Or.inl (hw _ (List.mem_of_getElem? (i := 40) rfl))) (hw _ (List.mem_of_getElem? (i := 17) rfl)) (ty := (.array (.object "java/lang/Object"))) (by decide) rfl rfl (g := (mkF m 8 #[.val (.ref a1)] [(.ref dd), (.ref a1)])) rfl rfl (hb hby d7_8)
  have N18 := Fr.snoc X18 N16 g_a1
  have Zs : n0 ≤ h18.size := Nat.le_trans Zs (Keep.of_wr W18).1
  have E_a1 : Exa Z h18 a1 "java/util/ArrayList" := E_a1.wr W18
  have Ol : Old Z n0 h18 := Ol.wr W18 g_a1
  have Kp : Keep h0 h18 [a1] := Kp.wr W18 (Or.inl (List.mem_of_getElem? (i := 0) rfl))
  have F_elementData_a1 : Fld Z h18 a1 "java/util/ArrayList" "elementData" "[Ljava/lang/Object;" (.ref dd) := F_elementData_a1.same W18
  have F_size_a1 : Fld Z h18 a1 "java/util/ArrayList" "size" "I" (.int u2) := F_size_a1.other W18 (Or.inr (slot_ne (Or.inl (hw _ (List.mem_of_getElem? (i := 64) rfl))) (Or.inl (hw _ (List.mem_of_getElem? (i := 40) rfl))) (by decide) (t := .int) (t' := (.array (.object "java/lang/Object"))) (by decide) (by decide)))
  have F_modCount_a1 : Fld Z h18 a1 "java/util/AbstractList" "modCount" "I" (.int (0 : Int32)) := F_modCount_a1.other W18 (Or.inr (slot_ne (Or.inl (hw _ (List.mem_of_getElem? (i := 36) rfl))) (Or.inl (hw _ (List.mem_of_getElem? (i := 40) rfl))) (by decide) (t := .int) (t' := (.array (.object "java/lang/Object"))) (by decide) (by decide)))
  obtain ⟨fs, hr, hrun, hended, hW, hsame⟩ := X18.leave (v := none) (fun _ => rfl)
  refine ⟨_, _, pre0 _ ?_, hrun, hended, _, _, rfl, ?_, ⟨_, rfl⟩, hW, hsame.mono (by decide) (by decide)⟩
  · show Steps p.tables e below (s₁.setTop (mkF m 0 #[.val (.ref a1)] [])) _
    refine XS.aloadN X0.here hx rfl (hb hby d7_0) rfl rfl ?_
    show Steps p.tables e below (s₁.setTop (mkF m 1 #[.val (.ref a1)] [(.ref a1)])) _
    refine st16.trans ?_
    show Steps p.tables e below (T16.setTop (mkF m 4 #[.val (.ref a1)] [])) _
    refine XS.aloadN X16.here hx rfl (hb hby d7_4) rfl rfl ?_
    show Steps p.tables e below (T16.setTop (mkF m 5 #[.val (.ref a1)] [(.ref a1)])) _
    refine st17 _ ?_
    show Steps p.tables e below (T17.setTop (mkF m 8 #[.val (.ref a1)] [(.ref dd), (.ref a1)])) _
    refine st18 _ ?_
    show Steps p.tables e below (T18.setTop (mkF m 11 #[.val (.ref a1)] [])) _
    exact X18.returnOut hx Bd.returns (hb hby d7_11) hr
  · show QAL0 Z a1 u2 u3 dd h0 n0 _ T18.heap _
    rw [e18]
    exact ⟨rfl, N18, Kp, F_elementData_a1, F_size_a1, F_modCount_a1⟩
def QMX (Z : State)  (h0 : Heap) (n0 : Nat) (v : Option Value) (h : Heap) (L : List Loc) : Prop := v = some (.int (10 : Int32)) ∧ Fr n0 L ∧ h = h0
theorem ef_MX (m : MethodId)  : entryFrame m #[(.int (10 : Int32)), (.int (1 : Int32))] 2 = mkF m 0 #[.val (.int (10 : Int32)), .val (.int (1 : Int32))] [] := by first | (simp [entryFrame, mkF, argsToLocals, Value.category]; done) | rfl
set_option maxRecDepth 65536 in
set_option maxHeartbeats 40000000 in
theorem rmMX (l : Launch) (Z : State) (a0 : Array Value) (hw : ∀ d ∈ tables_1, d.before a0 Z = true) (ws : List Jvm.Cond)  (h0 : Heap) (n0 : Nat) (Zs : n0 ≤ h0.size)  :
    MetFree l (⟨"java/lang/Math", "max", "(II)I"⟩ : MethodName) (head1 (Jvm.Cond.code (⟨"java/lang/Math", "max", "(II)I"⟩ : MethodName) jdk_29_method_65_code 2 (some .int) :: ws) ({ frames := 0, cells := 0, slots := 0, locals := 0 } : Room)) (fun a U => a = #[(.int (10 : Int32)), (.int (1 : Int32))] ∧ Z.Warmed39 U.vm ∧ U.heap = h0) (fun _ _ _ _ _ => True) (fun _ U o U' => ∃ v L, o = .returned v ∧ QMX Z  h0 n0 v U'.heap L ∧ FrameEnd U o U' L ({ frames := 0, cells := 0, slots := 0, locals := 0 } : Room).cells ({ frames := 0, cells := 0, slots := 0, locals := 0 } : Room).slots) := by
  refine MetFree.of_bodySF (Jvm.Free.JP.mathPlain rfl (by decide +kernel)) hisR ?_
  intro p e s m args below meth c s₁ Bd hml0 hP hK
  obtain ⟨rfl, hZ, hh⟩ := hP
  have hx := Bd.exec
  have hby := Bd.bytes
  have hml : c.maxLocals = 2 := hml0
  have hown : s.vm.findClass "java/lang/Math" = some m.cls := findClass_of_methodNamed Bd.named
  have hnm := (name_of_methodNamed Bd.named Bd.method).1
  have X0 : Stand p l e ({ frames := 0, cells := 0, slots := 0, locals := 0 } : Room) s m #[(.int (10 : Int32)), (.int (1 : Int32))] below meth c s₁ [] 0 0 := Stand.of_body Bd
  have e0 : s₁.heap = h0 := by rw [← hh, Bd.state]; rfl
  have N0 := Fr.nil n0
  have pre0 : ∀ t, Steps p.tables e below (s₁.setTop (mkF m 0 #[.val (.int (10 : Int32)), .val (.int (1 : Int32))] [])) t → Steps p.tables e below (s₁.setTop (entryFrame m #[(.int (10 : Int32)), (.int (1 : Int32))] 2)) t := fun t k => castTop (ef_MX m ) k
  obtain ⟨fs, hr, hrun, hended, hW, hsame⟩ := X0.leave (v := some (.int (10 : Int32))) (fun h => by rw [Bd.returns] at h; cases h)
  refine ⟨_, _, pre0 _ ?_, hrun, hended, _, _, rfl, ?_, ⟨_, rfl⟩, hW, hsame.mono (by decide) (by decide)⟩
  · show Steps p.tables e below (s₁.setTop (mkF m 0 #[.val (.int (10 : Int32)), .val (.int (1 : Int32))] [])) _
    refine XS.iloadN X0.here hx rfl (hb hby d18_0) rfl ?_
    show Steps p.tables e below (s₁.setTop (mkF m 1 #[.val (.int (10 : Int32)), .val (.int (1 : Int32))] [(.int (10 : Int32))])) _
    refine XS.iloadN X0.here hx rfl (hb hby d18_1) rfl ?_
    show Steps p.tables e below (s₁.setTop (mkF m 2 #[.val (.int (10 : Int32)), .val (.int (1 : Int32))] [(.int (1 : Int32)), (.int (10 : Int32))])) _
    refine XS.icmpNo X0.here hx rfl (hb hby d18_2) rfl (flt (by decide)).1 ?_
    show Steps p.tables e below (s₁.setTop (mkF m 5 #[.val (.int (10 : Int32)), .val (.int (1 : Int32))] [])) _
    refine XS.iloadN X0.here hx rfl (hb hby d18_5) rfl ?_
    show Steps p.tables e below (s₁.setTop (mkF m 6 #[.val (.int (10 : Int32)), .val (.int (1 : Int32))] [(.int (10 : Int32))])) _
    refine XS.goto X0.here hx rfl (pc0 := 6) (pc' := 10) rfl (hb hby d18_6) (by decide) (by decide) ?_
    show Steps p.tables e below (s₁.setTop (mkF m 10 #[.val (.int (10 : Int32)), .val (.int (1 : Int32))] [(.int (10 : Int32))])) _
    exact retI X0 hx Bd.returns (hb hby d18_10) hr
  · show QMX Z  h0 n0 _ s₁.heap _
    rw [e0]
    exact ⟨rfl, N0, rfl⟩
def QGI (Z : State) (a1 : Addr) (w2 : Int32) (w3 : Int32) (dd : Addr) (h0 : Heap) (n0 : Nat) (v : Option Value) (h : Heap) (L : List Loc) : Prop := ∃ b : Addr, ∃ kb : ClassId, v = some (.ref b) ∧ Fr n0 L ∧ (Keep h0 h [a1]) ∧ (h0.size ≤ b) ∧ (n0 ≤ b) ∧ (Fld Z h a1 "java/util/ArrayList" "elementData" "[Ljava/lang/Object;" (.ref b)) ∧ (Fld Z h a1 "java/util/ArrayList" "size" "I" (.int w2)) ∧ (Fld Z h a1 "java/util/AbstractList" "modCount" "I" (.int w3)) ∧ (ArR Z h b kb "java/lang/Object" (10 : Int32) (fun _ => .null))
theorem ef_GI (m : MethodId) (a1 : Addr) : entryFrame m #[(.ref a1), (.int (1 : Int32))] 4 = mkF m 0 #[.val (.ref a1), .val (.int (1 : Int32)), .unset, .unset] [] := by first | (simp [entryFrame, mkF, argsToLocals, Value.category]; done) | rfl
set_option maxRecDepth 65536 in
set_option maxHeartbeats 40000000 in
theorem rmGI (l : Launch) (Z : State) (a0 : Array Value) (hw : ∀ d ∈ tables_1, d.before a0 Z = true) (ws : List Jvm.Cond) (a1 : Addr) (w2 : Int32) (w3 : Int32) (dd : Addr) (h0 : Heap) (n0 : Nat) (Zs : n0 ≤ h0.size) (E_a1 : Exa Z h0 a1 "java/util/ArrayList") (F_elementData_a1 : Fld Z h0 a1 "java/util/ArrayList" "elementData" "[Ljava/lang/Object;" (.ref dd)) (F_size_a1 : Fld Z h0 a1 "java/util/ArrayList" "size" "I" (.int w2)) (F_modCount_a1 : Fld Z h0 a1 "java/util/AbstractList" "modCount" "I" (.int w3)) (g_a1 : n0 ≤ a1) (Ol : Old Z n0 h0) (S_DEFAULTCAPACITY_EMPTY_ELEMENTDATA : Sta Z Z.heap "java/util/ArrayList" "DEFAULTCAPACITY_EMPTY_ELEMENTDATA" "[Ljava/lang/Object;" (.ref dd)) (A_dd : ArZ Z Z.heap dd) :
    MetFree l (⟨"java/util/ArrayList", "grow", "(I)[Ljava/lang/Object;"⟩ : MethodName) (head1 (Jvm.Cond.code (⟨"java/util/ArrayList", "grow", "(I)[Ljava/lang/Object;"⟩ : MethodName) jdk_38_method_6_code 4 (some (.array (.object "java/lang/Object"))) :: ws) ({ frames := 1, cells := 1, slots := 10, locals := 14 } : Room)) (fun a U => a = #[(.ref a1), (.int (1 : Int32))] ∧ Z.Warmed39 U.vm ∧ U.heap = h0) (fun _ _ _ _ _ => True) (fun _ U o U' => ∃ v L, o = .returned v ∧ QGI Z a1 w2 w3 dd h0 n0 v U'.heap L ∧ FrameEnd U o U' L ({ frames := 1, cells := 1, slots := 10, locals := 14 } : Room).cells ({ frames := 1, cells := 1, slots := 10, locals := 14 } : Room).slots) := by
  refine MetFree.of_bodySF (plainFor_of_name pn_2) hisR ?_
  intro p e s m args below meth c s₁ Bd hml0 hP hK
  obtain ⟨rfl, hZ, hh⟩ := hP
  have hx := Bd.exec
  have hby := Bd.bytes
  have hml : c.maxLocals = 4 := hml0
  have hown : s.vm.findClass "java/util/ArrayList" = some m.cls := findClass_of_methodNamed Bd.named
  have hnm := (name_of_methodNamed Bd.named Bd.method).1
  have X0 : Stand p l e ({ frames := 1, cells := 1, slots := 10, locals := 14 } : Room) s m #[(.ref a1), (.int (1 : Int32))] below meth c s₁ [] 0 0 := Stand.of_body Bd
  have e0 : s₁.heap = h0 := by rw [← hh, Bd.state]; rfl
  have N0 := Fr.nil n0
  have pre0 : ∀ t, Steps p.tables e below (s₁.setTop (mkF m 0 #[.val (.ref a1), .val (.int (1 : Int32)), .unset, .unset] [])) t → Steps p.tables e below (s₁.setTop (entryFrame m #[(.ref a1), (.int (1 : Int32))] 4)) t := fun t k => castTop (ef_GI m a1) k
  have Kp : Keep h0 h0 [a1] := Keep.refl h0 [a1]
  obtain ⟨T19, X19, e19, st19⟩ := getF X0 hx hZ hown (host := "") (Or.inl (hw _ (List.mem_of_getElem? (i := 39) rfl))) Via.refl e0 F_elementData_a1 (g := (mkF m 1 #[.val (.ref a1), .val (.int (1 : Int32)), .unset, .unset] [(.ref a1)])) rfl rfl (hb hby d17_1)
  obtain ⟨cl20, Ar20, hl20⟩ := ArZ.len (A_dd.ext Ol.2) (by decide)
  obtain ⟨T21, X21, e21, st21⟩ := getF X19 hx hZ hown (host := "") (Or.inl (hw _ (List.mem_of_getElem? (i := 39) rfl))) Via.refl e19 F_elementData_a1 (g := (mkF m 11 #[.val (.ref a1), .val (.int (1 : Int32)), .val (.int (0 : Int32)), .unset] [(.ref a1)])) rfl rfl (hb hby d17_11)
  obtain ⟨T22, X22, e22, st22⟩ := getS2 X21 hx hZ hown (host := "") (Or.inl (hw _ (List.mem_of_getElem? (i := 51) rfl))) Via.refl e21 (Sta.ext Ol.2 S_DEFAULTCAPACITY_EMPTY_ELEMENTDATA) (g := (mkF m 14 #[.val (.ref a1), .val (.int (1 : Int32)), .val (.int (0 : Int32)), .unset] [(.ref dd)])) rfl (hb hby d17_14)
  obtain ⟨_, _, ⟨T23, L23, k23, n23⟩, -, X23, ⟨Lc23, hQ23, l23, y23, z23⟩, st23⟩ := Jvm.LawKit.callS X22 hx (y := (⟨"java/lang/Math", "max", "(II)I"⟩ : MethodName)) hown (mvT hZ (hw _ (List.mem_of_getElem? (i := 115) rfl))) (mvT hZ (hw _ (List.mem_of_getElem? (i := 116) rfl))) (mvT hZ (hw _ (List.mem_of_getElem? (i := 117) rfl))) (mvT hZ (hw _ (List.mem_of_getElem? (i := 118) rfl))) (by decide) (backOf (W := 1) (rmMX l Z a0 hw []  h0 n0 Zs ) hZ (hw _ (List.mem_of_getElem? (i := 118) rfl)) (hw _ (List.mem_of_getElem? (i := 117) rfl)) (by decide) (by decide)) (g := (mkF m 49 #[.val (.ref a1), .val (.int (1 : Int32)), .val (.int (0 : Int32)), .unset] [(.int (1 : Int32)), (.int (10 : Int32)), (.ref a1)])) rfl (by rw [hml]; rfl) (argsL := [(.int (10 : Int32)), (.int (1 : Int32))]) (rest := [(.ref a1)]) (lenOf pd_1 rfl) rfl (by show 2 * 0 + _ ≤ _; exact Nat.le_of_eq rfl) (hb hby d17_49) (fun _ _ => ⟨rfl, e22, (by decide : 0 + 0 ≤ _), (by decide : 0 + 0 ≤ _)⟩)
  dsimp only [Pt.U, Pt.locs, Pt.cells, Pt.slots] at X23 l23 y23 z23 st23 hQ23
  subst l23 y23 z23
  obtain ⟨rfl, N23q, e23⟩ := hQ23
  have N23 := Fr.app N0 N23q
  obtain ⟨T24, h24, k24, X24, e24, E24, A24, B24, O24, st24⟩ := newRE X23 hx hZ hown (hw _ (List.mem_of_getElem? (i := 37) rfl)) (hw _ (List.mem_of_getElem? (i := 38) rfl)) e23 (g := (mkF m 52 #[.val (.ref a1), .val (.int (1 : Int32)), .val (.int (0 : Int32)), .unset] [(.int (10 : Int32)), (.ref a1)])) rfl (hb hby d17_52) rfl (by decide) (cap := 10) (by decide) (by decide) (by decide) (by decide) (ad := "[Ljava/lang/Object;") (by decide)
  obtain ⟨b24, g24⟩ : ∃ z, z = h0.size := ⟨_, rfl⟩
  rw [← g24] at A24 B24 st24
  have g_b24 : n0 ≤ b24 := Nat.le_trans Zs (Nat.le_of_eq g24.symm)
  have sz_b24 : h0.size ≤ b24 := Nat.le_trans Kp.1 (Nat.le_of_eq g24.symm)
  have ne_a1_b24 : a1 ≠ b24 := Nat.ne_of_lt (Nat.lt_of_lt_of_le E_a1.lt (Nat.le_of_eq g24.symm))
  have Zs : n0 ≤ h24.size := Nat.le_trans Zs E24.1
  have E_a1 : Exa Z h24 a1 "java/util/ArrayList" := E_a1.ext E24
  have F_elementData_a1 : Fld Z h24 a1 "java/util/ArrayList" "elementData" "[Ljava/lang/Object;" (.ref dd) := F_elementData_a1.ext E24
  have F_size_a1 : Fld Z h24 a1 "java/util/ArrayList" "size" "I" (.int w2) := F_size_a1.ext E24
  have F_modCount_a1 : Fld Z h24 a1 "java/util/AbstractList" "modCount" "I" (.int w3) := F_modCount_a1.ext E24
  have Ol : Old Z n0 h24 := Ol.ext E24
  have Kp : Keep h0 h24 [a1] := Kp.ext E24
  have A_b24 : ArR Z h24 b24 k24 "java/lang/Object" (10 : Int32) (fun _ => .null) := ArR.new A24 O24 (by decide)
  have E_b24 : Exa Z h24 b24 "[Ljava/lang/Object;" := B24
  obtain ⟨T25, h25, X25, e25, W25, st25⟩ := putF X24 hx hZ hown (host := "") (Or.inl (hw _ (List.mem_of_getElem? (i := 39) rfl))) Via.refl e24 F_elementData_a1 E_a1 (Or.inl (hw _ (List.mem_of_getElem? (i := 40) rfl))) (hw _ (List.mem_of_getElem? (i := 17) rfl)) (ty := (.array (.object "java/lang/Object"))) (by decide) rfl rfl (g := (mkF m 56 #[.val (.ref a1), .val (.int (1 : Int32)), .val (.int (0 : Int32)), .unset] [(.ref b24), (.ref a1), (.ref b24)])) rfl rfl (hb hby d17_56)
  have N25 := Fr.snoc X25 N23 g_a1
  have Zs : n0 ≤ h25.size := Nat.le_trans Zs (Keep.of_wr W25).1
  have E_a1 : Exa Z h25 a1 "java/util/ArrayList" := E_a1.wr W25
  have F_elementData_a1 : Fld Z h25 a1 "java/util/ArrayList" "elementData" "[Ljava/lang/Object;" (.ref b24) := F_elementData_a1.same W25
  have F_size_a1 : Fld Z h25 a1 "java/util/ArrayList" "size" "I" (.int w2) := F_size_a1.other W25 (Or.inr (slot_ne (Or.inl (hw _ (List.mem_of_getElem? (i := 64) rfl))) (Or.inl (hw _ (List.mem_of_getElem? (i := 40) rfl))) (by decide) (t := .int) (t' := (.array (.object "java/lang/Object"))) (by decide) (by decide)))
  have F_modCount_a1 : Fld Z h25 a1 "java/util/AbstractList" "modCount" "I" (.int w3) := F_modCount_a1.other W25 (Or.inr (slot_ne (Or.inl (hw _ (List.mem_of_getElem? (i := 36) rfl))) (Or.inl (hw _ (List.mem_of_getElem? (i := 40) rfl))) (by decide) (t := .int) (t' := (.array (.object "java/lang/Object"))) (by decide) (by decide)))
  have Ol : Old Z n0 h25 := Ol.wr W25 g_a1
  have Kp : Keep h0 h25 [a1] := Kp.wr W25 (Or.inl (List.mem_of_getElem? (i := 0) rfl))
  have A_b24 : ArR Z h25 b24 k24 "java/lang/Object" (10 : Int32) (fun _ => .null) := A_b24.other W25 (Ne.symm ne_a1_b24)
  have E_b24 : Exa Z h25 b24 "[Ljava/lang/Object;" := E_b24.wr W25
  obtain ⟨fs, hr, hrun, hended, hW, hsame⟩ := X25.leave (v := some (.ref b24)) (fun h => by rw [Bd.returns] at h; cases h)
  refine ⟨_, _, pre0 _ ?_, hrun, hended, _, _, rfl, ?_, ⟨_, rfl⟩, hW, hsame.mono (by decide) (by decide)⟩
  · show Steps p.tables e below (s₁.setTop (mkF m 0 #[.val (.ref a1), .val (.int (1 : Int32)), .unset, .unset] [])) _
    refine XS.aloadN X0.here hx rfl (hb hby d17_0) rfl rfl ?_
    show Steps p.tables e below (s₁.setTop (mkF m 1 #[.val (.ref a1), .val (.int (1 : Int32)), .unset, .unset] [(.ref a1)])) _
    refine st19 _ ?_
    show Steps p.tables e below (T19.setTop (mkF m 4 #[.val (.ref a1), .val (.int (1 : Int32)), .unset, .unset] [(.ref dd)])) _
    refine X19.arraylength hx (by rw [e19]; exact Ar20.1) (State.isArrayOf_alike hZ.alike Ar20.2.1) (g := (mkF m 4 #[.val (.ref a1), .val (.int (1 : Int32)), .unset, .unset] [(.ref dd)])) rfl rfl (hb hby d17_4) _ ?_
    rw [hl20]
    show Steps p.tables e below (T19.setTop (mkF m 5 #[.val (.ref a1), .val (.int (1 : Int32)), .unset, .unset] [(.int (0 : Int32))])) _
    refine XS.istoreN X19.here hx rfl (hb hby d17_5) rfl (l' := #[.val (.ref a1), .val (.int (1 : Int32)), .val (.int (0 : Int32)), .unset]) rfl ?_
    show Steps p.tables e below (T19.setTop (mkF m 6 #[.val (.ref a1), .val (.int (1 : Int32)), .val (.int (0 : Int32)), .unset] [])) _
    refine XS.iloadN X19.here hx rfl (hb hby d17_6) rfl ?_
    show Steps p.tables e below (T19.setTop (mkF m 7 #[.val (.ref a1), .val (.int (1 : Int32)), .val (.int (0 : Int32)), .unset] [(.int (0 : Int32))])) _
    refine XS.ifNo X19.here hx rfl (hb hby d17_7) rfl ((if0 _ _).trans (flt (by decide)).2.2.1) ?_
    show Steps p.tables e below (T19.setTop (mkF m 10 #[.val (.ref a1), .val (.int (1 : Int32)), .val (.int (0 : Int32)), .unset] [])) _
    refine XS.aloadN X19.here hx rfl (hb hby d17_10) rfl rfl ?_
    show Steps p.tables e below (T19.setTop (mkF m 11 #[.val (.ref a1), .val (.int (1 : Int32)), .val (.int (0 : Int32)), .unset] [(.ref a1)])) _
    refine st21 _ ?_
    show Steps p.tables e below (T21.setTop (mkF m 14 #[.val (.ref a1), .val (.int (1 : Int32)), .val (.int (0 : Int32)), .unset] [(.ref dd)])) _
    refine st22 _ ?_
    show Steps p.tables e below (T22.setTop (mkF m 17 #[.val (.ref a1), .val (.int (1 : Int32)), .val (.int (0 : Int32)), .unset] [(.ref dd), (.ref dd)])) _
    refine Jvm.RoadKit.acmp (g := (mkF m 17 #[.val (.ref a1), .val (.int (1 : Int32)), .val (.int (0 : Int32)), .unset] [(.ref dd), (.ref dd)])) X22 hx rfl rfl rfl (pc0 := 17) (pc' := 45) (same := true) rfl (hb hby d17_17) rfl (decide_eq_true rfl) (by decide) (by decide) ?_
    show Steps p.tables e below (T22.setTop (mkF m 45 #[.val (.ref a1), .val (.int (1 : Int32)), .val (.int (0 : Int32)), .unset] [])) _
    refine XS.aloadN X22.here hx rfl (hb hby d17_45) rfl rfl ?_
    show Steps p.tables e below (T22.setTop (mkF m 46 #[.val (.ref a1), .val (.int (1 : Int32)), .val (.int (0 : Int32)), .unset] [(.ref a1)])) _
    refine XS.bipush X22.here hx rfl (hb hby d17_46) ?_
    show Steps p.tables e below (T22.setTop (mkF m 48 #[.val (.ref a1), .val (.int (1 : Int32)), .val (.int (0 : Int32)), .unset] [(.int (10 : Int32)), (.ref a1)])) _
    refine XS.iloadN X22.here hx rfl (hb hby d17_48) rfl ?_
    show Steps p.tables e below (T22.setTop (mkF m 49 #[.val (.ref a1), .val (.int (1 : Int32)), .val (.int (0 : Int32)), .unset] [(.int (1 : Int32)), (.int (10 : Int32)), (.ref a1)])) _
    refine st23 _ ?_
    show Steps p.tables e below (T23.setTop (mkF m 52 #[.val (.ref a1), .val (.int (1 : Int32)), .val (.int (0 : Int32)), .unset] [(.int (10 : Int32)), (.ref a1)])) _
    refine st24 _ ?_
    show Steps p.tables e below (T24.setTop (mkF m 55 #[.val (.ref a1), .val (.int (1 : Int32)), .val (.int (0 : Int32)), .unset] [(.ref b24), (.ref a1)])) _
    refine XS.dupX1 X24.here hx rfl (hb hby d17_55) rfl rfl rfl ?_
    show Steps p.tables e below (T24.setTop (mkF m 56 #[.val (.ref a1), .val (.int (1 : Int32)), .val (.int (0 : Int32)), .unset] [(.ref b24), (.ref a1), (.ref b24)])) _
    refine st25 _ ?_
    show Steps p.tables e below (T25.setTop (mkF m 59 #[.val (.ref a1), .val (.int (1 : Int32)), .val (.int (0 : Int32)), .unset] [(.ref b24)])) _
    exact retOut X25 hx Bd.returns rfl (Or.inr (Or.inr (Or.inr (Or.inr ⟨rfl, rfl, rfl⟩)))) (hb hby d17_59) hr
  · show QGI Z a1 w2 w3 dd h0 n0 _ T25.heap _
    rw [e25]
    exact ⟨b24, k24, rfl, N25, Kp, sz_b24, g_b24, F_elementData_a1, F_size_a1, F_modCount_a1, A_b24⟩
def QGR (Z : State) (a1 : Addr) (w3 : Int32) (dd : Addr) (h0 : Heap) (n0 : Nat) (v : Option Value) (h : Heap) (L : List Loc) : Prop := ∃ b : Addr, ∃ kb : ClassId, v = some (.ref b) ∧ Fr n0 L ∧ (Keep h0 h [a1]) ∧ (h0.size ≤ b) ∧ (n0 ≤ b) ∧ (Fld Z h a1 "java/util/ArrayList" "elementData" "[Ljava/lang/Object;" (.ref b)) ∧ (Fld Z h a1 "java/util/ArrayList" "size" "I" (.int (0 : Int32))) ∧ (Fld Z h a1 "java/util/AbstractList" "modCount" "I" (.int w3)) ∧ (ArR Z h b kb "java/lang/Object" (10 : Int32) (fun _ => .null))
theorem ef_GR (m : MethodId) (a1 : Addr) : entryFrame m #[(.ref a1)] 1 = mkF m 0 #[.val (.ref a1)] [] := by first | (simp [entryFrame, mkF, argsToLocals, Value.category]; done) | rfl
set_option maxRecDepth 65536 in
set_option maxHeartbeats 40000000 in
theorem rmGR (l : Launch) (Z : State) (a0 : Array Value) (hw : ∀ d ∈ tables_1, d.before a0 Z = true) (ws : List Jvm.Cond) (a1 : Addr) (w3 : Int32) (dd : Addr) (h0 : Heap) (n0 : Nat) (Zs : n0 ≤ h0.size) (E_a1 : Exa Z h0 a1 "java/util/ArrayList") (F_elementData_a1 : Fld Z h0 a1 "java/util/ArrayList" "elementData" "[Ljava/lang/Object;" (.ref dd)) (F_size_a1 : Fld Z h0 a1 "java/util/ArrayList" "size" "I" (.int (0 : Int32))) (F_modCount_a1 : Fld Z h0 a1 "java/util/AbstractList" "modCount" "I" (.int w3)) (g_a1 : n0 ≤ a1) (Ol : Old Z n0 h0) (S_DEFAULTCAPACITY_EMPTY_ELEMENTDATA : Sta Z Z.heap "java/util/ArrayList" "DEFAULTCAPACITY_EMPTY_ELEMENTDATA" "[Ljava/lang/Object;" (.ref dd)) (A_dd : ArZ Z Z.heap dd) :
    MetFree l (⟨"java/util/ArrayList", "grow", "()[Ljava/lang/Object;"⟩ : MethodName) (head1 (Jvm.Cond.code (⟨"java/util/ArrayList", "grow", "()[Ljava/lang/Object;"⟩ : MethodName) jdk_38_method_7_code 1 (some (.array (.object "java/lang/Object"))) :: ws) ({ frames := 2, cells := 1, slots := 10, locals := 29 } : Room)) (fun a U => a = #[(.ref a1)] ∧ Z.Warmed39 U.vm ∧ U.heap = h0) (fun _ _ _ _ _ => True) (fun _ U o U' => ∃ v L, o = .returned v ∧ QGR Z a1 w3 dd h0 n0 v U'.heap L ∧ FrameEnd U o U' L ({ frames := 2, cells := 1, slots := 10, locals := 29 } : Room).cells ({ frames := 2, cells := 1, slots := 10, locals := 29 } : Room).slots) := by
  refine MetFree.of_bodySF (plainFor_of_name pn_2) hisR ?_
  intro p e s m args below meth c s₁ Bd hml0 hP hK
  obtain ⟨rfl, hZ, hh⟩ := hP
  have hx := Bd.exec
  have hby := Bd.bytes
  have hml : c.maxLocals = 1 := hml0
  have hown : s.vm.findClass "java/util/ArrayList" = some m.cls := findClass_of_methodNamed Bd.named
  have hnm := (name_of_methodNamed Bd.named Bd.method).1
  have X0 : Stand p l e ({ frames := 2, cells := 1, slots := 10, locals := 29 } : Room) s m #[(.ref a1)] below meth c s₁ [] 0 0 := Stand.of_body Bd
  have e0 : s₁.heap = h0 := by rw [← hh, Bd.state]; rfl
  have N0 := Fr.nil n0
  have pre0 : ∀ t, Steps p.tables e below (s₁.setTop (mkF m 0 #[.val (.ref a1)] [])) t → Steps p.tables e below (s₁.setTop (entryFrame m #[(.ref a1)] 1)) t := fun t k => castTop (ef_GR m a1) k
  have Kp : Keep h0 h0 [a1] := Keep.refl h0 [a1]
  obtain ⟨T26, X26, e26, st26⟩ := getF X0 hx hZ hown (host := "") (Or.inl (hw _ (List.mem_of_getElem? (i := 63) rfl))) Via.refl e0 F_size_a1 (g := (mkF m 2 #[.val (.ref a1)] [(.ref a1), (.ref a1)])) rfl rfl (hb hby d16_2)
  obtain ⟨cq27, q27, q27'⟩ := E_a1.cell
  obtain ⟨_, _, ⟨T27, L27, k27, n27⟩, -, X27, ⟨Lc27, hQ27, l27, y27, z27⟩, st27⟩ := X26.privateBack hx (y := (⟨"java/util/ArrayList", "grow", "(I)[Ljava/lang/Object;"⟩ : MethodName)) hown (mvT hZ (hw _ (List.mem_of_getElem? (i := 110) rfl))) (mvT hZ (hw _ (List.mem_of_getElem? (i := 111) rfl))) (mvT hZ (hw _ (List.mem_of_getElem? (i := 113) rfl))) (Cond.privateMethod_at (mvP hZ (hw _ (List.mem_of_getElem? (i := 112) rfl)) (args := #[]))) (mvT hZ (hw _ (List.mem_of_getElem? (i := 114) rfl))) (by decide) (backOf (W := 0) (rmGI l Z a0 hw [] a1 (0 : Int32) w3 dd h0 n0 Zs E_a1 F_elementData_a1 F_size_a1 F_modCount_a1 g_a1 Ol S_DEFAULTCAPACITY_EMPTY_ELEMENTDATA A_dd) hZ (hw _ (List.mem_of_getElem? (i := 114) rfl)) (hw _ (List.mem_of_getElem? (i := 18) rfl)) (by decide) (by decide)) (g := (mkF m 7 #[.val (.ref a1)] [(.int (1 : Int32)), (.ref a1)])) rfl (by rw [hml]; rfl) (Steps.refl _) (a := a1) (by rw [e26]; exact q27) q27' (argsL := [(.int (1 : Int32))]) (rest := []) (lenOf pd_2 rfl) rfl (by show 2 * 0 + _ ≤ _; exact Nat.le_of_eq rfl) (hb hby d16_7) (fun _ _ => ⟨rfl, e26, (by decide : 0 + 1 ≤ _), (by decide : 0 + 10 ≤ _)⟩)
  dsimp only [Pt.U, Pt.locs, Pt.cells, Pt.slots] at X27 l27 y27 z27 st27 hQ27
  subst l27 y27 z27
  obtain ⟨b_27, kb_27, rfl, N27q, K27, szc_b_27, g_b_27, P27_3, P27_4, P27_5, P27_6⟩ := hQ27
  have sz_b_27 : h0.size ≤ b_27 := Nat.le_trans Kp.1 szc_b_27
  have ne_a1_b_27 : a1 ≠ b_27 := Nat.ne_of_lt (Nat.lt_of_lt_of_le E_a1.lt szc_b_27)
  have Zs : n0 ≤ T27.heap.size := Nat.le_trans Zs K27.1
  have E_a1 : Exa Z T27.heap a1 "java/util/ArrayList" := E_a1.keep K27
  have Ol : Old Z n0 T27.heap := Ol.keep K27 (allS g_a1 all0)
  have Kp : Keep h0 T27.heap [a1] := Kp.trans K27 (allS (Or.inl (List.mem_of_getElem? (i := 0) rfl)) all0)
  have F_elementData_a1 : Fld Z T27.heap a1 "java/util/ArrayList" "elementData" "[Ljava/lang/Object;" (.ref b_27) := P27_3
  have F_size_a1 : Fld Z T27.heap a1 "java/util/ArrayList" "size" "I" (.int (0 : Int32)) := P27_4
  have F_modCount_a1 : Fld Z T27.heap a1 "java/util/AbstractList" "modCount" "I" (.int w3) := P27_5
  have A_b_27 : ArR Z T27.heap b_27 kb_27 "java/lang/Object" (10 : Int32) (fun _ => .null) := P27_6
  have N27 := Fr.app N0 N27q
  obtain ⟨fs, hr, hrun, hended, hW, hsame⟩ := X27.leave (v := some (.ref b_27)) (fun h => by rw [Bd.returns] at h; cases h)
  refine ⟨_, _, pre0 _ ?_, hrun, hended, _, _, rfl, ?_, ⟨_, rfl⟩, hW, hsame.mono (by decide) (by decide)⟩
  · show Steps p.tables e below (s₁.setTop (mkF m 0 #[.val (.ref a1)] [])) _
    refine XS.aloadN X0.here hx rfl (hb hby d16_0) rfl rfl ?_
    show Steps p.tables e below (s₁.setTop (mkF m 1 #[.val (.ref a1)] [(.ref a1)])) _
    refine XS.aloadN X0.here hx rfl (hb hby d16_1) rfl rfl ?_
    show Steps p.tables e below (s₁.setTop (mkF m 2 #[.val (.ref a1)] [(.ref a1), (.ref a1)])) _
    refine st26 _ ?_
    show Steps p.tables e below (T26.setTop (mkF m 5 #[.val (.ref a1)] [(.int (0 : Int32)), (.ref a1)])) _
    refine XS.iconst X26.here hx rfl (hb hby d16_5) ?_
    show Steps p.tables e below (T26.setTop (mkF m 6 #[.val (.ref a1)] [(.int (1 : Int32)), (.int (0 : Int32)), (.ref a1)])) _
    refine XS.iadd X26.here hx rfl (hb hby d16_6) rfl ?_
    show Steps p.tables e below (T26.setTop (mkF m 7 #[.val (.ref a1)] [(.int (1 : Int32)), (.ref a1)])) _
    refine st27.trans ?_
    show Steps p.tables e below (T27.setTop (mkF m 10 #[.val (.ref a1)] [(.ref b_27)])) _
    exact retOut X27 hx Bd.returns rfl (Or.inr (Or.inr (Or.inr (Or.inr ⟨rfl, rfl, rfl⟩)))) (hb hby d16_10) hr
  · show QGR Z a1 w3 dd h0 n0 _ T27.heap _
    exact ⟨b_27, kb_27, rfl, N27, Kp, sz_b_27, g_b_27, F_elementData_a1, F_size_a1, F_modCount_a1, A_b_27⟩
def QA3n (Z : State) (a1 : Addr) (a2 : Addr) (a3 : Addr) (p4 : Int32) (w2 : Int32) (w3 : Int32) (kb : ClassId) (f : Nat → Value) (h0 : Heap) (n0 : Nat) (v : Option Value) (h : Heap) (L : List Loc) : Prop := v = none ∧ Fr n0 L ∧ (Keep h0 h [a1, a3]) ∧ (Fld Z h a1 "java/util/ArrayList" "elementData" "[Ljava/lang/Object;" (.ref a3)) ∧ (Fld Z h a1 "java/util/ArrayList" "size" "I" (.int (p4 + (1 : Int32)))) ∧ (Fld Z h a1 "java/util/AbstractList" "modCount" "I" (.int w3)) ∧ (ArR Z h a3 kb "java/lang/Object" (4 : Int32) (upd f p4.toNatClampNeg (.ref a2)))
theorem ef_A3n (m : MethodId) (a1 : Addr) (a2 : Addr) (a3 : Addr) (p4 : Int32) : entryFrame m #[(.ref a1), (.ref a2), (.ref a3), (.int p4)] 4 = mkF m 0 #[.val (.ref a1), .val (.ref a2), .val (.ref a3), .val (.int p4)] [] := by first | (simp [entryFrame, mkF, argsToLocals, Value.category]; done) | rfl
set_option maxRecDepth 65536 in
set_option maxHeartbeats 40000000 in
theorem rmA3n (l : Launch) (Z : State) (a0 : Array Value) (hw : ∀ d ∈ tables_1, d.before a0 Z = true) (ws : List Jvm.Cond) (a1 : Addr) (a2 : Addr) (a3 : Addr) (p4 : Int32) (w2 : Int32) (w3 : Int32) (kb : ClassId) (f : Nat → Value) (h0 : Heap) (n0 : Nat) (Zs : n0 ≤ h0.size) (E_a1 : Exa Z h0 a1 "java/util/ArrayList") (E_a2 : Exa Z h0 a2 "java/util/ArrayList") (F_elementData_a1 : Fld Z h0 a1 "java/util/ArrayList" "elementData" "[Ljava/lang/Object;" (.ref a3)) (F_size_a1 : Fld Z h0 a1 "java/util/ArrayList" "size" "I" (.int w2)) (F_modCount_a1 : Fld Z h0 a1 "java/util/AbstractList" "modCount" "I" (.int w3)) (g_a1 : n0 ≤ a1) (g_a3 : n0 ≤ a3) (A_a3 : ArR Z h0 a3 kb "java/lang/Object" (4 : Int32) f) (ne_a1_a3 : a1 ≠ a3) (hl : ¬ p4 = (4 : Int32)) (hi : ¬ p4 < (0 : Int32) ∧ p4 < (4 : Int32)) :
    MetFree l (⟨"java/util/ArrayList", "add", "(Ljava/lang/Object;[Ljava/lang/Object;I)V"⟩ : MethodName) (head1 (Jvm.Cond.code (⟨"java/util/ArrayList", "add", "(Ljava/lang/Object;[Ljava/lang/Object;I)V"⟩ : MethodName) jdk_38_method_24_code 4 none :: ws) ({ frames := 0, cells := 0, slots := 0, locals := 0 } : Room)) (fun a U => a = #[(.ref a1), (.ref a2), (.ref a3), (.int p4)] ∧ Z.Warmed39 U.vm ∧ U.heap = h0) (fun _ _ _ _ _ => True) (fun _ U o U' => ∃ v L, o = .returned v ∧ QA3n Z a1 a2 a3 p4 w2 w3 kb f h0 n0 v U'.heap L ∧ FrameEnd U o U' L ({ frames := 0, cells := 0, slots := 0, locals := 0 } : Room).cells ({ frames := 0, cells := 0, slots := 0, locals := 0 } : Room).slots) := by
  refine MetFree.of_bodySF (plainFor_of_name pn_2) hisR ?_
  intro p e s m args below meth c s₁ Bd hml0 hP hK
  obtain ⟨rfl, hZ, hh⟩ := hP
  have hx := Bd.exec
  have hby := Bd.bytes
  have hml : c.maxLocals = 4 := hml0
  have hown : s.vm.findClass "java/util/ArrayList" = some m.cls := findClass_of_methodNamed Bd.named
  have hnm := (name_of_methodNamed Bd.named Bd.method).1
  have X0 : Stand p l e ({ frames := 0, cells := 0, slots := 0, locals := 0 } : Room) s m #[(.ref a1), (.ref a2), (.ref a3), (.int p4)] below meth c s₁ [] 0 0 := Stand.of_body Bd
  have e0 : s₁.heap = h0 := by rw [← hh, Bd.state]; rfl
  have N0 := Fr.nil n0
  have pre0 : ∀ t, Steps p.tables e below (s₁.setTop (mkF m 0 #[.val (.ref a1), .val (.ref a2), .val (.ref a3), .val (.int p4)] [])) t → Steps p.tables e below (s₁.setTop (entryFrame m #[(.ref a1), (.ref a2), (.ref a3), (.int p4)] 4)) t := fun t k => castTop (ef_A3n m a1 a2 a3 p4) k
  have Kp : Keep h0 h0 [a1, a3] := Keep.refl h0 [a1, a3]
  obtain ⟨cl28, Ar28, hl28⟩ := ArR.len A_a3 (by decide)
  obtain ⟨cl29, Ar29, hs29, hin29, hat29, -⟩ := ArR.open (j := p4) A_a3 hi
  obtain ⟨T30, h30, X30, e30, W30, st30⟩ := stR X0 hx hZ e0 Ar29 (j := p4) hin29 rfl (ArR.sto A_a3 (Ins.of_exa E_a2 (hw _ (List.mem_of_getElem? (i := 70) rfl)))) (g := (mkF m 14 #[.val (.ref a1), .val (.ref a2), .val (.ref a3), .val (.int p4)] [(.ref a2), (.int p4), (.ref a3)])) rfl rfl (hb hby d9_14)
  have N30 := Fr.snoc X30 N0 g_a3
  have Zs : n0 ≤ h30.size := Nat.le_trans Zs (Keep.of_wr W30).1
  have E_a1 : Exa Z h30 a1 "java/util/ArrayList" := E_a1.wr W30
  have E_a2 : Exa Z h30 a2 "java/util/ArrayList" := E_a2.wr W30
  have F_elementData_a1 : Fld Z h30 a1 "java/util/ArrayList" "elementData" "[Ljava/lang/Object;" (.ref a3) := F_elementData_a1.other W30 (Or.inl ne_a1_a3)
  have F_size_a1 : Fld Z h30 a1 "java/util/ArrayList" "size" "I" (.int w2) := F_size_a1.other W30 (Or.inl ne_a1_a3)
  have F_modCount_a1 : Fld Z h30 a1 "java/util/AbstractList" "modCount" "I" (.int w3) := F_modCount_a1.other W30 (Or.inl ne_a1_a3)
  have Kp : Keep h0 h30 [a1, a3] := Kp.wr W30 (Or.inl (List.mem_of_getElem? (i := 1) rfl))
  have A_a3 : ArR Z h30 a3 kb "java/lang/Object" (4 : Int32) (upd f p4.toNatClampNeg (.ref a2)) := ArR.set A_a3 W30
  obtain ⟨T31, h31, X31, e31, W31, st31⟩ := putF X30 hx hZ hown (host := "") (Or.inl (hw _ (List.mem_of_getElem? (i := 63) rfl))) Via.refl e30 F_size_a1 E_a1 (Or.inl (hw _ (List.mem_of_getElem? (i := 64) rfl))) (hw _ (List.mem_of_getElem? (i := 17) rfl)) (ty := .int) (by decide) rfl rfl (g := (mkF m 19 #[.val (.ref a1), .val (.ref a2), .val (.ref a3), .val (.int p4)] [(.int (p4 + (1 : Int32))), (.ref a1)])) rfl rfl (hb hby d9_19)
  have N31 := Fr.snoc X31 N30 g_a1
  have Zs : n0 ≤ h31.size := Nat.le_trans Zs (Keep.of_wr W31).1
  have E_a1 : Exa Z h31 a1 "java/util/ArrayList" := E_a1.wr W31
  have E_a2 : Exa Z h31 a2 "java/util/ArrayList" := E_a2.wr W31
  have F_elementData_a1 : Fld Z h31 a1 "java/util/ArrayList" "elementData" "[Ljava/lang/Object;" (.ref a3) := F_elementData_a1.other W31 (Or.inr (slot_ne (Or.inl (hw _ (List.mem_of_getElem? (i := 40) rfl))) (Or.inl (hw _ (List.mem_of_getElem? (i := 64) rfl))) (by decide) (t := (.array (.object "java/lang/Object"))) (t' := .int) (by decide) (by decide)))
  have F_size_a1 : Fld Z h31 a1 "java/util/ArrayList" "size" "I" (.int (p4 + (1 : Int32))) := F_size_a1.same W31
  have F_modCount_a1 : Fld Z h31 a1 "java/util/AbstractList" "modCount" "I" (.int w3) := F_modCount_a1.other W31 (Or.inr (slot_ne (Or.inl (hw _ (List.mem_of_getElem? (i := 36) rfl))) (Or.inl (hw _ (List.mem_of_getElem? (i := 64) rfl))) (by decide) (t := .int) (t' := .int) (by decide) (by decide)))
  have A_a3 : ArR Z h31 a3 kb "java/lang/Object" (4 : Int32) (upd f p4.toNatClampNeg (.ref a2)) := A_a3.other W31 (Ne.symm ne_a1_a3)
  have Kp : Keep h0 h31 [a1, a3] := Kp.wr W31 (Or.inl (List.mem_of_getElem? (i := 0) rfl))
  obtain ⟨fs, hr, hrun, hended, hW, hsame⟩ := X31.leave (v := none) (fun _ => rfl)
  refine ⟨_, _, pre0 _ ?_, hrun, hended, _, _, rfl, ?_, ⟨_, rfl⟩, hW, hsame.mono (by decide) (by decide)⟩
  · show Steps p.tables e below (s₁.setTop (mkF m 0 #[.val (.ref a1), .val (.ref a2), .val (.ref a3), .val (.int p4)] [])) _
    refine XS.iloadN X0.here hx rfl (hb hby d9_0) rfl ?_
    show Steps p.tables e below (s₁.setTop (mkF m 1 #[.val (.ref a1), .val (.ref a2), .val (.ref a3), .val (.int p4)] [(.int p4)])) _
    refine XS.aloadN X0.here hx rfl (hb hby d9_1) rfl rfl ?_
    show Steps p.tables e below (s₁.setTop (mkF m 2 #[.val (.ref a1), .val (.ref a2), .val (.ref a3), .val (.int p4)] [(.ref a3), (.int p4)])) _
    refine X0.arraylength hx (by rw [e0]; exact Ar28.1) (State.isArrayOf_alike hZ.alike Ar28.2.1) (g := (mkF m 2 #[.val (.ref a1), .val (.ref a2), .val (.ref a3), .val (.int p4)] [(.ref a3), (.int p4)])) rfl rfl (hb hby d9_2) _ ?_
    rw [hl28]
    show Steps p.tables e below (s₁.setTop (mkF m 3 #[.val (.ref a1), .val (.ref a2), .val (.ref a3), .val (.int p4)] [(.int (4 : Int32)), (.int p4)])) _
    refine XS.icmpYes X0.here hx rfl (pc0 := 3) (pc' := 11) rfl (hb hby d9_3) rfl (feq hl).2 (by decide) (by decide) ?_
    show Steps p.tables e below (s₁.setTop (mkF m 11 #[.val (.ref a1), .val (.ref a2), .val (.ref a3), .val (.int p4)] [])) _
    refine XS.aloadN X0.here hx rfl (hb hby d9_11) rfl rfl ?_
    show Steps p.tables e below (s₁.setTop (mkF m 12 #[.val (.ref a1), .val (.ref a2), .val (.ref a3), .val (.int p4)] [(.ref a3)])) _
    refine XS.iloadN X0.here hx rfl (hb hby d9_12) rfl ?_
    show Steps p.tables e below (s₁.setTop (mkF m 13 #[.val (.ref a1), .val (.ref a2), .val (.ref a3), .val (.int p4)] [(.int p4), (.ref a3)])) _
    refine XS.aloadN X0.here hx rfl (hb hby d9_13) rfl rfl ?_
    show Steps p.tables e below (s₁.setTop (mkF m 14 #[.val (.ref a1), .val (.ref a2), .val (.ref a3), .val (.int p4)] [(.ref a2), (.int p4), (.ref a3)])) _
    refine st30 _ ?_
    show Steps p.tables e below (T30.setTop (mkF m 15 #[.val (.ref a1), .val (.ref a2), .val (.ref a3), .val (.int p4)] [])) _
    refine XS.aloadN X30.here hx rfl (hb hby d9_15) rfl rfl ?_
    show Steps p.tables e below (T30.setTop (mkF m 16 #[.val (.ref a1), .val (.ref a2), .val (.ref a3), .val (.int p4)] [(.ref a1)])) _
    refine XS.iloadN X30.here hx rfl (hb hby d9_16) rfl ?_
    show Steps p.tables e below (T30.setTop (mkF m 17 #[.val (.ref a1), .val (.ref a2), .val (.ref a3), .val (.int p4)] [(.int p4), (.ref a1)])) _
    refine XS.iconst X30.here hx rfl (hb hby d9_17) ?_
    show Steps p.tables e below (T30.setTop (mkF m 18 #[.val (.ref a1), .val (.ref a2), .val (.ref a3), .val (.int p4)] [(.int (1 : Int32)), (.int p4), (.ref a1)])) _
    refine XS.iadd X30.here hx rfl (hb hby d9_18) rfl ?_
    show Steps p.tables e below (T30.setTop (mkF m 19 #[.val (.ref a1), .val (.ref a2), .val (.ref a3), .val (.int p4)] [(.int (p4 + (1 : Int32))), (.ref a1)])) _
    refine st31 _ ?_
    show Steps p.tables e below (T31.setTop (mkF m 22 #[.val (.ref a1), .val (.ref a2), .val (.ref a3), .val (.int p4)] [])) _
    exact X31.returnOut hx Bd.returns (hb hby d9_22) hr
  · show QA3n Z a1 a2 a3 p4 w2 w3 kb f h0 n0 _ T31.heap _
    rw [e31]
    exact ⟨rfl, N31, Kp, F_elementData_a1, F_size_a1, F_modCount_a1, A_a3⟩
def QA1n (Z : State) (a1 : Addr) (a2 : Addr) (b : Addr) (w2 : Int32) (w3 : Int32) (kb : ClassId) (f : Nat → Value) (h0 : Heap) (n0 : Nat) (v : Option Value) (h : Heap) (L : List Loc) : Prop := v = some (.int (1 : Int32)) ∧ Fr n0 L ∧ (Keep h0 h [a1, b]) ∧ (Fld Z h a1 "java/util/ArrayList" "elementData" "[Ljava/lang/Object;" (.ref b)) ∧ (Fld Z h a1 "java/util/ArrayList" "size" "I" (.int (w2 + (1 : Int32)))) ∧ (Fld Z h a1 "java/util/AbstractList" "modCount" "I" (.int (w3 + (1 : Int32)))) ∧ (ArR Z h b kb "java/lang/Object" (4 : Int32) (upd f w2.toNatClampNeg (.ref a2)))
theorem ef_A1n (m : MethodId) (a1 : Addr) (a2 : Addr) : entryFrame m #[(.ref a1), (.ref a2)] 2 = mkF m 0 #[.val (.ref a1), .val (.ref a2)] [] := by first | (simp [entryFrame, mkF, argsToLocals, Value.category]; done) | rfl
set_option maxRecDepth 65536 in
set_option maxHeartbeats 40000000 in
theorem rmA1n (l : Launch) (Z : State) (a0 : Array Value) (hw : ∀ d ∈ tables_1, d.before a0 Z = true) (ws : List Jvm.Cond) (a1 : Addr) (a2 : Addr) (b : Addr) (w2 : Int32) (w3 : Int32) (kb : ClassId) (f : Nat → Value) (h0 : Heap) (n0 : Nat) (Zs : n0 ≤ h0.size) (E_a1 : Exa Z h0 a1 "java/util/ArrayList") (E_a2 : Exa Z h0 a2 "java/util/ArrayList") (F_elementData_a1 : Fld Z h0 a1 "java/util/ArrayList" "elementData" "[Ljava/lang/Object;" (.ref b)) (F_size_a1 : Fld Z h0 a1 "java/util/ArrayList" "size" "I" (.int w2)) (F_modCount_a1 : Fld Z h0 a1 "java/util/AbstractList" "modCount" "I" (.int w3)) (g_a1 : n0 ≤ a1) (g_b : n0 ≤ b) (A_b : ArR Z h0 b kb "java/lang/Object" (4 : Int32) f) (ne_a1_b : a1 ≠ b) (hl : ¬ w2 = (4 : Int32)) (hi : ¬ w2 < (0 : Int32) ∧ w2 < (4 : Int32)) :
    MetFree l (⟨"java/util/ArrayList", "add", "(Ljava/lang/Object;)Z"⟩ : MethodName) (head1 (Jvm.Cond.code (⟨"java/util/ArrayList", "add", "(Ljava/lang/Object;)Z"⟩ : MethodName) jdk_38_method_25_code 2 (some .boolean) :: ws) ({ frames := 1, cells := 0, slots := 0, locals := 15 } : Room)) (fun a U => a = #[(.ref a1), (.ref a2)] ∧ Z.Warmed39 U.vm ∧ U.heap = h0) (fun _ _ _ _ _ => True) (fun _ U o U' => ∃ v L, o = .returned v ∧ QA1n Z a1 a2 b w2 w3 kb f h0 n0 v U'.heap L ∧ FrameEnd U o U' L ({ frames := 1, cells := 0, slots := 0, locals := 15 } : Room).cells ({ frames := 1, cells := 0, slots := 0, locals := 15 } : Room).slots) := by
  refine MetFree.of_bodySF (plainFor_of_name pn_2) hisR ?_
  intro p e s m args below meth c s₁ Bd hml0 hP hK
  obtain ⟨rfl, hZ, hh⟩ := hP
  have hx := Bd.exec
  have hby := Bd.bytes
  have hml : c.maxLocals = 2 := hml0
  have hown : s.vm.findClass "java/util/ArrayList" = some m.cls := findClass_of_methodNamed Bd.named
  have hnm := (name_of_methodNamed Bd.named Bd.method).1
  have X0 : Stand p l e ({ frames := 1, cells := 0, slots := 0, locals := 15 } : Room) s m #[(.ref a1), (.ref a2)] below meth c s₁ [] 0 0 := Stand.of_body Bd
  have e0 : s₁.heap = h0 := by rw [← hh, Bd.state]; rfl
  have N0 := Fr.nil n0
  have pre0 : ∀ t, Steps p.tables e below (s₁.setTop (mkF m 0 #[.val (.ref a1), .val (.ref a2)] [])) t → Steps p.tables e below (s₁.setTop (entryFrame m #[(.ref a1), (.ref a2)] 2)) t := fun t k => castTop (ef_A1n m a1 a2) k
  have Kp : Keep h0 h0 [a1, b] := Keep.refl h0 [a1, b]
  obtain ⟨T32, X32, e32, st32⟩ := getF X0 hx hZ hown (host := "") (Or.inl (hw _ (List.mem_of_getElem? (i := 61) rfl))) (Via.of (hw _ (List.mem_of_getElem? (i := 62) rfl))) e0 F_modCount_a1 (g := (mkF m 2 #[.val (.ref a1), .val (.ref a2)] [(.ref a1), (.ref a1)])) rfl rfl (hb hby d8_2)
  obtain ⟨T33, h33, X33, e33, W33, st33⟩ := putF X32 hx hZ hown (host := "") (Or.inl (hw _ (List.mem_of_getElem? (i := 61) rfl))) (Via.of (hw _ (List.mem_of_getElem? (i := 62) rfl))) e32 F_modCount_a1 E_a1 (Or.inl (hw _ (List.mem_of_getElem? (i := 36) rfl))) (hw _ (List.mem_of_getElem? (i := 17) rfl)) (ty := .int) (by decide) rfl rfl (g := (mkF m 7 #[.val (.ref a1), .val (.ref a2)] [(.int (w3 + (1 : Int32))), (.ref a1)])) rfl rfl (hb hby d8_7)
  have N33 := Fr.snoc X33 N0 g_a1
  have Zs : n0 ≤ h33.size := Nat.le_trans Zs (Keep.of_wr W33).1
  have E_a1 : Exa Z h33 a1 "java/util/ArrayList" := E_a1.wr W33
  have E_a2 : Exa Z h33 a2 "java/util/ArrayList" := E_a2.wr W33
  have F_elementData_a1 : Fld Z h33 a1 "java/util/ArrayList" "elementData" "[Ljava/lang/Object;" (.ref b) := F_elementData_a1.other W33 (Or.inr (slot_ne (Or.inl (hw _ (List.mem_of_getElem? (i := 40) rfl))) (Or.inl (hw _ (List.mem_of_getElem? (i := 36) rfl))) (by decide) (t := (.array (.object "java/lang/Object"))) (t' := .int) (by decide) (by decide)))
  have F_size_a1 : Fld Z h33 a1 "java/util/ArrayList" "size" "I" (.int w2) := F_size_a1.other W33 (Or.inr (slot_ne (Or.inl (hw _ (List.mem_of_getElem? (i := 64) rfl))) (Or.inl (hw _ (List.mem_of_getElem? (i := 36) rfl))) (by decide) (t := .int) (t' := .int) (by decide) (by decide)))
  have F_modCount_a1 : Fld Z h33 a1 "java/util/AbstractList" "modCount" "I" (.int (w3 + (1 : Int32))) := F_modCount_a1.same W33
  have A_b : ArR Z h33 b kb "java/lang/Object" (4 : Int32) f := A_b.other W33 (Ne.symm ne_a1_b)
  have Kp : Keep h0 h33 [a1, b] := Kp.wr W33 (Or.inl (List.mem_of_getElem? (i := 0) rfl))
  obtain ⟨T34, X34, e34, st34⟩ := getF X33 hx hZ hown (host := "") (Or.inl (hw _ (List.mem_of_getElem? (i := 39) rfl))) Via.refl e33 F_elementData_a1 (g := (mkF m 13 #[.val (.ref a1), .val (.ref a2)] [(.ref a1), (.ref a2), (.ref a1)])) rfl rfl (hb hby d8_13)
  obtain ⟨T35, X35, e35, st35⟩ := getF X34 hx hZ hown (host := "") (Or.inl (hw _ (List.mem_of_getElem? (i := 63) rfl))) Via.refl e34 F_size_a1 (g := (mkF m 17 #[.val (.ref a1), .val (.ref a2)] [(.ref a1), (.ref b), (.ref a2), (.ref a1)])) rfl rfl (hb hby d8_17)
  obtain ⟨cq36, q36, q36'⟩ := E_a1.cell
  obtain ⟨_, _, ⟨T36, L36, k36, n36⟩, -, X36, ⟨Lc36, hQ36, l36, y36, z36⟩, st36⟩ := X35.privateBack hx (y := (⟨"java/util/ArrayList", "add", "(Ljava/lang/Object;[Ljava/lang/Object;I)V"⟩ : MethodName)) hown (mvT hZ (hw _ (List.mem_of_getElem? (i := 65) rfl))) (mvT hZ (hw _ (List.mem_of_getElem? (i := 66) rfl))) (mvT hZ (hw _ (List.mem_of_getElem? (i := 68) rfl))) (Cond.privateMethod_at (mvP hZ (hw _ (List.mem_of_getElem? (i := 67) rfl)) (args := #[]))) (mvT hZ (hw _ (List.mem_of_getElem? (i := 69) rfl))) (by decide) (backOf (W := 0) (rmA3n l Z a0 hw [] a1 a2 b w2 w2 (w3 + (1 : Int32)) kb f h33 n0 Zs E_a1 E_a2 F_elementData_a1 F_size_a1 F_modCount_a1 g_a1 g_b A_b ne_a1_b hl hi) hZ (hw _ (List.mem_of_getElem? (i := 69) rfl)) (hw _ (List.mem_of_getElem? (i := 18) rfl)) (by decide) (by decide)) (g := (mkF m 20 #[.val (.ref a1), .val (.ref a2)] [(.int w2), (.ref b), (.ref a2), (.ref a1)])) rfl (by rw [hml]; rfl) (Steps.refl _) (a := a1) (by rw [e35]; exact q36) q36' (argsL := [(.ref a2), (.ref b), (.int w2)]) (rest := []) (lenOf pd_3 rfl) rfl (by show 2 * 0 + _ ≤ _; exact Nat.le_of_eq rfl) (hb hby d8_20) (fun _ _ => ⟨rfl, e35, (by decide : 0 + 0 ≤ _), (by decide : 0 + 0 ≤ _)⟩)
  dsimp only [Pt.U, Pt.locs, Pt.cells, Pt.slots] at X36 l36 y36 z36 st36 hQ36
  subst l36 y36 z36
  obtain ⟨rfl, N36q, K36, P36_1, P36_2, P36_3, P36_4⟩ := hQ36
  have Zs : n0 ≤ T36.heap.size := Nat.le_trans Zs K36.1
  have E_a1 : Exa Z T36.heap a1 "java/util/ArrayList" := E_a1.keep K36
  have E_a2 : Exa Z T36.heap a2 "java/util/ArrayList" := E_a2.keep K36
  have Kp : Keep h0 T36.heap [a1, b] := Kp.trans K36 (allS (Or.inl (List.mem_of_getElem? (i := 0) rfl)) (allS (Or.inl (List.mem_of_getElem? (i := 1) rfl)) all0))
  have F_elementData_a1 : Fld Z T36.heap a1 "java/util/ArrayList" "elementData" "[Ljava/lang/Object;" (.ref b) := P36_1
  have F_size_a1 : Fld Z T36.heap a1 "java/util/ArrayList" "size" "I" (.int (w2 + (1 : Int32))) := P36_2
  have F_modCount_a1 : Fld Z T36.heap a1 "java/util/AbstractList" "modCount" "I" (.int (w3 + (1 : Int32))) := P36_3
  have A_b : ArR Z T36.heap b kb "java/lang/Object" (4 : Int32) (upd f w2.toNatClampNeg (.ref a2)) := P36_4
  have N36 := Fr.app N33 N36q
  obtain ⟨fs, hr, hrun, hended, hW, hsame⟩ := X36.leave (v := some (.int (1 : Int32))) (fun h => by rw [Bd.returns] at h; cases h)
  refine ⟨_, _, pre0 _ ?_, hrun, hended, _, _, rfl, ?_, ⟨_, rfl⟩, hW, hsame.mono (by decide) (by decide)⟩
  · show Steps p.tables e below (s₁.setTop (mkF m 0 #[.val (.ref a1), .val (.ref a2)] [])) _
    refine XS.aloadN X0.here hx rfl (hb hby d8_0) rfl rfl ?_
    show Steps p.tables e below (s₁.setTop (mkF m 1 #[.val (.ref a1), .val (.ref a2)] [(.ref a1)])) _
    refine XS.dup X0.here hx rfl (hb hby d8_1) rfl rfl ?_
    show Steps p.tables e below (s₁.setTop (mkF m 2 #[.val (.ref a1), .val (.ref a2)] [(.ref a1), (.ref a1)])) _
    refine st32 _ ?_
    show Steps p.tables e below (T32.setTop (mkF m 5 #[.val (.ref a1), .val (.ref a2)] [(.int w3), (.ref a1)])) _
    refine XS.iconst X32.here hx rfl (hb hby d8_5) ?_
    show Steps p.tables e below (T32.setTop (mkF m 6 #[.val (.ref a1), .val (.ref a2)] [(.int (1 : Int32)), (.int w3), (.ref a1)])) _
    refine XS.iadd X32.here hx rfl (hb hby d8_6) rfl ?_
    show Steps p.tables e below (T32.setTop (mkF m 7 #[.val (.ref a1), .val (.ref a2)] [(.int (w3 + (1 : Int32))), (.ref a1)])) _
    refine st33 _ ?_
    show Steps p.tables e below (T33.setTop (mkF m 10 #[.val (.ref a1), .val (.ref a2)] [])) _
    refine XS.aloadN X33.here hx rfl (hb hby d8_10) rfl rfl ?_
    show Steps p.tables e below (T33.setTop (mkF m 11 #[.val (.ref a1), .val (.ref a2)] [(.ref a1)])) _
    refine XS.aloadN X33.here hx rfl (hb hby d8_11) rfl rfl ?_
    show Steps p.tables e below (T33.setTop (mkF m 12 #[.val (.ref a1), .val (.ref a2)] [(.ref a2), (.ref a1)])) _
    refine XS.aloadN X33.here hx rfl (hb hby d8_12) rfl rfl ?_
    show Steps p.tables e below (T33.setTop (mkF m 13 #[.val (.ref a1), .val (.ref a2)] [(.ref a1), (.ref a2), (.ref a1)])) _
    refine st34 _ ?_
    show Steps p.tables e below (T34.setTop (mkF m 16 #[.val (.ref a1), .val (.ref a2)] [(.ref b), (.ref a2), (.ref a1)])) _
    refine XS.aloadN X34.here hx rfl (hb hby d8_16) rfl rfl ?_
    show Steps p.tables e below (T34.setTop (mkF m 17 #[.val (.ref a1), .val (.ref a2)] [(.ref a1), (.ref b), (.ref a2), (.ref a1)])) _
    refine st35 _ ?_
    show Steps p.tables e below (T35.setTop (mkF m 20 #[.val (.ref a1), .val (.ref a2)] [(.int w2), (.ref b), (.ref a2), (.ref a1)])) _
    refine st36.trans ?_
    show Steps p.tables e below (T36.setTop (mkF m 23 #[.val (.ref a1), .val (.ref a2)] [])) _
    refine XS.iconst X36.here hx rfl (hb hby d8_23) ?_
    show Steps p.tables e below (T36.setTop (mkF m 24 #[.val (.ref a1), .val (.ref a2)] [(.int (1 : Int32))])) _
    exact retN X36 hx (t := .boolean) Bd.returns (by simp) (hb hby d8_24) hr
  · show QA1n Z a1 a2 b w2 w3 kb f h0 n0 _ T36.heap _
    exact ⟨rfl, N36, Kp, F_elementData_a1, F_size_a1, F_modCount_a1, A_b⟩
def QA3g (Z : State) (a1 : Addr) (a2 : Addr) (dd : Addr) (w3 : Int32) (h0 : Heap) (n0 : Nat) (v : Option Value) (h : Heap) (L : List Loc) : Prop := ∃ b : Addr, ∃ kb : ClassId, v = none ∧ Fr n0 L ∧ (Keep h0 h [a1]) ∧ (h0.size ≤ b) ∧ (n0 ≤ b) ∧ (Fld Z h a1 "java/util/ArrayList" "elementData" "[Ljava/lang/Object;" (.ref b)) ∧ (Fld Z h a1 "java/util/ArrayList" "size" "I" (.int (1 : Int32))) ∧ (Fld Z h a1 "java/util/AbstractList" "modCount" "I" (.int w3)) ∧ (ArR Z h b kb "java/lang/Object" (10 : Int32) (upd (fun _ => .null) (0 : Int32).toNatClampNeg (.ref a2)))
theorem ef_A3g (m : MethodId) (a1 : Addr) (a2 : Addr) (dd : Addr) : entryFrame m #[(.ref a1), (.ref a2), (.ref dd), (.int (0 : Int32))] 4 = mkF m 0 #[.val (.ref a1), .val (.ref a2), .val (.ref dd), .val (.int (0 : Int32))] [] := by first | (simp [entryFrame, mkF, argsToLocals, Value.category]; done) | rfl
set_option maxRecDepth 65536 in
set_option maxHeartbeats 40000000 in
theorem rmA3g (l : Launch) (Z : State) (a0 : Array Value) (hw : ∀ d ∈ tables_1, d.before a0 Z = true) (ws : List Jvm.Cond) (a1 : Addr) (a2 : Addr) (dd : Addr) (w3 : Int32) (h0 : Heap) (n0 : Nat) (Zs : n0 ≤ h0.size) (E_a1 : Exa Z h0 a1 "java/util/ArrayList") (E_a2 : Exa Z h0 a2 "[I") (F_elementData_a1 : Fld Z h0 a1 "java/util/ArrayList" "elementData" "[Ljava/lang/Object;" (.ref dd)) (F_size_a1 : Fld Z h0 a1 "java/util/ArrayList" "size" "I" (.int (0 : Int32))) (F_modCount_a1 : Fld Z h0 a1 "java/util/AbstractList" "modCount" "I" (.int w3)) (g_a1 : n0 ≤ a1) (Ol : Old Z n0 h0) (S_DEFAULTCAPACITY_EMPTY_ELEMENTDATA : Sta Z Z.heap "java/util/ArrayList" "DEFAULTCAPACITY_EMPTY_ELEMENTDATA" "[Ljava/lang/Object;" (.ref dd)) (A_dd : ArZ Z Z.heap dd) :
    MetFree l (⟨"java/util/ArrayList", "add", "(Ljava/lang/Object;[Ljava/lang/Object;I)V"⟩ : MethodName) (head1 (Jvm.Cond.code (⟨"java/util/ArrayList", "add", "(Ljava/lang/Object;[Ljava/lang/Object;I)V"⟩ : MethodName) jdk_38_method_24_code 4 none :: ws) ({ frames := 3, cells := 1, slots := 10, locals := 41 } : Room)) (fun a U => a = #[(.ref a1), (.ref a2), (.ref dd), (.int (0 : Int32))] ∧ Z.Warmed39 U.vm ∧ U.heap = h0) (fun _ _ _ _ _ => True) (fun _ U o U' => ∃ v L, o = .returned v ∧ QA3g Z a1 a2 dd w3 h0 n0 v U'.heap L ∧ FrameEnd U o U' L ({ frames := 3, cells := 1, slots := 10, locals := 41 } : Room).cells ({ frames := 3, cells := 1, slots := 10, locals := 41 } : Room).slots) := by
  refine MetFree.of_bodySF (plainFor_of_name pn_2) hisR ?_
  intro p e s m args below meth c s₁ Bd hml0 hP hK
  obtain ⟨rfl, hZ, hh⟩ := hP
  have hx := Bd.exec
  have hby := Bd.bytes
  have hml : c.maxLocals = 4 := hml0
  have hown : s.vm.findClass "java/util/ArrayList" = some m.cls := findClass_of_methodNamed Bd.named
  have hnm := (name_of_methodNamed Bd.named Bd.method).1
  have X0 : Stand p l e ({ frames := 3, cells := 1, slots := 10, locals := 41 } : Room) s m #[(.ref a1), (.ref a2), (.ref dd), (.int (0 : Int32))] below meth c s₁ [] 0 0 := Stand.of_body Bd
  have e0 : s₁.heap = h0 := by rw [← hh, Bd.state]; rfl
  have N0 := Fr.nil n0
  have pre0 : ∀ t, Steps p.tables e below (s₁.setTop (mkF m 0 #[.val (.ref a1), .val (.ref a2), .val (.ref dd), .val (.int (0 : Int32))] [])) t → Steps p.tables e below (s₁.setTop (entryFrame m #[(.ref a1), (.ref a2), (.ref dd), (.int (0 : Int32))] 4)) t := fun t k => castTop (ef_A3g m a1 a2 dd) k
  have Kp : Keep h0 h0 [a1] := Keep.refl h0 [a1]
  obtain ⟨cl37, Ar37, hl37⟩ := ArZ.len (A_dd.ext Ol.2) (by decide)
  obtain ⟨cq38, q38, q38'⟩ := E_a1.cell
  obtain ⟨_, _, ⟨T38, L38, k38, n38⟩, -, X38, ⟨Lc38, hQ38, l38, y38, z38⟩, st38⟩ := X0.privateBack hx (y := (⟨"java/util/ArrayList", "grow", "()[Ljava/lang/Object;"⟩ : MethodName)) hown (mvT hZ (hw _ (List.mem_of_getElem? (i := 105) rfl))) (mvT hZ (hw _ (List.mem_of_getElem? (i := 106) rfl))) (mvT hZ (hw _ (List.mem_of_getElem? (i := 108) rfl))) (Cond.privateMethod_at (mvP hZ (hw _ (List.mem_of_getElem? (i := 107) rfl)) (args := #[]))) (mvT hZ (hw _ (List.mem_of_getElem? (i := 109) rfl))) (by decide) (backOf (W := 0) (rmGR l Z a0 hw [] a1 w3 dd h0 n0 Zs E_a1 F_elementData_a1 F_size_a1 F_modCount_a1 g_a1 Ol S_DEFAULTCAPACITY_EMPTY_ELEMENTDATA A_dd) hZ (hw _ (List.mem_of_getElem? (i := 109) rfl)) (hw _ (List.mem_of_getElem? (i := 18) rfl)) (by decide) (by decide)) (g := (mkF m 7 #[.val (.ref a1), .val (.ref a2), .val (.ref dd), .val (.int (0 : Int32))] [(.ref a1)])) rfl (by rw [hml]; rfl) (Steps.refl _) (a := a1) (by rw [e0]; exact q38) q38' (argsL := []) (rest := []) (lenOf pd_4 rfl) rfl (by show 2 * 0 + _ ≤ _; exact Nat.le_of_eq rfl) (hb hby d9_7) (fun _ _ => ⟨rfl, e0, (by decide : 0 + 1 ≤ _), (by decide : 0 + 10 ≤ _)⟩)
  dsimp only [Pt.U, Pt.locs, Pt.cells, Pt.slots] at X38 l38 y38 z38 st38 hQ38
  subst l38 y38 z38
  obtain ⟨b_38, kb_38, rfl, N38q, K38, szc_b_38, g_b_38, P38_3, P38_4, P38_5, P38_6⟩ := hQ38
  have sz_b_38 : h0.size ≤ b_38 := Nat.le_trans Kp.1 szc_b_38
  have ne_a1_b_38 : a1 ≠ b_38 := Nat.ne_of_lt (Nat.lt_of_lt_of_le E_a1.lt szc_b_38)
  have ne_a2_b_38 : a2 ≠ b_38 := Nat.ne_of_lt (Nat.lt_of_lt_of_le E_a2.lt szc_b_38)
  have Zs : n0 ≤ T38.heap.size := Nat.le_trans Zs K38.1
  have E_a1 : Exa Z T38.heap a1 "java/util/ArrayList" := E_a1.keep K38
  have E_a2 : Exa Z T38.heap a2 "[I" := E_a2.keep K38
  have Ol : Old Z n0 T38.heap := Ol.keep K38 (allS g_a1 all0)
  have Kp : Keep h0 T38.heap [a1] := Kp.trans K38 (allS (Or.inl (List.mem_of_getElem? (i := 0) rfl)) all0)
  have F_elementData_a1 : Fld Z T38.heap a1 "java/util/ArrayList" "elementData" "[Ljava/lang/Object;" (.ref b_38) := P38_3
  have F_size_a1 : Fld Z T38.heap a1 "java/util/ArrayList" "size" "I" (.int (0 : Int32)) := P38_4
  have F_modCount_a1 : Fld Z T38.heap a1 "java/util/AbstractList" "modCount" "I" (.int w3) := P38_5
  have A_b_38 : ArR Z T38.heap b_38 kb_38 "java/lang/Object" (10 : Int32) (fun _ => .null) := P38_6
  have N38 := Fr.app N0 N38q
  obtain ⟨cl39, Ar39, hs39, hin39, hat39, -⟩ := ArR.open (j := (0 : Int32)) A_b_38 (by decide)
  obtain ⟨T40, h40, X40, e40, W40, st40⟩ := stR X38 hx hZ rfl Ar39 (j := (0 : Int32)) hin39 rfl (ArR.sto A_b_38 (Ins.of_exa E_a2 (hw _ (List.mem_of_getElem? (i := 119) rfl)))) (g := (mkF m 14 #[.val (.ref a1), .val (.ref a2), .val (.ref b_38), .val (.int (0 : Int32))] [(.ref a2), (.int (0 : Int32)), (.ref b_38)])) rfl rfl (hb hby d9_14)
  have N40 := Fr.snoc X40 N38 g_b_38
  have Zs : n0 ≤ h40.size := Nat.le_trans Zs (Keep.of_wr W40).1
  have E_a1 : Exa Z h40 a1 "java/util/ArrayList" := E_a1.wr W40
  have E_a2 : Exa Z h40 a2 "[I" := E_a2.wr W40
  have Ol : Old Z n0 h40 := Ol.wr W40 g_b_38
  have Kp : Keep h0 h40 [a1] := Kp.wr W40 (Or.inr sz_b_38)
  have F_elementData_a1 : Fld Z h40 a1 "java/util/ArrayList" "elementData" "[Ljava/lang/Object;" (.ref b_38) := F_elementData_a1.other W40 (Or.inl ne_a1_b_38)
  have F_size_a1 : Fld Z h40 a1 "java/util/ArrayList" "size" "I" (.int (0 : Int32)) := F_size_a1.other W40 (Or.inl ne_a1_b_38)
  have F_modCount_a1 : Fld Z h40 a1 "java/util/AbstractList" "modCount" "I" (.int w3) := F_modCount_a1.other W40 (Or.inl ne_a1_b_38)
  have A_b_38 : ArR Z h40 b_38 kb_38 "java/lang/Object" (10 : Int32) (upd (fun _ => .null) (0 : Int32).toNatClampNeg (.ref a2)) := ArR.set A_b_38 W40
  obtain ⟨T41, h41, X41, e41, W41, st41⟩ := putF X40 hx hZ hown (host := "") (Or.inl (hw _ (List.mem_of_getElem? (i := 63) rfl))) Via.refl e40 F_size_a1 E_a1 (Or.inl (hw _ (List.mem_of_getElem? (i := 64) rfl))) (hw _ (List.mem_of_getElem? (i := 17) rfl)) (ty := .int) (by decide) rfl rfl (g := (mkF m 19 #[.val (.ref a1), .val (.ref a2), .val (.ref b_38), .val (.int (0 : Int32))] [(.int (1 : Int32)), (.ref a1)])) rfl rfl (hb hby d9_19)
  have N41 := Fr.snoc X41 N40 g_a1
  have Zs : n0 ≤ h41.size := Nat.le_trans Zs (Keep.of_wr W41).1
  have E_a1 : Exa Z h41 a1 "java/util/ArrayList" := E_a1.wr W41
  have E_a2 : Exa Z h41 a2 "[I" := E_a2.wr W41
  have Ol : Old Z n0 h41 := Ol.wr W41 g_a1
  have Kp : Keep h0 h41 [a1] := Kp.wr W41 (Or.inl (List.mem_of_getElem? (i := 0) rfl))
  have F_elementData_a1 : Fld Z h41 a1 "java/util/ArrayList" "elementData" "[Ljava/lang/Object;" (.ref b_38) := F_elementData_a1.other W41 (Or.inr (slot_ne (Or.inl (hw _ (List.mem_of_getElem? (i := 40) rfl))) (Or.inl (hw _ (List.mem_of_getElem? (i := 64) rfl))) (by decide) (t := (.array (.object "java/lang/Object"))) (t' := .int) (by decide) (by decide)))
  have F_size_a1 : Fld Z h41 a1 "java/util/ArrayList" "size" "I" (.int (1 : Int32)) := F_size_a1.same W41
  have F_modCount_a1 : Fld Z h41 a1 "java/util/AbstractList" "modCount" "I" (.int w3) := F_modCount_a1.other W41 (Or.inr (slot_ne (Or.inl (hw _ (List.mem_of_getElem? (i := 36) rfl))) (Or.inl (hw _ (List.mem_of_getElem? (i := 64) rfl))) (by decide) (t := .int) (t' := .int) (by decide) (by decide)))
  have A_b_38 : ArR Z h41 b_38 kb_38 "java/lang/Object" (10 : Int32) (upd (fun _ => .null) (0 : Int32).toNatClampNeg (.ref a2)) := A_b_38.other W41 (Ne.symm ne_a1_b_38)
  obtain ⟨fs, hr, hrun, hended, hW, hsame⟩ := X41.leave (v := none) (fun _ => rfl)
  refine ⟨_, _, pre0 _ ?_, hrun, hended, _, _, rfl, ?_, ⟨_, rfl⟩, hW, hsame.mono (by decide) (by decide)⟩
  · show Steps p.tables e below (s₁.setTop (mkF m 0 #[.val (.ref a1), .val (.ref a2), .val (.ref dd), .val (.int (0 : Int32))] [])) _
    refine XS.iloadN X0.here hx rfl (hb hby d9_0) rfl ?_
    show Steps p.tables e below (s₁.setTop (mkF m 1 #[.val (.ref a1), .val (.ref a2), .val (.ref dd), .val (.int (0 : Int32))] [(.int (0 : Int32))])) _
    refine XS.aloadN X0.here hx rfl (hb hby d9_1) rfl rfl ?_
    show Steps p.tables e below (s₁.setTop (mkF m 2 #[.val (.ref a1), .val (.ref a2), .val (.ref dd), .val (.int (0 : Int32))] [(.ref dd), (.int (0 : Int32))])) _
    refine X0.arraylength hx (by rw [e0]; exact Ar37.1) (State.isArrayOf_alike hZ.alike Ar37.2.1) (g := (mkF m 2 #[.val (.ref a1), .val (.ref a2), .val (.ref dd), .val (.int (0 : Int32))] [(.ref dd), (.int (0 : Int32))])) rfl rfl (hb hby d9_2) _ ?_
    rw [hl37]
    show Steps p.tables e below (s₁.setTop (mkF m 3 #[.val (.ref a1), .val (.ref a2), .val (.ref dd), .val (.int (0 : Int32))] [(.int (0 : Int32)), (.int (0 : Int32))])) _
    refine XS.icmpNo X0.here hx rfl (hb hby d9_3) rfl (teq (by decide)).2 ?_
    show Steps p.tables e below (s₁.setTop (mkF m 6 #[.val (.ref a1), .val (.ref a2), .val (.ref dd), .val (.int (0 : Int32))] [])) _
    refine XS.aloadN X0.here hx rfl (hb hby d9_6) rfl rfl ?_
    show Steps p.tables e below (s₁.setTop (mkF m 7 #[.val (.ref a1), .val (.ref a2), .val (.ref dd), .val (.int (0 : Int32))] [(.ref a1)])) _
    refine st38.trans ?_
    show Steps p.tables e below (T38.setTop (mkF m 10 #[.val (.ref a1), .val (.ref a2), .val (.ref dd), .val (.int (0 : Int32))] [(.ref b_38)])) _
    refine XS.astoreN X38.here hx rfl (hb hby d9_10) rfl rfl (l' := #[.val (.ref a1), .val (.ref a2), .val (.ref b_38), .val (.int (0 : Int32))]) rfl ?_
    show Steps p.tables e below (T38.setTop (mkF m 11 #[.val (.ref a1), .val (.ref a2), .val (.ref b_38), .val (.int (0 : Int32))] [])) _
    refine XS.aloadN X38.here hx rfl (hb hby d9_11) rfl rfl ?_
    show Steps p.tables e below (T38.setTop (mkF m 12 #[.val (.ref a1), .val (.ref a2), .val (.ref b_38), .val (.int (0 : Int32))] [(.ref b_38)])) _
    refine XS.iloadN X38.here hx rfl (hb hby d9_12) rfl ?_
    show Steps p.tables e below (T38.setTop (mkF m 13 #[.val (.ref a1), .val (.ref a2), .val (.ref b_38), .val (.int (0 : Int32))] [(.int (0 : Int32)), (.ref b_38)])) _
    refine XS.aloadN X38.here hx rfl (hb hby d9_13) rfl rfl ?_
    show Steps p.tables e below (T38.setTop (mkF m 14 #[.val (.ref a1), .val (.ref a2), .val (.ref b_38), .val (.int (0 : Int32))] [(.ref a2), (.int (0 : Int32)), (.ref b_38)])) _
    refine st40 _ ?_
    show Steps p.tables e below (T40.setTop (mkF m 15 #[.val (.ref a1), .val (.ref a2), .val (.ref b_38), .val (.int (0 : Int32))] [])) _
    refine XS.aloadN X40.here hx rfl (hb hby d9_15) rfl rfl ?_
    show Steps p.tables e below (T40.setTop (mkF m 16 #[.val (.ref a1), .val (.ref a2), .val (.ref b_38), .val (.int (0 : Int32))] [(.ref a1)])) _
    refine XS.iloadN X40.here hx rfl (hb hby d9_16) rfl ?_
    show Steps p.tables e below (T40.setTop (mkF m 17 #[.val (.ref a1), .val (.ref a2), .val (.ref b_38), .val (.int (0 : Int32))] [(.int (0 : Int32)), (.ref a1)])) _
    refine XS.iconst X40.here hx rfl (hb hby d9_17) ?_
    show Steps p.tables e below (T40.setTop (mkF m 18 #[.val (.ref a1), .val (.ref a2), .val (.ref b_38), .val (.int (0 : Int32))] [(.int (1 : Int32)), (.int (0 : Int32)), (.ref a1)])) _
    refine XS.iadd X40.here hx rfl (hb hby d9_18) rfl ?_
    show Steps p.tables e below (T40.setTop (mkF m 19 #[.val (.ref a1), .val (.ref a2), .val (.ref b_38), .val (.int (0 : Int32))] [(.int (1 : Int32)), (.ref a1)])) _
    refine st41 _ ?_
    show Steps p.tables e below (T41.setTop (mkF m 22 #[.val (.ref a1), .val (.ref a2), .val (.ref b_38), .val (.int (0 : Int32))] [])) _
    exact X41.returnOut hx Bd.returns (hb hby d9_22) hr
  · show QA3g Z a1 a2 dd w3 h0 n0 _ T41.heap _
    rw [e41]
    exact ⟨b_38, kb_38, rfl, N41, Kp, sz_b_38, g_b_38, F_elementData_a1, F_size_a1, F_modCount_a1, A_b_38⟩
def QA1g (Z : State) (a1 : Addr) (a2 : Addr) (w3 : Int32) (dd : Addr) (h0 : Heap) (n0 : Nat) (v : Option Value) (h : Heap) (L : List Loc) : Prop := ∃ b : Addr, ∃ kb : ClassId, v = some (.int (1 : Int32)) ∧ Fr n0 L ∧ (Keep h0 h [a1]) ∧ (h0.size ≤ b) ∧ (n0 ≤ b) ∧ (Fld Z h a1 "java/util/ArrayList" "elementData" "[Ljava/lang/Object;" (.ref b)) ∧ (Fld Z h a1 "java/util/ArrayList" "size" "I" (.int (1 : Int32))) ∧ (Fld Z h a1 "java/util/AbstractList" "modCount" "I" (.int (w3 + (1 : Int32)))) ∧ (ArR Z h b kb "java/lang/Object" (10 : Int32) (upd (fun _ => .null) (0 : Int32).toNatClampNeg (.ref a2)))
theorem ef_A1g (m : MethodId) (a1 : Addr) (a2 : Addr) : entryFrame m #[(.ref a1), (.ref a2)] 2 = mkF m 0 #[.val (.ref a1), .val (.ref a2)] [] := by first | (simp [entryFrame, mkF, argsToLocals, Value.category]; done) | rfl
set_option maxRecDepth 65536 in
set_option maxHeartbeats 40000000 in
theorem rmA1g (l : Launch) (Z : State) (a0 : Array Value) (hw : ∀ d ∈ tables_1, d.before a0 Z = true) (ws : List Jvm.Cond) (a1 : Addr) (a2 : Addr) (w3 : Int32) (dd : Addr) (h0 : Heap) (n0 : Nat) (Zs : n0 ≤ h0.size) (E_a1 : Exa Z h0 a1 "java/util/ArrayList") (E_a2 : Exa Z h0 a2 "[I") (F_elementData_a1 : Fld Z h0 a1 "java/util/ArrayList" "elementData" "[Ljava/lang/Object;" (.ref dd)) (F_size_a1 : Fld Z h0 a1 "java/util/ArrayList" "size" "I" (.int (0 : Int32))) (F_modCount_a1 : Fld Z h0 a1 "java/util/AbstractList" "modCount" "I" (.int w3)) (g_a1 : n0 ≤ a1) (Ol : Old Z n0 h0) (S_DEFAULTCAPACITY_EMPTY_ELEMENTDATA : Sta Z Z.heap "java/util/ArrayList" "DEFAULTCAPACITY_EMPTY_ELEMENTDATA" "[Ljava/lang/Object;" (.ref dd)) (A_dd : ArZ Z Z.heap dd) :
    MetFree l (⟨"java/util/ArrayList", "add", "(Ljava/lang/Object;)Z"⟩ : MethodName) (head1 (Jvm.Cond.code (⟨"java/util/ArrayList", "add", "(Ljava/lang/Object;)Z"⟩ : MethodName) jdk_38_method_25_code 2 (some .boolean) :: ws) ({ frames := 4, cells := 1, slots := 10, locals := 56 } : Room)) (fun a U => a = #[(.ref a1), (.ref a2)] ∧ Z.Warmed39 U.vm ∧ U.heap = h0) (fun _ _ _ _ _ => True) (fun _ U o U' => ∃ v L, o = .returned v ∧ QA1g Z a1 a2 w3 dd h0 n0 v U'.heap L ∧ FrameEnd U o U' L ({ frames := 4, cells := 1, slots := 10, locals := 56 } : Room).cells ({ frames := 4, cells := 1, slots := 10, locals := 56 } : Room).slots) := by
  refine MetFree.of_bodySF (plainFor_of_name pn_2) hisR ?_
  intro p e s m args below meth c s₁ Bd hml0 hP hK
  obtain ⟨rfl, hZ, hh⟩ := hP
  have hx := Bd.exec
  have hby := Bd.bytes
  have hml : c.maxLocals = 2 := hml0
  have hown : s.vm.findClass "java/util/ArrayList" = some m.cls := findClass_of_methodNamed Bd.named
  have hnm := (name_of_methodNamed Bd.named Bd.method).1
  have X0 : Stand p l e ({ frames := 4, cells := 1, slots := 10, locals := 56 } : Room) s m #[(.ref a1), (.ref a2)] below meth c s₁ [] 0 0 := Stand.of_body Bd
  have e0 : s₁.heap = h0 := by rw [← hh, Bd.state]; rfl
  have N0 := Fr.nil n0
  have pre0 : ∀ t, Steps p.tables e below (s₁.setTop (mkF m 0 #[.val (.ref a1), .val (.ref a2)] [])) t → Steps p.tables e below (s₁.setTop (entryFrame m #[(.ref a1), (.ref a2)] 2)) t := fun t k => castTop (ef_A1g m a1 a2) k
  have Kp : Keep h0 h0 [a1] := Keep.refl h0 [a1]
  obtain ⟨T42, X42, e42, st42⟩ := getF X0 hx hZ hown (host := "") (Or.inl (hw _ (List.mem_of_getElem? (i := 61) rfl))) (Via.of (hw _ (List.mem_of_getElem? (i := 62) rfl))) e0 F_modCount_a1 (g := (mkF m 2 #[.val (.ref a1), .val (.ref a2)] [(.ref a1), (.ref a1)])) rfl rfl (hb hby d8_2)
  obtain ⟨T43, h43, X43, e43, W43, st43⟩ := putF X42 hx hZ hown (host := "") (Or.inl (hw _ (List.mem_of_getElem? (i := 61) rfl))) (Via.of (hw _ (List.mem_of_getElem? (i := 62) rfl))) e42 F_modCount_a1 E_a1 (Or.inl (hw _ (List.mem_of_getElem? (i := 36) rfl))) (hw _ (List.mem_of_getElem? (i := 17) rfl)) (ty := .int) (by decide) rfl rfl (g := (mkF m 7 #[.val (.ref a1), .val (.ref a2)] [(.int (w3 + (1 : Int32))), (.ref a1)])) rfl rfl (hb hby d8_7)
  have N43 := Fr.snoc X43 N0 g_a1
  have Zs : n0 ≤ h43.size := Nat.le_trans Zs (Keep.of_wr W43).1
  have E_a1 : Exa Z h43 a1 "java/util/ArrayList" := E_a1.wr W43
  have E_a2 : Exa Z h43 a2 "[I" := E_a2.wr W43
  have F_elementData_a1 : Fld Z h43 a1 "java/util/ArrayList" "elementData" "[Ljava/lang/Object;" (.ref dd) := F_elementData_a1.other W43 (Or.inr (slot_ne (Or.inl (hw _ (List.mem_of_getElem? (i := 40) rfl))) (Or.inl (hw _ (List.mem_of_getElem? (i := 36) rfl))) (by decide) (t := (.array (.object "java/lang/Object"))) (t' := .int) (by decide) (by decide)))
  have F_size_a1 : Fld Z h43 a1 "java/util/ArrayList" "size" "I" (.int (0 : Int32)) := F_size_a1.other W43 (Or.inr (slot_ne (Or.inl (hw _ (List.mem_of_getElem? (i := 64) rfl))) (Or.inl (hw _ (List.mem_of_getElem? (i := 36) rfl))) (by decide) (t := .int) (t' := .int) (by decide) (by decide)))
  have F_modCount_a1 : Fld Z h43 a1 "java/util/AbstractList" "modCount" "I" (.int (w3 + (1 : Int32))) := F_modCount_a1.same W43
  have Ol : Old Z n0 h43 := Ol.wr W43 g_a1
  have Kp : Keep h0 h43 [a1] := Kp.wr W43 (Or.inl (List.mem_of_getElem? (i := 0) rfl))
  obtain ⟨T44, X44, e44, st44⟩ := getF X43 hx hZ hown (host := "") (Or.inl (hw _ (List.mem_of_getElem? (i := 39) rfl))) Via.refl e43 F_elementData_a1 (g := (mkF m 13 #[.val (.ref a1), .val (.ref a2)] [(.ref a1), (.ref a2), (.ref a1)])) rfl rfl (hb hby d8_13)
  obtain ⟨T45, X45, e45, st45⟩ := getF X44 hx hZ hown (host := "") (Or.inl (hw _ (List.mem_of_getElem? (i := 63) rfl))) Via.refl e44 F_size_a1 (g := (mkF m 17 #[.val (.ref a1), .val (.ref a2)] [(.ref a1), (.ref dd), (.ref a2), (.ref a1)])) rfl rfl (hb hby d8_17)
  obtain ⟨cq46, q46, q46'⟩ := E_a1.cell
  obtain ⟨_, _, ⟨T46, L46, k46, n46⟩, -, X46, ⟨Lc46, hQ46, l46, y46, z46⟩, st46⟩ := X45.privateBack hx (y := (⟨"java/util/ArrayList", "add", "(Ljava/lang/Object;[Ljava/lang/Object;I)V"⟩ : MethodName)) hown (mvT hZ (hw _ (List.mem_of_getElem? (i := 65) rfl))) (mvT hZ (hw _ (List.mem_of_getElem? (i := 66) rfl))) (mvT hZ (hw _ (List.mem_of_getElem? (i := 68) rfl))) (Cond.privateMethod_at (mvP hZ (hw _ (List.mem_of_getElem? (i := 67) rfl)) (args := #[]))) (mvT hZ (hw _ (List.mem_of_getElem? (i := 69) rfl))) (by decide) (backOf (W := 0) (rmA3g l Z a0 hw [] a1 a2 dd (w3 + (1 : Int32)) h43 n0 Zs E_a1 E_a2 F_elementData_a1 F_size_a1 F_modCount_a1 g_a1 Ol S_DEFAULTCAPACITY_EMPTY_ELEMENTDATA A_dd) hZ (hw _ (List.mem_of_getElem? (i := 69) rfl)) (hw _ (List.mem_of_getElem? (i := 18) rfl)) (by decide) (by decide)) (g := (mkF m 20 #[.val (.ref a1), .val (.ref a2)] [(.int (0 : Int32)), (.ref dd), (.ref a2), (.ref a1)])) rfl (by rw [hml]; rfl) (Steps.refl _) (a := a1) (by rw [e45]; exact q46) q46' (argsL := [(.ref a2), (.ref dd), (.int (0 : Int32))]) (rest := []) (lenOf pd_3 rfl) rfl (by show 2 * 0 + _ ≤ _; exact Nat.le_of_eq rfl) (hb hby d8_20) (fun _ _ => ⟨rfl, e45, (by decide : 0 + 1 ≤ _), (by decide : 0 + 10 ≤ _)⟩)
  dsimp only [Pt.U, Pt.locs, Pt.cells, Pt.slots] at X46 l46 y46 z46 st46 hQ46
  subst l46 y46 z46
  obtain ⟨b_46, kb_46, rfl, N46q, K46, szc_b_46, g_b_46, P46_3, P46_4, P46_5, P46_6⟩ := hQ46
  have sz_b_46 : h0.size ≤ b_46 := Nat.le_trans Kp.1 szc_b_46
  have ne_a1_b_46 : a1 ≠ b_46 := Nat.ne_of_lt (Nat.lt_of_lt_of_le E_a1.lt szc_b_46)
  have ne_a2_b_46 : a2 ≠ b_46 := Nat.ne_of_lt (Nat.lt_of_lt_of_le E_a2.lt szc_b_46)
  have Zs : n0 ≤ T46.heap.size := Nat.le_trans Zs K46.1
  have E_a1 : Exa Z T46.heap a1 "java/util/ArrayList" := E_a1.keep K46
  have E_a2 : Exa Z T46.heap a2 "[I" := E_a2.keep K46
  have Ol : Old Z n0 T46.heap := Ol.keep K46 (allS g_a1 all0)
  have Kp : Keep h0 T46.heap [a1] := Kp.trans K46 (allS (Or.inl (List.mem_of_getElem? (i := 0) rfl)) all0)
  have F_elementData_a1 : Fld Z T46.heap a1 "java/util/ArrayList" "elementData" "[Ljava/lang/Object;" (.ref b_46) := P46_3
  have F_size_a1 : Fld Z T46.heap a1 "java/util/ArrayList" "size" "I" (.int (1 : Int32)) := P46_4
  have F_modCount_a1 : Fld Z T46.heap a1 "java/util/AbstractList" "modCount" "I" (.int (w3 + (1 : Int32))) := P46_5
  have A_b_46 : ArR Z T46.heap b_46 kb_46 "java/lang/Object" (10 : Int32) (upd (fun _ => .null) (0 : Int32).toNatClampNeg (.ref a2)) := P46_6
  have N46 := Fr.app N43 N46q
  obtain ⟨fs, hr, hrun, hended, hW, hsame⟩ := X46.leave (v := some (.int (1 : Int32))) (fun h => by rw [Bd.returns] at h; cases h)
  refine ⟨_, _, pre0 _ ?_, hrun, hended, _, _, rfl, ?_, ⟨_, rfl⟩, hW, hsame.mono (by decide) (by decide)⟩
  · show Steps p.tables e below (s₁.setTop (mkF m 0 #[.val (.ref a1), .val (.ref a2)] [])) _
    refine XS.aloadN X0.here hx rfl (hb hby d8_0) rfl rfl ?_
    show Steps p.tables e below (s₁.setTop (mkF m 1 #[.val (.ref a1), .val (.ref a2)] [(.ref a1)])) _
    refine XS.dup X0.here hx rfl (hb hby d8_1) rfl rfl ?_
    show Steps p.tables e below (s₁.setTop (mkF m 2 #[.val (.ref a1), .val (.ref a2)] [(.ref a1), (.ref a1)])) _
    refine st42 _ ?_
    show Steps p.tables e below (T42.setTop (mkF m 5 #[.val (.ref a1), .val (.ref a2)] [(.int w3), (.ref a1)])) _
    refine XS.iconst X42.here hx rfl (hb hby d8_5) ?_
    show Steps p.tables e below (T42.setTop (mkF m 6 #[.val (.ref a1), .val (.ref a2)] [(.int (1 : Int32)), (.int w3), (.ref a1)])) _
    refine XS.iadd X42.here hx rfl (hb hby d8_6) rfl ?_
    show Steps p.tables e below (T42.setTop (mkF m 7 #[.val (.ref a1), .val (.ref a2)] [(.int (w3 + (1 : Int32))), (.ref a1)])) _
    refine st43 _ ?_
    show Steps p.tables e below (T43.setTop (mkF m 10 #[.val (.ref a1), .val (.ref a2)] [])) _
    refine XS.aloadN X43.here hx rfl (hb hby d8_10) rfl rfl ?_
    show Steps p.tables e below (T43.setTop (mkF m 11 #[.val (.ref a1), .val (.ref a2)] [(.ref a1)])) _
    refine XS.aloadN X43.here hx rfl (hb hby d8_11) rfl rfl ?_
    show Steps p.tables e below (T43.setTop (mkF m 12 #[.val (.ref a1), .val (.ref a2)] [(.ref a2), (.ref a1)])) _
    refine XS.aloadN X43.here hx rfl (hb hby d8_12) rfl rfl ?_
    show Steps p.tables e below (T43.setTop (mkF m 13 #[.val (.ref a1), .val (.ref a2)] [(.ref a1), (.ref a2), (.ref a1)])) _
    refine st44 _ ?_
    show Steps p.tables e below (T44.setTop (mkF m 16 #[.val (.ref a1), .val (.ref a2)] [(.ref dd), (.ref a2), (.ref a1)])) _
    refine XS.aloadN X44.here hx rfl (hb hby d8_16) rfl rfl ?_
    show Steps p.tables e below (T44.setTop (mkF m 17 #[.val (.ref a1), .val (.ref a2)] [(.ref a1), (.ref dd), (.ref a2), (.ref a1)])) _
    refine st45 _ ?_
    show Steps p.tables e below (T45.setTop (mkF m 20 #[.val (.ref a1), .val (.ref a2)] [(.int (0 : Int32)), (.ref dd), (.ref a2), (.ref a1)])) _
    refine st46.trans ?_
    show Steps p.tables e below (T46.setTop (mkF m 23 #[.val (.ref a1), .val (.ref a2)] [])) _
    refine XS.iconst X46.here hx rfl (hb hby d8_23) ?_
    show Steps p.tables e below (T46.setTop (mkF m 24 #[.val (.ref a1), .val (.ref a2)] [(.int (1 : Int32))])) _
    exact retN X46 hx (t := .boolean) Bd.returns (by simp) (hb hby d8_24) hr
  · show QA1g Z a1 a2 w3 dd h0 n0 _ T46.heap _
    exact ⟨b_46, kb_46, rfl, N46, Kp, sz_b_46, g_b_46, F_elementData_a1, F_size_a1, F_modCount_a1, A_b_46⟩
def QPC (Z : State) (p1 : Int32) (p2 : Int32) (h0 : Heap) (n0 : Nat) (v : Option Value) (h : Heap) (L : List Loc) : Prop := v = some (.int (fPC p1 p2)) ∧ Fr n0 L ∧ h = h0
theorem ef_PC (m : MethodId) (p1 : Int32) (p2 : Int32) : entryFrame m #[(.int p1), (.int p2), .null] 3 = mkF m 0 #[.val (.int p1), .val (.int p2), .val .null] [] := by first | (simp [entryFrame, mkF, argsToLocals, Value.category]; done) | rfl
set_option maxRecDepth 65536 in
set_option maxHeartbeats 40000000 in
theorem rmPC (l : Launch) (Z : State) (a0 : Array Value) (hw : ∀ d ∈ tables_1, d.before a0 Z = true) (ws : List Jvm.Cond) (p1 : Int32) (p2 : Int32) (h0 : Heap) (n0 : Nat) (Zs : n0 ≤ h0.size) (hz : ¬ p1 < (0 : Int32)) (hl : p1 < p2) :
    MetFree l (⟨"jdk/internal/util/Preconditions", "checkIndex", "(IILjava/util/function/BiFunction;)I"⟩ : MethodName) (head1 (Jvm.Cond.code (⟨"jdk/internal/util/Preconditions", "checkIndex", "(IILjava/util/function/BiFunction;)I"⟩ : MethodName) jdk_41_method_11_code 3 (some .int) :: ws) ({ frames := 0, cells := 0, slots := 0, locals := 0 } : Room)) (fun a U => a = #[(.int p1), (.int p2), .null] ∧ Z.Warmed39 U.vm ∧ U.heap = h0) (fun _ _ _ _ _ => True) (fun _ U o U' => ∃ v L, o = .returned v ∧ QPC Z p1 p2 h0 n0 v U'.heap L ∧ FrameEnd U o U' L ({ frames := 0, cells := 0, slots := 0, locals := 0 } : Room).cells ({ frames := 0, cells := 0, slots := 0, locals := 0 } : Room).slots) := by
  refine MetFree.of_bodySF (plainFor_of_name pn_4) hisR ?_
  intro p e s m args below meth c s₁ Bd hml0 hP hK
  obtain ⟨rfl, hZ, hh⟩ := hP
  have hx := Bd.exec
  have hby := Bd.bytes
  have hml : c.maxLocals = 3 := hml0
  have hown : s.vm.findClass "jdk/internal/util/Preconditions" = some m.cls := findClass_of_methodNamed Bd.named
  have hnm := (name_of_methodNamed Bd.named Bd.method).1
  have X0 : Stand p l e ({ frames := 0, cells := 0, slots := 0, locals := 0 } : Room) s m #[(.int p1), (.int p2), .null] below meth c s₁ [] 0 0 := Stand.of_body Bd
  have e0 : s₁.heap = h0 := by rw [← hh, Bd.state]; rfl
  have N0 := Fr.nil n0
  have pre0 : ∀ t, Steps p.tables e below (s₁.setTop (mkF m 0 #[.val (.int p1), .val (.int p2), .val .null] [])) t → Steps p.tables e below (s₁.setTop (entryFrame m #[(.int p1), (.int p2), .null] 3)) t := fun t k => castTop (ef_PC m p1 p2) k
  obtain ⟨fs, hr, hrun, hended, hW, hsame⟩ := X0.leave (v := some (.int p1)) (fun h => by rw [Bd.returns] at h; cases h)
  refine ⟨_, _, pre0 _ ?_, hrun, hended, _, _, rfl, ?_, ⟨_, rfl⟩, hW, hsame.mono (by decide) (by decide)⟩
  · show Steps p.tables e below (s₁.setTop (mkF m 0 #[.val (.int p1), .val (.int p2), .val .null] [])) _
    refine XS.iloadN X0.here hx rfl (hb hby d14_0) rfl ?_
    show Steps p.tables e below (s₁.setTop (mkF m 1 #[.val (.int p1), .val (.int p2), .val .null] [(.int p1)])) _
    refine XS.ifNo X0.here hx rfl (hb hby d14_1) rfl ((if0 _ _).trans (flt hz).1) ?_
    show Steps p.tables e below (s₁.setTop (mkF m 4 #[.val (.int p1), .val (.int p2), .val .null] [])) _
    refine XS.iloadN X0.here hx rfl (hb hby d14_4) rfl ?_
    show Steps p.tables e below (s₁.setTop (mkF m 5 #[.val (.int p1), .val (.int p2), .val .null] [(.int p1)])) _
    refine XS.iloadN X0.here hx rfl (hb hby d14_5) rfl ?_
    show Steps p.tables e below (s₁.setTop (mkF m 6 #[.val (.int p1), .val (.int p2), .val .null] [(.int p2), (.int p1)])) _
    refine XS.icmpYes X0.here hx rfl (pc0 := 6) (pc' := 16) rfl (hb hby d14_6) rfl (tlt hl).1 (by decide) (by decide) ?_
    show Steps p.tables e below (s₁.setTop (mkF m 16 #[.val (.int p1), .val (.int p2), .val .null] [])) _
    refine XS.iloadN X0.here hx rfl (hb hby d14_16) rfl ?_
    show Steps p.tables e below (s₁.setTop (mkF m 17 #[.val (.int p1), .val (.int p2), .val .null] [(.int p1)])) _
    exact retI X0 hx Bd.returns (hb hby d14_17) hr
  · show QPC Z p1 p2 h0 n0 _ s₁.heap _
    rw [e0]
    exact ⟨congrArg some (congrArg Value.int (show p1 = (fPC p1 p2) from rfl)), N0, rfl⟩
def QCI (Z : State) (p1 : Int32) (p2 : Int32) (h0 : Heap) (n0 : Nat) (v : Option Value) (h : Heap) (L : List Loc) : Prop := v = some (.int (fCI p1 p2)) ∧ Fr n0 L ∧ h = h0
theorem ef_CI (m : MethodId) (p1 : Int32) (p2 : Int32) : entryFrame m #[(.int p1), (.int p2)] 2 = mkF m 0 #[.val (.int p1), .val (.int p2)] [] := by first | (simp [entryFrame, mkF, argsToLocals, Value.category]; done) | rfl
set_option maxRecDepth 65536 in
set_option maxHeartbeats 40000000 in
theorem rmCI (l : Launch) (Z : State) (a0 : Array Value) (hw : ∀ d ∈ tables_1, d.before a0 Z = true) (ws : List Jvm.Cond) (p1 : Int32) (p2 : Int32) (h0 : Heap) (n0 : Nat) (Zs : n0 ≤ h0.size) (hz : ¬ p1 < (0 : Int32)) (hl : p1 < p2) :
    MetFree l (⟨"java/util/Objects", "checkIndex", "(II)I"⟩ : MethodName) (head1 (Jvm.Cond.code (⟨"java/util/Objects", "checkIndex", "(II)I"⟩ : MethodName) jdk_31_method_17_code 2 (some .int) :: ws) ({ frames := 1, cells := 0, slots := 0, locals := 14 } : Room)) (fun a U => a = #[(.int p1), (.int p2)] ∧ Z.Warmed39 U.vm ∧ U.heap = h0) (fun _ _ _ _ _ => True) (fun _ U o U' => ∃ v L, o = .returned v ∧ QCI Z p1 p2 h0 n0 v U'.heap L ∧ FrameEnd U o U' L ({ frames := 1, cells := 0, slots := 0, locals := 14 } : Room).cells ({ frames := 1, cells := 0, slots := 0, locals := 14 } : Room).slots) := by
  refine MetFree.of_bodySF (plainFor_of_name pn_5) hisR ?_
  intro p e s m args below meth c s₁ Bd hml0 hP hK
  obtain ⟨rfl, hZ, hh⟩ := hP
  have hx := Bd.exec
  have hby := Bd.bytes
  have hml : c.maxLocals = 2 := hml0
  have hown : s.vm.findClass "java/util/Objects" = some m.cls := findClass_of_methodNamed Bd.named
  have hnm := (name_of_methodNamed Bd.named Bd.method).1
  have X0 : Stand p l e ({ frames := 1, cells := 0, slots := 0, locals := 14 } : Room) s m #[(.int p1), (.int p2)] below meth c s₁ [] 0 0 := Stand.of_body Bd
  have e0 : s₁.heap = h0 := by rw [← hh, Bd.state]; rfl
  have N0 := Fr.nil n0
  have pre0 : ∀ t, Steps p.tables e below (s₁.setTop (mkF m 0 #[.val (.int p1), .val (.int p2)] [])) t → Steps p.tables e below (s₁.setTop (entryFrame m #[(.int p1), (.int p2)] 2)) t := fun t k => castTop (ef_CI m p1 p2) k
  obtain ⟨_, _, ⟨T47, L47, k47, n47⟩, -, X47, ⟨Lc47, hQ47, l47, y47, z47⟩, st47⟩ := Jvm.LawKit.callS X0 hx (y := (⟨"jdk/internal/util/Preconditions", "checkIndex", "(IILjava/util/function/BiFunction;)I"⟩ : MethodName)) hown (mvT hZ (hw _ (List.mem_of_getElem? (i := 95) rfl))) (mvT hZ (hw _ (List.mem_of_getElem? (i := 96) rfl))) (mvT hZ (hw _ (List.mem_of_getElem? (i := 97) rfl))) (mvT hZ (hw _ (List.mem_of_getElem? (i := 98) rfl))) (by decide) (backOf (W := 0) (rmPC l Z a0 hw [] p1 p2 h0 n0 Zs hz hl) hZ (hw _ (List.mem_of_getElem? (i := 98) rfl)) (hw _ (List.mem_of_getElem? (i := 97) rfl)) (by decide) (by decide)) (g := (mkF m 3 #[.val (.int p1), .val (.int p2)] [.null, (.int p2), (.int p1)])) rfl (by rw [hml]; rfl) (argsL := [(.int p1), (.int p2), .null]) (rest := []) (lenOf pd_5 rfl) rfl (by show 2 * 0 + _ ≤ _; exact Nat.le_of_eq rfl) (hb hby d13_3) (fun _ _ => ⟨rfl, e0, (by decide : 0 + 0 ≤ _), (by decide : 0 + 0 ≤ _)⟩)
  dsimp only [Pt.U, Pt.locs, Pt.cells, Pt.slots] at X47 l47 y47 z47 st47 hQ47
  subst l47 y47 z47
  obtain ⟨rfl, N47q, e47⟩ := hQ47
  have N47 := Fr.app N0 N47q
  obtain ⟨fs, hr, hrun, hended, hW, hsame⟩ := X47.leave (v := some (.int (fPC p1 p2))) (fun h => by rw [Bd.returns] at h; cases h)
  refine ⟨_, _, pre0 _ ?_, hrun, hended, _, _, rfl, ?_, ⟨_, rfl⟩, hW, hsame.mono (by decide) (by decide)⟩
  · show Steps p.tables e below (s₁.setTop (mkF m 0 #[.val (.int p1), .val (.int p2)] [])) _
    refine XS.iloadN X0.here hx rfl (hb hby d13_0) rfl ?_
    show Steps p.tables e below (s₁.setTop (mkF m 1 #[.val (.int p1), .val (.int p2)] [(.int p1)])) _
    refine XS.iloadN X0.here hx rfl (hb hby d13_1) rfl ?_
    show Steps p.tables e below (s₁.setTop (mkF m 2 #[.val (.int p1), .val (.int p2)] [(.int p2), (.int p1)])) _
    refine XS.aconstNull X0.here hx rfl (hb hby d13_2) ?_
    show Steps p.tables e below (s₁.setTop (mkF m 3 #[.val (.int p1), .val (.int p2)] [.null, (.int p2), (.int p1)])) _
    refine st47 _ ?_
    show Steps p.tables e below (T47.setTop (mkF m 6 #[.val (.int p1), .val (.int p2)] [(.int (fPC p1 p2))])) _
    exact retI X47 hx Bd.returns (hb hby d13_6) hr
  · show QCI Z p1 p2 h0 n0 _ T47.heap _
    rw [e47]
    exact ⟨congrArg some (congrArg Value.int (show (fPC p1 p2) = (fCI p1 p2) from rfl)), N47, rfl⟩
def QED (Z : State) (a1 : Addr) (p2 : Int32) (b : Addr) (kb : ClassId) (n : Int32) (f : Nat → Value) (r : Addr) (h0 : Heap) (n0 : Nat) (v : Option Value) (h : Heap) (L : List Loc) : Prop := v = some (.ref r) ∧ Fr n0 L ∧ h = h0
theorem ef_ED (m : MethodId) (a1 : Addr) (p2 : Int32) : entryFrame m #[(.ref a1), (.int p2)] 2 = mkF m 0 #[.val (.ref a1), .val (.int p2)] [] := by first | (simp [entryFrame, mkF, argsToLocals, Value.category]; done) | rfl
set_option maxRecDepth 65536 in
set_option maxHeartbeats 40000000 in
theorem rmED (l : Launch) (Z : State) (a0 : Array Value) (hw : ∀ d ∈ tables_1, d.before a0 Z = true) (ws : List Jvm.Cond) (a1 : Addr) (p2 : Int32) (b : Addr) (kb : ClassId) (n : Int32) (f : Nat → Value) (r : Addr) (h0 : Heap) (n0 : Nat) (Zs : n0 ≤ h0.size) (F_elementData_a1 : Fld Z h0 a1 "java/util/ArrayList" "elementData" "[Ljava/lang/Object;" (.ref b)) (A_b : ArR Z h0 b kb "java/lang/Object" n f) (hi : ¬ p2 < (0 : Int32) ∧ p2 < n) (hv : f p2.toNatClampNeg = .ref r) :
    MetFree l (⟨"java/util/ArrayList", "elementData", "(I)Ljava/lang/Object;"⟩ : MethodName) (head1 (Jvm.Cond.code (⟨"java/util/ArrayList", "elementData", "(I)Ljava/lang/Object;"⟩ : MethodName) jdk_38_method_18_code 2 (some (.object "java/lang/Object")) :: ws) ({ frames := 0, cells := 0, slots := 0, locals := 0 } : Room)) (fun a U => a = #[(.ref a1), (.int p2)] ∧ Z.Warmed39 U.vm ∧ U.heap = h0) (fun _ _ _ _ _ => True) (fun _ U o U' => ∃ v L, o = .returned v ∧ QED Z a1 p2 b kb n f r h0 n0 v U'.heap L ∧ FrameEnd U o U' L ({ frames := 0, cells := 0, slots := 0, locals := 0 } : Room).cells ({ frames := 0, cells := 0, slots := 0, locals := 0 } : Room).slots) := by
  refine MetFree.of_bodySF (plainFor_of_name pn_2) hisR ?_
  intro p e s m args below meth c s₁ Bd hml0 hP hK
  obtain ⟨rfl, hZ, hh⟩ := hP
  have hx := Bd.exec
  have hby := Bd.bytes
  have hml : c.maxLocals = 2 := hml0
  have hown : s.vm.findClass "java/util/ArrayList" = some m.cls := findClass_of_methodNamed Bd.named
  have hnm := (name_of_methodNamed Bd.named Bd.method).1
  have X0 : Stand p l e ({ frames := 0, cells := 0, slots := 0, locals := 0 } : Room) s m #[(.ref a1), (.int p2)] below meth c s₁ [] 0 0 := Stand.of_body Bd
  have e0 : s₁.heap = h0 := by rw [← hh, Bd.state]; rfl
  have N0 := Fr.nil n0
  have pre0 : ∀ t, Steps p.tables e below (s₁.setTop (mkF m 0 #[.val (.ref a1), .val (.int p2)] [])) t → Steps p.tables e below (s₁.setTop (entryFrame m #[(.ref a1), (.int p2)] 2)) t := fun t k => castTop (ef_ED m a1 p2) k
  obtain ⟨T48, X48, e48, st48⟩ := getF X0 hx hZ hown (host := "") (Or.inl (hw _ (List.mem_of_getElem? (i := 39) rfl))) Via.refl e0 F_elementData_a1 (g := (mkF m 1 #[.val (.ref a1), .val (.int p2)] [(.ref a1)])) rfl rfl (hb hby d15_1)
  obtain ⟨cl49, Ar49, hs49, hin49, hat49, -⟩ := ArR.open (j := p2) A_b hi
  rw [hv] at hat49
  obtain ⟨fs, hr, hrun, hended, hW, hsame⟩ := X48.leave (v := some (.ref r)) (fun h => by rw [Bd.returns] at h; cases h)
  refine ⟨_, _, pre0 _ ?_, hrun, hended, _, _, rfl, ?_, ⟨_, rfl⟩, hW, hsame.mono (by decide) (by decide)⟩
  · show Steps p.tables e below (s₁.setTop (mkF m 0 #[.val (.ref a1), .val (.int p2)] [])) _
    refine XS.aloadN X0.here hx rfl (hb hby d15_0) rfl rfl ?_
    show Steps p.tables e below (s₁.setTop (mkF m 1 #[.val (.ref a1), .val (.int p2)] [(.ref a1)])) _
    refine st48 _ ?_
    show Steps p.tables e below (T48.setTop (mkF m 4 #[.val (.ref a1), .val (.int p2)] [(.ref b)])) _
    refine XS.iloadN X48.here hx rfl (hb hby d15_4) rfl ?_
    show Steps p.tables e below (T48.setTop (mkF m 5 #[.val (.ref a1), .val (.int p2)] [(.int p2), (.ref b)])) _
    refine X48.aaload hx (j := p2) (v := (.ref r)) (by rw [e48]; exact Ar49.1) (State.isArrayOf_alike hZ.alike Ar49.2.1) rfl Ar49.2.2 hin49 hat49 (g := (mkF m 5 #[.val (.ref a1), .val (.int p2)] [(.int p2), (.ref b)])) rfl rfl (hb hby d15_5) _ ?_
    show Steps p.tables e below (T48.setTop (mkF m 6 #[.val (.ref a1), .val (.int p2)] [(.ref r)])) _
    exact retOut X48 hx Bd.returns rfl (Or.inr (Or.inr (Or.inr (Or.inr ⟨rfl, rfl, rfl⟩)))) (hb hby d15_6) hr
  · show QED Z a1 p2 b kb n f r h0 n0 _ T48.heap _
    rw [e48]
    exact ⟨rfl, N0, rfl⟩
def QGET (Z : State) (a1 : Addr) (p2 : Int32) (b : Addr) (kb : ClassId) (n : Int32) (f : Nat → Value) (r : Addr) (w2 : Int32) (h0 : Heap) (n0 : Nat) (v : Option Value) (h : Heap) (L : List Loc) : Prop := v = some (.ref r) ∧ Fr n0 L ∧ h = h0
theorem ef_GET (m : MethodId) (a1 : Addr) (p2 : Int32) : entryFrame m #[(.ref a1), (.int p2)] 2 = mkF m 0 #[.val (.ref a1), .val (.int p2)] [] := by first | (simp [entryFrame, mkF, argsToLocals, Value.category]; done) | rfl
set_option maxRecDepth 65536 in
set_option maxHeartbeats 40000000 in
theorem rmGET (l : Launch) (Z : State) (a0 : Array Value) (hw : ∀ d ∈ tables_1, d.before a0 Z = true) (ws : List Jvm.Cond) (a1 : Addr) (p2 : Int32) (b : Addr) (kb : ClassId) (n : Int32) (f : Nat → Value) (r : Addr) (w2 : Int32) (h0 : Heap) (n0 : Nat) (Zs : n0 ≤ h0.size) (E_a1 : Exa Z h0 a1 "java/util/ArrayList") (F_elementData_a1 : Fld Z h0 a1 "java/util/ArrayList" "elementData" "[Ljava/lang/Object;" (.ref b)) (F_size_a1 : Fld Z h0 a1 "java/util/ArrayList" "size" "I" (.int w2)) (A_b : ArR Z h0 b kb "java/lang/Object" n f) (hi : ¬ p2 < (0 : Int32) ∧ p2 < n) (hl : p2 < w2) (hv : f p2.toNatClampNeg = .ref r) :
    MetFree l (⟨"java/util/ArrayList", "get", "(I)Ljava/lang/Object;"⟩ : MethodName) (head1 (Jvm.Cond.code (⟨"java/util/ArrayList", "get", "(I)Ljava/lang/Object;"⟩ : MethodName) jdk_38_method_20_code 2 (some (.object "java/lang/Object")) :: ws) ({ frames := 2, cells := 0, slots := 0, locals := 27 } : Room)) (fun a U => a = #[(.ref a1), (.int p2)] ∧ Z.Warmed39 U.vm ∧ U.heap = h0) (fun _ _ _ _ _ => True) (fun _ U o U' => ∃ v L, o = .returned v ∧ QGET Z a1 p2 b kb n f r w2 h0 n0 v U'.heap L ∧ FrameEnd U o U' L ({ frames := 2, cells := 0, slots := 0, locals := 27 } : Room).cells ({ frames := 2, cells := 0, slots := 0, locals := 27 } : Room).slots) := by
  refine MetFree.of_bodySF (plainFor_of_name pn_2) hisR ?_
  intro p e s m args below meth c s₁ Bd hml0 hP hK
  obtain ⟨rfl, hZ, hh⟩ := hP
  have hx := Bd.exec
  have hby := Bd.bytes
  have hml : c.maxLocals = 2 := hml0
  have hown : s.vm.findClass "java/util/ArrayList" = some m.cls := findClass_of_methodNamed Bd.named
  have hnm := (name_of_methodNamed Bd.named Bd.method).1
  have X0 : Stand p l e ({ frames := 2, cells := 0, slots := 0, locals := 27 } : Room) s m #[(.ref a1), (.int p2)] below meth c s₁ [] 0 0 := Stand.of_body Bd
  have e0 : s₁.heap = h0 := by rw [← hh, Bd.state]; rfl
  have N0 := Fr.nil n0
  have pre0 : ∀ t, Steps p.tables e below (s₁.setTop (mkF m 0 #[.val (.ref a1), .val (.int p2)] [])) t → Steps p.tables e below (s₁.setTop (entryFrame m #[(.ref a1), (.int p2)] 2)) t := fun t k => castTop (ef_GET m a1 p2) k
  obtain ⟨T50, X50, e50, st50⟩ := getF X0 hx hZ hown (host := "") (Or.inl (hw _ (List.mem_of_getElem? (i := 63) rfl))) Via.refl e0 F_size_a1 (g := (mkF m 2 #[.val (.ref a1), .val (.int p2)] [(.ref a1), (.int p2)])) rfl rfl (hb hby d12_2)
  obtain ⟨_, _, ⟨T51, L51, k51, n51⟩, -, X51, ⟨Lc51, hQ51, l51, y51, z51⟩, st51⟩ := Jvm.LawKit.callS X50 hx (y := (⟨"java/util/Objects", "checkIndex", "(II)I"⟩ : MethodName)) hown (mvT hZ (hw _ (List.mem_of_getElem? (i := 91) rfl))) (mvT hZ (hw _ (List.mem_of_getElem? (i := 92) rfl))) (mvT hZ (hw _ (List.mem_of_getElem? (i := 93) rfl))) (mvT hZ (hw _ (List.mem_of_getElem? (i := 94) rfl))) (by decide) (backOf (W := 0) (rmCI l Z a0 hw [] p2 w2 h0 n0 Zs hi.1 hl) hZ (hw _ (List.mem_of_getElem? (i := 94) rfl)) (hw _ (List.mem_of_getElem? (i := 93) rfl)) (by decide) (by decide)) (g := (mkF m 5 #[.val (.ref a1), .val (.int p2)] [(.int w2), (.int p2)])) rfl (by rw [hml]; rfl) (argsL := [(.int p2), (.int w2)]) (rest := []) (lenOf pd_1 rfl) rfl (by show 2 * 0 + _ ≤ _; exact Nat.le_of_eq rfl) (hb hby d12_5) (fun _ _ => ⟨rfl, e50, (by decide : 0 + 0 ≤ _), (by decide : 0 + 0 ≤ _)⟩)
  dsimp only [Pt.U, Pt.locs, Pt.cells, Pt.slots] at X51 l51 y51 z51 st51 hQ51
  subst l51 y51 z51
  obtain ⟨rfl, N51q, e51⟩ := hQ51
  have N51 := Fr.app N0 N51q
  obtain ⟨cq52, kq52, q52a, q52b, q52c⟩ := isOf hZ e51 E_a1
  obtain ⟨_, _, ⟨T52, L52, k52, n52⟩, -, X52, ⟨Lc52, hQ52, l52, y52, z52⟩, st52⟩ := X51.virtualBack hx (y := (⟨"java/util/ArrayList", "elementData", "(I)Ljava/lang/Object;"⟩ : MethodName)) (z := (⟨"java/util/ArrayList", "elementData", "(I)Ljava/lang/Object;"⟩ : MethodName)) hown (mvT hZ (hw _ (List.mem_of_getElem? (i := 99) rfl))) (mvT hZ (hw _ (List.mem_of_getElem? (i := 100) rfl))) (notFace_of_selects (args := #[]) (mvT hZ (hw _ (List.mem_of_getElem? (i := 102) rfl)))) (mvT hZ (hw _ (List.mem_of_getElem? (i := 102) rfl))) (mvT hZ (hw _ (List.mem_of_getElem? (i := 101) rfl))) (by decide) (backOf (W := 0) (rmED l Z a0 hw [] a1 p2 b kb n f r h0 n0 Zs F_elementData_a1 A_b hi hv) hZ (hw _ (List.mem_of_getElem? (i := 103) rfl)) (hw _ (List.mem_of_getElem? (i := 18) rfl)) (by decide) (by decide)) q52a q52c (g := (mkF m 11 #[.val (.ref a1), .val (.int p2)] [(.int p2), (.ref a1)])) rfl (by rw [hml]; rfl) (Steps.refl _) (argsL := [(.int p2)]) (rest := []) (lenOf pd_6 rfl) rfl (by show 2 * 0 + _ ≤ _; exact Nat.le_of_eq rfl) (hb hby d12_11) (fun _ _ => ⟨rfl, e51, (by decide : 0 + 0 ≤ _), (by decide : 0 + 0 ≤ _)⟩)
  dsimp only [Pt.U, Pt.locs, Pt.cells, Pt.slots] at X52 l52 y52 z52 st52 hQ52
  subst l52 y52 z52
  obtain ⟨rfl, N52q, e52⟩ := hQ52
  have N52 := Fr.app N51 N52q
  obtain ⟨fs, hr, hrun, hended, hW, hsame⟩ := X52.leave (v := some (.ref r)) (fun h => by rw [Bd.returns] at h; cases h)
  refine ⟨_, _, pre0 _ ?_, hrun, hended, _, _, rfl, ?_, ⟨_, rfl⟩, hW, hsame.mono (by decide) (by decide)⟩
  · show Steps p.tables e below (s₁.setTop (mkF m 0 #[.val (.ref a1), .val (.int p2)] [])) _
    refine XS.iloadN X0.here hx rfl (hb hby d12_0) rfl ?_
    show Steps p.tables e below (s₁.setTop (mkF m 1 #[.val (.ref a1), .val (.int p2)] [(.int p2)])) _
    refine XS.aloadN X0.here hx rfl (hb hby d12_1) rfl rfl ?_
    show Steps p.tables e below (s₁.setTop (mkF m 2 #[.val (.ref a1), .val (.int p2)] [(.ref a1), (.int p2)])) _
    refine st50 _ ?_
    show Steps p.tables e below (T50.setTop (mkF m 5 #[.val (.ref a1), .val (.int p2)] [(.int w2), (.int p2)])) _
    refine st51 _ ?_
    show Steps p.tables e below (T51.setTop (mkF m 8 #[.val (.ref a1), .val (.int p2)] [(.int (fCI p2 w2))])) _
    refine XS.pop X51.here hx rfl (hb hby d12_8) rfl rfl ?_
    show Steps p.tables e below (T51.setTop (mkF m 9 #[.val (.ref a1), .val (.int p2)] [])) _
    refine XS.aloadN X51.here hx rfl (hb hby d12_9) rfl rfl ?_
    show Steps p.tables e below (T51.setTop (mkF m 10 #[.val (.ref a1), .val (.int p2)] [(.ref a1)])) _
    refine XS.iloadN X51.here hx rfl (hb hby d12_10) rfl ?_
    show Steps p.tables e below (T51.setTop (mkF m 11 #[.val (.ref a1), .val (.int p2)] [(.int p2), (.ref a1)])) _
    refine st52.trans ?_
    show Steps p.tables e below (T52.setTop (mkF m 14 #[.val (.ref a1), .val (.int p2)] [(.ref r)])) _
    exact retOut X52 hx Bd.returns rfl (Or.inr (Or.inr (Or.inr (Or.inr ⟨rfl, rfl, rfl⟩)))) (hb hby d12_14) hr
  · show QGET Z a1 p2 b kb n f r w2 h0 n0 _ T52.heap _
    rw [e52]
    exact ⟨rfl, N52, rfl⟩
def QII (Z : State) (a1 : Addr) (a2 : Addr) (u2 : Int32) (u3 : Int32) (u4 : Int32) (w3 : Int32) (h0 : Heap) (n0 : Nat) (v : Option Value) (h : Heap) (L : List Loc) : Prop := v = none ∧ Fr n0 L ∧ (Keep h0 h [a1]) ∧ (Fld Z h a1 "java/util/ArrayList$Itr" "this$0" "Ljava/util/ArrayList;" (.ref a2)) ∧ (Fld Z h a1 "java/util/ArrayList$Itr" "cursor" "I" (.int u2)) ∧ (Fld Z h a1 "java/util/ArrayList$Itr" "lastRet" "I" (.int (-1 : Int32))) ∧ (Fld Z h a1 "java/util/ArrayList$Itr" "expectedModCount" "I" (.int w3))
theorem ef_II (m : MethodId) (a1 : Addr) (a2 : Addr) : entryFrame m #[(.ref a1), (.ref a2)] 2 = mkF m 0 #[.val (.ref a1), .val (.ref a2)] [] := by first | (simp [entryFrame, mkF, argsToLocals, Value.category]; done) | rfl
set_option maxRecDepth 65536 in
set_option maxHeartbeats 40000000 in
theorem rmII (l : Launch) (Z : State) (a0 : Array Value) (hw : ∀ d ∈ tables_1, d.before a0 Z = true) (ws : List Jvm.Cond) (a1 : Addr) (a2 : Addr) (u2 : Int32) (u3 : Int32) (u4 : Int32) (w3 : Int32) (h0 : Heap) (n0 : Nat) (Zs : n0 ≤ h0.size) (E_a1 : Exa Z h0 a1 "java/util/ArrayList$Itr") (F_this_0_a1 : Fld Z h0 a1 "java/util/ArrayList$Itr" "this$0" "Ljava/util/ArrayList;" .null) (F_cursor_a1 : Fld Z h0 a1 "java/util/ArrayList$Itr" "cursor" "I" (.int u2)) (F_lastRet_a1 : Fld Z h0 a1 "java/util/ArrayList$Itr" "lastRet" "I" (.int u3)) (F_expectedModCount_a1 : Fld Z h0 a1 "java/util/ArrayList$Itr" "expectedModCount" "I" (.int u4)) (g_a1 : n0 ≤ a1) (F_modCount_a2 : Fld Z h0 a2 "java/util/AbstractList" "modCount" "I" (.int w3)) (ne_a1_a2 : a1 ≠ a2) :
    MetFree l (⟨"java/util/ArrayList$Itr", "<init>", "(Ljava/util/ArrayList;)V"⟩ : MethodName) (head1 (Jvm.Cond.code (⟨"java/util/ArrayList$Itr", "<init>", "(Ljava/util/ArrayList;)V"⟩ : MethodName) jdk_49_method_1_code 2 none :: ws) ({ frames := 1, cells := 0, slots := 0, locals := 12 } : Room)) (fun a U => a = #[(.ref a1), (.ref a2)] ∧ Z.Warmed39 U.vm ∧ U.heap = h0) (fun _ _ _ _ _ => True) (fun _ U o U' => ∃ v L, o = .returned v ∧ QII Z a1 a2 u2 u3 u4 w3 h0 n0 v U'.heap L ∧ FrameEnd U o U' L ({ frames := 1, cells := 0, slots := 0, locals := 12 } : Room).cells ({ frames := 1, cells := 0, slots := 0, locals := 12 } : Room).slots) := by
  refine MetFree.of_bodySF (plainFor_of_name pn_6) hisR ?_
  intro p e s m args below meth c s₁ Bd hml0 hP hK
  obtain ⟨rfl, hZ, hh⟩ := hP
  have hx := Bd.exec
  have hby := Bd.bytes
  have hml : c.maxLocals = 2 := hml0
  have hown : s.vm.findClass "java/util/ArrayList$Itr" = some m.cls := findClass_of_methodNamed Bd.named
  have hnm := (name_of_methodNamed Bd.named Bd.method).1
  have X0 : Stand p l e ({ frames := 1, cells := 0, slots := 0, locals := 12 } : Room) s m #[(.ref a1), (.ref a2)] below meth c s₁ [] 0 0 := Stand.of_body Bd
  have e0 : s₁.heap = h0 := by rw [← hh, Bd.state]; rfl
  have N0 := Fr.nil n0
  have pre0 : ∀ t, Steps p.tables e below (s₁.setTop (mkF m 0 #[.val (.ref a1), .val (.ref a2)] [])) t → Steps p.tables e below (s₁.setTop (entryFrame m #[(.ref a1), (.ref a2)] 2)) t := fun t k => castTop (ef_II m a1 a2) k
  have Kp : Keep h0 h0 [a1] := Keep.refl h0 [a1]
  obtain ⟨T53, h53, X53, e53, W53, st53⟩ := putF X0 hx hZ hown (host := "") (Or.inl (hw _ (List.mem_of_getElem? (i := 144) rfl))) Via.refl e0 F_this_0_a1 E_a1 (Or.inr ⟨(hw _ (List.mem_of_getElem? (i := 145) rfl)), rfl, hnm⟩) (hw _ (List.mem_of_getElem? (i := 138) rfl)) (ty := (.object "java/util/ArrayList")) (by decide) rfl rfl (g := (mkF m 2 #[.val (.ref a1), .val (.ref a2)] [(.ref a2), (.ref a1)])) rfl rfl (hb hby d22_2)
  have N53 := Fr.snoc X53 N0 g_a1
  have Zs : n0 ≤ h53.size := Nat.le_trans Zs (Keep.of_wr W53).1
  have E_a1 : Exa Z h53 a1 "java/util/ArrayList$Itr" := E_a1.wr W53
  have F_this_0_a1 : Fld Z h53 a1 "java/util/ArrayList$Itr" "this$0" "Ljava/util/ArrayList;" (.ref a2) := F_this_0_a1.same W53
  have F_cursor_a1 : Fld Z h53 a1 "java/util/ArrayList$Itr" "cursor" "I" (.int u2) := F_cursor_a1.other W53 (Or.inr (slot_ne (Or.inl (hw _ (List.mem_of_getElem? (i := 162) rfl))) (Or.inr (hw _ (List.mem_of_getElem? (i := 145) rfl))) (by decide) (t := .int) (t' := (.object "java/util/ArrayList")) (by decide) (by decide)))
  have F_lastRet_a1 : Fld Z h53 a1 "java/util/ArrayList$Itr" "lastRet" "I" (.int u3) := F_lastRet_a1.other W53 (Or.inr (slot_ne (Or.inl (hw _ (List.mem_of_getElem? (i := 148) rfl))) (Or.inr (hw _ (List.mem_of_getElem? (i := 145) rfl))) (by decide) (t := .int) (t' := (.object "java/util/ArrayList")) (by decide) (by decide)))
  have F_expectedModCount_a1 : Fld Z h53 a1 "java/util/ArrayList$Itr" "expectedModCount" "I" (.int u4) := F_expectedModCount_a1.other W53 (Or.inr (slot_ne (Or.inl (hw _ (List.mem_of_getElem? (i := 151) rfl))) (Or.inr (hw _ (List.mem_of_getElem? (i := 145) rfl))) (by decide) (t := .int) (t' := (.object "java/util/ArrayList")) (by decide) (by decide)))
  have F_modCount_a2 : Fld Z h53 a2 "java/util/AbstractList" "modCount" "I" (.int w3) := F_modCount_a2.other W53 (Or.inl (Ne.symm ne_a1_a2))
  have Kp : Keep h0 h53 [a1] := Kp.wr W53 (Or.inl (List.mem_of_getElem? (i := 0) rfl))
  obtain ⟨T54, X54, e54, st54⟩ := initO X53 hx hZ hown (hw _ (List.mem_of_getElem? (i := 146) rfl)) (hw _ (List.mem_of_getElem? (i := 8) rfl)) (hw _ (List.mem_of_getElem? (i := 9) rfl)) e53 (g := (mkF m 6 #[.val (.ref a1), .val (.ref a2)] [(.ref a1)])) rfl (by rw [hml]; rfl) rfl (hb hby d22_6) (by decide) (W := 0) (by show 2 * 0 + _ ≤ _; exact Nat.le_of_eq rfl) (by decide)
  obtain ⟨T55, h55, X55, e55, W55, st55⟩ := putF X54 hx hZ hown (host := "") (Or.inl (hw _ (List.mem_of_getElem? (i := 147) rfl))) Via.refl e54 F_lastRet_a1 E_a1 (Or.inl (hw _ (List.mem_of_getElem? (i := 148) rfl))) (hw _ (List.mem_of_getElem? (i := 138) rfl)) (ty := .int) (by decide) rfl rfl (g := (mkF m 11 #[.val (.ref a1), .val (.ref a2)] [(.int (-1 : Int32)), (.ref a1)])) rfl rfl (hb hby d22_11)
  have N55 := Fr.snoc X55 N53 g_a1
  have Zs : n0 ≤ h55.size := Nat.le_trans Zs (Keep.of_wr W55).1
  have E_a1 : Exa Z h55 a1 "java/util/ArrayList$Itr" := E_a1.wr W55
  have F_this_0_a1 : Fld Z h55 a1 "java/util/ArrayList$Itr" "this$0" "Ljava/util/ArrayList;" (.ref a2) := F_this_0_a1.other W55 (Or.inr (slot_ne (Or.inr (hw _ (List.mem_of_getElem? (i := 145) rfl))) (Or.inl (hw _ (List.mem_of_getElem? (i := 148) rfl))) (by decide) (t := (.object "java/util/ArrayList")) (t' := .int) (by decide) (by decide)))
  have F_cursor_a1 : Fld Z h55 a1 "java/util/ArrayList$Itr" "cursor" "I" (.int u2) := F_cursor_a1.other W55 (Or.inr (slot_ne (Or.inl (hw _ (List.mem_of_getElem? (i := 162) rfl))) (Or.inl (hw _ (List.mem_of_getElem? (i := 148) rfl))) (by decide) (t := .int) (t' := .int) (by decide) (by decide)))
  have F_lastRet_a1 : Fld Z h55 a1 "java/util/ArrayList$Itr" "lastRet" "I" (.int (-1 : Int32)) := F_lastRet_a1.same W55
  have F_expectedModCount_a1 : Fld Z h55 a1 "java/util/ArrayList$Itr" "expectedModCount" "I" (.int u4) := F_expectedModCount_a1.other W55 (Or.inr (slot_ne (Or.inl (hw _ (List.mem_of_getElem? (i := 151) rfl))) (Or.inl (hw _ (List.mem_of_getElem? (i := 148) rfl))) (by decide) (t := .int) (t' := .int) (by decide) (by decide)))
  have F_modCount_a2 : Fld Z h55 a2 "java/util/AbstractList" "modCount" "I" (.int w3) := F_modCount_a2.other W55 (Or.inl (Ne.symm ne_a1_a2))
  have Kp : Keep h0 h55 [a1] := Kp.wr W55 (Or.inl (List.mem_of_getElem? (i := 0) rfl))
  obtain ⟨T56, X56, e56, st56⟩ := getF X55 hx hZ hown (host := "") (Or.inl (hw _ (List.mem_of_getElem? (i := 144) rfl))) Via.refl e55 F_this_0_a1 (g := (mkF m 16 #[.val (.ref a1), .val (.ref a2)] [(.ref a1), (.ref a1)])) rfl rfl (hb hby d22_16)
  obtain ⟨T57, X57, e57, st57⟩ := getF X56 hx hZ hown (host := "") (Or.inl (hw _ (List.mem_of_getElem? (i := 149) rfl))) (Via.of (hw _ (List.mem_of_getElem? (i := 62) rfl))) e56 F_modCount_a2 (g := (mkF m 19 #[.val (.ref a1), .val (.ref a2)] [(.ref a2), (.ref a1)])) rfl rfl (hb hby d22_19)
  obtain ⟨T58, h58, X58, e58, W58, st58⟩ := putF X57 hx hZ hown (host := "") (Or.inl (hw _ (List.mem_of_getElem? (i := 150) rfl))) Via.refl e57 F_expectedModCount_a1 E_a1 (Or.inl (hw _ (List.mem_of_getElem? (i := 151) rfl))) (hw _ (List.mem_of_getElem? (i := 138) rfl)) (ty := .int) (by decide) rfl rfl (g := (mkF m 22 #[.val (.ref a1), .val (.ref a2)] [(.int w3), (.ref a1)])) rfl rfl (hb hby d22_22)
  have N58 := Fr.snoc X58 N55 g_a1
  have Zs : n0 ≤ h58.size := Nat.le_trans Zs (Keep.of_wr W58).1
  have E_a1 : Exa Z h58 a1 "java/util/ArrayList$Itr" := E_a1.wr W58
  have F_this_0_a1 : Fld Z h58 a1 "java/util/ArrayList$Itr" "this$0" "Ljava/util/ArrayList;" (.ref a2) := F_this_0_a1.other W58 (Or.inr (slot_ne (Or.inr (hw _ (List.mem_of_getElem? (i := 145) rfl))) (Or.inl (hw _ (List.mem_of_getElem? (i := 151) rfl))) (by decide) (t := (.object "java/util/ArrayList")) (t' := .int) (by decide) (by decide)))
  have F_cursor_a1 : Fld Z h58 a1 "java/util/ArrayList$Itr" "cursor" "I" (.int u2) := F_cursor_a1.other W58 (Or.inr (slot_ne (Or.inl (hw _ (List.mem_of_getElem? (i := 162) rfl))) (Or.inl (hw _ (List.mem_of_getElem? (i := 151) rfl))) (by decide) (t := .int) (t' := .int) (by decide) (by decide)))
  have F_lastRet_a1 : Fld Z h58 a1 "java/util/ArrayList$Itr" "lastRet" "I" (.int (-1 : Int32)) := F_lastRet_a1.other W58 (Or.inr (slot_ne (Or.inl (hw _ (List.mem_of_getElem? (i := 148) rfl))) (Or.inl (hw _ (List.mem_of_getElem? (i := 151) rfl))) (by decide) (t := .int) (t' := .int) (by decide) (by decide)))
  have F_expectedModCount_a1 : Fld Z h58 a1 "java/util/ArrayList$Itr" "expectedModCount" "I" (.int w3) := F_expectedModCount_a1.same W58
  have F_modCount_a2 : Fld Z h58 a2 "java/util/AbstractList" "modCount" "I" (.int w3) := F_modCount_a2.other W58 (Or.inl (Ne.symm ne_a1_a2))
  have Kp : Keep h0 h58 [a1] := Kp.wr W58 (Or.inl (List.mem_of_getElem? (i := 0) rfl))
  obtain ⟨fs, hr, hrun, hended, hW, hsame⟩ := X58.leave (v := none) (fun _ => rfl)
  refine ⟨_, _, pre0 _ ?_, hrun, hended, _, _, rfl, ?_, ⟨_, rfl⟩, hW, hsame.mono (by decide) (by decide)⟩
  · show Steps p.tables e below (s₁.setTop (mkF m 0 #[.val (.ref a1), .val (.ref a2)] [])) _
    refine XS.aloadN X0.here hx rfl (hb hby d22_0) rfl rfl ?_
    show Steps p.tables e below (s₁.setTop (mkF m 1 #[.val (.ref a1), .val (.ref a2)] [(.ref a1)])) _
    refine XS.aloadN X0.here hx rfl (hb hby d22_1) rfl rfl ?_
    show Steps p.tables e below (s₁.setTop (mkF m 2 #[.val (.ref a1), .val (.ref a2)] [(.ref a2), (.ref a1)])) _
    refine st53 _ ?_
    show Steps p.tables e below (T53.setTop (mkF m 5 #[.val (.ref a1), .val (.ref a2)] [])) _
    refine XS.aloadN X53.here hx rfl (hb hby d22_5) rfl rfl ?_
    show Steps p.tables e below (T53.setTop (mkF m 6 #[.val (.ref a1), .val (.ref a2)] [(.ref a1)])) _
    refine st54 _ ?_
    show Steps p.tables e below (T54.setTop (mkF m 9 #[.val (.ref a1), .val (.ref a2)] [])) _
    refine XS.aloadN X54.here hx rfl (hb hby d22_9) rfl rfl ?_
    show Steps p.tables e below (T54.setTop (mkF m 10 #[.val (.ref a1), .val (.ref a2)] [(.ref a1)])) _
    refine XS.iconst X54.here hx rfl (hb hby d22_10) ?_
    show Steps p.tables e below (T54.setTop (mkF m 11 #[.val (.ref a1), .val (.ref a2)] [(.int (-1 : Int32)), (.ref a1)])) _
    refine st55 _ ?_
    show Steps p.tables e below (T55.setTop (mkF m 14 #[.val (.ref a1), .val (.ref a2)] [])) _
    refine XS.aloadN X55.here hx rfl (hb hby d22_14) rfl rfl ?_
    show Steps p.tables e below (T55.setTop (mkF m 15 #[.val (.ref a1), .val (.ref a2)] [(.ref a1)])) _
    refine XS.aloadN X55.here hx rfl (hb hby d22_15) rfl rfl ?_
    show Steps p.tables e below (T55.setTop (mkF m 16 #[.val (.ref a1), .val (.ref a2)] [(.ref a1), (.ref a1)])) _
    refine st56 _ ?_
    show Steps p.tables e below (T56.setTop (mkF m 19 #[.val (.ref a1), .val (.ref a2)] [(.ref a2), (.ref a1)])) _
    refine st57 _ ?_
    show Steps p.tables e below (T57.setTop (mkF m 22 #[.val (.ref a1), .val (.ref a2)] [(.int w3), (.ref a1)])) _
    refine st58 _ ?_
    show Steps p.tables e below (T58.setTop (mkF m 25 #[.val (.ref a1), .val (.ref a2)] [])) _
    exact X58.returnOut hx Bd.returns (hb hby d22_25) hr
  · show QII Z a1 a2 u2 u3 u4 w3 h0 n0 _ T58.heap _
    rw [e58]
    exact ⟨rfl, N58, Kp, F_this_0_a1, F_cursor_a1, F_lastRet_a1, F_expectedModCount_a1⟩
def QIT (Z : State) (a1 : Addr) (w3 : Int32) (h0 : Heap) (n0 : Nat) (v : Option Value) (h : Heap) (L : List Loc) : Prop := ∃ b : Addr, v = some (.ref b) ∧ Fr n0 L ∧ (Keep h0 h []) ∧ (h0.size ≤ b) ∧ (n0 ≤ b) ∧ (Exa Z h b "java/util/ArrayList$Itr") ∧ (Fld Z h b "java/util/ArrayList$Itr" "this$0" "Ljava/util/ArrayList;" (.ref a1)) ∧ (Fld Z h b "java/util/ArrayList$Itr" "cursor" "I" (.int (0 : Int32))) ∧ (Fld Z h b "java/util/ArrayList$Itr" "lastRet" "I" (.int (-1 : Int32))) ∧ (Fld Z h b "java/util/ArrayList$Itr" "expectedModCount" "I" (.int w3))
theorem ef_IT (m : MethodId) (a1 : Addr) : entryFrame m #[(.ref a1)] 1 = mkF m 0 #[.val (.ref a1)] [] := by first | (simp [entryFrame, mkF, argsToLocals, Value.category]; done) | rfl
set_option maxRecDepth 65536 in
set_option maxHeartbeats 40000000 in
theorem rmIT (l : Launch) (Z : State) (a0 : Array Value) (hw : ∀ d ∈ tables_1, d.before a0 Z = true) (ws : List Jvm.Cond) (a1 : Addr) (w3 : Int32) (h0 : Heap) (n0 : Nat) (Zs : n0 ≤ h0.size) (F_modCount_a1 : Fld Z h0 a1 "java/util/AbstractList" "modCount" "I" (.int w3)) :
    MetFree l (⟨"java/util/ArrayList", "iterator", "()Ljava/util/Iterator;"⟩ : MethodName) (head1 (Jvm.Cond.code (⟨"java/util/ArrayList", "iterator", "()Ljava/util/Iterator;"⟩ : MethodName) jdk_38_method_55_code 1 (some (.object "java/util/Iterator")) :: ws) ({ frames := 2, cells := 1, slots := 4, locals := 26 } : Room)) (fun a U => a = #[(.ref a1)] ∧ Z.Warmed39 U.vm ∧ U.heap = h0) (fun _ _ _ _ _ => True) (fun _ U o U' => ∃ v L, o = .returned v ∧ QIT Z a1 w3 h0 n0 v U'.heap L ∧ FrameEnd U o U' L ({ frames := 2, cells := 1, slots := 4, locals := 26 } : Room).cells ({ frames := 2, cells := 1, slots := 4, locals := 26 } : Room).slots) := by
  refine MetFree.of_bodySF (plainFor_of_name pn_2) hisR ?_
  intro p e s m args below meth c s₁ Bd hml0 hP hK
  obtain ⟨rfl, hZ, hh⟩ := hP
  have hx := Bd.exec
  have hby := Bd.bytes
  have hml : c.maxLocals = 1 := hml0
  have hown : s.vm.findClass "java/util/ArrayList" = some m.cls := findClass_of_methodNamed Bd.named
  have hnm := (name_of_methodNamed Bd.named Bd.method).1
  have X0 : Stand p l e ({ frames := 2, cells := 1, slots := 4, locals := 26 } : Room) s m #[(.ref a1)] below meth c s₁ [] 0 0 := Stand.of_body Bd
  have e0 : s₁.heap = h0 := by rw [← hh, Bd.state]; rfl
  have N0 := Fr.nil n0
  have pre0 : ∀ t, Steps p.tables e below (s₁.setTop (mkF m 0 #[.val (.ref a1)] [])) t → Steps p.tables e below (s₁.setTop (entryFrame m #[(.ref a1)] 1)) t := fun t k => castTop (ef_IT m a1) k
  have Kp : Keep h0 h0 [] := Keep.refl h0 []
  obtain ⟨T59, h59, X59, e59, E59, A59, D59, -, st59⟩ := newO X0 hx hZ hown (hw _ (List.mem_of_getElem? (i := 137) rfl)) (hw _ (List.mem_of_getElem? (i := 138) rfl)) (hw _ (List.mem_of_getElem? (i := 139) rfl)) e0 (g := (mkF m 0 #[.val (.ref a1)] [])) rfl (hb hby d21_0) (by decide) (by decide)
  obtain ⟨b59, g59⟩ : ∃ z, z = h0.size := ⟨_, rfl⟩
  rw [← g59] at A59 D59 st59
  have g_b59 : n0 ≤ b59 := Nat.le_trans Zs (Nat.le_of_eq g59.symm)
  have sz_b59 : h0.size ≤ b59 := Nat.le_trans Kp.1 (Nat.le_of_eq g59.symm)
  have ne_a1_b59 : a1 ≠ b59 := Nat.ne_of_lt (Nat.lt_of_lt_of_le F_modCount_a1.lt (Nat.le_of_eq g59.symm))
  have Zs : n0 ≤ h59.size := Nat.le_trans Zs E59.1
  have F_modCount_a1 : Fld Z h59 a1 "java/util/AbstractList" "modCount" "I" (.int w3) := F_modCount_a1.ext E59
  have Kp : Keep h0 h59 [] := Kp.ext E59
  have E_b59 : Exa Z h59 b59 "java/util/ArrayList$Itr" := A59
  have F_this_0_b59 : Fld Z h59 b59 "java/util/ArrayList$Itr" "this$0" "Ljava/util/ArrayList;" .null := D59 (Or.inr (hw _ (List.mem_of_getElem? (i := 145) rfl))) (ty := (.object "java/util/ArrayList")) (by decide)
  have F_lastRet_b59 : Fld Z h59 b59 "java/util/ArrayList$Itr" "lastRet" "I" (.int (0 : Int32)) := D59 (Or.inl (hw _ (List.mem_of_getElem? (i := 148) rfl))) (ty := .int) (by decide)
  have F_expectedModCount_b59 : Fld Z h59 b59 "java/util/ArrayList$Itr" "expectedModCount" "I" (.int (0 : Int32)) := D59 (Or.inl (hw _ (List.mem_of_getElem? (i := 151) rfl))) (ty := .int) (by decide)
  have F_cursor_b59 : Fld Z h59 b59 "java/util/ArrayList$Itr" "cursor" "I" (.int (0 : Int32)) := D59 (Or.inl (hw _ (List.mem_of_getElem? (i := 162) rfl))) (ty := .int) (by decide)
  obtain ⟨_, _, ⟨T60, L60, k60, n60⟩, -, X60, ⟨Lc60, hQ60, l60, y60, z60⟩, st60⟩ := X59.specialBack hx (y := (⟨"java/util/ArrayList$Itr", "<init>", "(Ljava/util/ArrayList;)V"⟩ : MethodName)) rfl hown (mvT hZ (hw _ (List.mem_of_getElem? (i := 140) rfl))) (mvT hZ (hw _ (List.mem_of_getElem? (i := 141) rfl))) (mvT hZ (hw _ (List.mem_of_getElem? (i := 143) rfl))) (by decide) (backOf (W := 1) (rmII l Z a0 hw [] b59 a1 (0 : Int32) (0 : Int32) (0 : Int32) w3 h59 n0 Zs E_b59 F_this_0_b59 F_cursor_b59 F_lastRet_b59 F_expectedModCount_b59 g_b59 F_modCount_a1 (Ne.symm ne_a1_b59)) hZ (hw _ (List.mem_of_getElem? (i := 143) rfl)) (hw _ (List.mem_of_getElem? (i := 139) rfl)) (by decide) (by decide)) (g := (mkF m 5 #[.val (.ref a1)] [(.ref a1), (.ref b59), (.ref b59)])) rfl (by rw [hml]; rfl) (Steps.refl _) (a := b59) (argsL := [(.ref a1)]) (rest := [(.ref b59)]) (lenOf pd_7 rfl) rfl (by show 2 * 0 + _ ≤ _; exact Nat.le_of_eq rfl) (hb hby d21_5) (fun _ _ => ⟨rfl, e59, (by decide : 1 + 0 ≤ _), (by decide : 4 + 0 ≤ _)⟩)
  dsimp only [Pt.U, Pt.locs, Pt.cells, Pt.slots] at X60 l60 y60 z60 st60 hQ60
  subst l60 y60 z60
  obtain ⟨rfl, N60q, K60, P60_1, P60_2, P60_3, P60_4⟩ := hQ60
  have Zs : n0 ≤ T60.heap.size := Nat.le_trans Zs K60.1
  have F_modCount_a1 : Fld Z T60.heap a1 "java/util/AbstractList" "modCount" "I" (.int w3) := F_modCount_a1.keep K60 (ninS ne_a1_b59 nin0)
  have Kp : Keep h0 T60.heap [] := Kp.trans K60 (allS (Or.inr sz_b59) all0)
  have E_b59 : Exa Z T60.heap b59 "java/util/ArrayList$Itr" := E_b59.keep K60
  have F_this_0_b59 : Fld Z T60.heap b59 "java/util/ArrayList$Itr" "this$0" "Ljava/util/ArrayList;" (.ref a1) := P60_1
  have F_cursor_b59 : Fld Z T60.heap b59 "java/util/ArrayList$Itr" "cursor" "I" (.int (0 : Int32)) := P60_2
  have F_lastRet_b59 : Fld Z T60.heap b59 "java/util/ArrayList$Itr" "lastRet" "I" (.int (-1 : Int32)) := P60_3
  have F_expectedModCount_b59 : Fld Z T60.heap b59 "java/util/ArrayList$Itr" "expectedModCount" "I" (.int w3) := P60_4
  have N60 := Fr.app N0 N60q
  obtain ⟨fs, hr, hrun, hended, hW, hsame⟩ := X60.leave (v := some (.ref b59)) (fun h => by rw [Bd.returns] at h; cases h)
  refine ⟨_, _, pre0 _ ?_, hrun, hended, _, _, rfl, ?_, ⟨_, rfl⟩, hW, hsame.mono (by decide) (by decide)⟩
  · show Steps p.tables e below (s₁.setTop (mkF m 0 #[.val (.ref a1)] [])) _
    refine st59 _ ?_
    show Steps p.tables e below (T59.setTop (mkF m 3 #[.val (.ref a1)] [(.ref b59)])) _
    refine XS.dup X59.here hx rfl (hb hby d21_3) rfl rfl ?_
    show Steps p.tables e below (T59.setTop (mkF m 4 #[.val (.ref a1)] [(.ref b59), (.ref b59)])) _
    refine XS.aloadN X59.here hx rfl (hb hby d21_4) rfl rfl ?_
    show Steps p.tables e below (T59.setTop (mkF m 5 #[.val (.ref a1)] [(.ref a1), (.ref b59), (.ref b59)])) _
    refine st60.trans ?_
    show Steps p.tables e below (T60.setTop (mkF m 8 #[.val (.ref a1)] [(.ref b59)])) _
    exact retOut X60 hx Bd.returns rfl (Or.inr (Or.inr (Or.inr (Or.inr ⟨rfl, rfl, rfl⟩)))) (hb hby d21_8) hr
  · show QIT Z a1 w3 h0 n0 _ T60.heap _
    exact ⟨b59, rfl, N60, Kp, sz_b59, g_b59, E_b59, F_this_0_b59, F_cursor_b59, F_lastRet_b59, F_expectedModCount_b59⟩
def QH00 (Z : State) (a1 : Addr) (a2 : Addr) (h0 : Heap) (n0 : Nat) (v : Option Value) (h : Heap) (L : List Loc) : Prop := v = some (.int (0 : Int32)) ∧ Fr n0 L ∧ h = h0
theorem ef_H00 (m : MethodId) (a1 : Addr) : entryFrame m #[(.ref a1)] 1 = mkF m 0 #[.val (.ref a1)] [] := by first | (simp [entryFrame, mkF, argsToLocals, Value.category]; done) | rfl
set_option maxRecDepth 65536 in
set_option maxHeartbeats 40000000 in
theorem rmH00 (l : Launch) (Z : State) (a0 : Array Value) (hw : ∀ d ∈ tables_1, d.before a0 Z = true) (ws : List Jvm.Cond) (a1 : Addr) (a2 : Addr) (h0 : Heap) (n0 : Nat) (Zs : n0 ≤ h0.size) (F_this_0_a1 : Fld Z h0 a1 "java/util/ArrayList$Itr" "this$0" "Ljava/util/ArrayList;" (.ref a2)) (F_cursor_a1 : Fld Z h0 a1 "java/util/ArrayList$Itr" "cursor" "I" (.int (0 : Int32))) (F_size_a2 : Fld Z h0 a2 "java/util/ArrayList" "size" "I" (.int (0 : Int32))) :
    MetFree l (⟨"java/util/ArrayList$Itr", "hasNext", "()Z"⟩ : MethodName) (head1 (Jvm.Cond.code (⟨"java/util/ArrayList$Itr", "hasNext", "()Z"⟩ : MethodName) jdk_49_method_2_code 1 (some .boolean) :: ws) ({ frames := 0, cells := 0, slots := 0, locals := 0 } : Room)) (fun a U => a = #[(.ref a1)] ∧ Z.Warmed39 U.vm ∧ U.heap = h0) (fun _ _ _ _ _ => True) (fun _ U o U' => ∃ v L, o = .returned v ∧ QH00 Z a1 a2 h0 n0 v U'.heap L ∧ FrameEnd U o U' L ({ frames := 0, cells := 0, slots := 0, locals := 0 } : Room).cells ({ frames := 0, cells := 0, slots := 0, locals := 0 } : Room).slots) := by
  refine MetFree.of_bodySF (plainFor_of_name pn_6) hisR ?_
  intro p e s m args below meth c s₁ Bd hml0 hP hK
  obtain ⟨rfl, hZ, hh⟩ := hP
  have hx := Bd.exec
  have hby := Bd.bytes
  have hml : c.maxLocals = 1 := hml0
  have hown : s.vm.findClass "java/util/ArrayList$Itr" = some m.cls := findClass_of_methodNamed Bd.named
  have hnm := (name_of_methodNamed Bd.named Bd.method).1
  have X0 : Stand p l e ({ frames := 0, cells := 0, slots := 0, locals := 0 } : Room) s m #[(.ref a1)] below meth c s₁ [] 0 0 := Stand.of_body Bd
  have e0 : s₁.heap = h0 := by rw [← hh, Bd.state]; rfl
  have N0 := Fr.nil n0
  have pre0 : ∀ t, Steps p.tables e below (s₁.setTop (mkF m 0 #[.val (.ref a1)] [])) t → Steps p.tables e below (s₁.setTop (entryFrame m #[(.ref a1)] 1)) t := fun t k => castTop (ef_H00 m a1) k
  obtain ⟨T61, X61, e61, st61⟩ := getF X0 hx hZ hown (host := "") (Or.inl (hw _ (List.mem_of_getElem? (i := 161) rfl))) Via.refl e0 F_cursor_a1 (g := (mkF m 1 #[.val (.ref a1)] [(.ref a1)])) rfl rfl (hb hby d23_1)
  obtain ⟨T62, X62, e62, st62⟩ := getF X61 hx hZ hown (host := "") (Or.inl (hw _ (List.mem_of_getElem? (i := 144) rfl))) Via.refl e61 F_this_0_a1 (g := (mkF m 5 #[.val (.ref a1)] [(.ref a1), (.int (0 : Int32))])) rfl rfl (hb hby d23_5)
  obtain ⟨T63, X63, e63, st63⟩ := getF X62 hx hZ hown (Or.inr (hw _ (List.mem_of_getElem? (i := 163) rfl))) Via.refl e62 F_size_a2 (g := (mkF m 8 #[.val (.ref a1)] [(.ref a2), (.int (0 : Int32))])) rfl rfl (hb hby d23_8)
  obtain ⟨fs, hr, hrun, hended, hW, hsame⟩ := X63.leave (v := some (.int (0 : Int32))) (fun h => by rw [Bd.returns] at h; cases h)
  refine ⟨_, _, pre0 _ ?_, hrun, hended, _, _, rfl, ?_, ⟨_, rfl⟩, hW, hsame.mono (by decide) (by decide)⟩
  · show Steps p.tables e below (s₁.setTop (mkF m 0 #[.val (.ref a1)] [])) _
    refine XS.aloadN X0.here hx rfl (hb hby d23_0) rfl rfl ?_
    show Steps p.tables e below (s₁.setTop (mkF m 1 #[.val (.ref a1)] [(.ref a1)])) _
    refine st61 _ ?_
    show Steps p.tables e below (T61.setTop (mkF m 4 #[.val (.ref a1)] [(.int (0 : Int32))])) _
    refine XS.aloadN X61.here hx rfl (hb hby d23_4) rfl rfl ?_
    show Steps p.tables e below (T61.setTop (mkF m 5 #[.val (.ref a1)] [(.ref a1), (.int (0 : Int32))])) _
    refine st62 _ ?_
    show Steps p.tables e below (T62.setTop (mkF m 8 #[.val (.ref a1)] [(.ref a2), (.int (0 : Int32))])) _
    refine st63 _ ?_
    show Steps p.tables e below (T63.setTop (mkF m 11 #[.val (.ref a1)] [(.int (0 : Int32)), (.int (0 : Int32))])) _
    refine XS.icmpYes X63.here hx rfl (pc0 := 11) (pc' := 18) rfl (hb hby d23_11) rfl (teq (by decide)).1 (by decide) (by decide) ?_
    show Steps p.tables e below (T63.setTop (mkF m 18 #[.val (.ref a1)] [])) _
    refine XS.iconst X63.here hx rfl (hb hby d23_18) ?_
    show Steps p.tables e below (T63.setTop (mkF m 19 #[.val (.ref a1)] [(.int (0 : Int32))])) _
    exact retN X63 hx (t := .boolean) Bd.returns (by simp) (hb hby d23_19) hr
  · show QH00 Z a1 a2 h0 n0 _ T63.heap _
    rw [e63]
    exact ⟨rfl, N0, rfl⟩
def QH01 (Z : State) (a1 : Addr) (a2 : Addr) (h0 : Heap) (n0 : Nat) (v : Option Value) (h : Heap) (L : List Loc) : Prop := v = some (.int (1 : Int32)) ∧ Fr n0 L ∧ h = h0
theorem ef_H01 (m : MethodId) (a1 : Addr) : entryFrame m #[(.ref a1)] 1 = mkF m 0 #[.val (.ref a1)] [] := by first | (simp [entryFrame, mkF, argsToLocals, Value.category]; done) | rfl
set_option maxRecDepth 65536 in
set_option maxHeartbeats 40000000 in
theorem rmH01 (l : Launch) (Z : State) (a0 : Array Value) (hw : ∀ d ∈ tables_1, d.before a0 Z = true) (ws : List Jvm.Cond) (a1 : Addr) (a2 : Addr) (h0 : Heap) (n0 : Nat) (Zs : n0 ≤ h0.size) (F_this_0_a1 : Fld Z h0 a1 "java/util/ArrayList$Itr" "this$0" "Ljava/util/ArrayList;" (.ref a2)) (F_cursor_a1 : Fld Z h0 a1 "java/util/ArrayList$Itr" "cursor" "I" (.int (0 : Int32))) (F_size_a2 : Fld Z h0 a2 "java/util/ArrayList" "size" "I" (.int (1 : Int32))) :
    MetFree l (⟨"java/util/ArrayList$Itr", "hasNext", "()Z"⟩ : MethodName) (head1 (Jvm.Cond.code (⟨"java/util/ArrayList$Itr", "hasNext", "()Z"⟩ : MethodName) jdk_49_method_2_code 1 (some .boolean) :: ws) ({ frames := 0, cells := 0, slots := 0, locals := 0 } : Room)) (fun a U => a = #[(.ref a1)] ∧ Z.Warmed39 U.vm ∧ U.heap = h0) (fun _ _ _ _ _ => True) (fun _ U o U' => ∃ v L, o = .returned v ∧ QH01 Z a1 a2 h0 n0 v U'.heap L ∧ FrameEnd U o U' L ({ frames := 0, cells := 0, slots := 0, locals := 0 } : Room).cells ({ frames := 0, cells := 0, slots := 0, locals := 0 } : Room).slots) := by
  refine MetFree.of_bodySF (plainFor_of_name pn_6) hisR ?_
  intro p e s m args below meth c s₁ Bd hml0 hP hK
  obtain ⟨rfl, hZ, hh⟩ := hP
  have hx := Bd.exec
  have hby := Bd.bytes
  have hml : c.maxLocals = 1 := hml0
  have hown : s.vm.findClass "java/util/ArrayList$Itr" = some m.cls := findClass_of_methodNamed Bd.named
  have hnm := (name_of_methodNamed Bd.named Bd.method).1
  have X0 : Stand p l e ({ frames := 0, cells := 0, slots := 0, locals := 0 } : Room) s m #[(.ref a1)] below meth c s₁ [] 0 0 := Stand.of_body Bd
  have e0 : s₁.heap = h0 := by rw [← hh, Bd.state]; rfl
  have N0 := Fr.nil n0
  have pre0 : ∀ t, Steps p.tables e below (s₁.setTop (mkF m 0 #[.val (.ref a1)] [])) t → Steps p.tables e below (s₁.setTop (entryFrame m #[(.ref a1)] 1)) t := fun t k => castTop (ef_H01 m a1) k
  obtain ⟨T64, X64, e64, st64⟩ := getF X0 hx hZ hown (host := "") (Or.inl (hw _ (List.mem_of_getElem? (i := 161) rfl))) Via.refl e0 F_cursor_a1 (g := (mkF m 1 #[.val (.ref a1)] [(.ref a1)])) rfl rfl (hb hby d23_1)
  obtain ⟨T65, X65, e65, st65⟩ := getF X64 hx hZ hown (host := "") (Or.inl (hw _ (List.mem_of_getElem? (i := 144) rfl))) Via.refl e64 F_this_0_a1 (g := (mkF m 5 #[.val (.ref a1)] [(.ref a1), (.int (0 : Int32))])) rfl rfl (hb hby d23_5)
  obtain ⟨T66, X66, e66, st66⟩ := getF X65 hx hZ hown (Or.inr (hw _ (List.mem_of_getElem? (i := 163) rfl))) Via.refl e65 F_size_a2 (g := (mkF m 8 #[.val (.ref a1)] [(.ref a2), (.int (0 : Int32))])) rfl rfl (hb hby d23_8)
  obtain ⟨fs, hr, hrun, hended, hW, hsame⟩ := X66.leave (v := some (.int (1 : Int32))) (fun h => by rw [Bd.returns] at h; cases h)
  refine ⟨_, _, pre0 _ ?_, hrun, hended, _, _, rfl, ?_, ⟨_, rfl⟩, hW, hsame.mono (by decide) (by decide)⟩
  · show Steps p.tables e below (s₁.setTop (mkF m 0 #[.val (.ref a1)] [])) _
    refine XS.aloadN X0.here hx rfl (hb hby d23_0) rfl rfl ?_
    show Steps p.tables e below (s₁.setTop (mkF m 1 #[.val (.ref a1)] [(.ref a1)])) _
    refine st64 _ ?_
    show Steps p.tables e below (T64.setTop (mkF m 4 #[.val (.ref a1)] [(.int (0 : Int32))])) _
    refine XS.aloadN X64.here hx rfl (hb hby d23_4) rfl rfl ?_
    show Steps p.tables e below (T64.setTop (mkF m 5 #[.val (.ref a1)] [(.ref a1), (.int (0 : Int32))])) _
    refine st65 _ ?_
    show Steps p.tables e below (T65.setTop (mkF m 8 #[.val (.ref a1)] [(.ref a2), (.int (0 : Int32))])) _
    refine st66 _ ?_
    show Steps p.tables e below (T66.setTop (mkF m 11 #[.val (.ref a1)] [(.int (1 : Int32)), (.int (0 : Int32))])) _
    refine XS.icmpNo X66.here hx rfl (hb hby d23_11) rfl (feq (by decide)).1 ?_
    show Steps p.tables e below (T66.setTop (mkF m 14 #[.val (.ref a1)] [])) _
    refine XS.iconst X66.here hx rfl (hb hby d23_14) ?_
    show Steps p.tables e below (T66.setTop (mkF m 15 #[.val (.ref a1)] [(.int (1 : Int32))])) _
    refine XS.goto X66.here hx rfl (pc0 := 15) (pc' := 19) rfl (hb hby d23_15) (by decide) (by decide) ?_
    show Steps p.tables e below (T66.setTop (mkF m 19 #[.val (.ref a1)] [(.int (1 : Int32))])) _
    exact retN X66 hx (t := .boolean) Bd.returns (by simp) (hb hby d23_19) hr
  · show QH01 Z a1 a2 h0 n0 _ T66.heap _
    rw [e66]
    exact ⟨rfl, N0, rfl⟩
def QH11 (Z : State) (a1 : Addr) (a2 : Addr) (h0 : Heap) (n0 : Nat) (v : Option Value) (h : Heap) (L : List Loc) : Prop := v = some (.int (0 : Int32)) ∧ Fr n0 L ∧ h = h0
theorem ef_H11 (m : MethodId) (a1 : Addr) : entryFrame m #[(.ref a1)] 1 = mkF m 0 #[.val (.ref a1)] [] := by first | (simp [entryFrame, mkF, argsToLocals, Value.category]; done) | rfl
set_option maxRecDepth 65536 in
set_option maxHeartbeats 40000000 in
theorem rmH11 (l : Launch) (Z : State) (a0 : Array Value) (hw : ∀ d ∈ tables_1, d.before a0 Z = true) (ws : List Jvm.Cond) (a1 : Addr) (a2 : Addr) (h0 : Heap) (n0 : Nat) (Zs : n0 ≤ h0.size) (F_this_0_a1 : Fld Z h0 a1 "java/util/ArrayList$Itr" "this$0" "Ljava/util/ArrayList;" (.ref a2)) (F_cursor_a1 : Fld Z h0 a1 "java/util/ArrayList$Itr" "cursor" "I" (.int (1 : Int32))) (F_size_a2 : Fld Z h0 a2 "java/util/ArrayList" "size" "I" (.int (1 : Int32))) :
    MetFree l (⟨"java/util/ArrayList$Itr", "hasNext", "()Z"⟩ : MethodName) (head1 (Jvm.Cond.code (⟨"java/util/ArrayList$Itr", "hasNext", "()Z"⟩ : MethodName) jdk_49_method_2_code 1 (some .boolean) :: ws) ({ frames := 0, cells := 0, slots := 0, locals := 0 } : Room)) (fun a U => a = #[(.ref a1)] ∧ Z.Warmed39 U.vm ∧ U.heap = h0) (fun _ _ _ _ _ => True) (fun _ U o U' => ∃ v L, o = .returned v ∧ QH11 Z a1 a2 h0 n0 v U'.heap L ∧ FrameEnd U o U' L ({ frames := 0, cells := 0, slots := 0, locals := 0 } : Room).cells ({ frames := 0, cells := 0, slots := 0, locals := 0 } : Room).slots) := by
  refine MetFree.of_bodySF (plainFor_of_name pn_6) hisR ?_
  intro p e s m args below meth c s₁ Bd hml0 hP hK
  obtain ⟨rfl, hZ, hh⟩ := hP
  have hx := Bd.exec
  have hby := Bd.bytes
  have hml : c.maxLocals = 1 := hml0
  have hown : s.vm.findClass "java/util/ArrayList$Itr" = some m.cls := findClass_of_methodNamed Bd.named
  have hnm := (name_of_methodNamed Bd.named Bd.method).1
  have X0 : Stand p l e ({ frames := 0, cells := 0, slots := 0, locals := 0 } : Room) s m #[(.ref a1)] below meth c s₁ [] 0 0 := Stand.of_body Bd
  have e0 : s₁.heap = h0 := by rw [← hh, Bd.state]; rfl
  have N0 := Fr.nil n0
  have pre0 : ∀ t, Steps p.tables e below (s₁.setTop (mkF m 0 #[.val (.ref a1)] [])) t → Steps p.tables e below (s₁.setTop (entryFrame m #[(.ref a1)] 1)) t := fun t k => castTop (ef_H11 m a1) k
  obtain ⟨T67, X67, e67, st67⟩ := getF X0 hx hZ hown (host := "") (Or.inl (hw _ (List.mem_of_getElem? (i := 161) rfl))) Via.refl e0 F_cursor_a1 (g := (mkF m 1 #[.val (.ref a1)] [(.ref a1)])) rfl rfl (hb hby d23_1)
  obtain ⟨T68, X68, e68, st68⟩ := getF X67 hx hZ hown (host := "") (Or.inl (hw _ (List.mem_of_getElem? (i := 144) rfl))) Via.refl e67 F_this_0_a1 (g := (mkF m 5 #[.val (.ref a1)] [(.ref a1), (.int (1 : Int32))])) rfl rfl (hb hby d23_5)
  obtain ⟨T69, X69, e69, st69⟩ := getF X68 hx hZ hown (Or.inr (hw _ (List.mem_of_getElem? (i := 163) rfl))) Via.refl e68 F_size_a2 (g := (mkF m 8 #[.val (.ref a1)] [(.ref a2), (.int (1 : Int32))])) rfl rfl (hb hby d23_8)
  obtain ⟨fs, hr, hrun, hended, hW, hsame⟩ := X69.leave (v := some (.int (0 : Int32))) (fun h => by rw [Bd.returns] at h; cases h)
  refine ⟨_, _, pre0 _ ?_, hrun, hended, _, _, rfl, ?_, ⟨_, rfl⟩, hW, hsame.mono (by decide) (by decide)⟩
  · show Steps p.tables e below (s₁.setTop (mkF m 0 #[.val (.ref a1)] [])) _
    refine XS.aloadN X0.here hx rfl (hb hby d23_0) rfl rfl ?_
    show Steps p.tables e below (s₁.setTop (mkF m 1 #[.val (.ref a1)] [(.ref a1)])) _
    refine st67 _ ?_
    show Steps p.tables e below (T67.setTop (mkF m 4 #[.val (.ref a1)] [(.int (1 : Int32))])) _
    refine XS.aloadN X67.here hx rfl (hb hby d23_4) rfl rfl ?_
    show Steps p.tables e below (T67.setTop (mkF m 5 #[.val (.ref a1)] [(.ref a1), (.int (1 : Int32))])) _
    refine st68 _ ?_
    show Steps p.tables e below (T68.setTop (mkF m 8 #[.val (.ref a1)] [(.ref a2), (.int (1 : Int32))])) _
    refine st69 _ ?_
    show Steps p.tables e below (T69.setTop (mkF m 11 #[.val (.ref a1)] [(.int (1 : Int32)), (.int (1 : Int32))])) _
    refine XS.icmpYes X69.here hx rfl (pc0 := 11) (pc' := 18) rfl (hb hby d23_11) rfl (teq (by decide)).1 (by decide) (by decide) ?_
    show Steps p.tables e below (T69.setTop (mkF m 18 #[.val (.ref a1)] [])) _
    refine XS.iconst X69.here hx rfl (hb hby d23_18) ?_
    show Steps p.tables e below (T69.setTop (mkF m 19 #[.val (.ref a1)] [(.int (0 : Int32))])) _
    exact retN X69 hx (t := .boolean) Bd.returns (by simp) (hb hby d23_19) hr
  · show QH11 Z a1 a2 h0 n0 _ T69.heap _
    rw [e69]
    exact ⟨rfl, N0, rfl⟩
def QCM (Z : State) (a1 : Addr) (a2 : Addr) (w3 : Int32) (h0 : Heap) (n0 : Nat) (v : Option Value) (h : Heap) (L : List Loc) : Prop := v = none ∧ Fr n0 L ∧ h = h0
theorem ef_CM (m : MethodId) (a1 : Addr) : entryFrame m #[(.ref a1)] 1 = mkF m 0 #[.val (.ref a1)] [] := by first | (simp [entryFrame, mkF, argsToLocals, Value.category]; done) | rfl
set_option maxRecDepth 65536 in
set_option maxHeartbeats 40000000 in
theorem rmCM (l : Launch) (Z : State) (a0 : Array Value) (hw : ∀ d ∈ tables_1, d.before a0 Z = true) (ws : List Jvm.Cond) (a1 : Addr) (a2 : Addr) (w3 : Int32) (h0 : Heap) (n0 : Nat) (Zs : n0 ≤ h0.size) (F_this_0_a1 : Fld Z h0 a1 "java/util/ArrayList$Itr" "this$0" "Ljava/util/ArrayList;" (.ref a2)) (F_expectedModCount_a1 : Fld Z h0 a1 "java/util/ArrayList$Itr" "expectedModCount" "I" (.int w3)) (F_modCount_a2 : Fld Z h0 a2 "java/util/AbstractList" "modCount" "I" (.int w3)) :
    MetFree l (⟨"java/util/ArrayList$Itr", "checkForComodification", "()V"⟩ : MethodName) (head1 (Jvm.Cond.code (⟨"java/util/ArrayList$Itr", "checkForComodification", "()V"⟩ : MethodName) jdk_49_method_6_code 1 none :: ws) ({ frames := 0, cells := 0, slots := 0, locals := 0 } : Room)) (fun a U => a = #[(.ref a1)] ∧ Z.Warmed39 U.vm ∧ U.heap = h0) (fun _ _ _ _ _ => True) (fun _ U o U' => ∃ v L, o = .returned v ∧ QCM Z a1 a2 w3 h0 n0 v U'.heap L ∧ FrameEnd U o U' L ({ frames := 0, cells := 0, slots := 0, locals := 0 } : Room).cells ({ frames := 0, cells := 0, slots := 0, locals := 0 } : Room).slots) := by
  refine MetFree.of_bodySF (plainFor_of_name pn_6) hisR ?_
  intro p e s m args below meth c s₁ Bd hml0 hP hK
  obtain ⟨rfl, hZ, hh⟩ := hP
  have hx := Bd.exec
  have hby := Bd.bytes
  have hml : c.maxLocals = 1 := hml0
  have hown : s.vm.findClass "java/util/ArrayList$Itr" = some m.cls := findClass_of_methodNamed Bd.named
  have hnm := (name_of_methodNamed Bd.named Bd.method).1
  have X0 : Stand p l e ({ frames := 0, cells := 0, slots := 0, locals := 0 } : Room) s m #[(.ref a1)] below meth c s₁ [] 0 0 := Stand.of_body Bd
  have e0 : s₁.heap = h0 := by rw [← hh, Bd.state]; rfl
  have N0 := Fr.nil n0
  have pre0 : ∀ t, Steps p.tables e below (s₁.setTop (mkF m 0 #[.val (.ref a1)] [])) t → Steps p.tables e below (s₁.setTop (entryFrame m #[(.ref a1)] 1)) t := fun t k => castTop (ef_CM m a1) k
  obtain ⟨T70, X70, e70, st70⟩ := getF X0 hx hZ hown (host := "") (Or.inl (hw _ (List.mem_of_getElem? (i := 144) rfl))) Via.refl e0 F_this_0_a1 (g := (mkF m 1 #[.val (.ref a1)] [(.ref a1)])) rfl rfl (hb hby d25_1)
  obtain ⟨T71, X71, e71, st71⟩ := getF X70 hx hZ hown (host := "") (Or.inl (hw _ (List.mem_of_getElem? (i := 149) rfl))) (Via.of (hw _ (List.mem_of_getElem? (i := 62) rfl))) e70 F_modCount_a2 (g := (mkF m 4 #[.val (.ref a1)] [(.ref a2)])) rfl rfl (hb hby d25_4)
  obtain ⟨T72, X72, e72, st72⟩ := getF X71 hx hZ hown (host := "") (Or.inl (hw _ (List.mem_of_getElem? (i := 150) rfl))) Via.refl e71 F_expectedModCount_a1 (g := (mkF m 8 #[.val (.ref a1)] [(.ref a1), (.int w3)])) rfl rfl (hb hby d25_8)
  obtain ⟨fs, hr, hrun, hended, hW, hsame⟩ := X72.leave (v := none) (fun _ => rfl)
  refine ⟨_, _, pre0 _ ?_, hrun, hended, _, _, rfl, ?_, ⟨_, rfl⟩, hW, hsame.mono (by decide) (by decide)⟩
  · show Steps p.tables e below (s₁.setTop (mkF m 0 #[.val (.ref a1)] [])) _
    refine XS.aloadN X0.here hx rfl (hb hby d25_0) rfl rfl ?_
    show Steps p.tables e below (s₁.setTop (mkF m 1 #[.val (.ref a1)] [(.ref a1)])) _
    refine st70 _ ?_
    show Steps p.tables e below (T70.setTop (mkF m 4 #[.val (.ref a1)] [(.ref a2)])) _
    refine st71 _ ?_
    show Steps p.tables e below (T71.setTop (mkF m 7 #[.val (.ref a1)] [(.int w3)])) _
    refine XS.aloadN X71.here hx rfl (hb hby d25_7) rfl rfl ?_
    show Steps p.tables e below (T71.setTop (mkF m 8 #[.val (.ref a1)] [(.ref a1), (.int w3)])) _
    refine st72 _ ?_
    show Steps p.tables e below (T72.setTop (mkF m 11 #[.val (.ref a1)] [(.int w3), (.int w3)])) _
    refine XS.icmpYes X72.here hx rfl (pc0 := 11) (pc' := 22) rfl (hb hby d25_11) rfl (teq rfl).1 (by decide) (by decide) ?_
    show Steps p.tables e below (T72.setTop (mkF m 22 #[.val (.ref a1)] [])) _
    exact X72.returnOut hx Bd.returns (hb hby d25_22) hr
  · show QCM Z a1 a2 w3 h0 n0 _ T72.heap _
    rw [e72]
    exact ⟨rfl, N0, rfl⟩
def QNX (Z : State) (a1 : Addr) (a2 : Addr) (u3 : Int32) (w3 : Int32) (b : Addr) (kb : ClassId) (f : Nat → Value) (r : Addr) (h0 : Heap) (n0 : Nat) (v : Option Value) (h : Heap) (L : List Loc) : Prop := v = some (.ref r) ∧ Fr n0 L ∧ (Keep h0 h [a1]) ∧ (Fld Z h a1 "java/util/ArrayList$Itr" "this$0" "Ljava/util/ArrayList;" (.ref a2)) ∧ (Fld Z h a1 "java/util/ArrayList$Itr" "cursor" "I" (.int (1 : Int32))) ∧ (Fld Z h a1 "java/util/ArrayList$Itr" "lastRet" "I" (.int (0 : Int32))) ∧ (Fld Z h a1 "java/util/ArrayList$Itr" "expectedModCount" "I" (.int w3))
theorem ef_NX (m : MethodId) (a1 : Addr) : entryFrame m #[(.ref a1)] 3 = mkF m 0 #[.val (.ref a1), .unset, .unset] [] := by first | (simp [entryFrame, mkF, argsToLocals, Value.category]; done) | rfl
set_option maxRecDepth 65536 in
set_option maxHeartbeats 40000000 in
theorem rmNX (l : Launch) (Z : State) (a0 : Array Value) (hw : ∀ d ∈ tables_1, d.before a0 Z = true) (ws : List Jvm.Cond) (a1 : Addr) (a2 : Addr) (u3 : Int32) (w3 : Int32) (b : Addr) (kb : ClassId) (f : Nat → Value) (r : Addr) (h0 : Heap) (n0 : Nat) (Zs : n0 ≤ h0.size) (E_a1 : Exa Z h0 a1 "java/util/ArrayList$Itr") (F_this_0_a1 : Fld Z h0 a1 "java/util/ArrayList$Itr" "this$0" "Ljava/util/ArrayList;" (.ref a2)) (F_cursor_a1 : Fld Z h0 a1 "java/util/ArrayList$Itr" "cursor" "I" (.int (0 : Int32))) (F_lastRet_a1 : Fld Z h0 a1 "java/util/ArrayList$Itr" "lastRet" "I" (.int u3)) (F_expectedModCount_a1 : Fld Z h0 a1 "java/util/ArrayList$Itr" "expectedModCount" "I" (.int w3)) (g_a1 : n0 ≤ a1) (F_elementData_a2 : Fld Z h0 a2 "java/util/ArrayList" "elementData" "[Ljava/lang/Object;" (.ref b)) (F_size_a2 : Fld Z h0 a2 "java/util/ArrayList" "size" "I" (.int (1 : Int32))) (F_modCount_a2 : Fld Z h0 a2 "java/util/AbstractList" "modCount" "I" (.int w3)) (A_b : ArR Z h0 b kb "java/lang/Object" (10 : Int32) f) (ne_a1_a2 : a1 ≠ a2) (ne_a1_b : a1 ≠ b) (ne_a2_b : a2 ≠ b) (hv : f (0 : Int32).toNatClampNeg = .ref r) :
    MetFree l (⟨"java/util/ArrayList$Itr", "next", "()Ljava/lang/Object;"⟩ : MethodName) (head1 (Jvm.Cond.code (⟨"java/util/ArrayList$Itr", "next", "()Ljava/lang/Object;"⟩ : MethodName) jdk_49_method_3_code 3 (some (.object "java/lang/Object")) :: ws) ({ frames := 1, cells := 0, slots := 0, locals := 12 } : Room)) (fun a U => a = #[(.ref a1)] ∧ Z.Warmed39 U.vm ∧ U.heap = h0) (fun _ _ _ _ _ => True) (fun _ U o U' => ∃ v L, o = .returned v ∧ QNX Z a1 a2 u3 w3 b kb f r h0 n0 v U'.heap L ∧ FrameEnd U o U' L ({ frames := 1, cells := 0, slots := 0, locals := 12 } : Room).cells ({ frames := 1, cells := 0, slots := 0, locals := 12 } : Room).slots) := by
  refine MetFree.of_bodySF (plainFor_of_name pn_6) hisR ?_
  intro p e s m args below meth c s₁ Bd hml0 hP hK
  obtain ⟨rfl, hZ, hh⟩ := hP
  have hx := Bd.exec
  have hby := Bd.bytes
  have hml : c.maxLocals = 3 := hml0
  have hown : s.vm.findClass "java/util/ArrayList$Itr" = some m.cls := findClass_of_methodNamed Bd.named
  have hnm := (name_of_methodNamed Bd.named Bd.method).1
  have X0 : Stand p l e ({ frames := 1, cells := 0, slots := 0, locals := 12 } : Room) s m #[(.ref a1)] below meth c s₁ [] 0 0 := Stand.of_body Bd
  have e0 : s₁.heap = h0 := by rw [← hh, Bd.state]; rfl
  have N0 := Fr.nil n0
  have pre0 : ∀ t, Steps p.tables e below (s₁.setTop (mkF m 0 #[.val (.ref a1), .unset, .unset] [])) t → Steps p.tables e below (s₁.setTop (entryFrame m #[(.ref a1)] 3)) t := fun t k => castTop (ef_NX m a1) k
  have Kp : Keep h0 h0 [a1] := Keep.refl h0 [a1]
  obtain ⟨cq73, kq73, q73a, q73b, q73c⟩ := isOf hZ e0 E_a1
  obtain ⟨_, _, ⟨T73, L73, k73, n73⟩, -, X73, ⟨Lc73, hQ73, l73, y73, z73⟩, st73⟩ := X0.virtualBack hx (y := (⟨"java/util/ArrayList$Itr", "checkForComodification", "()V"⟩ : MethodName)) (z := (⟨"java/util/ArrayList$Itr", "checkForComodification", "()V"⟩ : MethodName)) hown (mvT hZ (hw _ (List.mem_of_getElem? (i := 172) rfl))) (mvT hZ (hw _ (List.mem_of_getElem? (i := 173) rfl))) (notFace_of_selects (args := #[]) (mvT hZ (hw _ (List.mem_of_getElem? (i := 175) rfl)))) (mvT hZ (hw _ (List.mem_of_getElem? (i := 175) rfl))) (mvT hZ (hw _ (List.mem_of_getElem? (i := 174) rfl))) (by decide) (backOf (W := 0) (rmCM l Z a0 hw [] a1 a2 w3 h0 n0 Zs F_this_0_a1 F_expectedModCount_a1 F_modCount_a2) hZ (hw _ (List.mem_of_getElem? (i := 176) rfl)) (hw _ (List.mem_of_getElem? (i := 139) rfl)) (by decide) (by decide)) q73a q73c (g := (mkF m 1 #[.val (.ref a1), .unset, .unset] [(.ref a1)])) rfl (by rw [hml]; rfl) (Steps.refl _) (argsL := []) (rest := []) (lenOf pd_0 rfl) rfl (by show 2 * 0 + _ ≤ _; exact Nat.le_of_eq rfl) (hb hby d24_1) (fun _ _ => ⟨rfl, e0, (by decide : 0 + 0 ≤ _), (by decide : 0 + 0 ≤ _)⟩)
  dsimp only [Pt.U, Pt.locs, Pt.cells, Pt.slots] at X73 l73 y73 z73 st73 hQ73
  subst l73 y73 z73
  obtain ⟨rfl, N73q, e73⟩ := hQ73
  have N73 := Fr.app N0 N73q
  obtain ⟨T74, X74, e74, st74⟩ := getF X73 hx hZ hown (host := "") (Or.inl (hw _ (List.mem_of_getElem? (i := 161) rfl))) Via.refl e73 F_cursor_a1 (g := (mkF m 5 #[.val (.ref a1), .unset, .unset] [(.ref a1)])) rfl rfl (hb hby d24_5)
  obtain ⟨T75, X75, e75, st75⟩ := getF X74 hx hZ hown (host := "") (Or.inl (hw _ (List.mem_of_getElem? (i := 144) rfl))) Via.refl e74 F_this_0_a1 (g := (mkF m 11 #[.val (.ref a1), .val (.int (0 : Int32)), .unset] [(.ref a1), (.int (0 : Int32))])) rfl rfl (hb hby d24_11)
  obtain ⟨T76, X76, e76, st76⟩ := getF X75 hx hZ hown (Or.inr (hw _ (List.mem_of_getElem? (i := 163) rfl))) Via.refl e75 F_size_a2 (g := (mkF m 14 #[.val (.ref a1), .val (.int (0 : Int32)), .unset] [(.ref a2), (.int (0 : Int32))])) rfl rfl (hb hby d24_14)
  obtain ⟨T77, X77, e77, st77⟩ := getF X76 hx hZ hown (host := "") (Or.inl (hw _ (List.mem_of_getElem? (i := 144) rfl))) Via.refl e76 F_this_0_a1 (g := (mkF m 29 #[.val (.ref a1), .val (.int (0 : Int32)), .unset] [(.ref a1)])) rfl rfl (hb hby d24_29)
  obtain ⟨T78, X78, e78, st78⟩ := getF X77 hx hZ hown (host := "") (Or.inl (hw _ (List.mem_of_getElem? (i := 177) rfl))) Via.refl e77 F_elementData_a2 (g := (mkF m 32 #[.val (.ref a1), .val (.int (0 : Int32)), .unset] [(.ref a2)])) rfl rfl (hb hby d24_32)
  obtain ⟨cl79, Ar79, hl79⟩ := ArR.len A_b (by decide)
  obtain ⟨T80, h80, X80, e80, W80, st80⟩ := putF X78 hx hZ hown (host := "") (Or.inl (hw _ (List.mem_of_getElem? (i := 161) rfl))) Via.refl e78 F_cursor_a1 E_a1 (Or.inl (hw _ (List.mem_of_getElem? (i := 162) rfl))) (hw _ (List.mem_of_getElem? (i := 138) rfl)) (ty := .int) (by decide) rfl rfl (g := (mkF m 54 #[.val (.ref a1), .val (.int (0 : Int32)), .val (.ref b)] [(.int (1 : Int32)), (.ref a1)])) rfl rfl (hb hby d24_54)
  have N80 := Fr.snoc X80 N73 g_a1
  have Zs : n0 ≤ h80.size := Nat.le_trans Zs (Keep.of_wr W80).1
  have E_a1 : Exa Z h80 a1 "java/util/ArrayList$Itr" := E_a1.wr W80
  have F_this_0_a1 : Fld Z h80 a1 "java/util/ArrayList$Itr" "this$0" "Ljava/util/ArrayList;" (.ref a2) := F_this_0_a1.other W80 (Or.inr (slot_ne (Or.inr (hw _ (List.mem_of_getElem? (i := 145) rfl))) (Or.inl (hw _ (List.mem_of_getElem? (i := 162) rfl))) (by decide) (t := (.object "java/util/ArrayList")) (t' := .int) (by decide) (by decide)))
  have F_cursor_a1 : Fld Z h80 a1 "java/util/ArrayList$Itr" "cursor" "I" (.int (1 : Int32)) := F_cursor_a1.same W80
  have F_lastRet_a1 : Fld Z h80 a1 "java/util/ArrayList$Itr" "lastRet" "I" (.int u3) := F_lastRet_a1.other W80 (Or.inr (slot_ne (Or.inl (hw _ (List.mem_of_getElem? (i := 148) rfl))) (Or.inl (hw _ (List.mem_of_getElem? (i := 162) rfl))) (by decide) (t := .int) (t' := .int) (by decide) (by decide)))
  have F_expectedModCount_a1 : Fld Z h80 a1 "java/util/ArrayList$Itr" "expectedModCount" "I" (.int w3) := F_expectedModCount_a1.other W80 (Or.inr (slot_ne (Or.inl (hw _ (List.mem_of_getElem? (i := 151) rfl))) (Or.inl (hw _ (List.mem_of_getElem? (i := 162) rfl))) (by decide) (t := .int) (t' := .int) (by decide) (by decide)))
  have F_elementData_a2 : Fld Z h80 a2 "java/util/ArrayList" "elementData" "[Ljava/lang/Object;" (.ref b) := F_elementData_a2.other W80 (Or.inl (Ne.symm ne_a1_a2))
  have F_size_a2 : Fld Z h80 a2 "java/util/ArrayList" "size" "I" (.int (1 : Int32)) := F_size_a2.other W80 (Or.inl (Ne.symm ne_a1_a2))
  have F_modCount_a2 : Fld Z h80 a2 "java/util/AbstractList" "modCount" "I" (.int w3) := F_modCount_a2.other W80 (Or.inl (Ne.symm ne_a1_a2))
  have A_b : ArR Z h80 b kb "java/lang/Object" (10 : Int32) f := A_b.other W80 (Ne.symm ne_a1_b)
  have Kp : Keep h0 h80 [a1] := Kp.wr W80 (Or.inl (List.mem_of_getElem? (i := 0) rfl))
  obtain ⟨T81, h81, X81, e81, W81, st81⟩ := putF X80 hx hZ hown (host := "") (Or.inl (hw _ (List.mem_of_getElem? (i := 147) rfl))) Via.refl e80 F_lastRet_a1 E_a1 (Or.inl (hw _ (List.mem_of_getElem? (i := 148) rfl))) (hw _ (List.mem_of_getElem? (i := 138) rfl)) (ty := .int) (by decide) rfl rfl (g := (mkF m 61 #[.val (.ref a1), .val (.int (0 : Int32)), .val (.ref b)] [(.int (0 : Int32)), (.ref a1), (.int (0 : Int32)), (.ref b)])) rfl rfl (hb hby d24_61)
  have N81 := Fr.snoc X81 N80 g_a1
  have Zs : n0 ≤ h81.size := Nat.le_trans Zs (Keep.of_wr W81).1
  have E_a1 : Exa Z h81 a1 "java/util/ArrayList$Itr" := E_a1.wr W81
  have F_this_0_a1 : Fld Z h81 a1 "java/util/ArrayList$Itr" "this$0" "Ljava/util/ArrayList;" (.ref a2) := F_this_0_a1.other W81 (Or.inr (slot_ne (Or.inr (hw _ (List.mem_of_getElem? (i := 145) rfl))) (Or.inl (hw _ (List.mem_of_getElem? (i := 148) rfl))) (by decide) (t := (.object "java/util/ArrayList")) (t' := .int) (by decide) (by decide)))
  have F_cursor_a1 : Fld Z h81 a1 "java/util/ArrayList$Itr" "cursor" "I" (.int (1 : Int32)) := F_cursor_a1.other W81 (Or.inr (slot_ne (Or.inl (hw _ (List.mem_of_getElem? (i := 162) rfl))) (Or.inl (hw _ (List.mem_of_getElem? (i := 148) rfl))) (by decide) (t := .int) (t' := .int) (by decide) (by decide)))
  have F_lastRet_a1 : Fld Z h81 a1 "java/util/ArrayList$Itr" "lastRet" "I" (.int (0 : Int32)) := F_lastRet_a1.same W81
  have F_expectedModCount_a1 : Fld Z h81 a1 "java/util/ArrayList$Itr" "expectedModCount" "I" (.int w3) := F_expectedModCount_a1.other W81 (Or.inr (slot_ne (Or.inl (hw _ (List.mem_of_getElem? (i := 151) rfl))) (Or.inl (hw _ (List.mem_of_getElem? (i := 148) rfl))) (by decide) (t := .int) (t' := .int) (by decide) (by decide)))
  have F_elementData_a2 : Fld Z h81 a2 "java/util/ArrayList" "elementData" "[Ljava/lang/Object;" (.ref b) := F_elementData_a2.other W81 (Or.inl (Ne.symm ne_a1_a2))
  have F_size_a2 : Fld Z h81 a2 "java/util/ArrayList" "size" "I" (.int (1 : Int32)) := F_size_a2.other W81 (Or.inl (Ne.symm ne_a1_a2))
  have F_modCount_a2 : Fld Z h81 a2 "java/util/AbstractList" "modCount" "I" (.int w3) := F_modCount_a2.other W81 (Or.inl (Ne.symm ne_a1_a2))
  have A_b : ArR Z h81 b kb "java/lang/Object" (10 : Int32) f := A_b.other W81 (Ne.symm ne_a1_b)
  have Kp : Keep h0 h81 [a1] := Kp.wr W81 (Or.inl (List.mem_of_getElem? (i := 0) rfl))
  obtain ⟨cl82, Ar82, hs82, hin82, hat82, -⟩ := ArR.open (j := (0 : Int32)) A_b (by decide)
  rw [hv] at hat82
  obtain ⟨fs, hr, hrun, hended, hW, hsame⟩ := X81.leave (v := some (.ref r)) (fun h => by rw [Bd.returns] at h; cases h)
  refine ⟨_, _, pre0 _ ?_, hrun, hended, _, _, rfl, ?_, ⟨_, rfl⟩, hW, hsame.mono (by decide) (by decide)⟩
  · show Steps p.tables e below (s₁.setTop (mkF m 0 #[.val (.ref a1), .unset, .unset] [])) _
    refine XS.aloadN X0.here hx rfl (hb hby d24_0) rfl rfl ?_
    show Steps p.tables e below (s₁.setTop (mkF m 1 #[.val (.ref a1), .unset, .unset] [(.ref a1)])) _
    refine st73.trans ?_
    show Steps p.tables e below (T73.setTop (mkF m 4 #[.val (.ref a1), .unset, .unset] [])) _
    refine XS.aloadN X73.here hx rfl (hb hby d24_4) rfl rfl ?_
    show Steps p.tables e below (T73.setTop (mkF m 5 #[.val (.ref a1), .unset, .unset] [(.ref a1)])) _
    refine st74 _ ?_
    show Steps p.tables e below (T74.setTop (mkF m 8 #[.val (.ref a1), .unset, .unset] [(.int (0 : Int32))])) _
    refine XS.istoreN X74.here hx rfl (hb hby d24_8) rfl (l' := #[.val (.ref a1), .val (.int (0 : Int32)), .unset]) rfl ?_
    show Steps p.tables e below (T74.setTop (mkF m 9 #[.val (.ref a1), .val (.int (0 : Int32)), .unset] [])) _
    refine XS.iloadN X74.here hx rfl (hb hby d24_9) rfl ?_
    show Steps p.tables e below (T74.setTop (mkF m 10 #[.val (.ref a1), .val (.int (0 : Int32)), .unset] [(.int (0 : Int32))])) _
    refine XS.aloadN X74.here hx rfl (hb hby d24_10) rfl rfl ?_
    show Steps p.tables e below (T74.setTop (mkF m 11 #[.val (.ref a1), .val (.int (0 : Int32)), .unset] [(.ref a1), (.int (0 : Int32))])) _
    refine st75 _ ?_
    show Steps p.tables e below (T75.setTop (mkF m 14 #[.val (.ref a1), .val (.int (0 : Int32)), .unset] [(.ref a2), (.int (0 : Int32))])) _
    refine st76 _ ?_
    show Steps p.tables e below (T76.setTop (mkF m 17 #[.val (.ref a1), .val (.int (0 : Int32)), .unset] [(.int (1 : Int32)), (.int (0 : Int32))])) _
    refine XS.icmpYes X76.here hx rfl (pc0 := 17) (pc' := 28) rfl (hb hby d24_17) rfl (tlt (by decide)).1 (by decide) (by decide) ?_
    show Steps p.tables e below (T76.setTop (mkF m 28 #[.val (.ref a1), .val (.int (0 : Int32)), .unset] [])) _
    refine XS.aloadN X76.here hx rfl (hb hby d24_28) rfl rfl ?_
    show Steps p.tables e below (T76.setTop (mkF m 29 #[.val (.ref a1), .val (.int (0 : Int32)), .unset] [(.ref a1)])) _
    refine st77 _ ?_
    show Steps p.tables e below (T77.setTop (mkF m 32 #[.val (.ref a1), .val (.int (0 : Int32)), .unset] [(.ref a2)])) _
    refine st78 _ ?_
    show Steps p.tables e below (T78.setTop (mkF m 35 #[.val (.ref a1), .val (.int (0 : Int32)), .unset] [(.ref b)])) _
    refine XS.astoreN X78.here hx rfl (hb hby d24_35) rfl rfl (l' := #[.val (.ref a1), .val (.int (0 : Int32)), .val (.ref b)]) rfl ?_
    show Steps p.tables e below (T78.setTop (mkF m 36 #[.val (.ref a1), .val (.int (0 : Int32)), .val (.ref b)] [])) _
    refine XS.iloadN X78.here hx rfl (hb hby d24_36) rfl ?_
    show Steps p.tables e below (T78.setTop (mkF m 37 #[.val (.ref a1), .val (.int (0 : Int32)), .val (.ref b)] [(.int (0 : Int32))])) _
    refine XS.aloadN X78.here hx rfl (hb hby d24_37) rfl rfl ?_
    show Steps p.tables e below (T78.setTop (mkF m 38 #[.val (.ref a1), .val (.int (0 : Int32)), .val (.ref b)] [(.ref b), (.int (0 : Int32))])) _
    refine X78.arraylength hx (by rw [e78]; exact Ar79.1) (State.isArrayOf_alike hZ.alike Ar79.2.1) (g := (mkF m 38 #[.val (.ref a1), .val (.int (0 : Int32)), .val (.ref b)] [(.ref b), (.int (0 : Int32))])) rfl rfl (hb hby d24_38) _ ?_
    rw [hl79]
    show Steps p.tables e below (T78.setTop (mkF m 39 #[.val (.ref a1), .val (.int (0 : Int32)), .val (.ref b)] [(.int (10 : Int32)), (.int (0 : Int32))])) _
    refine XS.icmpYes X78.here hx rfl (pc0 := 39) (pc' := 50) rfl (hb hby d24_39) rfl (tlt (by decide)).1 (by decide) (by decide) ?_
    show Steps p.tables e below (T78.setTop (mkF m 50 #[.val (.ref a1), .val (.int (0 : Int32)), .val (.ref b)] [])) _
    refine XS.aloadN X78.here hx rfl (hb hby d24_50) rfl rfl ?_
    show Steps p.tables e below (T78.setTop (mkF m 51 #[.val (.ref a1), .val (.int (0 : Int32)), .val (.ref b)] [(.ref a1)])) _
    refine XS.iloadN X78.here hx rfl (hb hby d24_51) rfl ?_
    show Steps p.tables e below (T78.setTop (mkF m 52 #[.val (.ref a1), .val (.int (0 : Int32)), .val (.ref b)] [(.int (0 : Int32)), (.ref a1)])) _
    refine XS.iconst X78.here hx rfl (hb hby d24_52) ?_
    show Steps p.tables e below (T78.setTop (mkF m 53 #[.val (.ref a1), .val (.int (0 : Int32)), .val (.ref b)] [(.int (1 : Int32)), (.int (0 : Int32)), (.ref a1)])) _
    refine XS.iadd X78.here hx rfl (hb hby d24_53) rfl ?_
    show Steps p.tables e below (T78.setTop (mkF m 54 #[.val (.ref a1), .val (.int (0 : Int32)), .val (.ref b)] [(.int (1 : Int32)), (.ref a1)])) _
    refine st80 _ ?_
    show Steps p.tables e below (T80.setTop (mkF m 57 #[.val (.ref a1), .val (.int (0 : Int32)), .val (.ref b)] [])) _
    refine XS.aloadN X80.here hx rfl (hb hby d24_57) rfl rfl ?_
    show Steps p.tables e below (T80.setTop (mkF m 58 #[.val (.ref a1), .val (.int (0 : Int32)), .val (.ref b)] [(.ref b)])) _
    refine XS.aloadN X80.here hx rfl (hb hby d24_58) rfl rfl ?_
    show Steps p.tables e below (T80.setTop (mkF m 59 #[.val (.ref a1), .val (.int (0 : Int32)), .val (.ref b)] [(.ref a1), (.ref b)])) _
    refine XS.iloadN X80.here hx rfl (hb hby d24_59) rfl ?_
    show Steps p.tables e below (T80.setTop (mkF m 60 #[.val (.ref a1), .val (.int (0 : Int32)), .val (.ref b)] [(.int (0 : Int32)), (.ref a1), (.ref b)])) _
    refine XS.dupX1 X80.here hx rfl (hb hby d24_60) rfl rfl rfl ?_
    show Steps p.tables e below (T80.setTop (mkF m 61 #[.val (.ref a1), .val (.int (0 : Int32)), .val (.ref b)] [(.int (0 : Int32)), (.ref a1), (.int (0 : Int32)), (.ref b)])) _
    refine st81 _ ?_
    show Steps p.tables e below (T81.setTop (mkF m 64 #[.val (.ref a1), .val (.int (0 : Int32)), .val (.ref b)] [(.int (0 : Int32)), (.ref b)])) _
    refine X81.aaload hx (j := (0 : Int32)) (v := (.ref r)) (by rw [e81]; exact Ar82.1) (State.isArrayOf_alike hZ.alike Ar82.2.1) rfl Ar82.2.2 hin82 hat82 (g := (mkF m 64 #[.val (.ref a1), .val (.int (0 : Int32)), .val (.ref b)] [(.int (0 : Int32)), (.ref b)])) rfl rfl (hb hby d24_64) _ ?_
    show Steps p.tables e below (T81.setTop (mkF m 65 #[.val (.ref a1), .val (.int (0 : Int32)), .val (.ref b)] [(.ref r)])) _
    exact retOut X81 hx Bd.returns rfl (Or.inr (Or.inr (Or.inr (Or.inr ⟨rfl, rfl, rfl⟩)))) (hb hby d24_65) hr
  · show QNX Z a1 a2 u3 w3 b kb f r h0 n0 _ T81.heap _
    rw [e81]
    exact ⟨rfl, N81, Kp, F_this_0_a1, F_cursor_a1, F_lastRet_a1, F_expectedModCount_a1⟩
def QC0 (Z : State) (a1 : Addr) (e1 : Addr) (w3 : Int32) (h0 : Heap) (n0 : Nat) (v : Option Value) (h : Heap) (L : List Loc) : Prop := v = none ∧ Fr n0 L ∧ (Keep h0 h [a1]) ∧ (Fld Z h a1 "java/util/ArrayList" "elementData" "[Ljava/lang/Object;" (.ref e1)) ∧ (Fld Z h a1 "java/util/ArrayList" "size" "I" (.int (0 : Int32))) ∧ (Fld Z h a1 "java/util/AbstractList" "modCount" "I" (.int (w3 + (1 : Int32))))
theorem ef_C0 (m : MethodId) (a1 : Addr) : entryFrame m #[(.ref a1)] 4 = mkF m 0 #[.val (.ref a1), .unset, .unset, .unset] [] := by first | (simp [entryFrame, mkF, argsToLocals, Value.category]; done) | rfl
set_option maxRecDepth 65536 in
set_option maxHeartbeats 40000000 in
theorem rmC0 (l : Launch) (Z : State) (a0 : Array Value) (hw : ∀ d ∈ tables_1, d.before a0 Z = true) (ws : List Jvm.Cond) (a1 : Addr) (e1 : Addr) (w3 : Int32) (h0 : Heap) (n0 : Nat) (Zs : n0 ≤ h0.size) (E_a1 : Exa Z h0 a1 "java/util/ArrayList") (F_elementData_a1 : Fld Z h0 a1 "java/util/ArrayList" "elementData" "[Ljava/lang/Object;" (.ref e1)) (F_size_a1 : Fld Z h0 a1 "java/util/ArrayList" "size" "I" (.int (0 : Int32))) (F_modCount_a1 : Fld Z h0 a1 "java/util/AbstractList" "modCount" "I" (.int w3)) (g_a1 : n0 ≤ a1) :
    MetFree l (⟨"java/util/ArrayList", "clear", "()V"⟩ : MethodName) (head1 (Jvm.Cond.code (⟨"java/util/ArrayList", "clear", "()V"⟩ : MethodName) jdk_38_method_40_code 4 none :: ws) ({ frames := 0, cells := 0, slots := 0, locals := 0 } : Room)) (fun a U => a = #[(.ref a1)] ∧ Z.Warmed39 U.vm ∧ U.heap = h0) (fun _ _ _ _ _ => True) (fun _ U o U' => ∃ v L, o = .returned v ∧ QC0 Z a1 e1 w3 h0 n0 v U'.heap L ∧ FrameEnd U o U' L ({ frames := 0, cells := 0, slots := 0, locals := 0 } : Room).cells ({ frames := 0, cells := 0, slots := 0, locals := 0 } : Room).slots) := by
  refine MetFree.of_bodySF (plainFor_of_name pn_2) hisR ?_
  intro p e s m args below meth c s₁ Bd hml0 hP hK
  obtain ⟨rfl, hZ, hh⟩ := hP
  have hx := Bd.exec
  have hby := Bd.bytes
  have hml : c.maxLocals = 4 := hml0
  have hown : s.vm.findClass "java/util/ArrayList" = some m.cls := findClass_of_methodNamed Bd.named
  have hnm := (name_of_methodNamed Bd.named Bd.method).1
  have X0 : Stand p l e ({ frames := 0, cells := 0, slots := 0, locals := 0 } : Room) s m #[(.ref a1)] below meth c s₁ [] 0 0 := Stand.of_body Bd
  have e0 : s₁.heap = h0 := by rw [← hh, Bd.state]; rfl
  have N0 := Fr.nil n0
  have pre0 : ∀ t, Steps p.tables e below (s₁.setTop (mkF m 0 #[.val (.ref a1), .unset, .unset, .unset] [])) t → Steps p.tables e below (s₁.setTop (entryFrame m #[(.ref a1)] 4)) t := fun t k => castTop (ef_C0 m a1) k
  have Kp : Keep h0 h0 [a1] := Keep.refl h0 [a1]
  obtain ⟨T83, X83, e83, st83⟩ := getF X0 hx hZ hown (host := "") (Or.inl (hw _ (List.mem_of_getElem? (i := 61) rfl))) (Via.of (hw _ (List.mem_of_getElem? (i := 62) rfl))) e0 F_modCount_a1 (g := (mkF m 2 #[.val (.ref a1), .unset, .unset, .unset] [(.ref a1), (.ref a1)])) rfl rfl (hb hby d26_2)
  obtain ⟨T84, h84, X84, e84, W84, st84⟩ := putF X83 hx hZ hown (host := "") (Or.inl (hw _ (List.mem_of_getElem? (i := 61) rfl))) (Via.of (hw _ (List.mem_of_getElem? (i := 62) rfl))) e83 F_modCount_a1 E_a1 (Or.inl (hw _ (List.mem_of_getElem? (i := 36) rfl))) (hw _ (List.mem_of_getElem? (i := 17) rfl)) (ty := .int) (by decide) rfl rfl (g := (mkF m 7 #[.val (.ref a1), .unset, .unset, .unset] [(.int (w3 + (1 : Int32))), (.ref a1)])) rfl rfl (hb hby d26_7)
  have N84 := Fr.snoc X84 N0 g_a1
  have Zs : n0 ≤ h84.size := Nat.le_trans Zs (Keep.of_wr W84).1
  have E_a1 : Exa Z h84 a1 "java/util/ArrayList" := E_a1.wr W84
  have F_elementData_a1 : Fld Z h84 a1 "java/util/ArrayList" "elementData" "[Ljava/lang/Object;" (.ref e1) := F_elementData_a1.other W84 (Or.inr (slot_ne (Or.inl (hw _ (List.mem_of_getElem? (i := 40) rfl))) (Or.inl (hw _ (List.mem_of_getElem? (i := 36) rfl))) (by decide) (t := (.array (.object "java/lang/Object"))) (t' := .int) (by decide) (by decide)))
  have F_size_a1 : Fld Z h84 a1 "java/util/ArrayList" "size" "I" (.int (0 : Int32)) := F_size_a1.other W84 (Or.inr (slot_ne (Or.inl (hw _ (List.mem_of_getElem? (i := 64) rfl))) (Or.inl (hw _ (List.mem_of_getElem? (i := 36) rfl))) (by decide) (t := .int) (t' := .int) (by decide) (by decide)))
  have F_modCount_a1 : Fld Z h84 a1 "java/util/AbstractList" "modCount" "I" (.int (w3 + (1 : Int32))) := F_modCount_a1.same W84
  have Kp : Keep h0 h84 [a1] := Kp.wr W84 (Or.inl (List.mem_of_getElem? (i := 0) rfl))
  obtain ⟨T85, X85, e85, st85⟩ := getF X84 hx hZ hown (host := "") (Or.inl (hw _ (List.mem_of_getElem? (i := 39) rfl))) Via.refl e84 F_elementData_a1 (g := (mkF m 11 #[.val (.ref a1), .unset, .unset, .unset] [(.ref a1)])) rfl rfl (hb hby d26_11)
  obtain ⟨T86, X86, e86, st86⟩ := getF X85 hx hZ hown (host := "") (Or.inl (hw _ (List.mem_of_getElem? (i := 63) rfl))) Via.refl e85 F_size_a1 (g := (mkF m 16 #[.val (.ref a1), .val (.ref e1), .unset, .unset] [(.ref a1)])) rfl rfl (hb hby d26_16)
  obtain ⟨T87, h87, X87, e87, W87, st87⟩ := putF X86 hx hZ hown (host := "") (Or.inl (hw _ (List.mem_of_getElem? (i := 63) rfl))) Via.refl e86 F_size_a1 E_a1 (Or.inl (hw _ (List.mem_of_getElem? (i := 64) rfl))) (hw _ (List.mem_of_getElem? (i := 17) rfl)) (ty := .int) (by decide) rfl rfl (g := (mkF m 23 #[.val (.ref a1), .val (.ref e1), .val (.int (0 : Int32)), .unset] [(.int (0 : Int32)), (.ref a1), (.int (0 : Int32))])) rfl rfl (hb hby d26_23)
  have N87 := Fr.snoc X87 N84 g_a1
  have Zs : n0 ≤ h87.size := Nat.le_trans Zs (Keep.of_wr W87).1
  have E_a1 : Exa Z h87 a1 "java/util/ArrayList" := E_a1.wr W87
  have F_elementData_a1 : Fld Z h87 a1 "java/util/ArrayList" "elementData" "[Ljava/lang/Object;" (.ref e1) := F_elementData_a1.other W87 (Or.inr (slot_ne (Or.inl (hw _ (List.mem_of_getElem? (i := 40) rfl))) (Or.inl (hw _ (List.mem_of_getElem? (i := 64) rfl))) (by decide) (t := (.array (.object "java/lang/Object"))) (t' := .int) (by decide) (by decide)))
  have F_size_a1 : Fld Z h87 a1 "java/util/ArrayList" "size" "I" (.int (0 : Int32)) := F_size_a1.same W87
  have F_modCount_a1 : Fld Z h87 a1 "java/util/AbstractList" "modCount" "I" (.int (w3 + (1 : Int32))) := F_modCount_a1.other W87 (Or.inr (slot_ne (Or.inl (hw _ (List.mem_of_getElem? (i := 36) rfl))) (Or.inl (hw _ (List.mem_of_getElem? (i := 64) rfl))) (by decide) (t := .int) (t' := .int) (by decide) (by decide)))
  have Kp : Keep h0 h87 [a1] := Kp.wr W87 (Or.inl (List.mem_of_getElem? (i := 0) rfl))
  obtain ⟨fs, hr, hrun, hended, hW, hsame⟩ := X87.leave (v := none) (fun _ => rfl)
  refine ⟨_, _, pre0 _ ?_, hrun, hended, _, _, rfl, ?_, ⟨_, rfl⟩, hW, hsame.mono (by decide) (by decide)⟩
  · show Steps p.tables e below (s₁.setTop (mkF m 0 #[.val (.ref a1), .unset, .unset, .unset] [])) _
    refine XS.aloadN X0.here hx rfl (hb hby d26_0) rfl rfl ?_
    show Steps p.tables e below (s₁.setTop (mkF m 1 #[.val (.ref a1), .unset, .unset, .unset] [(.ref a1)])) _
    refine XS.dup X0.here hx rfl (hb hby d26_1) rfl rfl ?_
    show Steps p.tables e below (s₁.setTop (mkF m 2 #[.val (.ref a1), .unset, .unset, .unset] [(.ref a1), (.ref a1)])) _
    refine st83 _ ?_
    show Steps p.tables e below (T83.setTop (mkF m 5 #[.val (.ref a1), .unset, .unset, .unset] [(.int w3), (.ref a1)])) _
    refine XS.iconst X83.here hx rfl (hb hby d26_5) ?_
    show Steps p.tables e below (T83.setTop (mkF m 6 #[.val (.ref a1), .unset, .unset, .unset] [(.int (1 : Int32)), (.int w3), (.ref a1)])) _
    refine XS.iadd X83.here hx rfl (hb hby d26_6) rfl ?_
    show Steps p.tables e below (T83.setTop (mkF m 7 #[.val (.ref a1), .unset, .unset, .unset] [(.int (w3 + (1 : Int32))), (.ref a1)])) _
    refine st84 _ ?_
    show Steps p.tables e below (T84.setTop (mkF m 10 #[.val (.ref a1), .unset, .unset, .unset] [])) _
    refine XS.aloadN X84.here hx rfl (hb hby d26_10) rfl rfl ?_
    show Steps p.tables e below (T84.setTop (mkF m 11 #[.val (.ref a1), .unset, .unset, .unset] [(.ref a1)])) _
    refine st85 _ ?_
    show Steps p.tables e below (T85.setTop (mkF m 14 #[.val (.ref a1), .unset, .unset, .unset] [(.ref e1)])) _
    refine XS.astoreN X85.here hx rfl (hb hby d26_14) rfl rfl (l' := #[.val (.ref a1), .val (.ref e1), .unset, .unset]) rfl ?_
    show Steps p.tables e below (T85.setTop (mkF m 15 #[.val (.ref a1), .val (.ref e1), .unset, .unset] [])) _
    refine XS.aloadN X85.here hx rfl (hb hby d26_15) rfl rfl ?_
    show Steps p.tables e below (T85.setTop (mkF m 16 #[.val (.ref a1), .val (.ref e1), .unset, .unset] [(.ref a1)])) _
    refine st86 _ ?_
    show Steps p.tables e below (T86.setTop (mkF m 19 #[.val (.ref a1), .val (.ref e1), .unset, .unset] [(.int (0 : Int32))])) _
    refine XS.istoreN X86.here hx rfl (hb hby d26_19) rfl (l' := #[.val (.ref a1), .val (.ref e1), .val (.int (0 : Int32)), .unset]) rfl ?_
    show Steps p.tables e below (T86.setTop (mkF m 20 #[.val (.ref a1), .val (.ref e1), .val (.int (0 : Int32)), .unset] [])) _
    refine XS.aloadN X86.here hx rfl (hb hby d26_20) rfl rfl ?_
    show Steps p.tables e below (T86.setTop (mkF m 21 #[.val (.ref a1), .val (.ref e1), .val (.int (0 : Int32)), .unset] [(.ref a1)])) _
    refine XS.iconst X86.here hx rfl (hb hby d26_21) ?_
    show Steps p.tables e below (T86.setTop (mkF m 22 #[.val (.ref a1), .val (.ref e1), .val (.int (0 : Int32)), .unset] [(.int (0 : Int32)), (.ref a1)])) _
    refine XS.dupX1 X86.here hx rfl (hb hby d26_22) rfl rfl rfl ?_
    show Steps p.tables e below (T86.setTop (mkF m 23 #[.val (.ref a1), .val (.ref e1), .val (.int (0 : Int32)), .unset] [(.int (0 : Int32)), (.ref a1), (.int (0 : Int32))])) _
    refine st87 _ ?_
    show Steps p.tables e below (T87.setTop (mkF m 26 #[.val (.ref a1), .val (.ref e1), .val (.int (0 : Int32)), .unset] [(.int (0 : Int32))])) _
    refine XS.istoreN X87.here hx rfl (hb hby d26_26) rfl (l' := #[.val (.ref a1), .val (.ref e1), .val (.int (0 : Int32)), .val (.int (0 : Int32))]) rfl ?_
    show Steps p.tables e below (T87.setTop (mkF m 27 #[.val (.ref a1), .val (.ref e1), .val (.int (0 : Int32)), .val (.int (0 : Int32))] [])) _
    refine XS.iloadN X87.here hx rfl (hb hby d26_27) rfl ?_
    show Steps p.tables e below (T87.setTop (mkF m 28 #[.val (.ref a1), .val (.ref e1), .val (.int (0 : Int32)), .val (.int (0 : Int32))] [(.int (0 : Int32))])) _
    refine XS.iloadN X87.here hx rfl (hb hby d26_28) rfl ?_
    show Steps p.tables e below (T87.setTop (mkF m 29 #[.val (.ref a1), .val (.ref e1), .val (.int (0 : Int32)), .val (.int (0 : Int32))] [(.int (0 : Int32)), (.int (0 : Int32))])) _
    refine XS.icmpYes X87.here hx rfl (pc0 := 29) (pc' := 42) rfl (hb hby d26_29) rfl (flt (by decide)).2.1 (by decide) (by decide) ?_
    show Steps p.tables e below (T87.setTop (mkF m 42 #[.val (.ref a1), .val (.ref e1), .val (.int (0 : Int32)), .val (.int (0 : Int32))] [])) _
    exact X87.returnOut hx Bd.returns (hb hby d26_42) hr
  · show QC0 Z a1 e1 w3 h0 n0 _ T87.heap _
    rw [e87]
    exact ⟨rfl, N87, Kp, F_elementData_a1, F_size_a1, F_modCount_a1⟩
def QC1 (Z : State) (a1 : Addr) (b : Addr) (w3 : Int32) (kb : ClassId) (f : Nat → Value) (h0 : Heap) (n0 : Nat) (v : Option Value) (h : Heap) (L : List Loc) : Prop := v = none ∧ Fr n0 L ∧ (Keep h0 h [a1, b]) ∧ (Fld Z h a1 "java/util/ArrayList" "elementData" "[Ljava/lang/Object;" (.ref b)) ∧ (Fld Z h a1 "java/util/ArrayList" "size" "I" (.int (0 : Int32))) ∧ (Fld Z h a1 "java/util/AbstractList" "modCount" "I" (.int (w3 + (1 : Int32)))) ∧ (ArR Z h b kb "java/lang/Object" (10 : Int32) (upd f (0 : Int32).toNatClampNeg .null))
theorem ef_C1 (m : MethodId) (a1 : Addr) : entryFrame m #[(.ref a1)] 4 = mkF m 0 #[.val (.ref a1), .unset, .unset, .unset] [] := by first | (simp [entryFrame, mkF, argsToLocals, Value.category]; done) | rfl
set_option maxRecDepth 65536 in
set_option maxHeartbeats 40000000 in
theorem rmC1 (l : Launch) (Z : State) (a0 : Array Value) (hw : ∀ d ∈ tables_1, d.before a0 Z = true) (ws : List Jvm.Cond) (a1 : Addr) (b : Addr) (w3 : Int32) (kb : ClassId) (f : Nat → Value) (h0 : Heap) (n0 : Nat) (Zs : n0 ≤ h0.size) (E_a1 : Exa Z h0 a1 "java/util/ArrayList") (F_elementData_a1 : Fld Z h0 a1 "java/util/ArrayList" "elementData" "[Ljava/lang/Object;" (.ref b)) (F_size_a1 : Fld Z h0 a1 "java/util/ArrayList" "size" "I" (.int (1 : Int32))) (F_modCount_a1 : Fld Z h0 a1 "java/util/AbstractList" "modCount" "I" (.int w3)) (g_a1 : n0 ≤ a1) (g_b : n0 ≤ b) (A_b : ArR Z h0 b kb "java/lang/Object" (10 : Int32) f) (ne_a1_b : a1 ≠ b) :
    MetFree l (⟨"java/util/ArrayList", "clear", "()V"⟩ : MethodName) (head1 (Jvm.Cond.code (⟨"java/util/ArrayList", "clear", "()V"⟩ : MethodName) jdk_38_method_40_code 4 none :: ws) ({ frames := 0, cells := 0, slots := 0, locals := 0 } : Room)) (fun a U => a = #[(.ref a1)] ∧ Z.Warmed39 U.vm ∧ U.heap = h0) (fun _ _ _ _ _ => True) (fun _ U o U' => ∃ v L, o = .returned v ∧ QC1 Z a1 b w3 kb f h0 n0 v U'.heap L ∧ FrameEnd U o U' L ({ frames := 0, cells := 0, slots := 0, locals := 0 } : Room).cells ({ frames := 0, cells := 0, slots := 0, locals := 0 } : Room).slots) := by
  refine MetFree.of_bodySF (plainFor_of_name pn_2) hisR ?_
  intro p e s m args below meth c s₁ Bd hml0 hP hK
  obtain ⟨rfl, hZ, hh⟩ := hP
  have hx := Bd.exec
  have hby := Bd.bytes
  have hml : c.maxLocals = 4 := hml0
  have hown : s.vm.findClass "java/util/ArrayList" = some m.cls := findClass_of_methodNamed Bd.named
  have hnm := (name_of_methodNamed Bd.named Bd.method).1
  have X0 : Stand p l e ({ frames := 0, cells := 0, slots := 0, locals := 0 } : Room) s m #[(.ref a1)] below meth c s₁ [] 0 0 := Stand.of_body Bd
  have e0 : s₁.heap = h0 := by rw [← hh, Bd.state]; rfl
  have N0 := Fr.nil n0
  have pre0 : ∀ t, Steps p.tables e below (s₁.setTop (mkF m 0 #[.val (.ref a1), .unset, .unset, .unset] [])) t → Steps p.tables e below (s₁.setTop (entryFrame m #[(.ref a1)] 4)) t := fun t k => castTop (ef_C1 m a1) k
  have Kp : Keep h0 h0 [a1, b] := Keep.refl h0 [a1, b]
  obtain ⟨T88, X88, e88, st88⟩ := getF X0 hx hZ hown (host := "") (Or.inl (hw _ (List.mem_of_getElem? (i := 61) rfl))) (Via.of (hw _ (List.mem_of_getElem? (i := 62) rfl))) e0 F_modCount_a1 (g := (mkF m 2 #[.val (.ref a1), .unset, .unset, .unset] [(.ref a1), (.ref a1)])) rfl rfl (hb hby d26_2)
  obtain ⟨T89, h89, X89, e89, W89, st89⟩ := putF X88 hx hZ hown (host := "") (Or.inl (hw _ (List.mem_of_getElem? (i := 61) rfl))) (Via.of (hw _ (List.mem_of_getElem? (i := 62) rfl))) e88 F_modCount_a1 E_a1 (Or.inl (hw _ (List.mem_of_getElem? (i := 36) rfl))) (hw _ (List.mem_of_getElem? (i := 17) rfl)) (ty := .int) (by decide) rfl rfl (g := (mkF m 7 #[.val (.ref a1), .unset, .unset, .unset] [(.int (w3 + (1 : Int32))), (.ref a1)])) rfl rfl (hb hby d26_7)
  have N89 := Fr.snoc X89 N0 g_a1
  have Zs : n0 ≤ h89.size := Nat.le_trans Zs (Keep.of_wr W89).1
  have E_a1 : Exa Z h89 a1 "java/util/ArrayList" := E_a1.wr W89
  have F_elementData_a1 : Fld Z h89 a1 "java/util/ArrayList" "elementData" "[Ljava/lang/Object;" (.ref b) := F_elementData_a1.other W89 (Or.inr (slot_ne (Or.inl (hw _ (List.mem_of_getElem? (i := 40) rfl))) (Or.inl (hw _ (List.mem_of_getElem? (i := 36) rfl))) (by decide) (t := (.array (.object "java/lang/Object"))) (t' := .int) (by decide) (by decide)))
  have F_size_a1 : Fld Z h89 a1 "java/util/ArrayList" "size" "I" (.int (1 : Int32)) := F_size_a1.other W89 (Or.inr (slot_ne (Or.inl (hw _ (List.mem_of_getElem? (i := 64) rfl))) (Or.inl (hw _ (List.mem_of_getElem? (i := 36) rfl))) (by decide) (t := .int) (t' := .int) (by decide) (by decide)))
  have F_modCount_a1 : Fld Z h89 a1 "java/util/AbstractList" "modCount" "I" (.int (w3 + (1 : Int32))) := F_modCount_a1.same W89
  have A_b : ArR Z h89 b kb "java/lang/Object" (10 : Int32) f := A_b.other W89 (Ne.symm ne_a1_b)
  have Kp : Keep h0 h89 [a1, b] := Kp.wr W89 (Or.inl (List.mem_of_getElem? (i := 0) rfl))
  obtain ⟨T90, X90, e90, st90⟩ := getF X89 hx hZ hown (host := "") (Or.inl (hw _ (List.mem_of_getElem? (i := 39) rfl))) Via.refl e89 F_elementData_a1 (g := (mkF m 11 #[.val (.ref a1), .unset, .unset, .unset] [(.ref a1)])) rfl rfl (hb hby d26_11)
  obtain ⟨T91, X91, e91, st91⟩ := getF X90 hx hZ hown (host := "") (Or.inl (hw _ (List.mem_of_getElem? (i := 63) rfl))) Via.refl e90 F_size_a1 (g := (mkF m 16 #[.val (.ref a1), .val (.ref b), .unset, .unset] [(.ref a1)])) rfl rfl (hb hby d26_16)
  obtain ⟨T92, h92, X92, e92, W92, st92⟩ := putF X91 hx hZ hown (host := "") (Or.inl (hw _ (List.mem_of_getElem? (i := 63) rfl))) Via.refl e91 F_size_a1 E_a1 (Or.inl (hw _ (List.mem_of_getElem? (i := 64) rfl))) (hw _ (List.mem_of_getElem? (i := 17) rfl)) (ty := .int) (by decide) rfl rfl (g := (mkF m 23 #[.val (.ref a1), .val (.ref b), .val (.int (1 : Int32)), .unset] [(.int (0 : Int32)), (.ref a1), (.int (0 : Int32))])) rfl rfl (hb hby d26_23)
  have N92 := Fr.snoc X92 N89 g_a1
  have Zs : n0 ≤ h92.size := Nat.le_trans Zs (Keep.of_wr W92).1
  have E_a1 : Exa Z h92 a1 "java/util/ArrayList" := E_a1.wr W92
  have F_elementData_a1 : Fld Z h92 a1 "java/util/ArrayList" "elementData" "[Ljava/lang/Object;" (.ref b) := F_elementData_a1.other W92 (Or.inr (slot_ne (Or.inl (hw _ (List.mem_of_getElem? (i := 40) rfl))) (Or.inl (hw _ (List.mem_of_getElem? (i := 64) rfl))) (by decide) (t := (.array (.object "java/lang/Object"))) (t' := .int) (by decide) (by decide)))
  have F_size_a1 : Fld Z h92 a1 "java/util/ArrayList" "size" "I" (.int (0 : Int32)) := F_size_a1.same W92
  have F_modCount_a1 : Fld Z h92 a1 "java/util/AbstractList" "modCount" "I" (.int (w3 + (1 : Int32))) := F_modCount_a1.other W92 (Or.inr (slot_ne (Or.inl (hw _ (List.mem_of_getElem? (i := 36) rfl))) (Or.inl (hw _ (List.mem_of_getElem? (i := 64) rfl))) (by decide) (t := .int) (t' := .int) (by decide) (by decide)))
  have A_b : ArR Z h92 b kb "java/lang/Object" (10 : Int32) f := A_b.other W92 (Ne.symm ne_a1_b)
  have Kp : Keep h0 h92 [a1, b] := Kp.wr W92 (Or.inl (List.mem_of_getElem? (i := 0) rfl))
  obtain ⟨cl93, Ar93, hs93, hin93, hat93, -⟩ := ArR.open (j := (0 : Int32)) A_b (by decide)
  obtain ⟨T94, h94, X94, e94, W94, st94⟩ := stR X92 hx hZ e92 Ar93 (j := (0 : Int32)) hin93 rfl (Or.inl rfl) (g := (mkF m 35 #[.val (.ref a1), .val (.ref b), .val (.int (1 : Int32)), .val (.int (0 : Int32))] [.null, (.int (0 : Int32)), (.ref b)])) rfl rfl (hb hby d26_35)
  have N94 := Fr.snoc X94 N92 g_b
  have Zs : n0 ≤ h94.size := Nat.le_trans Zs (Keep.of_wr W94).1
  have E_a1 : Exa Z h94 a1 "java/util/ArrayList" := E_a1.wr W94
  have F_elementData_a1 : Fld Z h94 a1 "java/util/ArrayList" "elementData" "[Ljava/lang/Object;" (.ref b) := F_elementData_a1.other W94 (Or.inl ne_a1_b)
  have F_size_a1 : Fld Z h94 a1 "java/util/ArrayList" "size" "I" (.int (0 : Int32)) := F_size_a1.other W94 (Or.inl ne_a1_b)
  have F_modCount_a1 : Fld Z h94 a1 "java/util/AbstractList" "modCount" "I" (.int (w3 + (1 : Int32))) := F_modCount_a1.other W94 (Or.inl ne_a1_b)
  have Kp : Keep h0 h94 [a1, b] := Kp.wr W94 (Or.inl (List.mem_of_getElem? (i := 1) rfl))
  have A_b : ArR Z h94 b kb "java/lang/Object" (10 : Int32) (upd f (0 : Int32).toNatClampNeg .null) := ArR.set A_b W94
  obtain ⟨fs, hr, hrun, hended, hW, hsame⟩ := X94.leave (v := none) (fun _ => rfl)
  refine ⟨_, _, pre0 _ ?_, hrun, hended, _, _, rfl, ?_, ⟨_, rfl⟩, hW, hsame.mono (by decide) (by decide)⟩
  · show Steps p.tables e below (s₁.setTop (mkF m 0 #[.val (.ref a1), .unset, .unset, .unset] [])) _
    refine XS.aloadN X0.here hx rfl (hb hby d26_0) rfl rfl ?_
    show Steps p.tables e below (s₁.setTop (mkF m 1 #[.val (.ref a1), .unset, .unset, .unset] [(.ref a1)])) _
    refine XS.dup X0.here hx rfl (hb hby d26_1) rfl rfl ?_
    show Steps p.tables e below (s₁.setTop (mkF m 2 #[.val (.ref a1), .unset, .unset, .unset] [(.ref a1), (.ref a1)])) _
    refine st88 _ ?_
    show Steps p.tables e below (T88.setTop (mkF m 5 #[.val (.ref a1), .unset, .unset, .unset] [(.int w3), (.ref a1)])) _
    refine XS.iconst X88.here hx rfl (hb hby d26_5) ?_
    show Steps p.tables e below (T88.setTop (mkF m 6 #[.val (.ref a1), .unset, .unset, .unset] [(.int (1 : Int32)), (.int w3), (.ref a1)])) _
    refine XS.iadd X88.here hx rfl (hb hby d26_6) rfl ?_
    show Steps p.tables e below (T88.setTop (mkF m 7 #[.val (.ref a1), .unset, .unset, .unset] [(.int (w3 + (1 : Int32))), (.ref a1)])) _
    refine st89 _ ?_
    show Steps p.tables e below (T89.setTop (mkF m 10 #[.val (.ref a1), .unset, .unset, .unset] [])) _
    refine XS.aloadN X89.here hx rfl (hb hby d26_10) rfl rfl ?_
    show Steps p.tables e below (T89.setTop (mkF m 11 #[.val (.ref a1), .unset, .unset, .unset] [(.ref a1)])) _
    refine st90 _ ?_
    show Steps p.tables e below (T90.setTop (mkF m 14 #[.val (.ref a1), .unset, .unset, .unset] [(.ref b)])) _
    refine XS.astoreN X90.here hx rfl (hb hby d26_14) rfl rfl (l' := #[.val (.ref a1), .val (.ref b), .unset, .unset]) rfl ?_
    show Steps p.tables e below (T90.setTop (mkF m 15 #[.val (.ref a1), .val (.ref b), .unset, .unset] [])) _
    refine XS.aloadN X90.here hx rfl (hb hby d26_15) rfl rfl ?_
    show Steps p.tables e below (T90.setTop (mkF m 16 #[.val (.ref a1), .val (.ref b), .unset, .unset] [(.ref a1)])) _
    refine st91 _ ?_
    show Steps p.tables e below (T91.setTop (mkF m 19 #[.val (.ref a1), .val (.ref b), .unset, .unset] [(.int (1 : Int32))])) _
    refine XS.istoreN X91.here hx rfl (hb hby d26_19) rfl (l' := #[.val (.ref a1), .val (.ref b), .val (.int (1 : Int32)), .unset]) rfl ?_
    show Steps p.tables e below (T91.setTop (mkF m 20 #[.val (.ref a1), .val (.ref b), .val (.int (1 : Int32)), .unset] [])) _
    refine XS.aloadN X91.here hx rfl (hb hby d26_20) rfl rfl ?_
    show Steps p.tables e below (T91.setTop (mkF m 21 #[.val (.ref a1), .val (.ref b), .val (.int (1 : Int32)), .unset] [(.ref a1)])) _
    refine XS.iconst X91.here hx rfl (hb hby d26_21) ?_
    show Steps p.tables e below (T91.setTop (mkF m 22 #[.val (.ref a1), .val (.ref b), .val (.int (1 : Int32)), .unset] [(.int (0 : Int32)), (.ref a1)])) _
    refine XS.dupX1 X91.here hx rfl (hb hby d26_22) rfl rfl rfl ?_
    show Steps p.tables e below (T91.setTop (mkF m 23 #[.val (.ref a1), .val (.ref b), .val (.int (1 : Int32)), .unset] [(.int (0 : Int32)), (.ref a1), (.int (0 : Int32))])) _
    refine st92 _ ?_
    show Steps p.tables e below (T92.setTop (mkF m 26 #[.val (.ref a1), .val (.ref b), .val (.int (1 : Int32)), .unset] [(.int (0 : Int32))])) _
    refine XS.istoreN X92.here hx rfl (hb hby d26_26) rfl (l' := #[.val (.ref a1), .val (.ref b), .val (.int (1 : Int32)), .val (.int (0 : Int32))]) rfl ?_
    show Steps p.tables e below (T92.setTop (mkF m 27 #[.val (.ref a1), .val (.ref b), .val (.int (1 : Int32)), .val (.int (0 : Int32))] [])) _
    refine XS.iloadN X92.here hx rfl (hb hby d26_27) rfl ?_
    show Steps p.tables e below (T92.setTop (mkF m 28 #[.val (.ref a1), .val (.ref b), .val (.int (1 : Int32)), .val (.int (0 : Int32))] [(.int (0 : Int32))])) _
    refine XS.iloadN X92.here hx rfl (hb hby d26_28) rfl ?_
    show Steps p.tables e below (T92.setTop (mkF m 29 #[.val (.ref a1), .val (.ref b), .val (.int (1 : Int32)), .val (.int (0 : Int32))] [(.int (1 : Int32)), (.int (0 : Int32))])) _
    refine XS.icmpNo X92.here hx rfl (hb hby d26_29) rfl (tlt (by decide)).2.1 ?_
    show Steps p.tables e below (T92.setTop (mkF m 32 #[.val (.ref a1), .val (.ref b), .val (.int (1 : Int32)), .val (.int (0 : Int32))] [])) _
    refine XS.aloadN X92.here hx rfl (hb hby d26_32) rfl rfl ?_
    show Steps p.tables e below (T92.setTop (mkF m 33 #[.val (.ref a1), .val (.ref b), .val (.int (1 : Int32)), .val (.int (0 : Int32))] [(.ref b)])) _
    refine XS.iloadN X92.here hx rfl (hb hby d26_33) rfl ?_
    show Steps p.tables e below (T92.setTop (mkF m 34 #[.val (.ref a1), .val (.ref b), .val (.int (1 : Int32)), .val (.int (0 : Int32))] [(.int (0 : Int32)), (.ref b)])) _
    refine XS.aconstNull X92.here hx rfl (hb hby d26_34) ?_
    show Steps p.tables e below (T92.setTop (mkF m 35 #[.val (.ref a1), .val (.ref b), .val (.int (1 : Int32)), .val (.int (0 : Int32))] [.null, (.int (0 : Int32)), (.ref b)])) _
    refine st94 _ ?_
    show Steps p.tables e below (T94.setTop (mkF m 36 #[.val (.ref a1), .val (.ref b), .val (.int (1 : Int32)), .val (.int (0 : Int32))] [])) _
    refine XS.iinc X94.here hx rfl (hb hby d26_36) rfl (l' := #[.val (.ref a1), .val (.ref b), .val (.int (1 : Int32)), .val (.int (1 : Int32))]) rfl ?_
    show Steps p.tables e below (T94.setTop (mkF m 39 #[.val (.ref a1), .val (.ref b), .val (.int (1 : Int32)), .val (.int (1 : Int32))] [])) _
    refine XS.goto X94.here hx rfl (pc0 := 39) (pc' := 27) rfl (hb hby d26_39) (by decide) (by decide) ?_
    show Steps p.tables e below (T94.setTop (mkF m 27 #[.val (.ref a1), .val (.ref b), .val (.int (1 : Int32)), .val (.int (1 : Int32))] [])) _
    refine XS.iloadN X94.here hx rfl (hb hby d26_27) rfl ?_
    show Steps p.tables e below (T94.setTop (mkF m 28 #[.val (.ref a1), .val (.ref b), .val (.int (1 : Int32)), .val (.int (1 : Int32))] [(.int (1 : Int32))])) _
    refine XS.iloadN X94.here hx rfl (hb hby d26_28) rfl ?_
    show Steps p.tables e below (T94.setTop (mkF m 29 #[.val (.ref a1), .val (.ref b), .val (.int (1 : Int32)), .val (.int (1 : Int32))] [(.int (1 : Int32)), (.int (1 : Int32))])) _
    refine XS.icmpYes X94.here hx rfl (pc0 := 29) (pc' := 42) rfl (hb hby d26_29) rfl (flt (by decide)).2.1 (by decide) (by decide) ?_
    show Steps p.tables e below (T94.setTop (mkF m 42 #[.val (.ref a1), .val (.ref b), .val (.int (1 : Int32)), .val (.int (1 : Int32))] [])) _
    exact X94.returnOut hx Bd.returns (hb hby d26_42) hr
  · show QC1 Z a1 b w3 kb f h0 n0 _ T94.heap _
    rw [e94]
    exact ⟨rfl, N94, Kp, F_elementData_a1, F_size_a1, F_modCount_a1, A_b⟩
def QAK (Z : State) (a1 : Addr) (p2 : Int32) (ra : Addr) (ja : Addr) (fr : Nat → Int32) (f : Nat → Int64) (h0 : Heap) (n0 : Nat) (v : Option Value) (h : Heap) (L : List Loc) : Prop := v = none ∧ Fr n0 L ∧ (Keep h0 h [ra, ja]) ∧ (ArI Z h ra (4 : Int32) (upd fr p2.toNatClampNeg ((fr p2.toNatClampNeg) + (1 : Int32)))) ∧ (ArJ Z h ja (4 : Int32) (upd f p2.toNatClampNeg (-1 : Int64)))
theorem ef_AK (m : MethodId) (a1 : Addr) (p2 : Int32) : entryFrame m #[(.ref a1), (.int p2)] 2 = mkF m 0 #[.val (.ref a1), .val (.int p2)] [] := by first | (simp [entryFrame, mkF, argsToLocals, Value.category]; done) | rfl
set_option maxRecDepth 65536 in
set_option maxHeartbeats 40000000 in
theorem rmAK (l : Launch) (Z : State) (a0 : Array Value) (hw : ∀ d ∈ tables_1, d.before a0 Z = true) (ws : List Jvm.Cond) (a1 : Addr) (p2 : Int32) (ra : Addr) (ja : Addr) (fr : Nat → Int32) (f : Nat → Int64) (h0 : Heap) (n0 : Nat) (Zs : n0 ≤ h0.size) (F_requests_a1 : Fld Z h0 a1 "com/example/wachter/wachter/sim/QueueOrder" "requests" "[I" (.ref ra)) (F_joinedAs_a1 : Fld Z h0 a1 "com/example/wachter/wachter/sim/QueueOrder" "joinedAs" "[J" (.ref ja)) (A_ra : ArI Z h0 ra (4 : Int32) fr) (A_ja : ArJ Z h0 ja (4 : Int32) f) (g_ra : n0 ≤ ra) (g_ja : n0 ≤ ja) (ne_a1_ra : a1 ≠ ra) (ne_a1_ja : a1 ≠ ja) (ne_ra_ja : ra ≠ ja) (hi : ¬ p2 < (0 : Int32) ∧ p2 < (4 : Int32)) :
    MetFree l (⟨"com/example/wachter/wachter/sim/QueueOrder", "asked", "(I)V"⟩ : MethodName) (head1 (Jvm.Cond.code (⟨"com/example/wachter/wachter/sim/QueueOrder", "asked", "(I)V"⟩ : MethodName) prog_41_method_2_code 2 none :: ws) ({ frames := 0, cells := 0, slots := 0, locals := 0 } : Room)) (fun a U => a = #[(.ref a1), (.int p2)] ∧ Z.Warmed39 U.vm ∧ U.heap = h0) (fun _ _ _ _ _ => True) (fun _ U o U' => ∃ v L, o = .returned v ∧ QAK Z a1 p2 ra ja fr f h0 n0 v U'.heap L ∧ FrameEnd U o U' L ({ frames := 0, cells := 0, slots := 0, locals := 0 } : Room).cells ({ frames := 0, cells := 0, slots := 0, locals := 0 } : Room).slots) := by
  refine MetFree.of_bodySF (plainFor_of_name pn_7) hisR ?_
  intro p e s m args below meth c s₁ Bd hml0 hP hK
  obtain ⟨rfl, hZ, hh⟩ := hP
  have hx := Bd.exec
  have hby := Bd.bytes
  have hml : c.maxLocals = 2 := hml0
  have hown : s.vm.findClass "com/example/wachter/wachter/sim/QueueOrder" = some m.cls := findClass_of_methodNamed Bd.named
  have hnm := (name_of_methodNamed Bd.named Bd.method).1
  have X0 : Stand p l e ({ frames := 0, cells := 0, slots := 0, locals := 0 } : Room) s m #[(.ref a1), (.int p2)] below meth c s₁ [] 0 0 := Stand.of_body Bd
  have e0 : s₁.heap = h0 := by rw [← hh, Bd.state]; rfl
  have N0 := Fr.nil n0
  have pre0 : ∀ t, Steps p.tables e below (s₁.setTop (mkF m 0 #[.val (.ref a1), .val (.int p2)] [])) t → Steps p.tables e below (s₁.setTop (entryFrame m #[(.ref a1), (.int p2)] 2)) t := fun t k => castTop (ef_AK m a1 p2) k
  have Kp : Keep h0 h0 [ra, ja] := Keep.refl h0 [ra, ja]
  obtain ⟨T95, X95, e95, st95⟩ := getF X0 hx hZ hown (host := "") (Or.inl (hw _ (List.mem_of_getElem? (i := 11) rfl))) Via.refl e0 F_requests_a1 (g := (mkF m 1 #[.val (.ref a1), .val (.int p2)] [(.ref a1)])) rfl rfl (hb hby d10_1)
  obtain ⟨cl96, Ar96, hs96, hin96, hat96⟩ := ArI.open (j := p2) A_ra hi
  obtain ⟨cl97, Ar97, hs97, hin97, hat97⟩ := ArI.open (j := p2) A_ra hi
  obtain ⟨T98, h98, X98, e98, W98, st98⟩ := stI X95 hx hZ e95 Ar97 (j := p2) hin97 (g := (mkF m 9 #[.val (.ref a1), .val (.int p2)] [(.int ((fr p2.toNatClampNeg) + (1 : Int32))), (.int p2), (.ref ra)])) rfl rfl (hb hby d10_9)
  have N98 := Fr.snoc X98 N0 g_ra
  have Zs : n0 ≤ h98.size := Nat.le_trans Zs (Keep.of_wr W98).1
  have F_requests_a1 : Fld Z h98 a1 "com/example/wachter/wachter/sim/QueueOrder" "requests" "[I" (.ref ra) := F_requests_a1.other W98 (Or.inl ne_a1_ra)
  have F_joinedAs_a1 : Fld Z h98 a1 "com/example/wachter/wachter/sim/QueueOrder" "joinedAs" "[J" (.ref ja) := F_joinedAs_a1.other W98 (Or.inl ne_a1_ra)
  have A_ja : ArJ Z h98 ja (4 : Int32) f := A_ja.other W98 (Ne.symm ne_ra_ja)
  have Kp : Keep h0 h98 [ra, ja] := Kp.wr W98 (Or.inl (List.mem_of_getElem? (i := 0) rfl))
  have A_ra : ArI Z h98 ra (4 : Int32) (upd fr p2.toNatClampNeg ((fr p2.toNatClampNeg) + (1 : Int32))) := ArI.set A_ra W98
  obtain ⟨T99, X99, e99, st99⟩ := getF X98 hx hZ hown (host := "") (Or.inl (hw _ (List.mem_of_getElem? (i := 14) rfl))) Via.refl e98 F_joinedAs_a1 (g := (mkF m 11 #[.val (.ref a1), .val (.int p2)] [(.ref a1)])) rfl rfl (hb hby d10_11)
  obtain ⟨cl100, Ar100, hs100, hin100, hat100⟩ := ArJ.open (j := p2) A_ja hi
  obtain ⟨T101, h101, X101, e101, W101, st101⟩ := stJ X99 hx hZ e99 Ar100 (j := p2) hin100 (g := (mkF m 18 #[.val (.ref a1), .val (.int p2)] [(.long (-1 : Int64)), (.int p2), (.ref ja)])) rfl rfl (hb hby d10_18)
  have N101 := Fr.snoc X101 N98 g_ja
  have Zs : n0 ≤ h101.size := Nat.le_trans Zs (Keep.of_wr W101).1
  have F_requests_a1 : Fld Z h101 a1 "com/example/wachter/wachter/sim/QueueOrder" "requests" "[I" (.ref ra) := F_requests_a1.other W101 (Or.inl ne_a1_ja)
  have F_joinedAs_a1 : Fld Z h101 a1 "com/example/wachter/wachter/sim/QueueOrder" "joinedAs" "[J" (.ref ja) := F_joinedAs_a1.other W101 (Or.inl ne_a1_ja)
  have A_ra : ArI Z h101 ra (4 : Int32) (upd fr p2.toNatClampNeg ((fr p2.toNatClampNeg) + (1 : Int32))) := A_ra.other W101 ne_ra_ja
  have Kp : Keep h0 h101 [ra, ja] := Kp.wr W101 (Or.inl (List.mem_of_getElem? (i := 1) rfl))
  have A_ja : ArJ Z h101 ja (4 : Int32) (upd f p2.toNatClampNeg (-1 : Int64)) := ArJ.set A_ja W101
  obtain ⟨fs, hr, hrun, hended, hW, hsame⟩ := X101.leave (v := none) (fun _ => rfl)
  refine ⟨_, _, pre0 _ ?_, hrun, hended, _, _, rfl, ?_, ⟨_, rfl⟩, hW, hsame.mono (by decide) (by decide)⟩
  · show Steps p.tables e below (s₁.setTop (mkF m 0 #[.val (.ref a1), .val (.int p2)] [])) _
    refine XS.aloadN X0.here hx rfl (hb hby d10_0) rfl rfl ?_
    show Steps p.tables e below (s₁.setTop (mkF m 1 #[.val (.ref a1), .val (.int p2)] [(.ref a1)])) _
    refine st95 _ ?_
    show Steps p.tables e below (T95.setTop (mkF m 4 #[.val (.ref a1), .val (.int p2)] [(.ref ra)])) _
    refine XS.iloadN X95.here hx rfl (hb hby d10_4) rfl ?_
    show Steps p.tables e below (T95.setTop (mkF m 5 #[.val (.ref a1), .val (.int p2)] [(.int p2), (.ref ra)])) _
    jvm_step X95.here [X95.here.top, hx, (hb hby d10_5), Value.category]
    show Steps p.tables e below (T95.setTop (mkF m 6 #[.val (.ref a1), .val (.int p2)] [(.int p2), (.ref ra), (.int p2), (.ref ra)])) _
    refine X95.iaload hx (j := p2) (v := (.int (fr p2.toNatClampNeg))) (by rw [e95]; exact Ar96.1) (State.isArrayOf_alike hZ.alike Ar96.2.1) Ar96.2.2 hin96 hat96 (g := (mkF m 6 #[.val (.ref a1), .val (.int p2)] [(.int p2), (.ref ra), (.int p2), (.ref ra)])) rfl rfl (hb hby d10_6) _ ?_
    show Steps p.tables e below (T95.setTop (mkF m 7 #[.val (.ref a1), .val (.int p2)] [(.int (fr p2.toNatClampNeg)), (.int p2), (.ref ra)])) _
    refine XS.iconst X95.here hx rfl (hb hby d10_7) ?_
    show Steps p.tables e below (T95.setTop (mkF m 8 #[.val (.ref a1), .val (.int p2)] [(.int (1 : Int32)), (.int (fr p2.toNatClampNeg)), (.int p2), (.ref ra)])) _
    refine XS.iadd X95.here hx rfl (hb hby d10_8) rfl ?_
    show Steps p.tables e below (T95.setTop (mkF m 9 #[.val (.ref a1), .val (.int p2)] [(.int ((fr p2.toNatClampNeg) + (1 : Int32))), (.int p2), (.ref ra)])) _
    refine st98 _ ?_
    show Steps p.tables e below (T98.setTop (mkF m 10 #[.val (.ref a1), .val (.int p2)] [])) _
    refine XS.aloadN X98.here hx rfl (hb hby d10_10) rfl rfl ?_
    show Steps p.tables e below (T98.setTop (mkF m 11 #[.val (.ref a1), .val (.int p2)] [(.ref a1)])) _
    refine st99 _ ?_
    show Steps p.tables e below (T99.setTop (mkF m 14 #[.val (.ref a1), .val (.int p2)] [(.ref ja)])) _
    refine XS.iloadN X99.here hx rfl (hb hby d10_14) rfl ?_
    show Steps p.tables e below (T99.setTop (mkF m 15 #[.val (.ref a1), .val (.int p2)] [(.int p2), (.ref ja)])) _
    refine X99.ldc2Long hx hown (mvT hZ (hw _ (List.mem_of_getElem? (i := 43) rfl))) (g := (mkF m 15 #[.val (.ref a1), .val (.int p2)] [(.int p2), (.ref ja)])) rfl (hb hby d10_15) _ ?_
    show Steps p.tables e below (T99.setTop (mkF m 18 #[.val (.ref a1), .val (.int p2)] [(.long (-1 : Int64)), (.int p2), (.ref ja)])) _
    refine st101 _ ?_
    show Steps p.tables e below (T101.setTop (mkF m 19 #[.val (.ref a1), .val (.int p2)] [])) _
    exact X101.returnOut hx Bd.returns (hb hby d10_19) hr
  · show QAK Z a1 p2 ra ja fr f h0 n0 _ T101.heap _
    rw [e101]
    exact ⟨rfl, N101, Kp, A_ra, A_ja⟩
def QTO (Z : State) (a1 : Addr) (p2 : Int32) (p3 : Int32) (ra : Addr) (ja : Addr) (bl : Addr) (bd : Addr) (kb : ClassId) (fb : Nat → Value) (wm : Int32) (fr : Nat → Int32) (f : Nat → Int64) (lu : Addr) (w3 : Int32) (dd : Addr) (h0 : Heap) (n0 : Nat) (v : Option Value) (h : Heap) (L : List Loc) : Prop := ∃ wt : Addr, ∃ eb : Addr, ∃ ke : ClassId, v = none ∧ Fr n0 L ∧ (Keep h0 h [lu]) ∧ (h0.size ≤ wt) ∧ (n0 ≤ wt) ∧ (h0.size ≤ eb) ∧ (n0 ≤ eb) ∧ (wt ≠ eb) ∧ (Exa Z h wt "[I") ∧ (ArI Z h wt (2 : Int32) (upd (upd (fun _ => 0) (0 : Int32).toNatClampNeg p3) (1 : Int32).toNatClampNeg (fr p3.toNatClampNeg))) ∧ (Fld Z h lu "java/util/ArrayList" "elementData" "[Ljava/lang/Object;" (.ref eb)) ∧ (Fld Z h lu "java/util/ArrayList" "size" "I" (.int (1 : Int32))) ∧ (Fld Z h lu "java/util/AbstractList" "modCount" "I" (.int (w3 + (1 : Int32)))) ∧ (ArR Z h eb ke "java/lang/Object" (10 : Int32) (upd (fun _ => .null) (0 : Int32).toNatClampNeg (.ref wt)))
theorem ef_TO (m : MethodId) (a1 : Addr) (p2 : Int32) (p3 : Int32) : entryFrame m #[(.ref a1), (.int p2), (.int p3)] 3 = mkF m 0 #[.val (.ref a1), .val (.int p2), .val (.int p3)] [] := by first | (simp [entryFrame, mkF, argsToLocals, Value.category]; done) | rfl
set_option maxRecDepth 65536 in
set_option maxHeartbeats 40000000 in
theorem rmTO (l : Launch) (Z : State) (a0 : Array Value) (hw : ∀ d ∈ tables_1, d.before a0 Z = true) (ws : List Jvm.Cond) (a1 : Addr) (p2 : Int32) (p3 : Int32) (ra : Addr) (ja : Addr) (bl : Addr) (bd : Addr) (kb : ClassId) (fb : Nat → Value) (wm : Int32) (fr : Nat → Int32) (f : Nat → Int64) (lu : Addr) (w3 : Int32) (dd : Addr) (h0 : Heap) (n0 : Nat) (Zs : n0 ≤ h0.size) (F_requests_a1 : Fld Z h0 a1 "com/example/wachter/wachter/sim/QueueOrder" "requests" "[I" (.ref ra)) (F_joinedAs_a1 : Fld Z h0 a1 "com/example/wachter/wachter/sim/QueueOrder" "joinedAs" "[J" (.ref ja)) (F_behind_a1 : Fld Z h0 a1 "com/example/wachter/wachter/sim/QueueOrder" "behind" "Ljava/util/List;" (.ref bl)) (A_ra : ArI Z h0 ra (4 : Int32) fr) (A_ja : ArJ Z h0 ja (4 : Int32) f) (E_bl : Exa Z h0 bl "java/util/ArrayList") (F_elementData_bl : Fld Z h0 bl "java/util/ArrayList" "elementData" "[Ljava/lang/Object;" (.ref bd)) (F_size_bl : Fld Z h0 bl "java/util/ArrayList" "size" "I" (.int (4 : Int32))) (F_modCount_bl : Fld Z h0 bl "java/util/AbstractList" "modCount" "I" (.int wm)) (A_bd : ArR Z h0 bd kb "java/lang/Object" (4 : Int32) fb) (E_lu : Exa Z h0 lu "java/util/ArrayList") (F_elementData_lu : Fld Z h0 lu "java/util/ArrayList" "elementData" "[Ljava/lang/Object;" (.ref dd)) (F_size_lu : Fld Z h0 lu "java/util/ArrayList" "size" "I" (.int (0 : Int32))) (F_modCount_lu : Fld Z h0 lu "java/util/AbstractList" "modCount" "I" (.int w3)) (g_lu : n0 ≤ lu) (Ol : Old Z n0 h0) (S_DEFAULTCAPACITY_EMPTY_ELEMENTDATA : Sta Z Z.heap "java/util/ArrayList" "DEFAULTCAPACITY_EMPTY_ELEMENTDATA" "[Ljava/lang/Object;" (.ref dd)) (A_dd : ArZ Z Z.heap dd) (ne_lu_a1 : lu ≠ a1) (ne_lu_ra : lu ≠ ra) (ne_lu_ja : lu ≠ ja) (ne_lu_bl : lu ≠ bl) (ne_lu_bd : lu ≠ bd) (hp2 : ¬ p2 < (0 : Int32) ∧ p2 < (4 : Int32)) (hp3 : ¬ p3 < (0 : Int32) ∧ p3 < (4 : Int32)) (hfv : (f p3.toNatClampNeg) = (-1 : Int64)) (hfu : (f p2.toNatClampNeg) = (-1 : Int64)) (hB : fb p2.toNatClampNeg = .ref lu) :
    MetFree l (⟨"com/example/wachter/wachter/sim/QueueOrder", "takenOn", "(II)V"⟩ : MethodName) (head1 (Jvm.Cond.code (⟨"com/example/wachter/wachter/sim/QueueOrder", "takenOn", "(II)V"⟩ : MethodName) prog_41_method_3_code 3 none :: ws) ({ frames := 5, cells := 2, slots := 12, locals := 69 } : Room)) (fun a U => a = #[(.ref a1), (.int p2), (.int p3)] ∧ Z.Warmed39 U.vm ∧ U.heap = h0) (fun _ _ _ _ _ => True) (fun _ U o U' => ∃ v L, o = .returned v ∧ QTO Z a1 p2 p3 ra ja bl bd kb fb wm fr f lu w3 dd h0 n0 v U'.heap L ∧ FrameEnd U o U' L ({ frames := 5, cells := 2, slots := 12, locals := 69 } : Room).cells ({ frames := 5, cells := 2, slots := 12, locals := 69 } : Room).slots) := by
  refine MetFree.of_bodySF (plainFor_of_name pn_7) hisR ?_
  intro p e s m args below meth c s₁ Bd hml0 hP hK
  obtain ⟨rfl, hZ, hh⟩ := hP
  have hx := Bd.exec
  have hby := Bd.bytes
  have hml : c.maxLocals = 3 := hml0
  have hown : s.vm.findClass "com/example/wachter/wachter/sim/QueueOrder" = some m.cls := findClass_of_methodNamed Bd.named
  have hnm := (name_of_methodNamed Bd.named Bd.method).1
  have X0 : Stand p l e ({ frames := 5, cells := 2, slots := 12, locals := 69 } : Room) s m #[(.ref a1), (.int p2), (.int p3)] below meth c s₁ [] 0 0 := Stand.of_body Bd
  have e0 : s₁.heap = h0 := by rw [← hh, Bd.state]; rfl
  have N0 := Fr.nil n0
  have pre0 : ∀ t, Steps p.tables e below (s₁.setTop (mkF m 0 #[.val (.ref a1), .val (.int p2), .val (.int p3)] [])) t → Steps p.tables e below (s₁.setTop (entryFrame m #[(.ref a1), (.int p2), (.int p3)] 3)) t := fun t k => castTop (ef_TO m a1 p2 p3) k
  have Kp : Keep h0 h0 [lu] := Keep.refl h0 [lu]
  obtain ⟨T102, X102, e102, st102⟩ := getF X0 hx hZ hown (host := "") (Or.inl (hw _ (List.mem_of_getElem? (i := 14) rfl))) Via.refl e0 F_joinedAs_a1 (g := (mkF m 1 #[.val (.ref a1), .val (.int p2), .val (.int p3)] [(.ref a1)])) rfl rfl (hb hby d11_1)
  obtain ⟨cl103, Ar103, hs103, hin103, hat103⟩ := ArJ.open (j := p3) A_ja hp3
  obtain ⟨T104, X104, e104, st104⟩ := getF X102 hx hZ hown (host := "") (Or.inl (hw _ (List.mem_of_getElem? (i := 14) rfl))) Via.refl e102 F_joinedAs_a1 (g := (mkF m 15 #[.val (.ref a1), .val (.int p2), .val (.int p3)] [(.ref a1)])) rfl rfl (hb hby d11_15)
  obtain ⟨cl105, Ar105, hs105, hin105, hat105⟩ := ArJ.open (j := p2) A_ja hp2
  obtain ⟨T106, X106, e106, st106⟩ := getF X104 hx hZ hown (host := "") (Or.inl (hw _ (List.mem_of_getElem? (i := 41) rfl))) Via.refl e104 F_behind_a1 (g := (mkF m 36 #[.val (.ref a1), .val (.int p2), .val (.int p3)] [(.ref a1)])) rfl rfl (hb hby d11_36)
  obtain ⟨cq107, kq107, q107a, q107b, q107c⟩ := isOf hZ e106 E_bl
  obtain ⟨_, _, ⟨T107, L107, k107, n107⟩, -, X107, ⟨Lc107, hQ107, l107, y107, z107⟩, st107⟩ := X106.interfaceBack hx (xi := (⟨"java/util/List", "get", "(I)Ljava/lang/Object;"⟩ : MethodName)) (y := (⟨"java/util/ArrayList", "get", "(I)Ljava/lang/Object;"⟩ : MethodName)) hown (mvT hZ (hw _ (List.mem_of_getElem? (i := 83) rfl))) (mvT hZ (hw _ (List.mem_of_getElem? (i := 84) rfl))) (mvT hZ (hw _ (List.mem_of_getElem? (i := 85) rfl))) (mvT hZ (hw _ (List.mem_of_getElem? (i := 86) rfl))) (mvT hZ (hw _ (List.mem_of_getElem? (i := 87) rfl))) (mvT hZ (hw _ (List.mem_of_getElem? (i := 88) rfl))) (mvT hZ (hw _ (List.mem_of_getElem? (i := 89) rfl))) (mvT hZ (hw _ (List.mem_of_getElem? (i := 59) rfl))) (by decide) (backOf (W := 0) (rmGET l Z a0 hw [] bl p2 bd kb (4 : Int32) fb lu (4 : Int32) h0 n0 Zs E_bl F_elementData_bl F_size_bl A_bd hp2 hp2.2 hB) hZ (hw _ (List.mem_of_getElem? (i := 90) rfl)) (hw _ (List.mem_of_getElem? (i := 18) rfl)) (by decide) (by decide)) q107a q107b q107c (g := (mkF m 40 #[.val (.ref a1), .val (.int p2), .val (.int p3)] [(.int p2), (.ref bl)])) rfl (by rw [hml]; rfl) (Steps.refl _) (argsL := [(.int p2)]) (rest := []) (lenOf pd_6 rfl) rfl (by show 2 * 0 + _ ≤ _; exact Nat.le_of_eq rfl) (hb hby d11_40) (fun _ _ => ⟨rfl, e106, (by decide : 0 + 0 ≤ _), (by decide : 0 + 0 ≤ _)⟩)
  dsimp only [Pt.U, Pt.locs, Pt.cells, Pt.slots] at X107 l107 y107 z107 st107 hQ107
  subst l107 y107 z107
  obtain ⟨rfl, N107q, e107⟩ := hQ107
  have N107 := Fr.app N0 N107q
  obtain ⟨T108, X108, e108, st108⟩ := castY X107 hx hZ hown (hw _ (List.mem_of_getElem? (i := 104) rfl)) e107 (Ins.of_exa E_lu (hw _ (List.mem_of_getElem? (i := 59) rfl))) (g := (mkF m 45 #[.val (.ref a1), .val (.int p2), .val (.int p3)] [(.ref lu)])) rfl rfl (hb hby d11_45)
  obtain ⟨T109, h109, k109, X109, e109, E109, A109, B109, st109⟩ := newPE X108 hx hZ (hw _ (List.mem_of_getElem? (i := 10) rfl)) e108 (g := (mkF m 49 #[.val (.ref a1), .val (.int p2), .val (.int p3)] [(.int (2 : Int32)), (.ref lu)])) rfl (hb hby d11_49) rfl (by decide) (cap := 2) (by decide) (by decide) (by decide) (by decide) (ad := "[I") (by decide)
  obtain ⟨b109, g109⟩ : ∃ z, z = h0.size := ⟨_, rfl⟩
  rw [← g109] at A109 B109 st109
  have g_b109 : n0 ≤ b109 := Nat.le_trans Zs (Nat.le_of_eq g109.symm)
  have sz_b109 : h0.size ≤ b109 := Nat.le_trans Kp.1 (Nat.le_of_eq g109.symm)
  have ne_a1_b109 : a1 ≠ b109 := Nat.ne_of_lt (Nat.lt_of_lt_of_le F_requests_a1.lt (Nat.le_of_eq g109.symm))
  have ne_ra_b109 : ra ≠ b109 := Nat.ne_of_lt (Nat.lt_of_lt_of_le A_ra.lt (Nat.le_of_eq g109.symm))
  have ne_ja_b109 : ja ≠ b109 := Nat.ne_of_lt (Nat.lt_of_lt_of_le A_ja.lt (Nat.le_of_eq g109.symm))
  have ne_bl_b109 : bl ≠ b109 := Nat.ne_of_lt (Nat.lt_of_lt_of_le E_bl.lt (Nat.le_of_eq g109.symm))
  have ne_bd_b109 : bd ≠ b109 := Nat.ne_of_lt (Nat.lt_of_lt_of_le A_bd.lt (Nat.le_of_eq g109.symm))
  have ne_lu_b109 : lu ≠ b109 := Nat.ne_of_lt (Nat.lt_of_lt_of_le E_lu.lt (Nat.le_of_eq g109.symm))
  have Zs : n0 ≤ h109.size := Nat.le_trans Zs E109.1
  have F_requests_a1 : Fld Z h109 a1 "com/example/wachter/wachter/sim/QueueOrder" "requests" "[I" (.ref ra) := F_requests_a1.ext E109
  have F_joinedAs_a1 : Fld Z h109 a1 "com/example/wachter/wachter/sim/QueueOrder" "joinedAs" "[J" (.ref ja) := F_joinedAs_a1.ext E109
  have F_behind_a1 : Fld Z h109 a1 "com/example/wachter/wachter/sim/QueueOrder" "behind" "Ljava/util/List;" (.ref bl) := F_behind_a1.ext E109
  have A_ra : ArI Z h109 ra (4 : Int32) fr := A_ra.ext E109
  have A_ja : ArJ Z h109 ja (4 : Int32) f := A_ja.ext E109
  have E_bl : Exa Z h109 bl "java/util/ArrayList" := E_bl.ext E109
  have F_elementData_bl : Fld Z h109 bl "java/util/ArrayList" "elementData" "[Ljava/lang/Object;" (.ref bd) := F_elementData_bl.ext E109
  have F_size_bl : Fld Z h109 bl "java/util/ArrayList" "size" "I" (.int (4 : Int32)) := F_size_bl.ext E109
  have F_modCount_bl : Fld Z h109 bl "java/util/AbstractList" "modCount" "I" (.int wm) := F_modCount_bl.ext E109
  have A_bd : ArR Z h109 bd kb "java/lang/Object" (4 : Int32) fb := A_bd.ext E109
  have E_lu : Exa Z h109 lu "java/util/ArrayList" := E_lu.ext E109
  have F_elementData_lu : Fld Z h109 lu "java/util/ArrayList" "elementData" "[Ljava/lang/Object;" (.ref dd) := F_elementData_lu.ext E109
  have F_size_lu : Fld Z h109 lu "java/util/ArrayList" "size" "I" (.int (0 : Int32)) := F_size_lu.ext E109
  have F_modCount_lu : Fld Z h109 lu "java/util/AbstractList" "modCount" "I" (.int w3) := F_modCount_lu.ext E109
  have Ol : Old Z n0 h109 := Ol.ext E109
  have Kp : Keep h0 h109 [lu] := Kp.ext E109
  have E_b109 : Exa Z h109 b109 "[I" := B109
  have A_b109 : ArI Z h109 b109 (2 : Int32) (fun _ => 0) := ArI.new A109 (by decide)
  obtain ⟨cl110, Ar110, hs110, hin110, hat110⟩ := ArI.open (j := (0 : Int32)) A_b109 (by decide)
  obtain ⟨T111, h111, X111, e111, W111, st111⟩ := stI X109 hx hZ e109 Ar110 (j := (0 : Int32)) hin110 (g := (mkF m 54 #[.val (.ref a1), .val (.int p2), .val (.int p3)] [(.int p3), (.int (0 : Int32)), (.ref b109), (.ref b109), (.ref lu)])) rfl rfl (hb hby d11_54)
  have N111 := Fr.snoc X111 N107 g_b109
  have Zs : n0 ≤ h111.size := Nat.le_trans Zs (Keep.of_wr W111).1
  have F_requests_a1 : Fld Z h111 a1 "com/example/wachter/wachter/sim/QueueOrder" "requests" "[I" (.ref ra) := F_requests_a1.other W111 (Or.inl ne_a1_b109)
  have F_joinedAs_a1 : Fld Z h111 a1 "com/example/wachter/wachter/sim/QueueOrder" "joinedAs" "[J" (.ref ja) := F_joinedAs_a1.other W111 (Or.inl ne_a1_b109)
  have F_behind_a1 : Fld Z h111 a1 "com/example/wachter/wachter/sim/QueueOrder" "behind" "Ljava/util/List;" (.ref bl) := F_behind_a1.other W111 (Or.inl ne_a1_b109)
  have A_ra : ArI Z h111 ra (4 : Int32) fr := A_ra.other W111 ne_ra_b109
  have A_ja : ArJ Z h111 ja (4 : Int32) f := A_ja.other W111 ne_ja_b109
  have E_bl : Exa Z h111 bl "java/util/ArrayList" := E_bl.wr W111
  have F_elementData_bl : Fld Z h111 bl "java/util/ArrayList" "elementData" "[Ljava/lang/Object;" (.ref bd) := F_elementData_bl.other W111 (Or.inl ne_bl_b109)
  have F_size_bl : Fld Z h111 bl "java/util/ArrayList" "size" "I" (.int (4 : Int32)) := F_size_bl.other W111 (Or.inl ne_bl_b109)
  have F_modCount_bl : Fld Z h111 bl "java/util/AbstractList" "modCount" "I" (.int wm) := F_modCount_bl.other W111 (Or.inl ne_bl_b109)
  have A_bd : ArR Z h111 bd kb "java/lang/Object" (4 : Int32) fb := A_bd.other W111 ne_bd_b109
  have E_lu : Exa Z h111 lu "java/util/ArrayList" := E_lu.wr W111
  have F_elementData_lu : Fld Z h111 lu "java/util/ArrayList" "elementData" "[Ljava/lang/Object;" (.ref dd) := F_elementData_lu.other W111 (Or.inl ne_lu_b109)
  have F_size_lu : Fld Z h111 lu "java/util/ArrayList" "size" "I" (.int (0 : Int32)) := F_size_lu.other W111 (Or.inl ne_lu_b109)
  have F_modCount_lu : Fld Z h111 lu "java/util/AbstractList" "modCount" "I" (.int w3) := F_modCount_lu.other W111 (Or.inl ne_lu_b109)
  have Ol : Old Z n0 h111 := Ol.wr W111 g_b109
  have Kp : Keep h0 h111 [lu] := Kp.wr W111 (Or.inr sz_b109)
  have E_b109 : Exa Z h111 b109 "[I" := E_b109.wr W111
  have A_b109 : ArI Z h111 b109 (2 : Int32) (upd (fun _ => 0) (0 : Int32).toNatClampNeg p3) := ArI.set A_b109 W111
  obtain ⟨T112, X112, e112, st112⟩ := getF X111 hx hZ hown (host := "") (Or.inl (hw _ (List.mem_of_getElem? (i := 11) rfl))) Via.refl e111 F_requests_a1 (g := (mkF m 58 #[.val (.ref a1), .val (.int p2), .val (.int p3)] [(.ref a1), (.int (1 : Int32)), (.ref b109), (.ref b109), (.ref lu)])) rfl rfl (hb hby d11_58)
  obtain ⟨cl113, Ar113, hs113, hin113, hat113⟩ := ArI.open (j := p3) A_ra hp3
  obtain ⟨cl114, Ar114, hs114, hin114, hat114⟩ := ArI.open (j := (1 : Int32)) A_b109 (by decide)
  obtain ⟨T115, h115, X115, e115, W115, st115⟩ := stI X112 hx hZ e112 Ar114 (j := (1 : Int32)) hin114 (g := (mkF m 63 #[.val (.ref a1), .val (.int p2), .val (.int p3)] [(.int (fr p3.toNatClampNeg)), (.int (1 : Int32)), (.ref b109), (.ref b109), (.ref lu)])) rfl rfl (hb hby d11_63)
  have N115 := Fr.snoc X115 N111 g_b109
  have Zs : n0 ≤ h115.size := Nat.le_trans Zs (Keep.of_wr W115).1
  have F_requests_a1 : Fld Z h115 a1 "com/example/wachter/wachter/sim/QueueOrder" "requests" "[I" (.ref ra) := F_requests_a1.other W115 (Or.inl ne_a1_b109)
  have F_joinedAs_a1 : Fld Z h115 a1 "com/example/wachter/wachter/sim/QueueOrder" "joinedAs" "[J" (.ref ja) := F_joinedAs_a1.other W115 (Or.inl ne_a1_b109)
  have F_behind_a1 : Fld Z h115 a1 "com/example/wachter/wachter/sim/QueueOrder" "behind" "Ljava/util/List;" (.ref bl) := F_behind_a1.other W115 (Or.inl ne_a1_b109)
  have A_ra : ArI Z h115 ra (4 : Int32) fr := A_ra.other W115 ne_ra_b109
  have A_ja : ArJ Z h115 ja (4 : Int32) f := A_ja.other W115 ne_ja_b109
  have E_bl : Exa Z h115 bl "java/util/ArrayList" := E_bl.wr W115
  have F_elementData_bl : Fld Z h115 bl "java/util/ArrayList" "elementData" "[Ljava/lang/Object;" (.ref bd) := F_elementData_bl.other W115 (Or.inl ne_bl_b109)
  have F_size_bl : Fld Z h115 bl "java/util/ArrayList" "size" "I" (.int (4 : Int32)) := F_size_bl.other W115 (Or.inl ne_bl_b109)
  have F_modCount_bl : Fld Z h115 bl "java/util/AbstractList" "modCount" "I" (.int wm) := F_modCount_bl.other W115 (Or.inl ne_bl_b109)
  have A_bd : ArR Z h115 bd kb "java/lang/Object" (4 : Int32) fb := A_bd.other W115 ne_bd_b109
  have E_lu : Exa Z h115 lu "java/util/ArrayList" := E_lu.wr W115
  have F_elementData_lu : Fld Z h115 lu "java/util/ArrayList" "elementData" "[Ljava/lang/Object;" (.ref dd) := F_elementData_lu.other W115 (Or.inl ne_lu_b109)
  have F_size_lu : Fld Z h115 lu "java/util/ArrayList" "size" "I" (.int (0 : Int32)) := F_size_lu.other W115 (Or.inl ne_lu_b109)
  have F_modCount_lu : Fld Z h115 lu "java/util/AbstractList" "modCount" "I" (.int w3) := F_modCount_lu.other W115 (Or.inl ne_lu_b109)
  have Ol : Old Z n0 h115 := Ol.wr W115 g_b109
  have Kp : Keep h0 h115 [lu] := Kp.wr W115 (Or.inr sz_b109)
  have E_b109 : Exa Z h115 b109 "[I" := E_b109.wr W115
  have A_b109 : ArI Z h115 b109 (2 : Int32) (upd (upd (fun _ => 0) (0 : Int32).toNatClampNeg p3) (1 : Int32).toNatClampNeg (fr p3.toNatClampNeg)) := ArI.set A_b109 W115
  obtain ⟨cq116, kq116, q116a, q116b, q116c⟩ := isOf hZ e115 E_lu
  obtain ⟨_, _, ⟨T116, L116, k116, n116⟩, -, X116, ⟨Lc116, hQ116, l116, y116, z116⟩, st116⟩ := X115.interfaceBack hx (xi := (⟨"java/util/List", "add", "(Ljava/lang/Object;)Z"⟩ : MethodName)) (y := (⟨"java/util/ArrayList", "add", "(Ljava/lang/Object;)Z"⟩ : MethodName)) hown (mvT hZ (hw _ (List.mem_of_getElem? (i := 52) rfl))) (mvT hZ (hw _ (List.mem_of_getElem? (i := 53) rfl))) (mvT hZ (hw _ (List.mem_of_getElem? (i := 54) rfl))) (mvT hZ (hw _ (List.mem_of_getElem? (i := 55) rfl))) (mvT hZ (hw _ (List.mem_of_getElem? (i := 56) rfl))) (mvT hZ (hw _ (List.mem_of_getElem? (i := 57) rfl))) (mvT hZ (hw _ (List.mem_of_getElem? (i := 58) rfl))) (mvT hZ (hw _ (List.mem_of_getElem? (i := 59) rfl))) (by decide) (backOf (W := 0) (rmA1g l Z a0 hw [] lu b109 w3 dd h115 n0 Zs E_lu E_b109 F_elementData_lu F_size_lu F_modCount_lu g_lu Ol S_DEFAULTCAPACITY_EMPTY_ELEMENTDATA A_dd) hZ (hw _ (List.mem_of_getElem? (i := 60) rfl)) (hw _ (List.mem_of_getElem? (i := 18) rfl)) (by decide) (by decide)) q116a q116b q116c (g := (mkF m 64 #[.val (.ref a1), .val (.int p2), .val (.int p3)] [(.ref b109), (.ref lu)])) rfl (by rw [hml]; rfl) (Steps.refl _) (argsL := [(.ref b109)]) (rest := []) (lenOf pd_8 rfl) rfl (by show 2 * 0 + _ ≤ _; exact Nat.le_of_eq rfl) (hb hby d11_64) (fun _ _ => ⟨rfl, e115, (by decide : 1 + 1 ≤ _), (by decide : 2 + 10 ≤ _)⟩)
  dsimp only [Pt.U, Pt.locs, Pt.cells, Pt.slots] at X116 l116 y116 z116 st116 hQ116
  subst l116 y116 z116
  obtain ⟨b_116, kb_116, rfl, N116q, K116, szc_b_116, g_b_116, P116_3, P116_4, P116_5, P116_6⟩ := hQ116
  have sz_b_116 : h0.size ≤ b_116 := Nat.le_trans Kp.1 szc_b_116
  have ne_a1_b_116 : a1 ≠ b_116 := Nat.ne_of_lt (Nat.lt_of_lt_of_le F_requests_a1.lt szc_b_116)
  have ne_ra_b_116 : ra ≠ b_116 := Nat.ne_of_lt (Nat.lt_of_lt_of_le A_ra.lt szc_b_116)
  have ne_ja_b_116 : ja ≠ b_116 := Nat.ne_of_lt (Nat.lt_of_lt_of_le A_ja.lt szc_b_116)
  have ne_bl_b_116 : bl ≠ b_116 := Nat.ne_of_lt (Nat.lt_of_lt_of_le E_bl.lt szc_b_116)
  have ne_bd_b_116 : bd ≠ b_116 := Nat.ne_of_lt (Nat.lt_of_lt_of_le A_bd.lt szc_b_116)
  have ne_lu_b_116 : lu ≠ b_116 := Nat.ne_of_lt (Nat.lt_of_lt_of_le E_lu.lt szc_b_116)
  have ne_b109_b_116 : b109 ≠ b_116 := Nat.ne_of_lt (Nat.lt_of_lt_of_le E_b109.lt szc_b_116)
  have Zs : n0 ≤ T116.heap.size := Nat.le_trans Zs K116.1
  have F_requests_a1 : Fld Z T116.heap a1 "com/example/wachter/wachter/sim/QueueOrder" "requests" "[I" (.ref ra) := F_requests_a1.keep K116 (ninS (Ne.symm ne_lu_a1) nin0)
  have F_joinedAs_a1 : Fld Z T116.heap a1 "com/example/wachter/wachter/sim/QueueOrder" "joinedAs" "[J" (.ref ja) := F_joinedAs_a1.keep K116 (ninS (Ne.symm ne_lu_a1) nin0)
  have F_behind_a1 : Fld Z T116.heap a1 "com/example/wachter/wachter/sim/QueueOrder" "behind" "Ljava/util/List;" (.ref bl) := F_behind_a1.keep K116 (ninS (Ne.symm ne_lu_a1) nin0)
  have A_ra : ArI Z T116.heap ra (4 : Int32) fr := A_ra.keep K116 (ninS (Ne.symm ne_lu_ra) nin0)
  have A_ja : ArJ Z T116.heap ja (4 : Int32) f := A_ja.keep K116 (ninS (Ne.symm ne_lu_ja) nin0)
  have E_bl : Exa Z T116.heap bl "java/util/ArrayList" := E_bl.keep K116
  have F_elementData_bl : Fld Z T116.heap bl "java/util/ArrayList" "elementData" "[Ljava/lang/Object;" (.ref bd) := F_elementData_bl.keep K116 (ninS (Ne.symm ne_lu_bl) nin0)
  have F_size_bl : Fld Z T116.heap bl "java/util/ArrayList" "size" "I" (.int (4 : Int32)) := F_size_bl.keep K116 (ninS (Ne.symm ne_lu_bl) nin0)
  have F_modCount_bl : Fld Z T116.heap bl "java/util/AbstractList" "modCount" "I" (.int wm) := F_modCount_bl.keep K116 (ninS (Ne.symm ne_lu_bl) nin0)
  have A_bd : ArR Z T116.heap bd kb "java/lang/Object" (4 : Int32) fb := A_bd.keep K116 (ninS (Ne.symm ne_lu_bd) nin0)
  have E_lu : Exa Z T116.heap lu "java/util/ArrayList" := E_lu.keep K116
  have Ol : Old Z n0 T116.heap := Ol.keep K116 (allS g_lu all0)
  have Kp : Keep h0 T116.heap [lu] := Kp.trans K116 (allS (Or.inl (List.mem_of_getElem? (i := 0) rfl)) all0)
  have E_b109 : Exa Z T116.heap b109 "[I" := E_b109.keep K116
  have A_b109 : ArI Z T116.heap b109 (2 : Int32) (upd (upd (fun _ => 0) (0 : Int32).toNatClampNeg p3) (1 : Int32).toNatClampNeg (fr p3.toNatClampNeg)) := A_b109.keep K116 (ninS (Ne.symm ne_lu_b109) nin0)
  have F_elementData_lu : Fld Z T116.heap lu "java/util/ArrayList" "elementData" "[Ljava/lang/Object;" (.ref b_116) := P116_3
  have F_size_lu : Fld Z T116.heap lu "java/util/ArrayList" "size" "I" (.int (1 : Int32)) := P116_4
  have F_modCount_lu : Fld Z T116.heap lu "java/util/AbstractList" "modCount" "I" (.int (w3 + (1 : Int32))) := P116_5
  have A_b_116 : ArR Z T116.heap b_116 kb_116 "java/lang/Object" (10 : Int32) (upd (fun _ => .null) (0 : Int32).toNatClampNeg (.ref b109)) := P116_6
  have N116 := Fr.app N115 N116q
  obtain ⟨fs, hr, hrun, hended, hW, hsame⟩ := X116.leave (v := none) (fun _ => rfl)
  refine ⟨_, _, pre0 _ ?_, hrun, hended, _, _, rfl, ?_, ⟨_, rfl⟩, hW, hsame.mono (by decide) (by decide)⟩
  · show Steps p.tables e below (s₁.setTop (mkF m 0 #[.val (.ref a1), .val (.int p2), .val (.int p3)] [])) _
    refine XS.aloadN X0.here hx rfl (hb hby d11_0) rfl rfl ?_
    show Steps p.tables e below (s₁.setTop (mkF m 1 #[.val (.ref a1), .val (.int p2), .val (.int p3)] [(.ref a1)])) _
    refine st102 _ ?_
    show Steps p.tables e below (T102.setTop (mkF m 4 #[.val (.ref a1), .val (.int p2), .val (.int p3)] [(.ref ja)])) _
    refine XS.iloadN X102.here hx rfl (hb hby d11_4) rfl ?_
    show Steps p.tables e below (T102.setTop (mkF m 5 #[.val (.ref a1), .val (.int p2), .val (.int p3)] [(.int p3), (.ref ja)])) _
    refine X102.laload hx (j := p3) (v := (.long (f p3.toNatClampNeg))) (by rw [e102]; exact Ar103.1) (State.isArrayOf_alike hZ.alike Ar103.2.1) Ar103.2.2 hin103 hat103 (g := (mkF m 5 #[.val (.ref a1), .val (.int p2), .val (.int p3)] [(.int p3), (.ref ja)])) rfl rfl (hb hby d11_5) _ ?_
    show Steps p.tables e below (T102.setTop (mkF m 6 #[.val (.ref a1), .val (.int p2), .val (.int p3)] [(.long (f p3.toNatClampNeg))])) _
    refine X102.ldc2Long hx hown (mvT hZ (hw _ (List.mem_of_getElem? (i := 43) rfl))) (g := (mkF m 6 #[.val (.ref a1), .val (.int p2), .val (.int p3)] [(.long (f p3.toNatClampNeg))])) rfl (hb hby d11_6) _ ?_
    show Steps p.tables e below (T102.setTop (mkF m 9 #[.val (.ref a1), .val (.int p2), .val (.int p3)] [(.long (-1 : Int64)), (.long (f p3.toNatClampNeg))])) _
    refine XS.lcmp X102.here hx rfl (hb hby d11_9) rfl ?_
    show Steps p.tables e below (T102.setTop (mkF m 10 #[.val (.ref a1), .val (.int p2), .val (.int p3)] [(.int (lcmpW (f p3.toNatClampNeg) (-1 : Int64)))])) _
    refine XS.ifYes X102.here hx rfl (pc0 := 10) (pc' := 14) rfl (hb hby d11_10) rfl ((if0 _ _).trans (teq ((lw_eq (f p3.toNatClampNeg) (-1 : Int64)).mpr hfv)).1) (by decide) (by decide) ?_
    show Steps p.tables e below (T102.setTop (mkF m 14 #[.val (.ref a1), .val (.int p2), .val (.int p3)] [])) _
    refine XS.aloadN X102.here hx rfl (hb hby d11_14) rfl rfl ?_
    show Steps p.tables e below (T102.setTop (mkF m 15 #[.val (.ref a1), .val (.int p2), .val (.int p3)] [(.ref a1)])) _
    refine st104 _ ?_
    show Steps p.tables e below (T104.setTop (mkF m 18 #[.val (.ref a1), .val (.int p2), .val (.int p3)] [(.ref ja)])) _
    refine XS.iloadN X104.here hx rfl (hb hby d11_18) rfl ?_
    show Steps p.tables e below (T104.setTop (mkF m 19 #[.val (.ref a1), .val (.int p2), .val (.int p3)] [(.int p2), (.ref ja)])) _
    refine X104.laload hx (j := p2) (v := (.long (f p2.toNatClampNeg))) (by rw [e104]; exact Ar105.1) (State.isArrayOf_alike hZ.alike Ar105.2.1) Ar105.2.2 hin105 hat105 (g := (mkF m 19 #[.val (.ref a1), .val (.int p2), .val (.int p3)] [(.int p2), (.ref ja)])) rfl rfl (hb hby d11_19) _ ?_
    show Steps p.tables e below (T104.setTop (mkF m 20 #[.val (.ref a1), .val (.int p2), .val (.int p3)] [(.long (f p2.toNatClampNeg))])) _
    refine X104.ldc2Long hx hown (mvT hZ (hw _ (List.mem_of_getElem? (i := 43) rfl))) (g := (mkF m 20 #[.val (.ref a1), .val (.int p2), .val (.int p3)] [(.long (f p2.toNatClampNeg))])) rfl (hb hby d11_20) _ ?_
    show Steps p.tables e below (T104.setTop (mkF m 23 #[.val (.ref a1), .val (.int p2), .val (.int p3)] [(.long (-1 : Int64)), (.long (f p2.toNatClampNeg))])) _
    refine XS.lcmp X104.here hx rfl (hb hby d11_23) rfl ?_
    show Steps p.tables e below (T104.setTop (mkF m 24 #[.val (.ref a1), .val (.int p2), .val (.int p3)] [(.int (lcmpW (f p2.toNatClampNeg) (-1 : Int64)))])) _
    refine XS.ifYes X104.here hx rfl (pc0 := 24) (pc' := 35) rfl (hb hby d11_24) rfl ((if0 _ _).trans (teq ((lw_eq (f p2.toNatClampNeg) (-1 : Int64)).mpr hfu)).1) (by decide) (by decide) ?_
    show Steps p.tables e below (T104.setTop (mkF m 35 #[.val (.ref a1), .val (.int p2), .val (.int p3)] [])) _
    refine XS.aloadN X104.here hx rfl (hb hby d11_35) rfl rfl ?_
    show Steps p.tables e below (T104.setTop (mkF m 36 #[.val (.ref a1), .val (.int p2), .val (.int p3)] [(.ref a1)])) _
    refine st106 _ ?_
    show Steps p.tables e below (T106.setTop (mkF m 39 #[.val (.ref a1), .val (.int p2), .val (.int p3)] [(.ref bl)])) _
    refine XS.iloadN X106.here hx rfl (hb hby d11_39) rfl ?_
    show Steps p.tables e below (T106.setTop (mkF m 40 #[.val (.ref a1), .val (.int p2), .val (.int p3)] [(.int p2), (.ref bl)])) _
    refine st107.trans ?_
    show Steps p.tables e below (T107.setTop (mkF m 45 #[.val (.ref a1), .val (.int p2), .val (.int p3)] [(.ref lu)])) _
    refine st108 _ ?_
    show Steps p.tables e below (T108.setTop (mkF m 48 #[.val (.ref a1), .val (.int p2), .val (.int p3)] [(.ref lu)])) _
    refine XS.iconst X108.here hx rfl (hb hby d11_48) ?_
    show Steps p.tables e below (T108.setTop (mkF m 49 #[.val (.ref a1), .val (.int p2), .val (.int p3)] [(.int (2 : Int32)), (.ref lu)])) _
    refine st109 _ ?_
    show Steps p.tables e below (T109.setTop (mkF m 51 #[.val (.ref a1), .val (.int p2), .val (.int p3)] [(.ref b109), (.ref lu)])) _
    refine XS.dup X109.here hx rfl (hb hby d11_51) rfl rfl ?_
    show Steps p.tables e below (T109.setTop (mkF m 52 #[.val (.ref a1), .val (.int p2), .val (.int p3)] [(.ref b109), (.ref b109), (.ref lu)])) _
    refine XS.iconst X109.here hx rfl (hb hby d11_52) ?_
    show Steps p.tables e below (T109.setTop (mkF m 53 #[.val (.ref a1), .val (.int p2), .val (.int p3)] [(.int (0 : Int32)), (.ref b109), (.ref b109), (.ref lu)])) _
    refine XS.iloadN X109.here hx rfl (hb hby d11_53) rfl ?_
    show Steps p.tables e below (T109.setTop (mkF m 54 #[.val (.ref a1), .val (.int p2), .val (.int p3)] [(.int p3), (.int (0 : Int32)), (.ref b109), (.ref b109), (.ref lu)])) _
    refine st111 _ ?_
    show Steps p.tables e below (T111.setTop (mkF m 55 #[.val (.ref a1), .val (.int p2), .val (.int p3)] [(.ref b109), (.ref lu)])) _
    refine XS.dup X111.here hx rfl (hb hby d11_55) rfl rfl ?_
    show Steps p.tables e below (T111.setTop (mkF m 56 #[.val (.ref a1), .val (.int p2), .val (.int p3)] [(.ref b109), (.ref b109), (.ref lu)])) _
    refine XS.iconst X111.here hx rfl (hb hby d11_56) ?_
    show Steps p.tables e below (T111.setTop (mkF m 57 #[.val (.ref a1), .val (.int p2), .val (.int p3)] [(.int (1 : Int32)), (.ref b109), (.ref b109), (.ref lu)])) _
    refine XS.aloadN X111.here hx rfl (hb hby d11_57) rfl rfl ?_
    show Steps p.tables e below (T111.setTop (mkF m 58 #[.val (.ref a1), .val (.int p2), .val (.int p3)] [(.ref a1), (.int (1 : Int32)), (.ref b109), (.ref b109), (.ref lu)])) _
    refine st112 _ ?_
    show Steps p.tables e below (T112.setTop (mkF m 61 #[.val (.ref a1), .val (.int p2), .val (.int p3)] [(.ref ra), (.int (1 : Int32)), (.ref b109), (.ref b109), (.ref lu)])) _
    refine XS.iloadN X112.here hx rfl (hb hby d11_61) rfl ?_
    show Steps p.tables e below (T112.setTop (mkF m 62 #[.val (.ref a1), .val (.int p2), .val (.int p3)] [(.int p3), (.ref ra), (.int (1 : Int32)), (.ref b109), (.ref b109), (.ref lu)])) _
    refine X112.iaload hx (j := p3) (v := (.int (fr p3.toNatClampNeg))) (by rw [e112]; exact Ar113.1) (State.isArrayOf_alike hZ.alike Ar113.2.1) Ar113.2.2 hin113 hat113 (g := (mkF m 62 #[.val (.ref a1), .val (.int p2), .val (.int p3)] [(.int p3), (.ref ra), (.int (1 : Int32)), (.ref b109), (.ref b109), (.ref lu)])) rfl rfl (hb hby d11_62) _ ?_
    show Steps p.tables e below (T112.setTop (mkF m 63 #[.val (.ref a1), .val (.int p2), .val (.int p3)] [(.int (fr p3.toNatClampNeg)), (.int (1 : Int32)), (.ref b109), (.ref b109), (.ref lu)])) _
    refine st115 _ ?_
    show Steps p.tables e below (T115.setTop (mkF m 64 #[.val (.ref a1), .val (.int p2), .val (.int p3)] [(.ref b109), (.ref lu)])) _
    refine st116.trans ?_
    show Steps p.tables e below (T116.setTop (mkF m 69 #[.val (.ref a1), .val (.int p2), .val (.int p3)] [(.int (1 : Int32))])) _
    refine XS.pop X116.here hx rfl (hb hby d11_69) rfl rfl ?_
    show Steps p.tables e below (T116.setTop (mkF m 70 #[.val (.ref a1), .val (.int p2), .val (.int p3)] [])) _
    exact X116.returnOut hx Bd.returns (hb hby d11_70) hr
  · show QTO Z a1 p2 p3 ra ja bl bd kb fb wm fr f lu w3 dd h0 n0 _ T116.heap _
    exact ⟨b109, b_116, kb_116, rfl, N116, Kp, sz_b109, g_b109, sz_b_116, g_b_116, ne_b109_b_116, E_b109, A_b109, F_elementData_lu, F_size_lu, F_modCount_lu, A_b_116⟩
def QJ0 (Z : State) (a1 : Addr) (p2 : Int32) (ra : Addr) (ja : Addr) (bl : Addr) (bd : Addr) (kb : ClassId) (fb : Nat → Value) (wm : Int32) (w1 : Int64) (f : Nat → Int64) (li : Addr) (e1 : Addr) (w3 : Int32) (h0 : Heap) (n0 : Nat) (v : Option Value) (h : Heap) (L : List Loc) : Prop := v = none ∧ Fr n0 L ∧ (Keep h0 h [a1, ja, li]) ∧ (Fld Z h a1 "com/example/wachter/wachter/sim/QueueOrder" "requests" "[I" (.ref ra)) ∧ (Fld Z h a1 "com/example/wachter/wachter/sim/QueueOrder" "joinedAs" "[J" (.ref ja)) ∧ (Fld Z h a1 "com/example/wachter/wachter/sim/QueueOrder" "behind" "Ljava/util/List;" (.ref bl)) ∧ (Fld Z h a1 "com/example/wachter/wachter/sim/QueueOrder" "joined" "J" (.long (w1 + (1 : Int64)))) ∧ (ArJ Z h ja (4 : Int32) (upd f p2.toNatClampNeg w1)) ∧ (Fld Z h li "java/util/ArrayList" "elementData" "[Ljava/lang/Object;" (.ref e1)) ∧ (Fld Z h li "java/util/ArrayList" "size" "I" (.int (0 : Int32))) ∧ (Fld Z h li "java/util/AbstractList" "modCount" "I" (.int (w3 + (1 : Int32))))
theorem ef_J0 (m : MethodId) (a1 : Addr) (p2 : Int32) : entryFrame m #[(.ref a1), (.int p2)] 6 = mkF m 0 #[.val (.ref a1), .val (.int p2), .unset, .unset, .unset, .unset] [] := by first | (simp [entryFrame, mkF, argsToLocals, Value.category]; done) | rfl
set_option maxRecDepth 65536 in
set_option maxHeartbeats 40000000 in
theorem rmJ0 (l : Launch) (Z : State) (a0 : Array Value) (hw : ∀ d ∈ tables_1, d.before a0 Z = true) (ws : List Jvm.Cond) (a1 : Addr) (p2 : Int32) (ra : Addr) (ja : Addr) (bl : Addr) (bd : Addr) (kb : ClassId) (fb : Nat → Value) (wm : Int32) (w1 : Int64) (f : Nat → Int64) (li : Addr) (e1 : Addr) (w3 : Int32) (h0 : Heap) (n0 : Nat) (Zs : n0 ≤ h0.size) (E_a1 : Exa Z h0 a1 "com/example/wachter/wachter/sim/QueueOrder") (F_requests_a1 : Fld Z h0 a1 "com/example/wachter/wachter/sim/QueueOrder" "requests" "[I" (.ref ra)) (F_joinedAs_a1 : Fld Z h0 a1 "com/example/wachter/wachter/sim/QueueOrder" "joinedAs" "[J" (.ref ja)) (F_behind_a1 : Fld Z h0 a1 "com/example/wachter/wachter/sim/QueueOrder" "behind" "Ljava/util/List;" (.ref bl)) (F_joined_a1 : Fld Z h0 a1 "com/example/wachter/wachter/sim/QueueOrder" "joined" "J" (.long w1)) (A_ja : ArJ Z h0 ja (4 : Int32) f) (g_a1 : n0 ≤ a1) (g_ja : n0 ≤ ja) (g_li : n0 ≤ li) (E_bl : Exa Z h0 bl "java/util/ArrayList") (F_elementData_bl : Fld Z h0 bl "java/util/ArrayList" "elementData" "[Ljava/lang/Object;" (.ref bd)) (F_size_bl : Fld Z h0 bl "java/util/ArrayList" "size" "I" (.int (4 : Int32))) (F_modCount_bl : Fld Z h0 bl "java/util/AbstractList" "modCount" "I" (.int wm)) (A_bd : ArR Z h0 bd kb "java/lang/Object" (4 : Int32) fb) (E_li : Exa Z h0 li "java/util/ArrayList") (F_elementData_li : Fld Z h0 li "java/util/ArrayList" "elementData" "[Ljava/lang/Object;" (.ref e1)) (F_size_li : Fld Z h0 li "java/util/ArrayList" "size" "I" (.int (0 : Int32))) (F_modCount_li : Fld Z h0 li "java/util/AbstractList" "modCount" "I" (.int w3)) (ne_a1_ja : a1 ≠ ja) (ne_a1_bl : a1 ≠ bl) (ne_a1_bd : a1 ≠ bd) (ne_a1_li : a1 ≠ li) (ne_ja_bl : ja ≠ bl) (ne_ja_bd : ja ≠ bd) (ne_ja_li : ja ≠ li) (ne_bl_bd : bl ≠ bd) (ne_bl_li : bl ≠ li) (ne_bd_li : bd ≠ li) (hi : ¬ p2 < (0 : Int32) ∧ p2 < (4 : Int32)) (hB : fb p2.toNatClampNeg = .ref li) :
    MetFree l (⟨"com/example/wachter/wachter/sim/QueueOrder", "join", "(I)V"⟩ : MethodName) (head1 (Jvm.Cond.code (⟨"com/example/wachter/wachter/sim/QueueOrder", "join", "(I)V"⟩ : MethodName) prog_41_method_5_code 6 none :: ws) ({ frames := 3, cells := 1, slots := 4, locals := 40 } : Room)) (fun a U => a = #[(.ref a1), (.int p2)] ∧ Z.Warmed39 U.vm ∧ U.heap = h0) (fun _ _ _ _ _ => True) (fun _ U o U' => ∃ v L, o = .returned v ∧ QJ0 Z a1 p2 ra ja bl bd kb fb wm w1 f li e1 w3 h0 n0 v U'.heap L ∧ FrameEnd U o U' L ({ frames := 3, cells := 1, slots := 4, locals := 40 } : Room).cells ({ frames := 3, cells := 1, slots := 4, locals := 40 } : Room).slots) := by
  refine MetFree.of_bodySF (plainFor_of_name pn_7) hisR ?_
  intro p e s m args below meth c s₁ Bd hml0 hP hK
  obtain ⟨rfl, hZ, hh⟩ := hP
  have hx := Bd.exec
  have hby := Bd.bytes
  have hml : c.maxLocals = 6 := hml0
  have hown : s.vm.findClass "com/example/wachter/wachter/sim/QueueOrder" = some m.cls := findClass_of_methodNamed Bd.named
  have hnm := (name_of_methodNamed Bd.named Bd.method).1
  have X0 : Stand p l e ({ frames := 3, cells := 1, slots := 4, locals := 40 } : Room) s m #[(.ref a1), (.int p2)] below meth c s₁ [] 0 0 := Stand.of_body Bd
  have e0 : s₁.heap = h0 := by rw [← hh, Bd.state]; rfl
  have N0 := Fr.nil n0
  have pre0 : ∀ t, Steps p.tables e below (s₁.setTop (mkF m 0 #[.val (.ref a1), .val (.int p2), .unset, .unset, .unset, .unset] [])) t → Steps p.tables e below (s₁.setTop (entryFrame m #[(.ref a1), (.int p2)] 6)) t := fun t k => castTop (ef_J0 m a1 p2) k
  have Kp : Keep h0 h0 [a1, ja, li] := Keep.refl h0 [a1, ja, li]
  obtain ⟨T117, X117, e117, st117⟩ := getF X0 hx hZ hown (host := "") (Or.inl (hw _ (List.mem_of_getElem? (i := 14) rfl))) Via.refl e0 F_joinedAs_a1 (g := (mkF m 1 #[.val (.ref a1), .val (.int p2), .unset, .unset, .unset, .unset] [(.ref a1)])) rfl rfl (hb hby d20_1)
  obtain ⟨T118, X118, e118, st118⟩ := getF X117 hx hZ hown (host := "") (Or.inl (hw _ (List.mem_of_getElem? (i := 71) rfl))) Via.refl e117 F_joined_a1 (g := (mkF m 7 #[.val (.ref a1), .val (.int p2), .unset, .unset, .unset, .unset] [(.ref a1), (.ref a1), (.int p2), (.ref ja)])) rfl rfl (hb hby d20_7)
  obtain ⟨T119, h119, X119, e119, W119, st119⟩ := putF X118 hx hZ hown (host := "") (Or.inl (hw _ (List.mem_of_getElem? (i := 71) rfl))) Via.refl e118 F_joined_a1 E_a1 (Or.inl (hw _ (List.mem_of_getElem? (i := 72) rfl))) (hw _ (List.mem_of_getElem? (i := 2) rfl)) (ty := .long) (by decide) rfl rfl (g := (mkF m 13 #[.val (.ref a1), .val (.int p2), .unset, .unset, .unset, .unset] [(.long (w1 + (1 : Int64))), (.ref a1), (.long w1), (.int p2), (.ref ja)])) rfl rfl (hb hby d20_13)
  have N119 := Fr.snoc X119 N0 g_a1
  have Zs : n0 ≤ h119.size := Nat.le_trans Zs (Keep.of_wr W119).1
  have E_a1 : Exa Z h119 a1 "com/example/wachter/wachter/sim/QueueOrder" := E_a1.wr W119
  have F_requests_a1 : Fld Z h119 a1 "com/example/wachter/wachter/sim/QueueOrder" "requests" "[I" (.ref ra) := F_requests_a1.other W119 (Or.inr (slot_ne (Or.inr (hw _ (List.mem_of_getElem? (i := 12) rfl))) (Or.inl (hw _ (List.mem_of_getElem? (i := 72) rfl))) (by decide) (t := (.array .int)) (t' := .long) (by decide) (by decide)))
  have F_joinedAs_a1 : Fld Z h119 a1 "com/example/wachter/wachter/sim/QueueOrder" "joinedAs" "[J" (.ref ja) := F_joinedAs_a1.other W119 (Or.inr (slot_ne (Or.inr (hw _ (List.mem_of_getElem? (i := 15) rfl))) (Or.inl (hw _ (List.mem_of_getElem? (i := 72) rfl))) (by decide) (t := (.array .long)) (t' := .long) (by decide) (by decide)))
  have F_behind_a1 : Fld Z h119 a1 "com/example/wachter/wachter/sim/QueueOrder" "behind" "Ljava/util/List;" (.ref bl) := F_behind_a1.other W119 (Or.inr (slot_ne (Or.inr (hw _ (List.mem_of_getElem? (i := 42) rfl))) (Or.inl (hw _ (List.mem_of_getElem? (i := 72) rfl))) (by decide) (t := (.object "java/util/List")) (t' := .long) (by decide) (by decide)))
  have F_joined_a1 : Fld Z h119 a1 "com/example/wachter/wachter/sim/QueueOrder" "joined" "J" (.long (w1 + (1 : Int64))) := F_joined_a1.same W119
  have A_ja : ArJ Z h119 ja (4 : Int32) f := A_ja.other W119 (Ne.symm ne_a1_ja)
  have E_bl : Exa Z h119 bl "java/util/ArrayList" := E_bl.wr W119
  have F_elementData_bl : Fld Z h119 bl "java/util/ArrayList" "elementData" "[Ljava/lang/Object;" (.ref bd) := F_elementData_bl.other W119 (Or.inl (Ne.symm ne_a1_bl))
  have F_size_bl : Fld Z h119 bl "java/util/ArrayList" "size" "I" (.int (4 : Int32)) := F_size_bl.other W119 (Or.inl (Ne.symm ne_a1_bl))
  have F_modCount_bl : Fld Z h119 bl "java/util/AbstractList" "modCount" "I" (.int wm) := F_modCount_bl.other W119 (Or.inl (Ne.symm ne_a1_bl))
  have A_bd : ArR Z h119 bd kb "java/lang/Object" (4 : Int32) fb := A_bd.other W119 (Ne.symm ne_a1_bd)
  have E_li : Exa Z h119 li "java/util/ArrayList" := E_li.wr W119
  have F_elementData_li : Fld Z h119 li "java/util/ArrayList" "elementData" "[Ljava/lang/Object;" (.ref e1) := F_elementData_li.other W119 (Or.inl (Ne.symm ne_a1_li))
  have F_size_li : Fld Z h119 li "java/util/ArrayList" "size" "I" (.int (0 : Int32)) := F_size_li.other W119 (Or.inl (Ne.symm ne_a1_li))
  have F_modCount_li : Fld Z h119 li "java/util/AbstractList" "modCount" "I" (.int w3) := F_modCount_li.other W119 (Or.inl (Ne.symm ne_a1_li))
  have Kp : Keep h0 h119 [a1, ja, li] := Kp.wr W119 (Or.inl (List.mem_of_getElem? (i := 0) rfl))
  obtain ⟨cl120, Ar120, hs120, hin120, hat120⟩ := ArJ.open (j := p2) A_ja hi
  obtain ⟨T121, h121, X121, e121, W121, st121⟩ := stJ X119 hx hZ e119 Ar120 (j := p2) hin120 (g := (mkF m 16 #[.val (.ref a1), .val (.int p2), .unset, .unset, .unset, .unset] [(.long w1), (.int p2), (.ref ja)])) rfl rfl (hb hby d20_16)
  have N121 := Fr.snoc X121 N119 g_ja
  have Zs : n0 ≤ h121.size := Nat.le_trans Zs (Keep.of_wr W121).1
  have E_a1 : Exa Z h121 a1 "com/example/wachter/wachter/sim/QueueOrder" := E_a1.wr W121
  have F_requests_a1 : Fld Z h121 a1 "com/example/wachter/wachter/sim/QueueOrder" "requests" "[I" (.ref ra) := F_requests_a1.other W121 (Or.inl ne_a1_ja)
  have F_joinedAs_a1 : Fld Z h121 a1 "com/example/wachter/wachter/sim/QueueOrder" "joinedAs" "[J" (.ref ja) := F_joinedAs_a1.other W121 (Or.inl ne_a1_ja)
  have F_behind_a1 : Fld Z h121 a1 "com/example/wachter/wachter/sim/QueueOrder" "behind" "Ljava/util/List;" (.ref bl) := F_behind_a1.other W121 (Or.inl ne_a1_ja)
  have F_joined_a1 : Fld Z h121 a1 "com/example/wachter/wachter/sim/QueueOrder" "joined" "J" (.long (w1 + (1 : Int64))) := F_joined_a1.other W121 (Or.inl ne_a1_ja)
  have E_bl : Exa Z h121 bl "java/util/ArrayList" := E_bl.wr W121
  have F_elementData_bl : Fld Z h121 bl "java/util/ArrayList" "elementData" "[Ljava/lang/Object;" (.ref bd) := F_elementData_bl.other W121 (Or.inl (Ne.symm ne_ja_bl))
  have F_size_bl : Fld Z h121 bl "java/util/ArrayList" "size" "I" (.int (4 : Int32)) := F_size_bl.other W121 (Or.inl (Ne.symm ne_ja_bl))
  have F_modCount_bl : Fld Z h121 bl "java/util/AbstractList" "modCount" "I" (.int wm) := F_modCount_bl.other W121 (Or.inl (Ne.symm ne_ja_bl))
  have A_bd : ArR Z h121 bd kb "java/lang/Object" (4 : Int32) fb := A_bd.other W121 (Ne.symm ne_ja_bd)
  have E_li : Exa Z h121 li "java/util/ArrayList" := E_li.wr W121
  have F_elementData_li : Fld Z h121 li "java/util/ArrayList" "elementData" "[Ljava/lang/Object;" (.ref e1) := F_elementData_li.other W121 (Or.inl (Ne.symm ne_ja_li))
  have F_size_li : Fld Z h121 li "java/util/ArrayList" "size" "I" (.int (0 : Int32)) := F_size_li.other W121 (Or.inl (Ne.symm ne_ja_li))
  have F_modCount_li : Fld Z h121 li "java/util/AbstractList" "modCount" "I" (.int w3) := F_modCount_li.other W121 (Or.inl (Ne.symm ne_ja_li))
  have Kp : Keep h0 h121 [a1, ja, li] := Kp.wr W121 (Or.inl (List.mem_of_getElem? (i := 1) rfl))
  have A_ja : ArJ Z h121 ja (4 : Int32) (upd f p2.toNatClampNeg w1) := ArJ.set A_ja W121
  obtain ⟨T122, X122, e122, st122⟩ := getF X121 hx hZ hown (host := "") (Or.inl (hw _ (List.mem_of_getElem? (i := 41) rfl))) Via.refl e121 F_behind_a1 (g := (mkF m 18 #[.val (.ref a1), .val (.int p2), .unset, .unset, .unset, .unset] [(.ref a1)])) rfl rfl (hb hby d20_18)
  obtain ⟨cq123, kq123, q123a, q123b, q123c⟩ := isOf hZ e122 E_bl
  obtain ⟨_, _, ⟨T123, L123, k123, n123⟩, -, X123, ⟨Lc123, hQ123, l123, y123, z123⟩, st123⟩ := X122.interfaceBack hx (xi := (⟨"java/util/List", "get", "(I)Ljava/lang/Object;"⟩ : MethodName)) (y := (⟨"java/util/ArrayList", "get", "(I)Ljava/lang/Object;"⟩ : MethodName)) hown (mvT hZ (hw _ (List.mem_of_getElem? (i := 83) rfl))) (mvT hZ (hw _ (List.mem_of_getElem? (i := 84) rfl))) (mvT hZ (hw _ (List.mem_of_getElem? (i := 85) rfl))) (mvT hZ (hw _ (List.mem_of_getElem? (i := 86) rfl))) (mvT hZ (hw _ (List.mem_of_getElem? (i := 87) rfl))) (mvT hZ (hw _ (List.mem_of_getElem? (i := 88) rfl))) (mvT hZ (hw _ (List.mem_of_getElem? (i := 89) rfl))) (mvT hZ (hw _ (List.mem_of_getElem? (i := 59) rfl))) (by decide) (backOf (W := 0) (rmGET l Z a0 hw [] bl p2 bd kb (4 : Int32) fb li (4 : Int32) h121 n0 Zs E_bl F_elementData_bl F_size_bl A_bd hi hi.2 hB) hZ (hw _ (List.mem_of_getElem? (i := 90) rfl)) (hw _ (List.mem_of_getElem? (i := 18) rfl)) (by decide) (by decide)) q123a q123b q123c (g := (mkF m 22 #[.val (.ref a1), .val (.int p2), .unset, .unset, .unset, .unset] [(.int p2), (.ref bl)])) rfl (by rw [hml]; rfl) (Steps.refl _) (argsL := [(.int p2)]) (rest := []) (lenOf pd_6 rfl) rfl (by show 2 * 0 + _ ≤ _; exact Nat.le_of_eq rfl) (hb hby d20_22) (fun _ _ => ⟨rfl, e122, (by decide : 0 + 0 ≤ _), (by decide : 0 + 0 ≤ _)⟩)
  dsimp only [Pt.U, Pt.locs, Pt.cells, Pt.slots] at X123 l123 y123 z123 st123 hQ123
  subst l123 y123 z123
  obtain ⟨rfl, N123q, e123⟩ := hQ123
  have N123 := Fr.app N121 N123q
  obtain ⟨T124, X124, e124, st124⟩ := castY X123 hx hZ hown (hw _ (List.mem_of_getElem? (i := 104) rfl)) e123 (Ins.of_exa E_li (hw _ (List.mem_of_getElem? (i := 59) rfl))) (g := (mkF m 27 #[.val (.ref a1), .val (.int p2), .unset, .unset, .unset, .unset] [(.ref li)])) rfl rfl (hb hby d20_27)
  obtain ⟨cq125, kq125, q125a, q125b, q125c⟩ := isOf hZ e124 E_li
  obtain ⟨_, _, ⟨T125, L125, k125, n125⟩, -, X125, ⟨Lc125, hQ125, l125, y125, z125⟩, st125⟩ := X124.interfaceBack hx (xi := (⟨"java/util/List", "iterator", "()Ljava/util/Iterator;"⟩ : MethodName)) (y := (⟨"java/util/ArrayList", "iterator", "()Ljava/util/Iterator;"⟩ : MethodName)) hown (mvT hZ (hw _ (List.mem_of_getElem? (i := 129) rfl))) (mvT hZ (hw _ (List.mem_of_getElem? (i := 130) rfl))) (mvT hZ (hw _ (List.mem_of_getElem? (i := 131) rfl))) (mvT hZ (hw _ (List.mem_of_getElem? (i := 132) rfl))) (mvT hZ (hw _ (List.mem_of_getElem? (i := 133) rfl))) (mvT hZ (hw _ (List.mem_of_getElem? (i := 134) rfl))) (mvT hZ (hw _ (List.mem_of_getElem? (i := 135) rfl))) (mvT hZ (hw _ (List.mem_of_getElem? (i := 59) rfl))) (by decide) (backOf (W := 0) (rmIT l Z a0 hw [] li w3 h121 n0 Zs F_modCount_li) hZ (hw _ (List.mem_of_getElem? (i := 136) rfl)) (hw _ (List.mem_of_getElem? (i := 18) rfl)) (by decide) (by decide)) q125a q125b q125c (g := (mkF m 32 #[.val (.ref a1), .val (.int p2), .val (.ref li), .unset, .unset, .unset] [(.ref li)])) rfl (by rw [hml]; rfl) (Steps.refl _) (argsL := []) (rest := []) (lenOf pd_9 rfl) rfl (by show 2 * 0 + _ ≤ _; exact Nat.le_of_eq rfl) (hb hby d20_32) (fun _ _ => ⟨rfl, e124, (by decide : 0 + 1 ≤ _), (by decide : 0 + 4 ≤ _)⟩)
  dsimp only [Pt.U, Pt.locs, Pt.cells, Pt.slots] at X125 l125 y125 z125 st125 hQ125
  subst l125 y125 z125
  obtain ⟨b_125, rfl, N125q, K125, szc_b_125, g_b_125, P125_3, P125_4, P125_5, P125_6, P125_7⟩ := hQ125
  have sz_b_125 : h0.size ≤ b_125 := Nat.le_trans Kp.1 szc_b_125
  have ne_a1_b_125 : a1 ≠ b_125 := Nat.ne_of_lt (Nat.lt_of_lt_of_le E_a1.lt szc_b_125)
  have ne_ja_b_125 : ja ≠ b_125 := Nat.ne_of_lt (Nat.lt_of_lt_of_le A_ja.lt szc_b_125)
  have ne_bl_b_125 : bl ≠ b_125 := Nat.ne_of_lt (Nat.lt_of_lt_of_le E_bl.lt szc_b_125)
  have ne_bd_b_125 : bd ≠ b_125 := Nat.ne_of_lt (Nat.lt_of_lt_of_le A_bd.lt szc_b_125)
  have ne_li_b_125 : li ≠ b_125 := Nat.ne_of_lt (Nat.lt_of_lt_of_le E_li.lt szc_b_125)
  have Zs : n0 ≤ T125.heap.size := Nat.le_trans Zs K125.1
  have E_a1 : Exa Z T125.heap a1 "com/example/wachter/wachter/sim/QueueOrder" := E_a1.keep K125
  have F_requests_a1 : Fld Z T125.heap a1 "com/example/wachter/wachter/sim/QueueOrder" "requests" "[I" (.ref ra) := F_requests_a1.keep K125 nin0
  have F_joinedAs_a1 : Fld Z T125.heap a1 "com/example/wachter/wachter/sim/QueueOrder" "joinedAs" "[J" (.ref ja) := F_joinedAs_a1.keep K125 nin0
  have F_behind_a1 : Fld Z T125.heap a1 "com/example/wachter/wachter/sim/QueueOrder" "behind" "Ljava/util/List;" (.ref bl) := F_behind_a1.keep K125 nin0
  have F_joined_a1 : Fld Z T125.heap a1 "com/example/wachter/wachter/sim/QueueOrder" "joined" "J" (.long (w1 + (1 : Int64))) := F_joined_a1.keep K125 nin0
  have A_ja : ArJ Z T125.heap ja (4 : Int32) (upd f p2.toNatClampNeg w1) := A_ja.keep K125 nin0
  have E_bl : Exa Z T125.heap bl "java/util/ArrayList" := E_bl.keep K125
  have F_elementData_bl : Fld Z T125.heap bl "java/util/ArrayList" "elementData" "[Ljava/lang/Object;" (.ref bd) := F_elementData_bl.keep K125 nin0
  have F_size_bl : Fld Z T125.heap bl "java/util/ArrayList" "size" "I" (.int (4 : Int32)) := F_size_bl.keep K125 nin0
  have F_modCount_bl : Fld Z T125.heap bl "java/util/AbstractList" "modCount" "I" (.int wm) := F_modCount_bl.keep K125 nin0
  have A_bd : ArR Z T125.heap bd kb "java/lang/Object" (4 : Int32) fb := A_bd.keep K125 nin0
  have E_li : Exa Z T125.heap li "java/util/ArrayList" := E_li.keep K125
  have F_elementData_li : Fld Z T125.heap li "java/util/ArrayList" "elementData" "[Ljava/lang/Object;" (.ref e1) := F_elementData_li.keep K125 nin0
  have F_size_li : Fld Z T125.heap li "java/util/ArrayList" "size" "I" (.int (0 : Int32)) := F_size_li.keep K125 nin0
  have F_modCount_li : Fld Z T125.heap li "java/util/AbstractList" "modCount" "I" (.int w3) := F_modCount_li.keep K125 nin0
  have Kp : Keep h0 T125.heap [a1, ja, li] := Kp.trans K125 all0
  have E_b_125 : Exa Z T125.heap b_125 "java/util/ArrayList$Itr" := P125_3
  have F_this_0_b_125 : Fld Z T125.heap b_125 "java/util/ArrayList$Itr" "this$0" "Ljava/util/ArrayList;" (.ref li) := P125_4
  have F_cursor_b_125 : Fld Z T125.heap b_125 "java/util/ArrayList$Itr" "cursor" "I" (.int (0 : Int32)) := P125_5
  have F_lastRet_b_125 : Fld Z T125.heap b_125 "java/util/ArrayList$Itr" "lastRet" "I" (.int (-1 : Int32)) := P125_6
  have F_expectedModCount_b_125 : Fld Z T125.heap b_125 "java/util/ArrayList$Itr" "expectedModCount" "I" (.int w3) := P125_7
  have N125 := Fr.app N123 N125q
  obtain ⟨cq126, kq126, q126a, q126b, q126c⟩ := isOf hZ rfl E_b_125
  obtain ⟨_, _, ⟨T126, L126, k126, n126⟩, -, X126, ⟨Lc126, hQ126, l126, y126, z126⟩, st126⟩ := X125.interfaceBack hx (xi := (⟨"java/util/Iterator", "hasNext", "()Z"⟩ : MethodName)) (y := (⟨"java/util/ArrayList$Itr", "hasNext", "()Z"⟩ : MethodName)) hown (mvT hZ (hw _ (List.mem_of_getElem? (i := 152) rfl))) (mvT hZ (hw _ (List.mem_of_getElem? (i := 153) rfl))) (mvT hZ (hw _ (List.mem_of_getElem? (i := 154) rfl))) (mvT hZ (hw _ (List.mem_of_getElem? (i := 155) rfl))) (mvT hZ (hw _ (List.mem_of_getElem? (i := 156) rfl))) (mvT hZ (hw _ (List.mem_of_getElem? (i := 157) rfl))) (mvT hZ (hw _ (List.mem_of_getElem? (i := 158) rfl))) (mvT hZ (hw _ (List.mem_of_getElem? (i := 159) rfl))) (by decide) (backOf (W := 0) (rmH00 l Z a0 hw [] b_125 li T125.heap n0 Zs F_this_0_b_125 F_cursor_b_125 F_size_li) hZ (hw _ (List.mem_of_getElem? (i := 160) rfl)) (hw _ (List.mem_of_getElem? (i := 139) rfl)) (by decide) (by decide)) q126a q126b q126c (g := (mkF m 39 #[.val (.ref a1), .val (.int p2), .val (.ref li), .val (.ref b_125), .unset, .unset] [(.ref b_125)])) rfl (by rw [hml]; rfl) (Steps.refl _) (argsL := []) (rest := []) (lenOf pd_10 rfl) rfl (by show 2 * 0 + _ ≤ _; exact Nat.le_of_eq rfl) (hb hby d20_39) (fun _ _ => ⟨rfl, rfl, (by decide : 1 + 0 ≤ _), (by decide : 4 + 0 ≤ _)⟩)
  dsimp only [Pt.U, Pt.locs, Pt.cells, Pt.slots] at X126 l126 y126 z126 st126 hQ126
  subst l126 y126 z126
  obtain ⟨rfl, N126q, e126⟩ := hQ126
  have N126 := Fr.app N125 N126q
  obtain ⟨cq127, kq127, q127a, q127b, q127c⟩ := isOf hZ e126 E_li
  obtain ⟨_, _, ⟨T127, L127, k127, n127⟩, -, X127, ⟨Lc127, hQ127, l127, y127, z127⟩, st127⟩ := X126.interfaceBack hx (xi := (⟨"java/util/List", "clear", "()V"⟩ : MethodName)) (y := (⟨"java/util/ArrayList", "clear", "()V"⟩ : MethodName)) hown (mvT hZ (hw _ (List.mem_of_getElem? (i := 180) rfl))) (mvT hZ (hw _ (List.mem_of_getElem? (i := 181) rfl))) (mvT hZ (hw _ (List.mem_of_getElem? (i := 182) rfl))) (mvT hZ (hw _ (List.mem_of_getElem? (i := 183) rfl))) (mvT hZ (hw _ (List.mem_of_getElem? (i := 184) rfl))) (mvT hZ (hw _ (List.mem_of_getElem? (i := 185) rfl))) (mvT hZ (hw _ (List.mem_of_getElem? (i := 186) rfl))) (mvT hZ (hw _ (List.mem_of_getElem? (i := 59) rfl))) (by decide) (backOf (W := 0) (rmC0 l Z a0 hw [] li e1 w3 T125.heap n0 Zs E_li F_elementData_li F_size_li F_modCount_li g_li) hZ (hw _ (List.mem_of_getElem? (i := 187) rfl)) (hw _ (List.mem_of_getElem? (i := 18) rfl)) (by decide) (by decide)) q127a q127b q127c (g := (mkF m 102 #[.val (.ref a1), .val (.int p2), .val (.ref li), .val (.ref b_125), .unset, .unset] [(.ref li)])) rfl (by rw [hml]; rfl) (Steps.refl _) (argsL := []) (rest := []) (lenOf pd_0 rfl) rfl (by show 2 * 0 + _ ≤ _; exact Nat.le_of_eq rfl) (hb hby d20_102) (fun _ _ => ⟨rfl, e126, (by decide : 1 + 0 ≤ _), (by decide : 4 + 0 ≤ _)⟩)
  dsimp only [Pt.U, Pt.locs, Pt.cells, Pt.slots] at X127 l127 y127 z127 st127 hQ127
  subst l127 y127 z127
  obtain ⟨rfl, N127q, K127, P127_1, P127_2, P127_3⟩ := hQ127
  have Zs : n0 ≤ T127.heap.size := Nat.le_trans Zs K127.1
  have E_a1 : Exa Z T127.heap a1 "com/example/wachter/wachter/sim/QueueOrder" := E_a1.keep K127
  have F_requests_a1 : Fld Z T127.heap a1 "com/example/wachter/wachter/sim/QueueOrder" "requests" "[I" (.ref ra) := F_requests_a1.keep K127 (ninS ne_a1_li nin0)
  have F_joinedAs_a1 : Fld Z T127.heap a1 "com/example/wachter/wachter/sim/QueueOrder" "joinedAs" "[J" (.ref ja) := F_joinedAs_a1.keep K127 (ninS ne_a1_li nin0)
  have F_behind_a1 : Fld Z T127.heap a1 "com/example/wachter/wachter/sim/QueueOrder" "behind" "Ljava/util/List;" (.ref bl) := F_behind_a1.keep K127 (ninS ne_a1_li nin0)
  have F_joined_a1 : Fld Z T127.heap a1 "com/example/wachter/wachter/sim/QueueOrder" "joined" "J" (.long (w1 + (1 : Int64))) := F_joined_a1.keep K127 (ninS ne_a1_li nin0)
  have A_ja : ArJ Z T127.heap ja (4 : Int32) (upd f p2.toNatClampNeg w1) := A_ja.keep K127 (ninS ne_ja_li nin0)
  have E_bl : Exa Z T127.heap bl "java/util/ArrayList" := E_bl.keep K127
  have F_elementData_bl : Fld Z T127.heap bl "java/util/ArrayList" "elementData" "[Ljava/lang/Object;" (.ref bd) := F_elementData_bl.keep K127 (ninS ne_bl_li nin0)
  have F_size_bl : Fld Z T127.heap bl "java/util/ArrayList" "size" "I" (.int (4 : Int32)) := F_size_bl.keep K127 (ninS ne_bl_li nin0)
  have F_modCount_bl : Fld Z T127.heap bl "java/util/AbstractList" "modCount" "I" (.int wm) := F_modCount_bl.keep K127 (ninS ne_bl_li nin0)
  have A_bd : ArR Z T127.heap bd kb "java/lang/Object" (4 : Int32) fb := A_bd.keep K127 (ninS ne_bd_li nin0)
  have E_li : Exa Z T127.heap li "java/util/ArrayList" := E_li.keep K127
  have Kp : Keep h0 T127.heap [a1, ja, li] := Kp.trans K127 (allS (Or.inl (List.mem_of_getElem? (i := 2) rfl)) all0)
  have E_b_125 : Exa Z T127.heap b_125 "java/util/ArrayList$Itr" := E_b_125.keep K127
  have F_this_0_b_125 : Fld Z T127.heap b_125 "java/util/ArrayList$Itr" "this$0" "Ljava/util/ArrayList;" (.ref li) := F_this_0_b_125.keep K127 (ninS (Ne.symm ne_li_b_125) nin0)
  have F_cursor_b_125 : Fld Z T127.heap b_125 "java/util/ArrayList$Itr" "cursor" "I" (.int (0 : Int32)) := F_cursor_b_125.keep K127 (ninS (Ne.symm ne_li_b_125) nin0)
  have F_lastRet_b_125 : Fld Z T127.heap b_125 "java/util/ArrayList$Itr" "lastRet" "I" (.int (-1 : Int32)) := F_lastRet_b_125.keep K127 (ninS (Ne.symm ne_li_b_125) nin0)
  have F_expectedModCount_b_125 : Fld Z T127.heap b_125 "java/util/ArrayList$Itr" "expectedModCount" "I" (.int w3) := F_expectedModCount_b_125.keep K127 (ninS (Ne.symm ne_li_b_125) nin0)
  have F_elementData_li : Fld Z T127.heap li "java/util/ArrayList" "elementData" "[Ljava/lang/Object;" (.ref e1) := P127_1
  have F_size_li : Fld Z T127.heap li "java/util/ArrayList" "size" "I" (.int (0 : Int32)) := P127_2
  have F_modCount_li : Fld Z T127.heap li "java/util/AbstractList" "modCount" "I" (.int (w3 + (1 : Int32))) := P127_3
  have N127 := Fr.app N126 N127q
  obtain ⟨fs, hr, hrun, hended, hW, hsame⟩ := X127.leave (v := none) (fun _ => rfl)
  refine ⟨_, _, pre0 _ ?_, hrun, hended, _, _, rfl, ?_, ⟨_, rfl⟩, hW, hsame.mono (by decide) (by decide)⟩
  · show Steps p.tables e below (s₁.setTop (mkF m 0 #[.val (.ref a1), .val (.int p2), .unset, .unset, .unset, .unset] [])) _
    refine XS.aloadN X0.here hx rfl (hb hby d20_0) rfl rfl ?_
    show Steps p.tables e below (s₁.setTop (mkF m 1 #[.val (.ref a1), .val (.int p2), .unset, .unset, .unset, .unset] [(.ref a1)])) _
    refine st117 _ ?_
    show Steps p.tables e below (T117.setTop (mkF m 4 #[.val (.ref a1), .val (.int p2), .unset, .unset, .unset, .unset] [(.ref ja)])) _
    refine XS.iloadN X117.here hx rfl (hb hby d20_4) rfl ?_
    show Steps p.tables e below (T117.setTop (mkF m 5 #[.val (.ref a1), .val (.int p2), .unset, .unset, .unset, .unset] [(.int p2), (.ref ja)])) _
    refine XS.aloadN X117.here hx rfl (hb hby d20_5) rfl rfl ?_
    show Steps p.tables e below (T117.setTop (mkF m 6 #[.val (.ref a1), .val (.int p2), .unset, .unset, .unset, .unset] [(.ref a1), (.int p2), (.ref ja)])) _
    refine XS.dup X117.here hx rfl (hb hby d20_6) rfl rfl ?_
    show Steps p.tables e below (T117.setTop (mkF m 7 #[.val (.ref a1), .val (.int p2), .unset, .unset, .unset, .unset] [(.ref a1), (.ref a1), (.int p2), (.ref ja)])) _
    refine st118 _ ?_
    show Steps p.tables e below (T118.setTop (mkF m 10 #[.val (.ref a1), .val (.int p2), .unset, .unset, .unset, .unset] [(.long w1), (.ref a1), (.int p2), (.ref ja)])) _
    jvm_step X118.here [X118.here.top, hx, (hb hby d20_10), Value.category]
    show Steps p.tables e below (T118.setTop (mkF m 11 #[.val (.ref a1), .val (.int p2), .unset, .unset, .unset, .unset] [(.long w1), (.ref a1), (.long w1), (.int p2), (.ref ja)])) _
    refine XS.lconst X118.here hx rfl (hb hby d20_11) ?_
    show Steps p.tables e below (T118.setTop (mkF m 12 #[.val (.ref a1), .val (.int p2), .unset, .unset, .unset, .unset] [(.long (1 : Int64)), (.long w1), (.ref a1), (.long w1), (.int p2), (.ref ja)])) _
    refine XS.ladd X118.here hx rfl (hb hby d20_12) rfl ?_
    show Steps p.tables e below (T118.setTop (mkF m 13 #[.val (.ref a1), .val (.int p2), .unset, .unset, .unset, .unset] [(.long (w1 + (1 : Int64))), (.ref a1), (.long w1), (.int p2), (.ref ja)])) _
    refine st119 _ ?_
    show Steps p.tables e below (T119.setTop (mkF m 16 #[.val (.ref a1), .val (.int p2), .unset, .unset, .unset, .unset] [(.long w1), (.int p2), (.ref ja)])) _
    refine st121 _ ?_
    show Steps p.tables e below (T121.setTop (mkF m 17 #[.val (.ref a1), .val (.int p2), .unset, .unset, .unset, .unset] [])) _
    refine XS.aloadN X121.here hx rfl (hb hby d20_17) rfl rfl ?_
    show Steps p.tables e below (T121.setTop (mkF m 18 #[.val (.ref a1), .val (.int p2), .unset, .unset, .unset, .unset] [(.ref a1)])) _
    refine st122 _ ?_
    show Steps p.tables e below (T122.setTop (mkF m 21 #[.val (.ref a1), .val (.int p2), .unset, .unset, .unset, .unset] [(.ref bl)])) _
    refine XS.iloadN X122.here hx rfl (hb hby d20_21) rfl ?_
    show Steps p.tables e below (T122.setTop (mkF m 22 #[.val (.ref a1), .val (.int p2), .unset, .unset, .unset, .unset] [(.int p2), (.ref bl)])) _
    refine st123.trans ?_
    show Steps p.tables e below (T123.setTop (mkF m 27 #[.val (.ref a1), .val (.int p2), .unset, .unset, .unset, .unset] [(.ref li)])) _
    refine st124 _ ?_
    show Steps p.tables e below (T124.setTop (mkF m 30 #[.val (.ref a1), .val (.int p2), .unset, .unset, .unset, .unset] [(.ref li)])) _
    refine XS.astoreN X124.here hx rfl (hb hby d20_30) rfl rfl (l' := #[.val (.ref a1), .val (.int p2), .val (.ref li), .unset, .unset, .unset]) rfl ?_
    show Steps p.tables e below (T124.setTop (mkF m 31 #[.val (.ref a1), .val (.int p2), .val (.ref li), .unset, .unset, .unset] [])) _
    refine XS.aloadN X124.here hx rfl (hb hby d20_31) rfl rfl ?_
    show Steps p.tables e below (T124.setTop (mkF m 32 #[.val (.ref a1), .val (.int p2), .val (.ref li), .unset, .unset, .unset] [(.ref li)])) _
    refine st125.trans ?_
    show Steps p.tables e below (T125.setTop (mkF m 37 #[.val (.ref a1), .val (.int p2), .val (.ref li), .unset, .unset, .unset] [(.ref b_125)])) _
    refine XS.astoreN X125.here hx rfl (hb hby d20_37) rfl rfl (l' := #[.val (.ref a1), .val (.int p2), .val (.ref li), .val (.ref b_125), .unset, .unset]) rfl ?_
    show Steps p.tables e below (T125.setTop (mkF m 38 #[.val (.ref a1), .val (.int p2), .val (.ref li), .val (.ref b_125), .unset, .unset] [])) _
    refine XS.aloadN X125.here hx rfl (hb hby d20_38) rfl rfl ?_
    show Steps p.tables e below (T125.setTop (mkF m 39 #[.val (.ref a1), .val (.int p2), .val (.ref li), .val (.ref b_125), .unset, .unset] [(.ref b_125)])) _
    refine st126.trans ?_
    show Steps p.tables e below (T126.setTop (mkF m 44 #[.val (.ref a1), .val (.int p2), .val (.ref li), .val (.ref b_125), .unset, .unset] [(.int (0 : Int32))])) _
    refine XS.ifYes X126.here hx rfl (pc0 := 44) (pc' := 101) rfl (hb hby d20_44) rfl ((if0 _ _).trans (teq (by decide)).1) (by decide) (by decide) ?_
    show Steps p.tables e below (T126.setTop (mkF m 101 #[.val (.ref a1), .val (.int p2), .val (.ref li), .val (.ref b_125), .unset, .unset] [])) _
    refine XS.aloadN X126.here hx rfl (hb hby d20_101) rfl rfl ?_
    show Steps p.tables e below (T126.setTop (mkF m 102 #[.val (.ref a1), .val (.int p2), .val (.ref li), .val (.ref b_125), .unset, .unset] [(.ref li)])) _
    refine st127.trans ?_
    show Steps p.tables e below (T127.setTop (mkF m 107 #[.val (.ref a1), .val (.int p2), .val (.ref li), .val (.ref b_125), .unset, .unset] [])) _
    exact X127.returnOut hx Bd.returns (hb hby d20_107) hr
  · show QJ0 Z a1 p2 ra ja bl bd kb fb wm w1 f li e1 w3 h0 n0 _ T127.heap _
    exact ⟨rfl, N127, Kp, F_requests_a1, F_joinedAs_a1, F_behind_a1, F_joined_a1, A_ja, F_elementData_li, F_size_li, F_modCount_li⟩
def QJ1 (Z : State) (a1 : Addr) (p2 : Int32) (ra : Addr) (ja : Addr) (bl : Addr) (bd : Addr) (kb : ClassId) (fb : Nat → Value) (wm : Int32) (w1 : Int64) (f : Nat → Int64) (fr : Nat → Int32) (li : Addr) (eb : Addr) (w3 : Int32) (ke : ClassId) (fe : Nat → Value) (wt : Addr) (fw : Nat → Int32) (pv : Int32) (lv : Addr) (e2 : Addr) (w4 : Int32) (h0 : Heap) (n0 : Nat) (v : Option Value) (h : Heap) (L : List Loc) : Prop := v = none ∧ Fr n0 L ∧ (Keep h0 h [a1, ja, li, eb, lv]) ∧ (Fld Z h a1 "com/example/wachter/wachter/sim/QueueOrder" "requests" "[I" (.ref ra)) ∧ (Fld Z h a1 "com/example/wachter/wachter/sim/QueueOrder" "joinedAs" "[J" (.ref ja)) ∧ (Fld Z h a1 "com/example/wachter/wachter/sim/QueueOrder" "behind" "Ljava/util/List;" (.ref bl)) ∧ (Fld Z h a1 "com/example/wachter/wachter/sim/QueueOrder" "joined" "J" (.long ((w1 + (1 : Int64)) + (1 : Int64)))) ∧ (ArJ Z h ja (4 : Int32) (upd (upd f p2.toNatClampNeg w1) pv.toNatClampNeg (w1 + (1 : Int64)))) ∧ (Fld Z h li "java/util/ArrayList" "elementData" "[Ljava/lang/Object;" (.ref eb)) ∧ (Fld Z h li "java/util/ArrayList" "size" "I" (.int (0 : Int32))) ∧ (Fld Z h li "java/util/AbstractList" "modCount" "I" (.int (w3 + (1 : Int32)))) ∧ (ArR Z h eb ke "java/lang/Object" (10 : Int32) (upd fe (0 : Int32).toNatClampNeg .null)) ∧ (Fld Z h lv "java/util/ArrayList" "elementData" "[Ljava/lang/Object;" (.ref e2)) ∧ (Fld Z h lv "java/util/ArrayList" "size" "I" (.int (0 : Int32))) ∧ (Fld Z h lv "java/util/AbstractList" "modCount" "I" (.int (w4 + (1 : Int32))))
theorem ef_J1 (m : MethodId) (a1 : Addr) (p2 : Int32) : entryFrame m #[(.ref a1), (.int p2)] 6 = mkF m 0 #[.val (.ref a1), .val (.int p2), .unset, .unset, .unset, .unset] [] := by first | (simp [entryFrame, mkF, argsToLocals, Value.category]; done) | rfl
set_option maxRecDepth 65536 in
set_option maxHeartbeats 40000000 in
theorem rmJ1 (l : Launch) (Z : State) (a0 : Array Value) (hw : ∀ d ∈ tables_1, d.before a0 Z = true) (ws : List Jvm.Cond) (a1 : Addr) (p2 : Int32) (ra : Addr) (ja : Addr) (bl : Addr) (bd : Addr) (kb : ClassId) (fb : Nat → Value) (wm : Int32) (w1 : Int64) (f : Nat → Int64) (fr : Nat → Int32) (li : Addr) (eb : Addr) (w3 : Int32) (ke : ClassId) (fe : Nat → Value) (wt : Addr) (fw : Nat → Int32) (pv : Int32) (lv : Addr) (e2 : Addr) (w4 : Int32) (h0 : Heap) (n0 : Nat) (Zs : n0 ≤ h0.size) (E_a1 : Exa Z h0 a1 "com/example/wachter/wachter/sim/QueueOrder") (F_requests_a1 : Fld Z h0 a1 "com/example/wachter/wachter/sim/QueueOrder" "requests" "[I" (.ref ra)) (F_joinedAs_a1 : Fld Z h0 a1 "com/example/wachter/wachter/sim/QueueOrder" "joinedAs" "[J" (.ref ja)) (F_behind_a1 : Fld Z h0 a1 "com/example/wachter/wachter/sim/QueueOrder" "behind" "Ljava/util/List;" (.ref bl)) (F_joined_a1 : Fld Z h0 a1 "com/example/wachter/wachter/sim/QueueOrder" "joined" "J" (.long w1)) (A_ja : ArJ Z h0 ja (4 : Int32) f) (A_ra : ArI Z h0 ra (4 : Int32) fr) (g_a1 : n0 ≤ a1) (g_ja : n0 ≤ ja) (g_li : n0 ≤ li) (g_eb : n0 ≤ eb) (g_lv : n0 ≤ lv) (E_bl : Exa Z h0 bl "java/util/ArrayList") (F_elementData_bl : Fld Z h0 bl "java/util/ArrayList" "elementData" "[Ljava/lang/Object;" (.ref bd)) (F_size_bl : Fld Z h0 bl "java/util/ArrayList" "size" "I" (.int (4 : Int32))) (F_modCount_bl : Fld Z h0 bl "java/util/AbstractList" "modCount" "I" (.int wm)) (A_bd : ArR Z h0 bd kb "java/lang/Object" (4 : Int32) fb) (E_li : Exa Z h0 li "java/util/ArrayList") (F_elementData_li : Fld Z h0 li "java/util/ArrayList" "elementData" "[Ljava/lang/Object;" (.ref eb)) (F_size_li : Fld Z h0 li "java/util/ArrayList" "size" "I" (.int (1 : Int32))) (F_modCount_li : Fld Z h0 li "java/util/AbstractList" "modCount" "I" (.int w3)) (A_eb : ArR Z h0 eb ke "java/lang/Object" (10 : Int32) fe) (E_wt : Exa Z h0 wt "[I") (A_wt : ArI Z h0 wt (2 : Int32) fw) (E_lv : Exa Z h0 lv "java/util/ArrayList") (F_elementData_lv : Fld Z h0 lv "java/util/ArrayList" "elementData" "[Ljava/lang/Object;" (.ref e2)) (F_size_lv : Fld Z h0 lv "java/util/ArrayList" "size" "I" (.int (0 : Int32))) (F_modCount_lv : Fld Z h0 lv "java/util/AbstractList" "modCount" "I" (.int w4)) (ne_a1_ja : a1 ≠ ja) (ne_a1_ra : a1 ≠ ra) (ne_a1_bl : a1 ≠ bl) (ne_a1_bd : a1 ≠ bd) (ne_a1_li : a1 ≠ li) (ne_a1_eb : a1 ≠ eb) (ne_a1_wt : a1 ≠ wt) (ne_a1_lv : a1 ≠ lv) (ne_ja_ra : ja ≠ ra) (ne_ja_bl : ja ≠ bl) (ne_ja_bd : ja ≠ bd) (ne_ja_li : ja ≠ li) (ne_ja_eb : ja ≠ eb) (ne_ja_wt : ja ≠ wt) (ne_ja_lv : ja ≠ lv) (ne_ra_bl : ra ≠ bl) (ne_ra_bd : ra ≠ bd) (ne_ra_li : ra ≠ li) (ne_ra_eb : ra ≠ eb) (ne_ra_wt : ra ≠ wt) (ne_ra_lv : ra ≠ lv) (ne_bl_bd : bl ≠ bd) (ne_bl_li : bl ≠ li) (ne_bl_eb : bl ≠ eb) (ne_bl_wt : bl ≠ wt) (ne_bl_lv : bl ≠ lv) (ne_bd_li : bd ≠ li) (ne_bd_eb : bd ≠ eb) (ne_bd_wt : bd ≠ wt) (ne_bd_lv : bd ≠ lv) (ne_li_eb : li ≠ eb) (ne_li_wt : li ≠ wt) (ne_li_lv : li ≠ lv) (ne_eb_wt : eb ≠ wt) (ne_eb_lv : eb ≠ lv) (ne_wt_lv : wt ≠ lv) (hi : ¬ p2 < (0 : Int32) ∧ p2 < (4 : Int32)) (hB : fb p2.toNatClampNeg = .ref li) (he : fe (0 : Int32).toNatClampNeg = .ref wt) (hw0 : fw (0 : Int32).toNatClampNeg = pv) (hpv : ¬ pv < (0 : Int32) ∧ pv < (4 : Int32)) (hreq : (fw (1 : Int32).toNatClampNeg) = (fr pv.toNatClampNeg)) (hj : ((upd f p2.toNatClampNeg w1) pv.toNatClampNeg) = (-1 : Int64)) (hbv : fb pv.toNatClampNeg = .ref lv) :
    MetFree l (⟨"com/example/wachter/wachter/sim/QueueOrder", "join", "(I)V"⟩ : MethodName) (head1 (Jvm.Cond.code (⟨"com/example/wachter/wachter/sim/QueueOrder", "join", "(I)V"⟩ : MethodName) prog_41_method_5_code 6 none :: ws) ({ frames := 4, cells := 2, slots := 8, locals := 57 } : Room)) (fun a U => a = #[(.ref a1), (.int p2)] ∧ Z.Warmed39 U.vm ∧ U.heap = h0) (fun _ _ _ _ _ => True) (fun _ U o U' => ∃ v L, o = .returned v ∧ QJ1 Z a1 p2 ra ja bl bd kb fb wm w1 f fr li eb w3 ke fe wt fw pv lv e2 w4 h0 n0 v U'.heap L ∧ FrameEnd U o U' L ({ frames := 4, cells := 2, slots := 8, locals := 57 } : Room).cells ({ frames := 4, cells := 2, slots := 8, locals := 57 } : Room).slots) := by
  refine MetFree.of_bodySF (plainFor_of_name pn_7) hisR ?_
  intro p e s m args below meth c s₁ Bd hml0 hP hK
  obtain ⟨rfl, hZ, hh⟩ := hP
  have hx := Bd.exec
  have hby := Bd.bytes
  have hml : c.maxLocals = 6 := hml0
  have hown : s.vm.findClass "com/example/wachter/wachter/sim/QueueOrder" = some m.cls := findClass_of_methodNamed Bd.named
  have hnm := (name_of_methodNamed Bd.named Bd.method).1
  have X0 : Stand p l e ({ frames := 4, cells := 2, slots := 8, locals := 57 } : Room) s m #[(.ref a1), (.int p2)] below meth c s₁ [] 0 0 := Stand.of_body Bd
  have e0 : s₁.heap = h0 := by rw [← hh, Bd.state]; rfl
  have N0 := Fr.nil n0
  have pre0 : ∀ t, Steps p.tables e below (s₁.setTop (mkF m 0 #[.val (.ref a1), .val (.int p2), .unset, .unset, .unset, .unset] [])) t → Steps p.tables e below (s₁.setTop (entryFrame m #[(.ref a1), (.int p2)] 6)) t := fun t k => castTop (ef_J1 m a1 p2) k
  have Kp : Keep h0 h0 [a1, ja, li, eb, lv] := Keep.refl h0 [a1, ja, li, eb, lv]
  obtain ⟨T128, X128, e128, st128⟩ := getF X0 hx hZ hown (host := "") (Or.inl (hw _ (List.mem_of_getElem? (i := 14) rfl))) Via.refl e0 F_joinedAs_a1 (g := (mkF m 1 #[.val (.ref a1), .val (.int p2), .unset, .unset, .unset, .unset] [(.ref a1)])) rfl rfl (hb hby d20_1)
  obtain ⟨T129, X129, e129, st129⟩ := getF X128 hx hZ hown (host := "") (Or.inl (hw _ (List.mem_of_getElem? (i := 71) rfl))) Via.refl e128 F_joined_a1 (g := (mkF m 7 #[.val (.ref a1), .val (.int p2), .unset, .unset, .unset, .unset] [(.ref a1), (.ref a1), (.int p2), (.ref ja)])) rfl rfl (hb hby d20_7)
  obtain ⟨T130, h130, X130, e130, W130, st130⟩ := putF X129 hx hZ hown (host := "") (Or.inl (hw _ (List.mem_of_getElem? (i := 71) rfl))) Via.refl e129 F_joined_a1 E_a1 (Or.inl (hw _ (List.mem_of_getElem? (i := 72) rfl))) (hw _ (List.mem_of_getElem? (i := 2) rfl)) (ty := .long) (by decide) rfl rfl (g := (mkF m 13 #[.val (.ref a1), .val (.int p2), .unset, .unset, .unset, .unset] [(.long (w1 + (1 : Int64))), (.ref a1), (.long w1), (.int p2), (.ref ja)])) rfl rfl (hb hby d20_13)
  have N130 := Fr.snoc X130 N0 g_a1
  have Zs : n0 ≤ h130.size := Nat.le_trans Zs (Keep.of_wr W130).1
  have E_a1 : Exa Z h130 a1 "com/example/wachter/wachter/sim/QueueOrder" := E_a1.wr W130
  have F_requests_a1 : Fld Z h130 a1 "com/example/wachter/wachter/sim/QueueOrder" "requests" "[I" (.ref ra) := F_requests_a1.other W130 (Or.inr (slot_ne (Or.inr (hw _ (List.mem_of_getElem? (i := 12) rfl))) (Or.inl (hw _ (List.mem_of_getElem? (i := 72) rfl))) (by decide) (t := (.array .int)) (t' := .long) (by decide) (by decide)))
  have F_joinedAs_a1 : Fld Z h130 a1 "com/example/wachter/wachter/sim/QueueOrder" "joinedAs" "[J" (.ref ja) := F_joinedAs_a1.other W130 (Or.inr (slot_ne (Or.inr (hw _ (List.mem_of_getElem? (i := 15) rfl))) (Or.inl (hw _ (List.mem_of_getElem? (i := 72) rfl))) (by decide) (t := (.array .long)) (t' := .long) (by decide) (by decide)))
  have F_behind_a1 : Fld Z h130 a1 "com/example/wachter/wachter/sim/QueueOrder" "behind" "Ljava/util/List;" (.ref bl) := F_behind_a1.other W130 (Or.inr (slot_ne (Or.inr (hw _ (List.mem_of_getElem? (i := 42) rfl))) (Or.inl (hw _ (List.mem_of_getElem? (i := 72) rfl))) (by decide) (t := (.object "java/util/List")) (t' := .long) (by decide) (by decide)))
  have F_joined_a1 : Fld Z h130 a1 "com/example/wachter/wachter/sim/QueueOrder" "joined" "J" (.long (w1 + (1 : Int64))) := F_joined_a1.same W130
  have A_ja : ArJ Z h130 ja (4 : Int32) f := A_ja.other W130 (Ne.symm ne_a1_ja)
  have A_ra : ArI Z h130 ra (4 : Int32) fr := A_ra.other W130 (Ne.symm ne_a1_ra)
  have E_bl : Exa Z h130 bl "java/util/ArrayList" := E_bl.wr W130
  have F_elementData_bl : Fld Z h130 bl "java/util/ArrayList" "elementData" "[Ljava/lang/Object;" (.ref bd) := F_elementData_bl.other W130 (Or.inl (Ne.symm ne_a1_bl))
  have F_size_bl : Fld Z h130 bl "java/util/ArrayList" "size" "I" (.int (4 : Int32)) := F_size_bl.other W130 (Or.inl (Ne.symm ne_a1_bl))
  have F_modCount_bl : Fld Z h130 bl "java/util/AbstractList" "modCount" "I" (.int wm) := F_modCount_bl.other W130 (Or.inl (Ne.symm ne_a1_bl))
  have A_bd : ArR Z h130 bd kb "java/lang/Object" (4 : Int32) fb := A_bd.other W130 (Ne.symm ne_a1_bd)
  have E_li : Exa Z h130 li "java/util/ArrayList" := E_li.wr W130
  have F_elementData_li : Fld Z h130 li "java/util/ArrayList" "elementData" "[Ljava/lang/Object;" (.ref eb) := F_elementData_li.other W130 (Or.inl (Ne.symm ne_a1_li))
  have F_size_li : Fld Z h130 li "java/util/ArrayList" "size" "I" (.int (1 : Int32)) := F_size_li.other W130 (Or.inl (Ne.symm ne_a1_li))
  have F_modCount_li : Fld Z h130 li "java/util/AbstractList" "modCount" "I" (.int w3) := F_modCount_li.other W130 (Or.inl (Ne.symm ne_a1_li))
  have A_eb : ArR Z h130 eb ke "java/lang/Object" (10 : Int32) fe := A_eb.other W130 (Ne.symm ne_a1_eb)
  have E_wt : Exa Z h130 wt "[I" := E_wt.wr W130
  have A_wt : ArI Z h130 wt (2 : Int32) fw := A_wt.other W130 (Ne.symm ne_a1_wt)
  have E_lv : Exa Z h130 lv "java/util/ArrayList" := E_lv.wr W130
  have F_elementData_lv : Fld Z h130 lv "java/util/ArrayList" "elementData" "[Ljava/lang/Object;" (.ref e2) := F_elementData_lv.other W130 (Or.inl (Ne.symm ne_a1_lv))
  have F_size_lv : Fld Z h130 lv "java/util/ArrayList" "size" "I" (.int (0 : Int32)) := F_size_lv.other W130 (Or.inl (Ne.symm ne_a1_lv))
  have F_modCount_lv : Fld Z h130 lv "java/util/AbstractList" "modCount" "I" (.int w4) := F_modCount_lv.other W130 (Or.inl (Ne.symm ne_a1_lv))
  have Kp : Keep h0 h130 [a1, ja, li, eb, lv] := Kp.wr W130 (Or.inl (List.mem_of_getElem? (i := 0) rfl))
  obtain ⟨cl131, Ar131, hs131, hin131, hat131⟩ := ArJ.open (j := p2) A_ja hi
  obtain ⟨T132, h132, X132, e132, W132, st132⟩ := stJ X130 hx hZ e130 Ar131 (j := p2) hin131 (g := (mkF m 16 #[.val (.ref a1), .val (.int p2), .unset, .unset, .unset, .unset] [(.long w1), (.int p2), (.ref ja)])) rfl rfl (hb hby d20_16)
  have N132 := Fr.snoc X132 N130 g_ja
  have Zs : n0 ≤ h132.size := Nat.le_trans Zs (Keep.of_wr W132).1
  have E_a1 : Exa Z h132 a1 "com/example/wachter/wachter/sim/QueueOrder" := E_a1.wr W132
  have F_requests_a1 : Fld Z h132 a1 "com/example/wachter/wachter/sim/QueueOrder" "requests" "[I" (.ref ra) := F_requests_a1.other W132 (Or.inl ne_a1_ja)
  have F_joinedAs_a1 : Fld Z h132 a1 "com/example/wachter/wachter/sim/QueueOrder" "joinedAs" "[J" (.ref ja) := F_joinedAs_a1.other W132 (Or.inl ne_a1_ja)
  have F_behind_a1 : Fld Z h132 a1 "com/example/wachter/wachter/sim/QueueOrder" "behind" "Ljava/util/List;" (.ref bl) := F_behind_a1.other W132 (Or.inl ne_a1_ja)
  have F_joined_a1 : Fld Z h132 a1 "com/example/wachter/wachter/sim/QueueOrder" "joined" "J" (.long (w1 + (1 : Int64))) := F_joined_a1.other W132 (Or.inl ne_a1_ja)
  have A_ra : ArI Z h132 ra (4 : Int32) fr := A_ra.other W132 (Ne.symm ne_ja_ra)
  have E_bl : Exa Z h132 bl "java/util/ArrayList" := E_bl.wr W132
  have F_elementData_bl : Fld Z h132 bl "java/util/ArrayList" "elementData" "[Ljava/lang/Object;" (.ref bd) := F_elementData_bl.other W132 (Or.inl (Ne.symm ne_ja_bl))
  have F_size_bl : Fld Z h132 bl "java/util/ArrayList" "size" "I" (.int (4 : Int32)) := F_size_bl.other W132 (Or.inl (Ne.symm ne_ja_bl))
  have F_modCount_bl : Fld Z h132 bl "java/util/AbstractList" "modCount" "I" (.int wm) := F_modCount_bl.other W132 (Or.inl (Ne.symm ne_ja_bl))
  have A_bd : ArR Z h132 bd kb "java/lang/Object" (4 : Int32) fb := A_bd.other W132 (Ne.symm ne_ja_bd)
  have E_li : Exa Z h132 li "java/util/ArrayList" := E_li.wr W132
  have F_elementData_li : Fld Z h132 li "java/util/ArrayList" "elementData" "[Ljava/lang/Object;" (.ref eb) := F_elementData_li.other W132 (Or.inl (Ne.symm ne_ja_li))
  have F_size_li : Fld Z h132 li "java/util/ArrayList" "size" "I" (.int (1 : Int32)) := F_size_li.other W132 (Or.inl (Ne.symm ne_ja_li))
  have F_modCount_li : Fld Z h132 li "java/util/AbstractList" "modCount" "I" (.int w3) := F_modCount_li.other W132 (Or.inl (Ne.symm ne_ja_li))
  have A_eb : ArR Z h132 eb ke "java/lang/Object" (10 : Int32) fe := A_eb.other W132 (Ne.symm ne_ja_eb)
  have E_wt : Exa Z h132 wt "[I" := E_wt.wr W132
  have A_wt : ArI Z h132 wt (2 : Int32) fw := A_wt.other W132 (Ne.symm ne_ja_wt)
  have E_lv : Exa Z h132 lv "java/util/ArrayList" := E_lv.wr W132
  have F_elementData_lv : Fld Z h132 lv "java/util/ArrayList" "elementData" "[Ljava/lang/Object;" (.ref e2) := F_elementData_lv.other W132 (Or.inl (Ne.symm ne_ja_lv))
  have F_size_lv : Fld Z h132 lv "java/util/ArrayList" "size" "I" (.int (0 : Int32)) := F_size_lv.other W132 (Or.inl (Ne.symm ne_ja_lv))
  have F_modCount_lv : Fld Z h132 lv "java/util/AbstractList" "modCount" "I" (.int w4) := F_modCount_lv.other W132 (Or.inl (Ne.symm ne_ja_lv))
  have Kp : Keep h0 h132 [a1, ja, li, eb, lv] := Kp.wr W132 (Or.inl (List.mem_of_getElem? (i := 1) rfl))
  have A_ja : ArJ Z h132 ja (4 : Int32) (upd f p2.toNatClampNeg w1) := ArJ.set A_ja W132
  obtain ⟨T133, X133, e133, st133⟩ := getF X132 hx hZ hown (host := "") (Or.inl (hw _ (List.mem_of_getElem? (i := 41) rfl))) Via.refl e132 F_behind_a1 (g := (mkF m 18 #[.val (.ref a1), .val (.int p2), .unset, .unset, .unset, .unset] [(.ref a1)])) rfl rfl (hb hby d20_18)
  obtain ⟨cq134, kq134, q134a, q134b, q134c⟩ := isOf hZ e133 E_bl
  obtain ⟨_, _, ⟨T134, L134, k134, n134⟩, -, X134, ⟨Lc134, hQ134, l134, y134, z134⟩, st134⟩ := X133.interfaceBack hx (xi := (⟨"java/util/List", "get", "(I)Ljava/lang/Object;"⟩ : MethodName)) (y := (⟨"java/util/ArrayList", "get", "(I)Ljava/lang/Object;"⟩ : MethodName)) hown (mvT hZ (hw _ (List.mem_of_getElem? (i := 83) rfl))) (mvT hZ (hw _ (List.mem_of_getElem? (i := 84) rfl))) (mvT hZ (hw _ (List.mem_of_getElem? (i := 85) rfl))) (mvT hZ (hw _ (List.mem_of_getElem? (i := 86) rfl))) (mvT hZ (hw _ (List.mem_of_getElem? (i := 87) rfl))) (mvT hZ (hw _ (List.mem_of_getElem? (i := 88) rfl))) (mvT hZ (hw _ (List.mem_of_getElem? (i := 89) rfl))) (mvT hZ (hw _ (List.mem_of_getElem? (i := 59) rfl))) (by decide) (backOf (W := 0) (rmGET l Z a0 hw [] bl p2 bd kb (4 : Int32) fb li (4 : Int32) h132 n0 Zs E_bl F_elementData_bl F_size_bl A_bd hi hi.2 hB) hZ (hw _ (List.mem_of_getElem? (i := 90) rfl)) (hw _ (List.mem_of_getElem? (i := 18) rfl)) (by decide) (by decide)) q134a q134b q134c (g := (mkF m 22 #[.val (.ref a1), .val (.int p2), .unset, .unset, .unset, .unset] [(.int p2), (.ref bl)])) rfl (by rw [hml]; rfl) (Steps.refl _) (argsL := [(.int p2)]) (rest := []) (lenOf pd_6 rfl) rfl (by show 2 * 0 + _ ≤ _; exact Nat.le_of_eq rfl) (hb hby d20_22) (fun _ _ => ⟨rfl, e133, (by decide : 0 + 0 ≤ _), (by decide : 0 + 0 ≤ _)⟩)
  dsimp only [Pt.U, Pt.locs, Pt.cells, Pt.slots] at X134 l134 y134 z134 st134 hQ134
  subst l134 y134 z134
  obtain ⟨rfl, N134q, e134⟩ := hQ134
  have N134 := Fr.app N132 N134q
  obtain ⟨T135, X135, e135, st135⟩ := castY X134 hx hZ hown (hw _ (List.mem_of_getElem? (i := 104) rfl)) e134 (Ins.of_exa E_li (hw _ (List.mem_of_getElem? (i := 59) rfl))) (g := (mkF m 27 #[.val (.ref a1), .val (.int p2), .unset, .unset, .unset, .unset] [(.ref li)])) rfl rfl (hb hby d20_27)
  obtain ⟨cq136, kq136, q136a, q136b, q136c⟩ := isOf hZ e135 E_li
  obtain ⟨_, _, ⟨T136, L136, k136, n136⟩, -, X136, ⟨Lc136, hQ136, l136, y136, z136⟩, st136⟩ := X135.interfaceBack hx (xi := (⟨"java/util/List", "iterator", "()Ljava/util/Iterator;"⟩ : MethodName)) (y := (⟨"java/util/ArrayList", "iterator", "()Ljava/util/Iterator;"⟩ : MethodName)) hown (mvT hZ (hw _ (List.mem_of_getElem? (i := 129) rfl))) (mvT hZ (hw _ (List.mem_of_getElem? (i := 130) rfl))) (mvT hZ (hw _ (List.mem_of_getElem? (i := 131) rfl))) (mvT hZ (hw _ (List.mem_of_getElem? (i := 132) rfl))) (mvT hZ (hw _ (List.mem_of_getElem? (i := 133) rfl))) (mvT hZ (hw _ (List.mem_of_getElem? (i := 134) rfl))) (mvT hZ (hw _ (List.mem_of_getElem? (i := 135) rfl))) (mvT hZ (hw _ (List.mem_of_getElem? (i := 59) rfl))) (by decide) (backOf (W := 0) (rmIT l Z a0 hw [] li w3 h132 n0 Zs F_modCount_li) hZ (hw _ (List.mem_of_getElem? (i := 136) rfl)) (hw _ (List.mem_of_getElem? (i := 18) rfl)) (by decide) (by decide)) q136a q136b q136c (g := (mkF m 32 #[.val (.ref a1), .val (.int p2), .val (.ref li), .unset, .unset, .unset] [(.ref li)])) rfl (by rw [hml]; rfl) (Steps.refl _) (argsL := []) (rest := []) (lenOf pd_9 rfl) rfl (by show 2 * 0 + _ ≤ _; exact Nat.le_of_eq rfl) (hb hby d20_32) (fun _ _ => ⟨rfl, e135, (by decide : 0 + 1 ≤ _), (by decide : 0 + 4 ≤ _)⟩)
  dsimp only [Pt.U, Pt.locs, Pt.cells, Pt.slots] at X136 l136 y136 z136 st136 hQ136
  subst l136 y136 z136
  obtain ⟨b_136, rfl, N136q, K136, szc_b_136, g_b_136, P136_3, P136_4, P136_5, P136_6, P136_7⟩ := hQ136
  have sz_b_136 : h0.size ≤ b_136 := Nat.le_trans Kp.1 szc_b_136
  have ne_a1_b_136 : a1 ≠ b_136 := Nat.ne_of_lt (Nat.lt_of_lt_of_le E_a1.lt szc_b_136)
  have ne_ja_b_136 : ja ≠ b_136 := Nat.ne_of_lt (Nat.lt_of_lt_of_le A_ja.lt szc_b_136)
  have ne_ra_b_136 : ra ≠ b_136 := Nat.ne_of_lt (Nat.lt_of_lt_of_le A_ra.lt szc_b_136)
  have ne_bl_b_136 : bl ≠ b_136 := Nat.ne_of_lt (Nat.lt_of_lt_of_le E_bl.lt szc_b_136)
  have ne_bd_b_136 : bd ≠ b_136 := Nat.ne_of_lt (Nat.lt_of_lt_of_le A_bd.lt szc_b_136)
  have ne_li_b_136 : li ≠ b_136 := Nat.ne_of_lt (Nat.lt_of_lt_of_le E_li.lt szc_b_136)
  have ne_eb_b_136 : eb ≠ b_136 := Nat.ne_of_lt (Nat.lt_of_lt_of_le A_eb.lt szc_b_136)
  have ne_wt_b_136 : wt ≠ b_136 := Nat.ne_of_lt (Nat.lt_of_lt_of_le E_wt.lt szc_b_136)
  have ne_lv_b_136 : lv ≠ b_136 := Nat.ne_of_lt (Nat.lt_of_lt_of_le E_lv.lt szc_b_136)
  have Zs : n0 ≤ T136.heap.size := Nat.le_trans Zs K136.1
  have E_a1 : Exa Z T136.heap a1 "com/example/wachter/wachter/sim/QueueOrder" := E_a1.keep K136
  have F_requests_a1 : Fld Z T136.heap a1 "com/example/wachter/wachter/sim/QueueOrder" "requests" "[I" (.ref ra) := F_requests_a1.keep K136 nin0
  have F_joinedAs_a1 : Fld Z T136.heap a1 "com/example/wachter/wachter/sim/QueueOrder" "joinedAs" "[J" (.ref ja) := F_joinedAs_a1.keep K136 nin0
  have F_behind_a1 : Fld Z T136.heap a1 "com/example/wachter/wachter/sim/QueueOrder" "behind" "Ljava/util/List;" (.ref bl) := F_behind_a1.keep K136 nin0
  have F_joined_a1 : Fld Z T136.heap a1 "com/example/wachter/wachter/sim/QueueOrder" "joined" "J" (.long (w1 + (1 : Int64))) := F_joined_a1.keep K136 nin0
  have A_ja : ArJ Z T136.heap ja (4 : Int32) (upd f p2.toNatClampNeg w1) := A_ja.keep K136 nin0
  have A_ra : ArI Z T136.heap ra (4 : Int32) fr := A_ra.keep K136 nin0
  have E_bl : Exa Z T136.heap bl "java/util/ArrayList" := E_bl.keep K136
  have F_elementData_bl : Fld Z T136.heap bl "java/util/ArrayList" "elementData" "[Ljava/lang/Object;" (.ref bd) := F_elementData_bl.keep K136 nin0
  have F_size_bl : Fld Z T136.heap bl "java/util/ArrayList" "size" "I" (.int (4 : Int32)) := F_size_bl.keep K136 nin0
  have F_modCount_bl : Fld Z T136.heap bl "java/util/AbstractList" "modCount" "I" (.int wm) := F_modCount_bl.keep K136 nin0
  have A_bd : ArR Z T136.heap bd kb "java/lang/Object" (4 : Int32) fb := A_bd.keep K136 nin0
  have E_li : Exa Z T136.heap li "java/util/ArrayList" := E_li.keep K136
  have F_elementData_li : Fld Z T136.heap li "java/util/ArrayList" "elementData" "[Ljava/lang/Object;" (.ref eb) := F_elementData_li.keep K136 nin0
  have F_size_li : Fld Z T136.heap li "java/util/ArrayList" "size" "I" (.int (1 : Int32)) := F_size_li.keep K136 nin0
  have F_modCount_li : Fld Z T136.heap li "java/util/AbstractList" "modCount" "I" (.int w3) := F_modCount_li.keep K136 nin0
  have A_eb : ArR Z T136.heap eb ke "java/lang/Object" (10 : Int32) fe := A_eb.keep K136 nin0
  have E_wt : Exa Z T136.heap wt "[I" := E_wt.keep K136
  have A_wt : ArI Z T136.heap wt (2 : Int32) fw := A_wt.keep K136 nin0
  have E_lv : Exa Z T136.heap lv "java/util/ArrayList" := E_lv.keep K136
  have F_elementData_lv : Fld Z T136.heap lv "java/util/ArrayList" "elementData" "[Ljava/lang/Object;" (.ref e2) := F_elementData_lv.keep K136 nin0
  have F_size_lv : Fld Z T136.heap lv "java/util/ArrayList" "size" "I" (.int (0 : Int32)) := F_size_lv.keep K136 nin0
  have F_modCount_lv : Fld Z T136.heap lv "java/util/AbstractList" "modCount" "I" (.int w4) := F_modCount_lv.keep K136 nin0
  have Kp : Keep h0 T136.heap [a1, ja, li, eb, lv] := Kp.trans K136 all0
  have E_b_136 : Exa Z T136.heap b_136 "java/util/ArrayList$Itr" := P136_3
  have F_this_0_b_136 : Fld Z T136.heap b_136 "java/util/ArrayList$Itr" "this$0" "Ljava/util/ArrayList;" (.ref li) := P136_4
  have F_cursor_b_136 : Fld Z T136.heap b_136 "java/util/ArrayList$Itr" "cursor" "I" (.int (0 : Int32)) := P136_5
  have F_lastRet_b_136 : Fld Z T136.heap b_136 "java/util/ArrayList$Itr" "lastRet" "I" (.int (-1 : Int32)) := P136_6
  have F_expectedModCount_b_136 : Fld Z T136.heap b_136 "java/util/ArrayList$Itr" "expectedModCount" "I" (.int w3) := P136_7
  have N136 := Fr.app N134 N136q
  obtain ⟨cq137, kq137, q137a, q137b, q137c⟩ := isOf hZ rfl E_b_136
  obtain ⟨_, _, ⟨T137, L137, k137, n137⟩, -, X137, ⟨Lc137, hQ137, l137, y137, z137⟩, st137⟩ := X136.interfaceBack hx (xi := (⟨"java/util/Iterator", "hasNext", "()Z"⟩ : MethodName)) (y := (⟨"java/util/ArrayList$Itr", "hasNext", "()Z"⟩ : MethodName)) hown (mvT hZ (hw _ (List.mem_of_getElem? (i := 152) rfl))) (mvT hZ (hw _ (List.mem_of_getElem? (i := 153) rfl))) (mvT hZ (hw _ (List.mem_of_getElem? (i := 154) rfl))) (mvT hZ (hw _ (List.mem_of_getElem? (i := 155) rfl))) (mvT hZ (hw _ (List.mem_of_getElem? (i := 156) rfl))) (mvT hZ (hw _ (List.mem_of_getElem? (i := 157) rfl))) (mvT hZ (hw _ (List.mem_of_getElem? (i := 158) rfl))) (mvT hZ (hw _ (List.mem_of_getElem? (i := 159) rfl))) (by decide) (backOf (W := 0) (rmH01 l Z a0 hw [] b_136 li T136.heap n0 Zs F_this_0_b_136 F_cursor_b_136 F_size_li) hZ (hw _ (List.mem_of_getElem? (i := 160) rfl)) (hw _ (List.mem_of_getElem? (i := 139) rfl)) (by decide) (by decide)) q137a q137b q137c (g := (mkF m 39 #[.val (.ref a1), .val (.int p2), .val (.ref li), .val (.ref b_136), .unset, .unset] [(.ref b_136)])) rfl (by rw [hml]; rfl) (Steps.refl _) (argsL := []) (rest := []) (lenOf pd_10 rfl) rfl (by show 2 * 0 + _ ≤ _; exact Nat.le_of_eq rfl) (hb hby d20_39) (fun _ _ => ⟨rfl, rfl, (by decide : 1 + 0 ≤ _), (by decide : 4 + 0 ≤ _)⟩)
  dsimp only [Pt.U, Pt.locs, Pt.cells, Pt.slots] at X137 l137 y137 z137 st137 hQ137
  subst l137 y137 z137
  obtain ⟨rfl, N137q, e137⟩ := hQ137
  have N137 := Fr.app N136 N137q
  obtain ⟨cq138, kq138, q138a, q138b, q138c⟩ := isOf hZ e137 E_b_136
  obtain ⟨_, _, ⟨T138, L138, k138, n138⟩, -, X138, ⟨Lc138, hQ138, l138, y138, z138⟩, st138⟩ := X137.interfaceBack hx (xi := (⟨"java/util/Iterator", "next", "()Ljava/lang/Object;"⟩ : MethodName)) (y := (⟨"java/util/ArrayList$Itr", "next", "()Ljava/lang/Object;"⟩ : MethodName)) hown (mvT hZ (hw _ (List.mem_of_getElem? (i := 164) rfl))) (mvT hZ (hw _ (List.mem_of_getElem? (i := 165) rfl))) (mvT hZ (hw _ (List.mem_of_getElem? (i := 166) rfl))) (mvT hZ (hw _ (List.mem_of_getElem? (i := 167) rfl))) (mvT hZ (hw _ (List.mem_of_getElem? (i := 168) rfl))) (mvT hZ (hw _ (List.mem_of_getElem? (i := 169) rfl))) (mvT hZ (hw _ (List.mem_of_getElem? (i := 170) rfl))) (mvT hZ (hw _ (List.mem_of_getElem? (i := 159) rfl))) (by decide) (backOf (W := 0) (rmNX l Z a0 hw [] b_136 li (-1 : Int32) w3 eb ke fe wt T136.heap n0 Zs E_b_136 F_this_0_b_136 F_cursor_b_136 F_lastRet_b_136 F_expectedModCount_b_136 g_b_136 F_elementData_li F_size_li F_modCount_li A_eb (Ne.symm ne_li_b_136) (Ne.symm ne_eb_b_136) ne_li_eb he) hZ (hw _ (List.mem_of_getElem? (i := 171) rfl)) (hw _ (List.mem_of_getElem? (i := 139) rfl)) (by decide) (by decide)) q138a q138b q138c (g := (mkF m 48 #[.val (.ref a1), .val (.int p2), .val (.ref li), .val (.ref b_136), .unset, .unset] [(.ref b_136)])) rfl (by rw [hml]; rfl) (Steps.refl _) (argsL := []) (rest := []) (lenOf pd_11 rfl) rfl (by show 2 * 0 + _ ≤ _; exact Nat.le_of_eq rfl) (hb hby d20_48) (fun _ _ => ⟨rfl, e137, (by decide : 1 + 0 ≤ _), (by decide : 4 + 0 ≤ _)⟩)
  dsimp only [Pt.U, Pt.locs, Pt.cells, Pt.slots] at X138 l138 y138 z138 st138 hQ138
  subst l138 y138 z138
  obtain ⟨rfl, N138q, K138, P138_1, P138_2, P138_3, P138_4⟩ := hQ138
  have Zs : n0 ≤ T138.heap.size := Nat.le_trans Zs K138.1
  have E_a1 : Exa Z T138.heap a1 "com/example/wachter/wachter/sim/QueueOrder" := E_a1.keep K138
  have F_requests_a1 : Fld Z T138.heap a1 "com/example/wachter/wachter/sim/QueueOrder" "requests" "[I" (.ref ra) := F_requests_a1.keep K138 (ninS ne_a1_b_136 nin0)
  have F_joinedAs_a1 : Fld Z T138.heap a1 "com/example/wachter/wachter/sim/QueueOrder" "joinedAs" "[J" (.ref ja) := F_joinedAs_a1.keep K138 (ninS ne_a1_b_136 nin0)
  have F_behind_a1 : Fld Z T138.heap a1 "com/example/wachter/wachter/sim/QueueOrder" "behind" "Ljava/util/List;" (.ref bl) := F_behind_a1.keep K138 (ninS ne_a1_b_136 nin0)
  have F_joined_a1 : Fld Z T138.heap a1 "com/example/wachter/wachter/sim/QueueOrder" "joined" "J" (.long (w1 + (1 : Int64))) := F_joined_a1.keep K138 (ninS ne_a1_b_136 nin0)
  have A_ja : ArJ Z T138.heap ja (4 : Int32) (upd f p2.toNatClampNeg w1) := A_ja.keep K138 (ninS ne_ja_b_136 nin0)
  have A_ra : ArI Z T138.heap ra (4 : Int32) fr := A_ra.keep K138 (ninS ne_ra_b_136 nin0)
  have E_bl : Exa Z T138.heap bl "java/util/ArrayList" := E_bl.keep K138
  have F_elementData_bl : Fld Z T138.heap bl "java/util/ArrayList" "elementData" "[Ljava/lang/Object;" (.ref bd) := F_elementData_bl.keep K138 (ninS ne_bl_b_136 nin0)
  have F_size_bl : Fld Z T138.heap bl "java/util/ArrayList" "size" "I" (.int (4 : Int32)) := F_size_bl.keep K138 (ninS ne_bl_b_136 nin0)
  have F_modCount_bl : Fld Z T138.heap bl "java/util/AbstractList" "modCount" "I" (.int wm) := F_modCount_bl.keep K138 (ninS ne_bl_b_136 nin0)
  have A_bd : ArR Z T138.heap bd kb "java/lang/Object" (4 : Int32) fb := A_bd.keep K138 (ninS ne_bd_b_136 nin0)
  have E_li : Exa Z T138.heap li "java/util/ArrayList" := E_li.keep K138
  have F_elementData_li : Fld Z T138.heap li "java/util/ArrayList" "elementData" "[Ljava/lang/Object;" (.ref eb) := F_elementData_li.keep K138 (ninS ne_li_b_136 nin0)
  have F_size_li : Fld Z T138.heap li "java/util/ArrayList" "size" "I" (.int (1 : Int32)) := F_size_li.keep K138 (ninS ne_li_b_136 nin0)
  have F_modCount_li : Fld Z T138.heap li "java/util/AbstractList" "modCount" "I" (.int w3) := F_modCount_li.keep K138 (ninS ne_li_b_136 nin0)
  have A_eb : ArR Z T138.heap eb ke "java/lang/Object" (10 : Int32) fe := A_eb.keep K138 (ninS ne_eb_b_136 nin0)
  have E_wt : Exa Z T138.heap wt "[I" := E_wt.keep K138
  have A_wt : ArI Z T138.heap wt (2 : Int32) fw := A_wt.keep K138 (ninS ne_wt_b_136 nin0)
  have E_lv : Exa Z T138.heap lv "java/util/ArrayList" := E_lv.keep K138
  have F_elementData_lv : Fld Z T138.heap lv "java/util/ArrayList" "elementData" "[Ljava/lang/Object;" (.ref e2) := F_elementData_lv.keep K138 (ninS ne_lv_b_136 nin0)
  have F_size_lv : Fld Z T138.heap lv "java/util/ArrayList" "size" "I" (.int (0 : Int32)) := F_size_lv.keep K138 (ninS ne_lv_b_136 nin0)
  have F_modCount_lv : Fld Z T138.heap lv "java/util/AbstractList" "modCount" "I" (.int w4) := F_modCount_lv.keep K138 (ninS ne_lv_b_136 nin0)
  have Kp : Keep h0 T138.heap [a1, ja, li, eb, lv] := Kp.trans K138 (allS (Or.inr sz_b_136) all0)
  have E_b_136 : Exa Z T138.heap b_136 "java/util/ArrayList$Itr" := E_b_136.keep K138
  have F_this_0_b_136 : Fld Z T138.heap b_136 "java/util/ArrayList$Itr" "this$0" "Ljava/util/ArrayList;" (.ref li) := P138_1
  have F_cursor_b_136 : Fld Z T138.heap b_136 "java/util/ArrayList$Itr" "cursor" "I" (.int (1 : Int32)) := P138_2
  have F_lastRet_b_136 : Fld Z T138.heap b_136 "java/util/ArrayList$Itr" "lastRet" "I" (.int (0 : Int32)) := P138_3
  have F_expectedModCount_b_136 : Fld Z T138.heap b_136 "java/util/ArrayList$Itr" "expectedModCount" "I" (.int w3) := P138_4
  have N138 := Fr.app N137 N138q
  obtain ⟨T139, X139, e139, st139⟩ := castY X138 hx hZ hown (hw _ (List.mem_of_getElem? (i := 178) rfl)) rfl (Ins.self E_wt) (g := (mkF m 53 #[.val (.ref a1), .val (.int p2), .val (.ref li), .val (.ref b_136), .unset, .unset] [(.ref wt)])) rfl rfl (hb hby d20_53)
  obtain ⟨cl140, Ar140, hs140, hin140, hat140⟩ := ArI.open (j := (0 : Int32)) A_wt (by decide)
  have pre141 : ∀ t, Steps p.tables e below (T139.setTop (mkF m 62 #[.val (.ref a1), .val (.int p2), .val (.ref li), .val (.ref b_136), .val (.ref wt), .unset] [(.int pv)])) t → Steps p.tables e below (s₁.setTop (entryFrame m #[(.ref a1), (.int p2)] 6)) t := fun t k => pre0 t (by
    show Steps p.tables e below (s₁.setTop (mkF m 0 #[.val (.ref a1), .val (.int p2), .unset, .unset, .unset, .unset] [])) _
    refine XS.aloadN X0.here hx rfl (hb hby d20_0) rfl rfl ?_
    show Steps p.tables e below (s₁.setTop (mkF m 1 #[.val (.ref a1), .val (.int p2), .unset, .unset, .unset, .unset] [(.ref a1)])) _
    refine st128 _ ?_
    show Steps p.tables e below (T128.setTop (mkF m 4 #[.val (.ref a1), .val (.int p2), .unset, .unset, .unset, .unset] [(.ref ja)])) _
    refine XS.iloadN X128.here hx rfl (hb hby d20_4) rfl ?_
    show Steps p.tables e below (T128.setTop (mkF m 5 #[.val (.ref a1), .val (.int p2), .unset, .unset, .unset, .unset] [(.int p2), (.ref ja)])) _
    refine XS.aloadN X128.here hx rfl (hb hby d20_5) rfl rfl ?_
    show Steps p.tables e below (T128.setTop (mkF m 6 #[.val (.ref a1), .val (.int p2), .unset, .unset, .unset, .unset] [(.ref a1), (.int p2), (.ref ja)])) _
    refine XS.dup X128.here hx rfl (hb hby d20_6) rfl rfl ?_
    show Steps p.tables e below (T128.setTop (mkF m 7 #[.val (.ref a1), .val (.int p2), .unset, .unset, .unset, .unset] [(.ref a1), (.ref a1), (.int p2), (.ref ja)])) _
    refine st129 _ ?_
    show Steps p.tables e below (T129.setTop (mkF m 10 #[.val (.ref a1), .val (.int p2), .unset, .unset, .unset, .unset] [(.long w1), (.ref a1), (.int p2), (.ref ja)])) _
    jvm_step X129.here [X129.here.top, hx, (hb hby d20_10), Value.category]
    show Steps p.tables e below (T129.setTop (mkF m 11 #[.val (.ref a1), .val (.int p2), .unset, .unset, .unset, .unset] [(.long w1), (.ref a1), (.long w1), (.int p2), (.ref ja)])) _
    refine XS.lconst X129.here hx rfl (hb hby d20_11) ?_
    show Steps p.tables e below (T129.setTop (mkF m 12 #[.val (.ref a1), .val (.int p2), .unset, .unset, .unset, .unset] [(.long (1 : Int64)), (.long w1), (.ref a1), (.long w1), (.int p2), (.ref ja)])) _
    refine XS.ladd X129.here hx rfl (hb hby d20_12) rfl ?_
    show Steps p.tables e below (T129.setTop (mkF m 13 #[.val (.ref a1), .val (.int p2), .unset, .unset, .unset, .unset] [(.long (w1 + (1 : Int64))), (.ref a1), (.long w1), (.int p2), (.ref ja)])) _
    refine st130 _ ?_
    show Steps p.tables e below (T130.setTop (mkF m 16 #[.val (.ref a1), .val (.int p2), .unset, .unset, .unset, .unset] [(.long w1), (.int p2), (.ref ja)])) _
    refine st132 _ ?_
    show Steps p.tables e below (T132.setTop (mkF m 17 #[.val (.ref a1), .val (.int p2), .unset, .unset, .unset, .unset] [])) _
    refine XS.aloadN X132.here hx rfl (hb hby d20_17) rfl rfl ?_
    show Steps p.tables e below (T132.setTop (mkF m 18 #[.val (.ref a1), .val (.int p2), .unset, .unset, .unset, .unset] [(.ref a1)])) _
    refine st133 _ ?_
    show Steps p.tables e below (T133.setTop (mkF m 21 #[.val (.ref a1), .val (.int p2), .unset, .unset, .unset, .unset] [(.ref bl)])) _
    refine XS.iloadN X133.here hx rfl (hb hby d20_21) rfl ?_
    show Steps p.tables e below (T133.setTop (mkF m 22 #[.val (.ref a1), .val (.int p2), .unset, .unset, .unset, .unset] [(.int p2), (.ref bl)])) _
    refine st134.trans ?_
    show Steps p.tables e below (T134.setTop (mkF m 27 #[.val (.ref a1), .val (.int p2), .unset, .unset, .unset, .unset] [(.ref li)])) _
    refine st135 _ ?_
    show Steps p.tables e below (T135.setTop (mkF m 30 #[.val (.ref a1), .val (.int p2), .unset, .unset, .unset, .unset] [(.ref li)])) _
    refine XS.astoreN X135.here hx rfl (hb hby d20_30) rfl rfl (l' := #[.val (.ref a1), .val (.int p2), .val (.ref li), .unset, .unset, .unset]) rfl ?_
    show Steps p.tables e below (T135.setTop (mkF m 31 #[.val (.ref a1), .val (.int p2), .val (.ref li), .unset, .unset, .unset] [])) _
    refine XS.aloadN X135.here hx rfl (hb hby d20_31) rfl rfl ?_
    show Steps p.tables e below (T135.setTop (mkF m 32 #[.val (.ref a1), .val (.int p2), .val (.ref li), .unset, .unset, .unset] [(.ref li)])) _
    refine st136.trans ?_
    show Steps p.tables e below (T136.setTop (mkF m 37 #[.val (.ref a1), .val (.int p2), .val (.ref li), .unset, .unset, .unset] [(.ref b_136)])) _
    refine XS.astoreN X136.here hx rfl (hb hby d20_37) rfl rfl (l' := #[.val (.ref a1), .val (.int p2), .val (.ref li), .val (.ref b_136), .unset, .unset]) rfl ?_
    show Steps p.tables e below (T136.setTop (mkF m 38 #[.val (.ref a1), .val (.int p2), .val (.ref li), .val (.ref b_136), .unset, .unset] [])) _
    refine XS.aloadN X136.here hx rfl (hb hby d20_38) rfl rfl ?_
    show Steps p.tables e below (T136.setTop (mkF m 39 #[.val (.ref a1), .val (.int p2), .val (.ref li), .val (.ref b_136), .unset, .unset] [(.ref b_136)])) _
    refine st137.trans ?_
    show Steps p.tables e below (T137.setTop (mkF m 44 #[.val (.ref a1), .val (.int p2), .val (.ref li), .val (.ref b_136), .unset, .unset] [(.int (1 : Int32))])) _
    refine XS.ifNo X137.here hx rfl (hb hby d20_44) rfl ((if0 _ _).trans (feq (by decide)).1) ?_
    show Steps p.tables e below (T137.setTop (mkF m 47 #[.val (.ref a1), .val (.int p2), .val (.ref li), .val (.ref b_136), .unset, .unset] [])) _
    refine XS.aloadN X137.here hx rfl (hb hby d20_47) rfl rfl ?_
    show Steps p.tables e below (T137.setTop (mkF m 48 #[.val (.ref a1), .val (.int p2), .val (.ref li), .val (.ref b_136), .unset, .unset] [(.ref b_136)])) _
    refine st138.trans ?_
    show Steps p.tables e below (T138.setTop (mkF m 53 #[.val (.ref a1), .val (.int p2), .val (.ref li), .val (.ref b_136), .unset, .unset] [(.ref wt)])) _
    refine st139 _ ?_
    show Steps p.tables e below (T139.setTop (mkF m 56 #[.val (.ref a1), .val (.int p2), .val (.ref li), .val (.ref b_136), .unset, .unset] [(.ref wt)])) _
    refine XS.astore X139.here hx rfl (hb hby d20_56) rfl rfl (l' := #[.val (.ref a1), .val (.int p2), .val (.ref li), .val (.ref b_136), .val (.ref wt), .unset]) rfl ?_
    show Steps p.tables e below (T139.setTop (mkF m 58 #[.val (.ref a1), .val (.int p2), .val (.ref li), .val (.ref b_136), .val (.ref wt), .unset] [])) _
    refine XS.aload X139.here hx rfl (hb hby d20_58) rfl rfl ?_
    show Steps p.tables e below (T139.setTop (mkF m 60 #[.val (.ref a1), .val (.int p2), .val (.ref li), .val (.ref b_136), .val (.ref wt), .unset] [(.ref wt)])) _
    refine XS.iconst X139.here hx rfl (hb hby d20_60) ?_
    show Steps p.tables e below (T139.setTop (mkF m 61 #[.val (.ref a1), .val (.int p2), .val (.ref li), .val (.ref b_136), .val (.ref wt), .unset] [(.int (0 : Int32)), (.ref wt)])) _
    refine X139.iaload hx (j := (0 : Int32)) (v := (.int (fw (0 : Int32).toNatClampNeg))) (by rw [e139]; exact Ar140.1) (State.isArrayOf_alike hZ.alike Ar140.2.1) Ar140.2.2 hin140 hat140 (g := (mkF m 61 #[.val (.ref a1), .val (.int p2), .val (.ref li), .val (.ref b_136), .val (.ref wt), .unset] [(.int (0 : Int32)), (.ref wt)])) rfl rfl (hb hby d20_61) _ ?_
    show Steps p.tables e below (T139.setTop (mkF m 62 #[.val (.ref a1), .val (.int p2), .val (.ref li), .val (.ref b_136), .val (.ref wt), .unset] [(.int (fw (0 : Int32).toNatClampNeg))])) _
    rw [hw0]
    exact k)
  obtain ⟨cl142, Ar142, hs142, hin142, hat142⟩ := ArI.open (j := (1 : Int32)) A_wt (by decide)
  obtain ⟨T143, X143, e143, st143⟩ := getF X139 hx hZ hown (host := "") (Or.inl (hw _ (List.mem_of_getElem? (i := 11) rfl))) Via.refl e139 F_requests_a1 (g := (mkF m 69 #[.val (.ref a1), .val (.int p2), .val (.ref li), .val (.ref b_136), .val (.ref wt), .val (.int pv)] [(.ref a1), (.int (fw (1 : Int32).toNatClampNeg))])) rfl rfl (hb hby d20_69)
  obtain ⟨cl144, Ar144, hs144, hin144, hat144⟩ := ArI.open (j := pv) A_ra hpv
  obtain ⟨T145, X145, e145, st145⟩ := getF X143 hx hZ hown (host := "") (Or.inl (hw _ (List.mem_of_getElem? (i := 14) rfl))) Via.refl e143 F_joinedAs_a1 (g := (mkF m 79 #[.val (.ref a1), .val (.int p2), .val (.ref li), .val (.ref b_136), .val (.ref wt), .val (.int pv)] [(.ref a1)])) rfl rfl (hb hby d20_79)
  obtain ⟨cl146, Ar146, hs146, hin146, hat146⟩ := ArJ.open (j := pv) A_ja hpv
  obtain ⟨cq147, q147, q147'⟩ := E_a1.cell
  obtain ⟨_, _, ⟨T147, L147, k147, n147⟩, -, X147, ⟨Lc147, hQ147, l147, y147, z147⟩, st147⟩ := X145.privateBack hx (y := (⟨"com/example/wachter/wachter/sim/QueueOrder", "join", "(I)V"⟩ : MethodName)) hown (mvT hZ (hw _ (List.mem_of_getElem? (i := 125) rfl))) (mvT hZ (hw _ (List.mem_of_getElem? (i := 126) rfl))) (own_sel hZ (hw _ (List.mem_of_getElem? (i := 2) rfl)) (hw _ (List.mem_of_getElem? (i := 127) rfl)) (hw _ (List.mem_of_getElem? (i := 126) rfl)) (by decide)) (Cond.privateMethod_at (mvP hZ (hw _ (List.mem_of_getElem? (i := 127) rfl)) (args := #[]))) (mvT hZ (hw _ (List.mem_of_getElem? (i := 128) rfl))) (by decide) (backOf (W := 0) (rmJ0 l Z a0 hw [] a1 pv ra ja bl bd kb fb wm (w1 + (1 : Int64)) (upd f p2.toNatClampNeg w1) lv e2 w4 T138.heap n0 Zs E_a1 F_requests_a1 F_joinedAs_a1 F_behind_a1 F_joined_a1 A_ja g_a1 g_ja g_lv E_bl F_elementData_bl F_size_bl F_modCount_bl A_bd E_lv F_elementData_lv F_size_lv F_modCount_lv ne_a1_ja ne_a1_bl ne_a1_bd ne_a1_lv ne_ja_bl ne_ja_bd ne_ja_lv ne_bl_bd ne_bl_lv ne_bd_lv hpv hbv) hZ (hw _ (List.mem_of_getElem? (i := 128) rfl)) (hw _ (List.mem_of_getElem? (i := 3) rfl)) (by decide) (by decide)) (g := (mkF m 95 #[.val (.ref a1), .val (.int p2), .val (.ref li), .val (.ref b_136), .val (.ref wt), .val (.int pv)] [(.int pv), (.ref a1)])) rfl (by rw [hml]; rfl) (Steps.refl _) (a := a1) (by rw [e145]; exact q147) q147' (argsL := [(.int pv)]) (rest := []) (lenOf pd_12 rfl) rfl (by show 2 * 0 + _ ≤ _; exact Nat.le_of_eq rfl) (hb hby d20_95) (fun _ _ => ⟨rfl, e145, (by decide : 1 + 1 ≤ _), (by decide : 4 + 4 ≤ _)⟩)
  dsimp only [Pt.U, Pt.locs, Pt.cells, Pt.slots] at X147 l147 y147 z147 st147 hQ147
  subst l147 y147 z147
  obtain ⟨rfl, N147q, K147, P147_1, P147_2, P147_3, P147_4, P147_5, P147_6, P147_7, P147_8⟩ := hQ147
  have Zs : n0 ≤ T147.heap.size := Nat.le_trans Zs K147.1
  have E_a1 : Exa Z T147.heap a1 "com/example/wachter/wachter/sim/QueueOrder" := E_a1.keep K147
  have A_ra : ArI Z T147.heap ra (4 : Int32) fr := A_ra.keep K147 (ninS (Ne.symm ne_a1_ra) (ninS (Ne.symm ne_ja_ra) (ninS ne_ra_lv nin0)))
  have E_bl : Exa Z T147.heap bl "java/util/ArrayList" := E_bl.keep K147
  have F_elementData_bl : Fld Z T147.heap bl "java/util/ArrayList" "elementData" "[Ljava/lang/Object;" (.ref bd) := F_elementData_bl.keep K147 (ninS (Ne.symm ne_a1_bl) (ninS (Ne.symm ne_ja_bl) (ninS ne_bl_lv nin0)))
  have F_size_bl : Fld Z T147.heap bl "java/util/ArrayList" "size" "I" (.int (4 : Int32)) := F_size_bl.keep K147 (ninS (Ne.symm ne_a1_bl) (ninS (Ne.symm ne_ja_bl) (ninS ne_bl_lv nin0)))
  have F_modCount_bl : Fld Z T147.heap bl "java/util/AbstractList" "modCount" "I" (.int wm) := F_modCount_bl.keep K147 (ninS (Ne.symm ne_a1_bl) (ninS (Ne.symm ne_ja_bl) (ninS ne_bl_lv nin0)))
  have A_bd : ArR Z T147.heap bd kb "java/lang/Object" (4 : Int32) fb := A_bd.keep K147 (ninS (Ne.symm ne_a1_bd) (ninS (Ne.symm ne_ja_bd) (ninS ne_bd_lv nin0)))
  have E_li : Exa Z T147.heap li "java/util/ArrayList" := E_li.keep K147
  have F_elementData_li : Fld Z T147.heap li "java/util/ArrayList" "elementData" "[Ljava/lang/Object;" (.ref eb) := F_elementData_li.keep K147 (ninS (Ne.symm ne_a1_li) (ninS (Ne.symm ne_ja_li) (ninS ne_li_lv nin0)))
  have F_size_li : Fld Z T147.heap li "java/util/ArrayList" "size" "I" (.int (1 : Int32)) := F_size_li.keep K147 (ninS (Ne.symm ne_a1_li) (ninS (Ne.symm ne_ja_li) (ninS ne_li_lv nin0)))
  have F_modCount_li : Fld Z T147.heap li "java/util/AbstractList" "modCount" "I" (.int w3) := F_modCount_li.keep K147 (ninS (Ne.symm ne_a1_li) (ninS (Ne.symm ne_ja_li) (ninS ne_li_lv nin0)))
  have A_eb : ArR Z T147.heap eb ke "java/lang/Object" (10 : Int32) fe := A_eb.keep K147 (ninS (Ne.symm ne_a1_eb) (ninS (Ne.symm ne_ja_eb) (ninS ne_eb_lv nin0)))
  have E_wt : Exa Z T147.heap wt "[I" := E_wt.keep K147
  have A_wt : ArI Z T147.heap wt (2 : Int32) fw := A_wt.keep K147 (ninS (Ne.symm ne_a1_wt) (ninS (Ne.symm ne_ja_wt) (ninS ne_wt_lv nin0)))
  have E_lv : Exa Z T147.heap lv "java/util/ArrayList" := E_lv.keep K147
  have Kp : Keep h0 T147.heap [a1, ja, li, eb, lv] := Kp.trans K147 (allS (Or.inl (List.mem_of_getElem? (i := 0) rfl)) (allS (Or.inl (List.mem_of_getElem? (i := 1) rfl)) (allS (Or.inl (List.mem_of_getElem? (i := 4) rfl)) all0)))
  have E_b_136 : Exa Z T147.heap b_136 "java/util/ArrayList$Itr" := E_b_136.keep K147
  have F_this_0_b_136 : Fld Z T147.heap b_136 "java/util/ArrayList$Itr" "this$0" "Ljava/util/ArrayList;" (.ref li) := F_this_0_b_136.keep K147 (ninS (Ne.symm ne_a1_b_136) (ninS (Ne.symm ne_ja_b_136) (ninS (Ne.symm ne_lv_b_136) nin0)))
  have F_cursor_b_136 : Fld Z T147.heap b_136 "java/util/ArrayList$Itr" "cursor" "I" (.int (1 : Int32)) := F_cursor_b_136.keep K147 (ninS (Ne.symm ne_a1_b_136) (ninS (Ne.symm ne_ja_b_136) (ninS (Ne.symm ne_lv_b_136) nin0)))
  have F_lastRet_b_136 : Fld Z T147.heap b_136 "java/util/ArrayList$Itr" "lastRet" "I" (.int (0 : Int32)) := F_lastRet_b_136.keep K147 (ninS (Ne.symm ne_a1_b_136) (ninS (Ne.symm ne_ja_b_136) (ninS (Ne.symm ne_lv_b_136) nin0)))
  have F_expectedModCount_b_136 : Fld Z T147.heap b_136 "java/util/ArrayList$Itr" "expectedModCount" "I" (.int w3) := F_expectedModCount_b_136.keep K147 (ninS (Ne.symm ne_a1_b_136) (ninS (Ne.symm ne_ja_b_136) (ninS (Ne.symm ne_lv_b_136) nin0)))
  have F_requests_a1 : Fld Z T147.heap a1 "com/example/wachter/wachter/sim/QueueOrder" "requests" "[I" (.ref ra) := P147_1
  have F_joinedAs_a1 : Fld Z T147.heap a1 "com/example/wachter/wachter/sim/QueueOrder" "joinedAs" "[J" (.ref ja) := P147_2
  have F_behind_a1 : Fld Z T147.heap a1 "com/example/wachter/wachter/sim/QueueOrder" "behind" "Ljava/util/List;" (.ref bl) := P147_3
  have F_joined_a1 : Fld Z T147.heap a1 "com/example/wachter/wachter/sim/QueueOrder" "joined" "J" (.long ((w1 + (1 : Int64)) + (1 : Int64))) := P147_4
  have A_ja : ArJ Z T147.heap ja (4 : Int32) (upd (upd f p2.toNatClampNeg w1) pv.toNatClampNeg (w1 + (1 : Int64))) := P147_5
  have F_elementData_lv : Fld Z T147.heap lv "java/util/ArrayList" "elementData" "[Ljava/lang/Object;" (.ref e2) := P147_6
  have F_size_lv : Fld Z T147.heap lv "java/util/ArrayList" "size" "I" (.int (0 : Int32)) := P147_7
  have F_modCount_lv : Fld Z T147.heap lv "java/util/AbstractList" "modCount" "I" (.int (w4 + (1 : Int32))) := P147_8
  have N147 := Fr.app N138 N147q
  obtain ⟨cq148, kq148, q148a, q148b, q148c⟩ := isOf hZ rfl E_b_136
  obtain ⟨_, _, ⟨T148, L148, k148, n148⟩, -, X148, ⟨Lc148, hQ148, l148, y148, z148⟩, st148⟩ := X147.interfaceBack hx (xi := (⟨"java/util/Iterator", "hasNext", "()Z"⟩ : MethodName)) (y := (⟨"java/util/ArrayList$Itr", "hasNext", "()Z"⟩ : MethodName)) hown (mvT hZ (hw _ (List.mem_of_getElem? (i := 152) rfl))) (mvT hZ (hw _ (List.mem_of_getElem? (i := 153) rfl))) (mvT hZ (hw _ (List.mem_of_getElem? (i := 154) rfl))) (mvT hZ (hw _ (List.mem_of_getElem? (i := 155) rfl))) (mvT hZ (hw _ (List.mem_of_getElem? (i := 156) rfl))) (mvT hZ (hw _ (List.mem_of_getElem? (i := 157) rfl))) (mvT hZ (hw _ (List.mem_of_getElem? (i := 158) rfl))) (mvT hZ (hw _ (List.mem_of_getElem? (i := 159) rfl))) (by decide) (backOf (W := 0) (rmH11 l Z a0 hw [] b_136 li T147.heap n0 Zs F_this_0_b_136 F_cursor_b_136 F_size_li) hZ (hw _ (List.mem_of_getElem? (i := 160) rfl)) (hw _ (List.mem_of_getElem? (i := 139) rfl)) (by decide) (by decide)) q148a q148b q148c (g := (mkF m 39 #[.val (.ref a1), .val (.int p2), .val (.ref li), .val (.ref b_136), .val (.ref wt), .val (.int pv)] [(.ref b_136)])) rfl (by rw [hml]; rfl) (Steps.refl _) (argsL := []) (rest := []) (lenOf pd_10 rfl) rfl (by show 2 * 0 + _ ≤ _; exact Nat.le_of_eq rfl) (hb hby d20_39) (fun _ _ => ⟨rfl, rfl, (by decide : 2 + 0 ≤ _), (by decide : 8 + 0 ≤ _)⟩)
  dsimp only [Pt.U, Pt.locs, Pt.cells, Pt.slots] at X148 l148 y148 z148 st148 hQ148
  subst l148 y148 z148
  obtain ⟨rfl, N148q, e148⟩ := hQ148
  have N148 := Fr.app N147 N148q
  obtain ⟨cq149, kq149, q149a, q149b, q149c⟩ := isOf hZ e148 E_li
  obtain ⟨_, _, ⟨T149, L149, k149, n149⟩, -, X149, ⟨Lc149, hQ149, l149, y149, z149⟩, st149⟩ := X148.interfaceBack hx (xi := (⟨"java/util/List", "clear", "()V"⟩ : MethodName)) (y := (⟨"java/util/ArrayList", "clear", "()V"⟩ : MethodName)) hown (mvT hZ (hw _ (List.mem_of_getElem? (i := 180) rfl))) (mvT hZ (hw _ (List.mem_of_getElem? (i := 181) rfl))) (mvT hZ (hw _ (List.mem_of_getElem? (i := 182) rfl))) (mvT hZ (hw _ (List.mem_of_getElem? (i := 183) rfl))) (mvT hZ (hw _ (List.mem_of_getElem? (i := 184) rfl))) (mvT hZ (hw _ (List.mem_of_getElem? (i := 185) rfl))) (mvT hZ (hw _ (List.mem_of_getElem? (i := 186) rfl))) (mvT hZ (hw _ (List.mem_of_getElem? (i := 59) rfl))) (by decide) (backOf (W := 0) (rmC1 l Z a0 hw [] li eb w3 ke fe T147.heap n0 Zs E_li F_elementData_li F_size_li F_modCount_li g_li g_eb A_eb ne_li_eb) hZ (hw _ (List.mem_of_getElem? (i := 187) rfl)) (hw _ (List.mem_of_getElem? (i := 18) rfl)) (by decide) (by decide)) q149a q149b q149c (g := (mkF m 102 #[.val (.ref a1), .val (.int p2), .val (.ref li), .val (.ref b_136), .val (.ref wt), .val (.int pv)] [(.ref li)])) rfl (by rw [hml]; rfl) (Steps.refl _) (argsL := []) (rest := []) (lenOf pd_0 rfl) rfl (by show 2 * 0 + _ ≤ _; exact Nat.le_of_eq rfl) (hb hby d20_102) (fun _ _ => ⟨rfl, e148, (by decide : 2 + 0 ≤ _), (by decide : 8 + 0 ≤ _)⟩)
  dsimp only [Pt.U, Pt.locs, Pt.cells, Pt.slots] at X149 l149 y149 z149 st149 hQ149
  subst l149 y149 z149
  obtain ⟨rfl, N149q, K149, P149_1, P149_2, P149_3, P149_4⟩ := hQ149
  have Zs : n0 ≤ T149.heap.size := Nat.le_trans Zs K149.1
  have E_a1 : Exa Z T149.heap a1 "com/example/wachter/wachter/sim/QueueOrder" := E_a1.keep K149
  have A_ra : ArI Z T149.heap ra (4 : Int32) fr := A_ra.keep K149 (ninS ne_ra_li (ninS ne_ra_eb nin0))
  have E_bl : Exa Z T149.heap bl "java/util/ArrayList" := E_bl.keep K149
  have F_elementData_bl : Fld Z T149.heap bl "java/util/ArrayList" "elementData" "[Ljava/lang/Object;" (.ref bd) := F_elementData_bl.keep K149 (ninS ne_bl_li (ninS ne_bl_eb nin0))
  have F_size_bl : Fld Z T149.heap bl "java/util/ArrayList" "size" "I" (.int (4 : Int32)) := F_size_bl.keep K149 (ninS ne_bl_li (ninS ne_bl_eb nin0))
  have F_modCount_bl : Fld Z T149.heap bl "java/util/AbstractList" "modCount" "I" (.int wm) := F_modCount_bl.keep K149 (ninS ne_bl_li (ninS ne_bl_eb nin0))
  have A_bd : ArR Z T149.heap bd kb "java/lang/Object" (4 : Int32) fb := A_bd.keep K149 (ninS ne_bd_li (ninS ne_bd_eb nin0))
  have E_li : Exa Z T149.heap li "java/util/ArrayList" := E_li.keep K149
  have E_wt : Exa Z T149.heap wt "[I" := E_wt.keep K149
  have A_wt : ArI Z T149.heap wt (2 : Int32) fw := A_wt.keep K149 (ninS (Ne.symm ne_li_wt) (ninS (Ne.symm ne_eb_wt) nin0))
  have E_lv : Exa Z T149.heap lv "java/util/ArrayList" := E_lv.keep K149
  have Kp : Keep h0 T149.heap [a1, ja, li, eb, lv] := Kp.trans K149 (allS (Or.inl (List.mem_of_getElem? (i := 2) rfl)) (allS (Or.inl (List.mem_of_getElem? (i := 3) rfl)) all0))
  have E_b_136 : Exa Z T149.heap b_136 "java/util/ArrayList$Itr" := E_b_136.keep K149
  have F_this_0_b_136 : Fld Z T149.heap b_136 "java/util/ArrayList$Itr" "this$0" "Ljava/util/ArrayList;" (.ref li) := F_this_0_b_136.keep K149 (ninS (Ne.symm ne_li_b_136) (ninS (Ne.symm ne_eb_b_136) nin0))
  have F_cursor_b_136 : Fld Z T149.heap b_136 "java/util/ArrayList$Itr" "cursor" "I" (.int (1 : Int32)) := F_cursor_b_136.keep K149 (ninS (Ne.symm ne_li_b_136) (ninS (Ne.symm ne_eb_b_136) nin0))
  have F_lastRet_b_136 : Fld Z T149.heap b_136 "java/util/ArrayList$Itr" "lastRet" "I" (.int (0 : Int32)) := F_lastRet_b_136.keep K149 (ninS (Ne.symm ne_li_b_136) (ninS (Ne.symm ne_eb_b_136) nin0))
  have F_expectedModCount_b_136 : Fld Z T149.heap b_136 "java/util/ArrayList$Itr" "expectedModCount" "I" (.int w3) := F_expectedModCount_b_136.keep K149 (ninS (Ne.symm ne_li_b_136) (ninS (Ne.symm ne_eb_b_136) nin0))
  have F_requests_a1 : Fld Z T149.heap a1 "com/example/wachter/wachter/sim/QueueOrder" "requests" "[I" (.ref ra) := F_requests_a1.keep K149 (ninS ne_a1_li (ninS ne_a1_eb nin0))
  have F_joinedAs_a1 : Fld Z T149.heap a1 "com/example/wachter/wachter/sim/QueueOrder" "joinedAs" "[J" (.ref ja) := F_joinedAs_a1.keep K149 (ninS ne_a1_li (ninS ne_a1_eb nin0))
  have F_behind_a1 : Fld Z T149.heap a1 "com/example/wachter/wachter/sim/QueueOrder" "behind" "Ljava/util/List;" (.ref bl) := F_behind_a1.keep K149 (ninS ne_a1_li (ninS ne_a1_eb nin0))
  have F_joined_a1 : Fld Z T149.heap a1 "com/example/wachter/wachter/sim/QueueOrder" "joined" "J" (.long ((w1 + (1 : Int64)) + (1 : Int64))) := F_joined_a1.keep K149 (ninS ne_a1_li (ninS ne_a1_eb nin0))
  have A_ja : ArJ Z T149.heap ja (4 : Int32) (upd (upd f p2.toNatClampNeg w1) pv.toNatClampNeg (w1 + (1 : Int64))) := A_ja.keep K149 (ninS ne_ja_li (ninS ne_ja_eb nin0))
  have F_elementData_lv : Fld Z T149.heap lv "java/util/ArrayList" "elementData" "[Ljava/lang/Object;" (.ref e2) := F_elementData_lv.keep K149 (ninS (Ne.symm ne_li_lv) (ninS (Ne.symm ne_eb_lv) nin0))
  have F_size_lv : Fld Z T149.heap lv "java/util/ArrayList" "size" "I" (.int (0 : Int32)) := F_size_lv.keep K149 (ninS (Ne.symm ne_li_lv) (ninS (Ne.symm ne_eb_lv) nin0))
  have F_modCount_lv : Fld Z T149.heap lv "java/util/AbstractList" "modCount" "I" (.int (w4 + (1 : Int32))) := F_modCount_lv.keep K149 (ninS (Ne.symm ne_li_lv) (ninS (Ne.symm ne_eb_lv) nin0))
  have F_elementData_li : Fld Z T149.heap li "java/util/ArrayList" "elementData" "[Ljava/lang/Object;" (.ref eb) := P149_1
  have F_size_li : Fld Z T149.heap li "java/util/ArrayList" "size" "I" (.int (0 : Int32)) := P149_2
  have F_modCount_li : Fld Z T149.heap li "java/util/AbstractList" "modCount" "I" (.int (w3 + (1 : Int32))) := P149_3
  have A_eb : ArR Z T149.heap eb ke "java/lang/Object" (10 : Int32) (upd fe (0 : Int32).toNatClampNeg .null) := P149_4
  have N149 := Fr.app N148 N149q
  obtain ⟨fs, hr, hrun, hended, hW, hsame⟩ := X149.leave (v := none) (fun _ => rfl)
  refine ⟨_, _, pre141 _ ?_, hrun, hended, _, _, rfl, ?_, ⟨_, rfl⟩, hW, hsame.mono (by decide) (by decide)⟩
  · show Steps p.tables e below (T139.setTop (mkF m 62 #[.val (.ref a1), .val (.int p2), .val (.ref li), .val (.ref b_136), .val (.ref wt), .unset] [(.int pv)])) _
    refine XS.istore X139.here hx rfl (hb hby d20_62) rfl (l' := #[.val (.ref a1), .val (.int p2), .val (.ref li), .val (.ref b_136), .val (.ref wt), .val (.int pv)]) rfl ?_
    show Steps p.tables e below (T139.setTop (mkF m 64 #[.val (.ref a1), .val (.int p2), .val (.ref li), .val (.ref b_136), .val (.ref wt), .val (.int pv)] [])) _
    refine XS.aload X139.here hx rfl (hb hby d20_64) rfl rfl ?_
    show Steps p.tables e below (T139.setTop (mkF m 66 #[.val (.ref a1), .val (.int p2), .val (.ref li), .val (.ref b_136), .val (.ref wt), .val (.int pv)] [(.ref wt)])) _
    refine XS.iconst X139.here hx rfl (hb hby d20_66) ?_
    show Steps p.tables e below (T139.setTop (mkF m 67 #[.val (.ref a1), .val (.int p2), .val (.ref li), .val (.ref b_136), .val (.ref wt), .val (.int pv)] [(.int (1 : Int32)), (.ref wt)])) _
    refine X139.iaload hx (j := (1 : Int32)) (v := (.int (fw (1 : Int32).toNatClampNeg))) (by rw [e139]; exact Ar142.1) (State.isArrayOf_alike hZ.alike Ar142.2.1) Ar142.2.2 hin142 hat142 (g := (mkF m 67 #[.val (.ref a1), .val (.int p2), .val (.ref li), .val (.ref b_136), .val (.ref wt), .val (.int pv)] [(.int (1 : Int32)), (.ref wt)])) rfl rfl (hb hby d20_67) _ ?_
    show Steps p.tables e below (T139.setTop (mkF m 68 #[.val (.ref a1), .val (.int p2), .val (.ref li), .val (.ref b_136), .val (.ref wt), .val (.int pv)] [(.int (fw (1 : Int32).toNatClampNeg))])) _
    refine XS.aloadN X139.here hx rfl (hb hby d20_68) rfl rfl ?_
    show Steps p.tables e below (T139.setTop (mkF m 69 #[.val (.ref a1), .val (.int p2), .val (.ref li), .val (.ref b_136), .val (.ref wt), .val (.int pv)] [(.ref a1), (.int (fw (1 : Int32).toNatClampNeg))])) _
    refine st143 _ ?_
    show Steps p.tables e below (T143.setTop (mkF m 72 #[.val (.ref a1), .val (.int p2), .val (.ref li), .val (.ref b_136), .val (.ref wt), .val (.int pv)] [(.ref ra), (.int (fw (1 : Int32).toNatClampNeg))])) _
    refine XS.iload X143.here hx rfl (hb hby d20_72) rfl ?_
    show Steps p.tables e below (T143.setTop (mkF m 74 #[.val (.ref a1), .val (.int p2), .val (.ref li), .val (.ref b_136), .val (.ref wt), .val (.int pv)] [(.int pv), (.ref ra), (.int (fw (1 : Int32).toNatClampNeg))])) _
    refine X143.iaload hx (j := pv) (v := (.int (fr pv.toNatClampNeg))) (by rw [e143]; exact Ar144.1) (State.isArrayOf_alike hZ.alike Ar144.2.1) Ar144.2.2 hin144 hat144 (g := (mkF m 74 #[.val (.ref a1), .val (.int p2), .val (.ref li), .val (.ref b_136), .val (.ref wt), .val (.int pv)] [(.int pv), (.ref ra), (.int (fw (1 : Int32).toNatClampNeg))])) rfl rfl (hb hby d20_74) _ ?_
    show Steps p.tables e below (T143.setTop (mkF m 75 #[.val (.ref a1), .val (.int p2), .val (.ref li), .val (.ref b_136), .val (.ref wt), .val (.int pv)] [(.int (fr pv.toNatClampNeg)), (.int (fw (1 : Int32).toNatClampNeg))])) _
    refine XS.icmpNo X143.here hx rfl (hb hby d20_75) rfl (teq hreq).2 ?_
    show Steps p.tables e below (T143.setTop (mkF m 78 #[.val (.ref a1), .val (.int p2), .val (.ref li), .val (.ref b_136), .val (.ref wt), .val (.int pv)] [])) _
    refine XS.aloadN X143.here hx rfl (hb hby d20_78) rfl rfl ?_
    show Steps p.tables e below (T143.setTop (mkF m 79 #[.val (.ref a1), .val (.int p2), .val (.ref li), .val (.ref b_136), .val (.ref wt), .val (.int pv)] [(.ref a1)])) _
    refine st145 _ ?_
    show Steps p.tables e below (T145.setTop (mkF m 82 #[.val (.ref a1), .val (.int p2), .val (.ref li), .val (.ref b_136), .val (.ref wt), .val (.int pv)] [(.ref ja)])) _
    refine XS.iload X145.here hx rfl (hb hby d20_82) rfl ?_
    show Steps p.tables e below (T145.setTop (mkF m 84 #[.val (.ref a1), .val (.int p2), .val (.ref li), .val (.ref b_136), .val (.ref wt), .val (.int pv)] [(.int pv), (.ref ja)])) _
    refine X145.laload hx (j := pv) (v := (.long ((upd f p2.toNatClampNeg w1) pv.toNatClampNeg))) (by rw [e145]; exact Ar146.1) (State.isArrayOf_alike hZ.alike Ar146.2.1) Ar146.2.2 hin146 hat146 (g := (mkF m 84 #[.val (.ref a1), .val (.int p2), .val (.ref li), .val (.ref b_136), .val (.ref wt), .val (.int pv)] [(.int pv), (.ref ja)])) rfl rfl (hb hby d20_84) _ ?_
    show Steps p.tables e below (T145.setTop (mkF m 85 #[.val (.ref a1), .val (.int p2), .val (.ref li), .val (.ref b_136), .val (.ref wt), .val (.int pv)] [(.long ((upd f p2.toNatClampNeg w1) pv.toNatClampNeg))])) _
    refine X145.ldc2Long hx hown (mvT hZ (hw _ (List.mem_of_getElem? (i := 43) rfl))) (g := (mkF m 85 #[.val (.ref a1), .val (.int p2), .val (.ref li), .val (.ref b_136), .val (.ref wt), .val (.int pv)] [(.long ((upd f p2.toNatClampNeg w1) pv.toNatClampNeg))])) rfl (hb hby d20_85) _ ?_
    show Steps p.tables e below (T145.setTop (mkF m 88 #[.val (.ref a1), .val (.int p2), .val (.ref li), .val (.ref b_136), .val (.ref wt), .val (.int pv)] [(.long (-1 : Int64)), (.long ((upd f p2.toNatClampNeg w1) pv.toNatClampNeg))])) _
    refine XS.lcmp X145.here hx rfl (hb hby d20_88) rfl ?_
    show Steps p.tables e below (T145.setTop (mkF m 89 #[.val (.ref a1), .val (.int p2), .val (.ref li), .val (.ref b_136), .val (.ref wt), .val (.int pv)] [(.int (lcmpW ((upd f p2.toNatClampNeg w1) pv.toNatClampNeg) (-1 : Int64)))])) _
    refine XS.ifNo X145.here hx rfl (hb hby d20_89) rfl ((if0 _ _).trans (teq ((lw_eq ((upd f p2.toNatClampNeg w1) pv.toNatClampNeg) (-1 : Int64)).mpr hj)).2) ?_
    show Steps p.tables e below (T145.setTop (mkF m 92 #[.val (.ref a1), .val (.int p2), .val (.ref li), .val (.ref b_136), .val (.ref wt), .val (.int pv)] [])) _
    refine XS.aloadN X145.here hx rfl (hb hby d20_92) rfl rfl ?_
    show Steps p.tables e below (T145.setTop (mkF m 93 #[.val (.ref a1), .val (.int p2), .val (.ref li), .val (.ref b_136), .val (.ref wt), .val (.int pv)] [(.ref a1)])) _
    refine XS.iload X145.here hx rfl (hb hby d20_93) rfl ?_
    show Steps p.tables e below (T145.setTop (mkF m 95 #[.val (.ref a1), .val (.int p2), .val (.ref li), .val (.ref b_136), .val (.ref wt), .val (.int pv)] [(.int pv), (.ref a1)])) _
    refine st147.trans ?_
    show Steps p.tables e below (T147.setTop (mkF m 98 #[.val (.ref a1), .val (.int p2), .val (.ref li), .val (.ref b_136), .val (.ref wt), .val (.int pv)] [])) _
    refine XS.goto X147.here hx rfl (pc0 := 98) (pc' := 38) rfl (hb hby d20_98) (by decide) (by decide) ?_
    show Steps p.tables e below (T147.setTop (mkF m 38 #[.val (.ref a1), .val (.int p2), .val (.ref li), .val (.ref b_136), .val (.ref wt), .val (.int pv)] [])) _
    refine XS.aloadN X147.here hx rfl (hb hby d20_38) rfl rfl ?_
    show Steps p.tables e below (T147.setTop (mkF m 39 #[.val (.ref a1), .val (.int p2), .val (.ref li), .val (.ref b_136), .val (.ref wt), .val (.int pv)] [(.ref b_136)])) _
    refine st148.trans ?_
    show Steps p.tables e below (T148.setTop (mkF m 44 #[.val (.ref a1), .val (.int p2), .val (.ref li), .val (.ref b_136), .val (.ref wt), .val (.int pv)] [(.int (0 : Int32))])) _
    refine XS.ifYes X148.here hx rfl (pc0 := 44) (pc' := 101) rfl (hb hby d20_44) rfl ((if0 _ _).trans (teq (by decide)).1) (by decide) (by decide) ?_
    show Steps p.tables e below (T148.setTop (mkF m 101 #[.val (.ref a1), .val (.int p2), .val (.ref li), .val (.ref b_136), .val (.ref wt), .val (.int pv)] [])) _
    refine XS.aloadN X148.here hx rfl (hb hby d20_101) rfl rfl ?_
    show Steps p.tables e below (T148.setTop (mkF m 102 #[.val (.ref a1), .val (.int p2), .val (.ref li), .val (.ref b_136), .val (.ref wt), .val (.int pv)] [(.ref li)])) _
    refine st149.trans ?_
    show Steps p.tables e below (T149.setTop (mkF m 107 #[.val (.ref a1), .val (.int p2), .val (.ref li), .val (.ref b_136), .val (.ref wt), .val (.int pv)] [])) _
    exact X149.returnOut hx Bd.returns (hb hby d20_107) hr
  · show QJ1 Z a1 p2 ra ja bl bd kb fb wm w1 f fr li eb w3 ke fe wt fw pv lv e2 w4 h0 n0 _ T149.heap _
    exact ⟨rfl, N149, Kp, F_requests_a1, F_joinedAs_a1, F_behind_a1, F_joined_a1, A_ja, F_elementData_li, F_size_li, F_modCount_li, A_eb, F_elementData_lv, F_size_lv, F_modCount_lv⟩
def QJs (Z : State) (a1 : Addr) (p2 : Int32) (ra : Addr) (ja : Addr) (bl : Addr) (bd : Addr) (kb : ClassId) (fb : Nat → Value) (wm : Int32) (w1 : Int64) (f : Nat → Int64) (fr : Nat → Int32) (li : Addr) (eb : Addr) (w3 : Int32) (ke : ClassId) (fe : Nat → Value) (wt : Addr) (fw : Nat → Int32) (pv : Int32) (h0 : Heap) (n0 : Nat) (v : Option Value) (h : Heap) (L : List Loc) : Prop := v = none ∧ Fr n0 L ∧ (Keep h0 h [a1, ja, li, eb]) ∧ (Fld Z h a1 "com/example/wachter/wachter/sim/QueueOrder" "requests" "[I" (.ref ra)) ∧ (Fld Z h a1 "com/example/wachter/wachter/sim/QueueOrder" "joinedAs" "[J" (.ref ja)) ∧ (Fld Z h a1 "com/example/wachter/wachter/sim/QueueOrder" "behind" "Ljava/util/List;" (.ref bl)) ∧ (Fld Z h a1 "com/example/wachter/wachter/sim/QueueOrder" "joined" "J" (.long (w1 + (1 : Int64)))) ∧ (ArJ Z h ja (4 : Int32) (upd f p2.toNatClampNeg w1)) ∧ (Fld Z h li "java/util/ArrayList" "elementData" "[Ljava/lang/Object;" (.ref eb)) ∧ (Fld Z h li "java/util/ArrayList" "size" "I" (.int (0 : Int32))) ∧ (Fld Z h li "java/util/AbstractList" "modCount" "I" (.int (w3 + (1 : Int32)))) ∧ (ArR Z h eb ke "java/lang/Object" (10 : Int32) (upd fe (0 : Int32).toNatClampNeg .null))
theorem ef_Js (m : MethodId) (a1 : Addr) (p2 : Int32) : entryFrame m #[(.ref a1), (.int p2)] 6 = mkF m 0 #[.val (.ref a1), .val (.int p2), .unset, .unset, .unset, .unset] [] := by first | (simp [entryFrame, mkF, argsToLocals, Value.category]; done) | rfl
set_option maxRecDepth 65536 in
set_option maxHeartbeats 40000000 in
theorem rmJs (l : Launch) (Z : State) (a0 : Array Value) (hw : ∀ d ∈ tables_1, d.before a0 Z = true) (ws : List Jvm.Cond) (a1 : Addr) (p2 : Int32) (ra : Addr) (ja : Addr) (bl : Addr) (bd : Addr) (kb : ClassId) (fb : Nat → Value) (wm : Int32) (w1 : Int64) (f : Nat → Int64) (fr : Nat → Int32) (li : Addr) (eb : Addr) (w3 : Int32) (ke : ClassId) (fe : Nat → Value) (wt : Addr) (fw : Nat → Int32) (pv : Int32) (h0 : Heap) (n0 : Nat) (Zs : n0 ≤ h0.size) (E_a1 : Exa Z h0 a1 "com/example/wachter/wachter/sim/QueueOrder") (F_requests_a1 : Fld Z h0 a1 "com/example/wachter/wachter/sim/QueueOrder" "requests" "[I" (.ref ra)) (F_joinedAs_a1 : Fld Z h0 a1 "com/example/wachter/wachter/sim/QueueOrder" "joinedAs" "[J" (.ref ja)) (F_behind_a1 : Fld Z h0 a1 "com/example/wachter/wachter/sim/QueueOrder" "behind" "Ljava/util/List;" (.ref bl)) (F_joined_a1 : Fld Z h0 a1 "com/example/wachter/wachter/sim/QueueOrder" "joined" "J" (.long w1)) (A_ja : ArJ Z h0 ja (4 : Int32) f) (A_ra : ArI Z h0 ra (4 : Int32) fr) (g_a1 : n0 ≤ a1) (g_ja : n0 ≤ ja) (g_li : n0 ≤ li) (g_eb : n0 ≤ eb) (E_bl : Exa Z h0 bl "java/util/ArrayList") (F_elementData_bl : Fld Z h0 bl "java/util/ArrayList" "elementData" "[Ljava/lang/Object;" (.ref bd)) (F_size_bl : Fld Z h0 bl "java/util/ArrayList" "size" "I" (.int (4 : Int32))) (F_modCount_bl : Fld Z h0 bl "java/util/AbstractList" "modCount" "I" (.int wm)) (A_bd : ArR Z h0 bd kb "java/lang/Object" (4 : Int32) fb) (E_li : Exa Z h0 li "java/util/ArrayList") (F_elementData_li : Fld Z h0 li "java/util/ArrayList" "elementData" "[Ljava/lang/Object;" (.ref eb)) (F_size_li : Fld Z h0 li "java/util/ArrayList" "size" "I" (.int (1 : Int32))) (F_modCount_li : Fld Z h0 li "java/util/AbstractList" "modCount" "I" (.int w3)) (A_eb : ArR Z h0 eb ke "java/lang/Object" (10 : Int32) fe) (E_wt : Exa Z h0 wt "[I") (A_wt : ArI Z h0 wt (2 : Int32) fw) (ne_a1_ja : a1 ≠ ja) (ne_a1_ra : a1 ≠ ra) (ne_a1_bl : a1 ≠ bl) (ne_a1_bd : a1 ≠ bd) (ne_a1_li : a1 ≠ li) (ne_a1_eb : a1 ≠ eb) (ne_a1_wt : a1 ≠ wt) (ne_ja_ra : ja ≠ ra) (ne_ja_bl : ja ≠ bl) (ne_ja_bd : ja ≠ bd) (ne_ja_li : ja ≠ li) (ne_ja_eb : ja ≠ eb) (ne_ja_wt : ja ≠ wt) (ne_ra_bl : ra ≠ bl) (ne_ra_bd : ra ≠ bd) (ne_ra_li : ra ≠ li) (ne_ra_eb : ra ≠ eb) (ne_ra_wt : ra ≠ wt) (ne_bl_bd : bl ≠ bd) (ne_bl_li : bl ≠ li) (ne_bl_eb : bl ≠ eb) (ne_bl_wt : bl ≠ wt) (ne_bd_li : bd ≠ li) (ne_bd_eb : bd ≠ eb) (ne_bd_wt : bd ≠ wt) (ne_li_eb : li ≠ eb) (ne_li_wt : li ≠ wt) (ne_eb_wt : eb ≠ wt) (hi : ¬ p2 < (0 : Int32) ∧ p2 < (4 : Int32)) (hB : fb p2.toNatClampNeg = .ref li) (he : fe (0 : Int32).toNatClampNeg = .ref wt) (hw0 : fw (0 : Int32).toNatClampNeg = pv) (hpv : ¬ pv < (0 : Int32) ∧ pv < (4 : Int32)) (hreq : ¬ (fw (1 : Int32).toNatClampNeg) = (fr pv.toNatClampNeg)) :
    MetFree l (⟨"com/example/wachter/wachter/sim/QueueOrder", "join", "(I)V"⟩ : MethodName) (head1 (Jvm.Cond.code (⟨"com/example/wachter/wachter/sim/QueueOrder", "join", "(I)V"⟩ : MethodName) prog_41_method_5_code 6 none :: ws) ({ frames := 3, cells := 1, slots := 4, locals := 40 } : Room)) (fun a U => a = #[(.ref a1), (.int p2)] ∧ Z.Warmed39 U.vm ∧ U.heap = h0) (fun _ _ _ _ _ => True) (fun _ U o U' => ∃ v L, o = .returned v ∧ QJs Z a1 p2 ra ja bl bd kb fb wm w1 f fr li eb w3 ke fe wt fw pv h0 n0 v U'.heap L ∧ FrameEnd U o U' L ({ frames := 3, cells := 1, slots := 4, locals := 40 } : Room).cells ({ frames := 3, cells := 1, slots := 4, locals := 40 } : Room).slots) := by
  refine MetFree.of_bodySF (plainFor_of_name pn_7) hisR ?_
  intro p e s m args below meth c s₁ Bd hml0 hP hK
  obtain ⟨rfl, hZ, hh⟩ := hP
  have hx := Bd.exec
  have hby := Bd.bytes
  have hml : c.maxLocals = 6 := hml0
  have hown : s.vm.findClass "com/example/wachter/wachter/sim/QueueOrder" = some m.cls := findClass_of_methodNamed Bd.named
  have hnm := (name_of_methodNamed Bd.named Bd.method).1
  have X0 : Stand p l e ({ frames := 3, cells := 1, slots := 4, locals := 40 } : Room) s m #[(.ref a1), (.int p2)] below meth c s₁ [] 0 0 := Stand.of_body Bd
  have e0 : s₁.heap = h0 := by rw [← hh, Bd.state]; rfl
  have N0 := Fr.nil n0
  have pre0 : ∀ t, Steps p.tables e below (s₁.setTop (mkF m 0 #[.val (.ref a1), .val (.int p2), .unset, .unset, .unset, .unset] [])) t → Steps p.tables e below (s₁.setTop (entryFrame m #[(.ref a1), (.int p2)] 6)) t := fun t k => castTop (ef_Js m a1 p2) k
  have Kp : Keep h0 h0 [a1, ja, li, eb] := Keep.refl h0 [a1, ja, li, eb]
  obtain ⟨T150, X150, e150, st150⟩ := getF X0 hx hZ hown (host := "") (Or.inl (hw _ (List.mem_of_getElem? (i := 14) rfl))) Via.refl e0 F_joinedAs_a1 (g := (mkF m 1 #[.val (.ref a1), .val (.int p2), .unset, .unset, .unset, .unset] [(.ref a1)])) rfl rfl (hb hby d20_1)
  obtain ⟨T151, X151, e151, st151⟩ := getF X150 hx hZ hown (host := "") (Or.inl (hw _ (List.mem_of_getElem? (i := 71) rfl))) Via.refl e150 F_joined_a1 (g := (mkF m 7 #[.val (.ref a1), .val (.int p2), .unset, .unset, .unset, .unset] [(.ref a1), (.ref a1), (.int p2), (.ref ja)])) rfl rfl (hb hby d20_7)
  obtain ⟨T152, h152, X152, e152, W152, st152⟩ := putF X151 hx hZ hown (host := "") (Or.inl (hw _ (List.mem_of_getElem? (i := 71) rfl))) Via.refl e151 F_joined_a1 E_a1 (Or.inl (hw _ (List.mem_of_getElem? (i := 72) rfl))) (hw _ (List.mem_of_getElem? (i := 2) rfl)) (ty := .long) (by decide) rfl rfl (g := (mkF m 13 #[.val (.ref a1), .val (.int p2), .unset, .unset, .unset, .unset] [(.long (w1 + (1 : Int64))), (.ref a1), (.long w1), (.int p2), (.ref ja)])) rfl rfl (hb hby d20_13)
  have N152 := Fr.snoc X152 N0 g_a1
  have Zs : n0 ≤ h152.size := Nat.le_trans Zs (Keep.of_wr W152).1
  have E_a1 : Exa Z h152 a1 "com/example/wachter/wachter/sim/QueueOrder" := E_a1.wr W152
  have F_requests_a1 : Fld Z h152 a1 "com/example/wachter/wachter/sim/QueueOrder" "requests" "[I" (.ref ra) := F_requests_a1.other W152 (Or.inr (slot_ne (Or.inr (hw _ (List.mem_of_getElem? (i := 12) rfl))) (Or.inl (hw _ (List.mem_of_getElem? (i := 72) rfl))) (by decide) (t := (.array .int)) (t' := .long) (by decide) (by decide)))
  have F_joinedAs_a1 : Fld Z h152 a1 "com/example/wachter/wachter/sim/QueueOrder" "joinedAs" "[J" (.ref ja) := F_joinedAs_a1.other W152 (Or.inr (slot_ne (Or.inr (hw _ (List.mem_of_getElem? (i := 15) rfl))) (Or.inl (hw _ (List.mem_of_getElem? (i := 72) rfl))) (by decide) (t := (.array .long)) (t' := .long) (by decide) (by decide)))
  have F_behind_a1 : Fld Z h152 a1 "com/example/wachter/wachter/sim/QueueOrder" "behind" "Ljava/util/List;" (.ref bl) := F_behind_a1.other W152 (Or.inr (slot_ne (Or.inr (hw _ (List.mem_of_getElem? (i := 42) rfl))) (Or.inl (hw _ (List.mem_of_getElem? (i := 72) rfl))) (by decide) (t := (.object "java/util/List")) (t' := .long) (by decide) (by decide)))
  have F_joined_a1 : Fld Z h152 a1 "com/example/wachter/wachter/sim/QueueOrder" "joined" "J" (.long (w1 + (1 : Int64))) := F_joined_a1.same W152
  have A_ja : ArJ Z h152 ja (4 : Int32) f := A_ja.other W152 (Ne.symm ne_a1_ja)
  have A_ra : ArI Z h152 ra (4 : Int32) fr := A_ra.other W152 (Ne.symm ne_a1_ra)
  have E_bl : Exa Z h152 bl "java/util/ArrayList" := E_bl.wr W152
  have F_elementData_bl : Fld Z h152 bl "java/util/ArrayList" "elementData" "[Ljava/lang/Object;" (.ref bd) := F_elementData_bl.other W152 (Or.inl (Ne.symm ne_a1_bl))
  have F_size_bl : Fld Z h152 bl "java/util/ArrayList" "size" "I" (.int (4 : Int32)) := F_size_bl.other W152 (Or.inl (Ne.symm ne_a1_bl))
  have F_modCount_bl : Fld Z h152 bl "java/util/AbstractList" "modCount" "I" (.int wm) := F_modCount_bl.other W152 (Or.inl (Ne.symm ne_a1_bl))
  have A_bd : ArR Z h152 bd kb "java/lang/Object" (4 : Int32) fb := A_bd.other W152 (Ne.symm ne_a1_bd)
  have E_li : Exa Z h152 li "java/util/ArrayList" := E_li.wr W152
  have F_elementData_li : Fld Z h152 li "java/util/ArrayList" "elementData" "[Ljava/lang/Object;" (.ref eb) := F_elementData_li.other W152 (Or.inl (Ne.symm ne_a1_li))
  have F_size_li : Fld Z h152 li "java/util/ArrayList" "size" "I" (.int (1 : Int32)) := F_size_li.other W152 (Or.inl (Ne.symm ne_a1_li))
  have F_modCount_li : Fld Z h152 li "java/util/AbstractList" "modCount" "I" (.int w3) := F_modCount_li.other W152 (Or.inl (Ne.symm ne_a1_li))
  have A_eb : ArR Z h152 eb ke "java/lang/Object" (10 : Int32) fe := A_eb.other W152 (Ne.symm ne_a1_eb)
  have E_wt : Exa Z h152 wt "[I" := E_wt.wr W152
  have A_wt : ArI Z h152 wt (2 : Int32) fw := A_wt.other W152 (Ne.symm ne_a1_wt)
  have Kp : Keep h0 h152 [a1, ja, li, eb] := Kp.wr W152 (Or.inl (List.mem_of_getElem? (i := 0) rfl))
  obtain ⟨cl153, Ar153, hs153, hin153, hat153⟩ := ArJ.open (j := p2) A_ja hi
  obtain ⟨T154, h154, X154, e154, W154, st154⟩ := stJ X152 hx hZ e152 Ar153 (j := p2) hin153 (g := (mkF m 16 #[.val (.ref a1), .val (.int p2), .unset, .unset, .unset, .unset] [(.long w1), (.int p2), (.ref ja)])) rfl rfl (hb hby d20_16)
  have N154 := Fr.snoc X154 N152 g_ja
  have Zs : n0 ≤ h154.size := Nat.le_trans Zs (Keep.of_wr W154).1
  have E_a1 : Exa Z h154 a1 "com/example/wachter/wachter/sim/QueueOrder" := E_a1.wr W154
  have F_requests_a1 : Fld Z h154 a1 "com/example/wachter/wachter/sim/QueueOrder" "requests" "[I" (.ref ra) := F_requests_a1.other W154 (Or.inl ne_a1_ja)
  have F_joinedAs_a1 : Fld Z h154 a1 "com/example/wachter/wachter/sim/QueueOrder" "joinedAs" "[J" (.ref ja) := F_joinedAs_a1.other W154 (Or.inl ne_a1_ja)
  have F_behind_a1 : Fld Z h154 a1 "com/example/wachter/wachter/sim/QueueOrder" "behind" "Ljava/util/List;" (.ref bl) := F_behind_a1.other W154 (Or.inl ne_a1_ja)
  have F_joined_a1 : Fld Z h154 a1 "com/example/wachter/wachter/sim/QueueOrder" "joined" "J" (.long (w1 + (1 : Int64))) := F_joined_a1.other W154 (Or.inl ne_a1_ja)
  have A_ra : ArI Z h154 ra (4 : Int32) fr := A_ra.other W154 (Ne.symm ne_ja_ra)
  have E_bl : Exa Z h154 bl "java/util/ArrayList" := E_bl.wr W154
  have F_elementData_bl : Fld Z h154 bl "java/util/ArrayList" "elementData" "[Ljava/lang/Object;" (.ref bd) := F_elementData_bl.other W154 (Or.inl (Ne.symm ne_ja_bl))
  have F_size_bl : Fld Z h154 bl "java/util/ArrayList" "size" "I" (.int (4 : Int32)) := F_size_bl.other W154 (Or.inl (Ne.symm ne_ja_bl))
  have F_modCount_bl : Fld Z h154 bl "java/util/AbstractList" "modCount" "I" (.int wm) := F_modCount_bl.other W154 (Or.inl (Ne.symm ne_ja_bl))
  have A_bd : ArR Z h154 bd kb "java/lang/Object" (4 : Int32) fb := A_bd.other W154 (Ne.symm ne_ja_bd)
  have E_li : Exa Z h154 li "java/util/ArrayList" := E_li.wr W154
  have F_elementData_li : Fld Z h154 li "java/util/ArrayList" "elementData" "[Ljava/lang/Object;" (.ref eb) := F_elementData_li.other W154 (Or.inl (Ne.symm ne_ja_li))
  have F_size_li : Fld Z h154 li "java/util/ArrayList" "size" "I" (.int (1 : Int32)) := F_size_li.other W154 (Or.inl (Ne.symm ne_ja_li))
  have F_modCount_li : Fld Z h154 li "java/util/AbstractList" "modCount" "I" (.int w3) := F_modCount_li.other W154 (Or.inl (Ne.symm ne_ja_li))
  have A_eb : ArR Z h154 eb ke "java/lang/Object" (10 : Int32) fe := A_eb.other W154 (Ne.symm ne_ja_eb)
  have E_wt : Exa Z h154 wt "[I" := E_wt.wr W154
  have A_wt : ArI Z h154 wt (2 : Int32) fw := A_wt.other W154 (Ne.symm ne_ja_wt)
  have Kp : Keep h0 h154 [a1, ja, li, eb] := Kp.wr W154 (Or.inl (List.mem_of_getElem? (i := 1) rfl))
  have A_ja : ArJ Z h154 ja (4 : Int32) (upd f p2.toNatClampNeg w1) := ArJ.set A_ja W154
  obtain ⟨T155, X155, e155, st155⟩ := getF X154 hx hZ hown (host := "") (Or.inl (hw _ (List.mem_of_getElem? (i := 41) rfl))) Via.refl e154 F_behind_a1 (g := (mkF m 18 #[.val (.ref a1), .val (.int p2), .unset, .unset, .unset, .unset] [(.ref a1)])) rfl rfl (hb hby d20_18)
  obtain ⟨cq156, kq156, q156a, q156b, q156c⟩ := isOf hZ e155 E_bl
  obtain ⟨_, _, ⟨T156, L156, k156, n156⟩, -, X156, ⟨Lc156, hQ156, l156, y156, z156⟩, st156⟩ := X155.interfaceBack hx (xi := (⟨"java/util/List", "get", "(I)Ljava/lang/Object;"⟩ : MethodName)) (y := (⟨"java/util/ArrayList", "get", "(I)Ljava/lang/Object;"⟩ : MethodName)) hown (mvT hZ (hw _ (List.mem_of_getElem? (i := 83) rfl))) (mvT hZ (hw _ (List.mem_of_getElem? (i := 84) rfl))) (mvT hZ (hw _ (List.mem_of_getElem? (i := 85) rfl))) (mvT hZ (hw _ (List.mem_of_getElem? (i := 86) rfl))) (mvT hZ (hw _ (List.mem_of_getElem? (i := 87) rfl))) (mvT hZ (hw _ (List.mem_of_getElem? (i := 88) rfl))) (mvT hZ (hw _ (List.mem_of_getElem? (i := 89) rfl))) (mvT hZ (hw _ (List.mem_of_getElem? (i := 59) rfl))) (by decide) (backOf (W := 0) (rmGET l Z a0 hw [] bl p2 bd kb (4 : Int32) fb li (4 : Int32) h154 n0 Zs E_bl F_elementData_bl F_size_bl A_bd hi hi.2 hB) hZ (hw _ (List.mem_of_getElem? (i := 90) rfl)) (hw _ (List.mem_of_getElem? (i := 18) rfl)) (by decide) (by decide)) q156a q156b q156c (g := (mkF m 22 #[.val (.ref a1), .val (.int p2), .unset, .unset, .unset, .unset] [(.int p2), (.ref bl)])) rfl (by rw [hml]; rfl) (Steps.refl _) (argsL := [(.int p2)]) (rest := []) (lenOf pd_6 rfl) rfl (by show 2 * 0 + _ ≤ _; exact Nat.le_of_eq rfl) (hb hby d20_22) (fun _ _ => ⟨rfl, e155, (by decide : 0 + 0 ≤ _), (by decide : 0 + 0 ≤ _)⟩)
  dsimp only [Pt.U, Pt.locs, Pt.cells, Pt.slots] at X156 l156 y156 z156 st156 hQ156
  subst l156 y156 z156
  obtain ⟨rfl, N156q, e156⟩ := hQ156
  have N156 := Fr.app N154 N156q
  obtain ⟨T157, X157, e157, st157⟩ := castY X156 hx hZ hown (hw _ (List.mem_of_getElem? (i := 104) rfl)) e156 (Ins.of_exa E_li (hw _ (List.mem_of_getElem? (i := 59) rfl))) (g := (mkF m 27 #[.val (.ref a1), .val (.int p2), .unset, .unset, .unset, .unset] [(.ref li)])) rfl rfl (hb hby d20_27)
  obtain ⟨cq158, kq158, q158a, q158b, q158c⟩ := isOf hZ e157 E_li
  obtain ⟨_, _, ⟨T158, L158, k158, n158⟩, -, X158, ⟨Lc158, hQ158, l158, y158, z158⟩, st158⟩ := X157.interfaceBack hx (xi := (⟨"java/util/List", "iterator", "()Ljava/util/Iterator;"⟩ : MethodName)) (y := (⟨"java/util/ArrayList", "iterator", "()Ljava/util/Iterator;"⟩ : MethodName)) hown (mvT hZ (hw _ (List.mem_of_getElem? (i := 129) rfl))) (mvT hZ (hw _ (List.mem_of_getElem? (i := 130) rfl))) (mvT hZ (hw _ (List.mem_of_getElem? (i := 131) rfl))) (mvT hZ (hw _ (List.mem_of_getElem? (i := 132) rfl))) (mvT hZ (hw _ (List.mem_of_getElem? (i := 133) rfl))) (mvT hZ (hw _ (List.mem_of_getElem? (i := 134) rfl))) (mvT hZ (hw _ (List.mem_of_getElem? (i := 135) rfl))) (mvT hZ (hw _ (List.mem_of_getElem? (i := 59) rfl))) (by decide) (backOf (W := 0) (rmIT l Z a0 hw [] li w3 h154 n0 Zs F_modCount_li) hZ (hw _ (List.mem_of_getElem? (i := 136) rfl)) (hw _ (List.mem_of_getElem? (i := 18) rfl)) (by decide) (by decide)) q158a q158b q158c (g := (mkF m 32 #[.val (.ref a1), .val (.int p2), .val (.ref li), .unset, .unset, .unset] [(.ref li)])) rfl (by rw [hml]; rfl) (Steps.refl _) (argsL := []) (rest := []) (lenOf pd_9 rfl) rfl (by show 2 * 0 + _ ≤ _; exact Nat.le_of_eq rfl) (hb hby d20_32) (fun _ _ => ⟨rfl, e157, (by decide : 0 + 1 ≤ _), (by decide : 0 + 4 ≤ _)⟩)
  dsimp only [Pt.U, Pt.locs, Pt.cells, Pt.slots] at X158 l158 y158 z158 st158 hQ158
  subst l158 y158 z158
  obtain ⟨b_158, rfl, N158q, K158, szc_b_158, g_b_158, P158_3, P158_4, P158_5, P158_6, P158_7⟩ := hQ158
  have sz_b_158 : h0.size ≤ b_158 := Nat.le_trans Kp.1 szc_b_158
  have ne_a1_b_158 : a1 ≠ b_158 := Nat.ne_of_lt (Nat.lt_of_lt_of_le E_a1.lt szc_b_158)
  have ne_ja_b_158 : ja ≠ b_158 := Nat.ne_of_lt (Nat.lt_of_lt_of_le A_ja.lt szc_b_158)
  have ne_ra_b_158 : ra ≠ b_158 := Nat.ne_of_lt (Nat.lt_of_lt_of_le A_ra.lt szc_b_158)
  have ne_bl_b_158 : bl ≠ b_158 := Nat.ne_of_lt (Nat.lt_of_lt_of_le E_bl.lt szc_b_158)
  have ne_bd_b_158 : bd ≠ b_158 := Nat.ne_of_lt (Nat.lt_of_lt_of_le A_bd.lt szc_b_158)
  have ne_li_b_158 : li ≠ b_158 := Nat.ne_of_lt (Nat.lt_of_lt_of_le E_li.lt szc_b_158)
  have ne_eb_b_158 : eb ≠ b_158 := Nat.ne_of_lt (Nat.lt_of_lt_of_le A_eb.lt szc_b_158)
  have ne_wt_b_158 : wt ≠ b_158 := Nat.ne_of_lt (Nat.lt_of_lt_of_le E_wt.lt szc_b_158)
  have Zs : n0 ≤ T158.heap.size := Nat.le_trans Zs K158.1
  have E_a1 : Exa Z T158.heap a1 "com/example/wachter/wachter/sim/QueueOrder" := E_a1.keep K158
  have F_requests_a1 : Fld Z T158.heap a1 "com/example/wachter/wachter/sim/QueueOrder" "requests" "[I" (.ref ra) := F_requests_a1.keep K158 nin0
  have F_joinedAs_a1 : Fld Z T158.heap a1 "com/example/wachter/wachter/sim/QueueOrder" "joinedAs" "[J" (.ref ja) := F_joinedAs_a1.keep K158 nin0
  have F_behind_a1 : Fld Z T158.heap a1 "com/example/wachter/wachter/sim/QueueOrder" "behind" "Ljava/util/List;" (.ref bl) := F_behind_a1.keep K158 nin0
  have F_joined_a1 : Fld Z T158.heap a1 "com/example/wachter/wachter/sim/QueueOrder" "joined" "J" (.long (w1 + (1 : Int64))) := F_joined_a1.keep K158 nin0
  have A_ja : ArJ Z T158.heap ja (4 : Int32) (upd f p2.toNatClampNeg w1) := A_ja.keep K158 nin0
  have A_ra : ArI Z T158.heap ra (4 : Int32) fr := A_ra.keep K158 nin0
  have E_bl : Exa Z T158.heap bl "java/util/ArrayList" := E_bl.keep K158
  have F_elementData_bl : Fld Z T158.heap bl "java/util/ArrayList" "elementData" "[Ljava/lang/Object;" (.ref bd) := F_elementData_bl.keep K158 nin0
  have F_size_bl : Fld Z T158.heap bl "java/util/ArrayList" "size" "I" (.int (4 : Int32)) := F_size_bl.keep K158 nin0
  have F_modCount_bl : Fld Z T158.heap bl "java/util/AbstractList" "modCount" "I" (.int wm) := F_modCount_bl.keep K158 nin0
  have A_bd : ArR Z T158.heap bd kb "java/lang/Object" (4 : Int32) fb := A_bd.keep K158 nin0
  have E_li : Exa Z T158.heap li "java/util/ArrayList" := E_li.keep K158
  have F_elementData_li : Fld Z T158.heap li "java/util/ArrayList" "elementData" "[Ljava/lang/Object;" (.ref eb) := F_elementData_li.keep K158 nin0
  have F_size_li : Fld Z T158.heap li "java/util/ArrayList" "size" "I" (.int (1 : Int32)) := F_size_li.keep K158 nin0
  have F_modCount_li : Fld Z T158.heap li "java/util/AbstractList" "modCount" "I" (.int w3) := F_modCount_li.keep K158 nin0
  have A_eb : ArR Z T158.heap eb ke "java/lang/Object" (10 : Int32) fe := A_eb.keep K158 nin0
  have E_wt : Exa Z T158.heap wt "[I" := E_wt.keep K158
  have A_wt : ArI Z T158.heap wt (2 : Int32) fw := A_wt.keep K158 nin0
  have Kp : Keep h0 T158.heap [a1, ja, li, eb] := Kp.trans K158 all0
  have E_b_158 : Exa Z T158.heap b_158 "java/util/ArrayList$Itr" := P158_3
  have F_this_0_b_158 : Fld Z T158.heap b_158 "java/util/ArrayList$Itr" "this$0" "Ljava/util/ArrayList;" (.ref li) := P158_4
  have F_cursor_b_158 : Fld Z T158.heap b_158 "java/util/ArrayList$Itr" "cursor" "I" (.int (0 : Int32)) := P158_5
  have F_lastRet_b_158 : Fld Z T158.heap b_158 "java/util/ArrayList$Itr" "lastRet" "I" (.int (-1 : Int32)) := P158_6
  have F_expectedModCount_b_158 : Fld Z T158.heap b_158 "java/util/ArrayList$Itr" "expectedModCount" "I" (.int w3) := P158_7
  have N158 := Fr.app N156 N158q
  obtain ⟨cq159, kq159, q159a, q159b, q159c⟩ := isOf hZ rfl E_b_158
  obtain ⟨_, _, ⟨T159, L159, k159, n159⟩, -, X159, ⟨Lc159, hQ159, l159, y159, z159⟩, st159⟩ := X158.interfaceBack hx (xi := (⟨"java/util/Iterator", "hasNext", "()Z"⟩ : MethodName)) (y := (⟨"java/util/ArrayList$Itr", "hasNext", "()Z"⟩ : MethodName)) hown (mvT hZ (hw _ (List.mem_of_getElem? (i := 152) rfl))) (mvT hZ (hw _ (List.mem_of_getElem? (i := 153) rfl))) (mvT hZ (hw _ (List.mem_of_getElem? (i := 154) rfl))) (mvT hZ (hw _ (List.mem_of_getElem? (i := 155) rfl))) (mvT hZ (hw _ (List.mem_of_getElem? (i := 156) rfl))) (mvT hZ (hw _ (List.mem_of_getElem? (i := 157) rfl))) (mvT hZ (hw _ (List.mem_of_getElem? (i := 158) rfl))) (mvT hZ (hw _ (List.mem_of_getElem? (i := 159) rfl))) (by decide) (backOf (W := 0) (rmH01 l Z a0 hw [] b_158 li T158.heap n0 Zs F_this_0_b_158 F_cursor_b_158 F_size_li) hZ (hw _ (List.mem_of_getElem? (i := 160) rfl)) (hw _ (List.mem_of_getElem? (i := 139) rfl)) (by decide) (by decide)) q159a q159b q159c (g := (mkF m 39 #[.val (.ref a1), .val (.int p2), .val (.ref li), .val (.ref b_158), .unset, .unset] [(.ref b_158)])) rfl (by rw [hml]; rfl) (Steps.refl _) (argsL := []) (rest := []) (lenOf pd_10 rfl) rfl (by show 2 * 0 + _ ≤ _; exact Nat.le_of_eq rfl) (hb hby d20_39) (fun _ _ => ⟨rfl, rfl, (by decide : 1 + 0 ≤ _), (by decide : 4 + 0 ≤ _)⟩)
  dsimp only [Pt.U, Pt.locs, Pt.cells, Pt.slots] at X159 l159 y159 z159 st159 hQ159
  subst l159 y159 z159
  obtain ⟨rfl, N159q, e159⟩ := hQ159
  have N159 := Fr.app N158 N159q
  obtain ⟨cq160, kq160, q160a, q160b, q160c⟩ := isOf hZ e159 E_b_158
  obtain ⟨_, _, ⟨T160, L160, k160, n160⟩, -, X160, ⟨Lc160, hQ160, l160, y160, z160⟩, st160⟩ := X159.interfaceBack hx (xi := (⟨"java/util/Iterator", "next", "()Ljava/lang/Object;"⟩ : MethodName)) (y := (⟨"java/util/ArrayList$Itr", "next", "()Ljava/lang/Object;"⟩ : MethodName)) hown (mvT hZ (hw _ (List.mem_of_getElem? (i := 164) rfl))) (mvT hZ (hw _ (List.mem_of_getElem? (i := 165) rfl))) (mvT hZ (hw _ (List.mem_of_getElem? (i := 166) rfl))) (mvT hZ (hw _ (List.mem_of_getElem? (i := 167) rfl))) (mvT hZ (hw _ (List.mem_of_getElem? (i := 168) rfl))) (mvT hZ (hw _ (List.mem_of_getElem? (i := 169) rfl))) (mvT hZ (hw _ (List.mem_of_getElem? (i := 170) rfl))) (mvT hZ (hw _ (List.mem_of_getElem? (i := 159) rfl))) (by decide) (backOf (W := 0) (rmNX l Z a0 hw [] b_158 li (-1 : Int32) w3 eb ke fe wt T158.heap n0 Zs E_b_158 F_this_0_b_158 F_cursor_b_158 F_lastRet_b_158 F_expectedModCount_b_158 g_b_158 F_elementData_li F_size_li F_modCount_li A_eb (Ne.symm ne_li_b_158) (Ne.symm ne_eb_b_158) ne_li_eb he) hZ (hw _ (List.mem_of_getElem? (i := 171) rfl)) (hw _ (List.mem_of_getElem? (i := 139) rfl)) (by decide) (by decide)) q160a q160b q160c (g := (mkF m 48 #[.val (.ref a1), .val (.int p2), .val (.ref li), .val (.ref b_158), .unset, .unset] [(.ref b_158)])) rfl (by rw [hml]; rfl) (Steps.refl _) (argsL := []) (rest := []) (lenOf pd_11 rfl) rfl (by show 2 * 0 + _ ≤ _; exact Nat.le_of_eq rfl) (hb hby d20_48) (fun _ _ => ⟨rfl, e159, (by decide : 1 + 0 ≤ _), (by decide : 4 + 0 ≤ _)⟩)
  dsimp only [Pt.U, Pt.locs, Pt.cells, Pt.slots] at X160 l160 y160 z160 st160 hQ160
  subst l160 y160 z160
  obtain ⟨rfl, N160q, K160, P160_1, P160_2, P160_3, P160_4⟩ := hQ160
  have Zs : n0 ≤ T160.heap.size := Nat.le_trans Zs K160.1
  have E_a1 : Exa Z T160.heap a1 "com/example/wachter/wachter/sim/QueueOrder" := E_a1.keep K160
  have F_requests_a1 : Fld Z T160.heap a1 "com/example/wachter/wachter/sim/QueueOrder" "requests" "[I" (.ref ra) := F_requests_a1.keep K160 (ninS ne_a1_b_158 nin0)
  have F_joinedAs_a1 : Fld Z T160.heap a1 "com/example/wachter/wachter/sim/QueueOrder" "joinedAs" "[J" (.ref ja) := F_joinedAs_a1.keep K160 (ninS ne_a1_b_158 nin0)
  have F_behind_a1 : Fld Z T160.heap a1 "com/example/wachter/wachter/sim/QueueOrder" "behind" "Ljava/util/List;" (.ref bl) := F_behind_a1.keep K160 (ninS ne_a1_b_158 nin0)
  have F_joined_a1 : Fld Z T160.heap a1 "com/example/wachter/wachter/sim/QueueOrder" "joined" "J" (.long (w1 + (1 : Int64))) := F_joined_a1.keep K160 (ninS ne_a1_b_158 nin0)
  have A_ja : ArJ Z T160.heap ja (4 : Int32) (upd f p2.toNatClampNeg w1) := A_ja.keep K160 (ninS ne_ja_b_158 nin0)
  have A_ra : ArI Z T160.heap ra (4 : Int32) fr := A_ra.keep K160 (ninS ne_ra_b_158 nin0)
  have E_bl : Exa Z T160.heap bl "java/util/ArrayList" := E_bl.keep K160
  have F_elementData_bl : Fld Z T160.heap bl "java/util/ArrayList" "elementData" "[Ljava/lang/Object;" (.ref bd) := F_elementData_bl.keep K160 (ninS ne_bl_b_158 nin0)
  have F_size_bl : Fld Z T160.heap bl "java/util/ArrayList" "size" "I" (.int (4 : Int32)) := F_size_bl.keep K160 (ninS ne_bl_b_158 nin0)
  have F_modCount_bl : Fld Z T160.heap bl "java/util/AbstractList" "modCount" "I" (.int wm) := F_modCount_bl.keep K160 (ninS ne_bl_b_158 nin0)
  have A_bd : ArR Z T160.heap bd kb "java/lang/Object" (4 : Int32) fb := A_bd.keep K160 (ninS ne_bd_b_158 nin0)
  have E_li : Exa Z T160.heap li "java/util/ArrayList" := E_li.keep K160
  have F_elementData_li : Fld Z T160.heap li "java/util/ArrayList" "elementData" "[Ljava/lang/Object;" (.ref eb) := F_elementData_li.keep K160 (ninS ne_li_b_158 nin0)
  have F_size_li : Fld Z T160.heap li "java/util/ArrayList" "size" "I" (.int (1 : Int32)) := F_size_li.keep K160 (ninS ne_li_b_158 nin0)
  have F_modCount_li : Fld Z T160.heap li "java/util/AbstractList" "modCount" "I" (.int w3) := F_modCount_li.keep K160 (ninS ne_li_b_158 nin0)
  have A_eb : ArR Z T160.heap eb ke "java/lang/Object" (10 : Int32) fe := A_eb.keep K160 (ninS ne_eb_b_158 nin0)
  have E_wt : Exa Z T160.heap wt "[I" := E_wt.keep K160
  have A_wt : ArI Z T160.heap wt (2 : Int32) fw := A_wt.keep K160 (ninS ne_wt_b_158 nin0)
  have Kp : Keep h0 T160.heap [a1, ja, li, eb] := Kp.trans K160 (allS (Or.inr sz_b_158) all0)
  have E_b_158 : Exa Z T160.heap b_158 "java/util/ArrayList$Itr" := E_b_158.keep K160
  have F_this_0_b_158 : Fld Z T160.heap b_158 "java/util/ArrayList$Itr" "this$0" "Ljava/util/ArrayList;" (.ref li) := P160_1
  have F_cursor_b_158 : Fld Z T160.heap b_158 "java/util/ArrayList$Itr" "cursor" "I" (.int (1 : Int32)) := P160_2
  have F_lastRet_b_158 : Fld Z T160.heap b_158 "java/util/ArrayList$Itr" "lastRet" "I" (.int (0 : Int32)) := P160_3
  have F_expectedModCount_b_158 : Fld Z T160.heap b_158 "java/util/ArrayList$Itr" "expectedModCount" "I" (.int w3) := P160_4
  have N160 := Fr.app N159 N160q
  obtain ⟨T161, X161, e161, st161⟩ := castY X160 hx hZ hown (hw _ (List.mem_of_getElem? (i := 178) rfl)) rfl (Ins.self E_wt) (g := (mkF m 53 #[.val (.ref a1), .val (.int p2), .val (.ref li), .val (.ref b_158), .unset, .unset] [(.ref wt)])) rfl rfl (hb hby d20_53)
  obtain ⟨cl162, Ar162, hs162, hin162, hat162⟩ := ArI.open (j := (0 : Int32)) A_wt (by decide)
  have pre163 : ∀ t, Steps p.tables e below (T161.setTop (mkF m 62 #[.val (.ref a1), .val (.int p2), .val (.ref li), .val (.ref b_158), .val (.ref wt), .unset] [(.int pv)])) t → Steps p.tables e below (s₁.setTop (entryFrame m #[(.ref a1), (.int p2)] 6)) t := fun t k => pre0 t (by
    show Steps p.tables e below (s₁.setTop (mkF m 0 #[.val (.ref a1), .val (.int p2), .unset, .unset, .unset, .unset] [])) _
    refine XS.aloadN X0.here hx rfl (hb hby d20_0) rfl rfl ?_
    show Steps p.tables e below (s₁.setTop (mkF m 1 #[.val (.ref a1), .val (.int p2), .unset, .unset, .unset, .unset] [(.ref a1)])) _
    refine st150 _ ?_
    show Steps p.tables e below (T150.setTop (mkF m 4 #[.val (.ref a1), .val (.int p2), .unset, .unset, .unset, .unset] [(.ref ja)])) _
    refine XS.iloadN X150.here hx rfl (hb hby d20_4) rfl ?_
    show Steps p.tables e below (T150.setTop (mkF m 5 #[.val (.ref a1), .val (.int p2), .unset, .unset, .unset, .unset] [(.int p2), (.ref ja)])) _
    refine XS.aloadN X150.here hx rfl (hb hby d20_5) rfl rfl ?_
    show Steps p.tables e below (T150.setTop (mkF m 6 #[.val (.ref a1), .val (.int p2), .unset, .unset, .unset, .unset] [(.ref a1), (.int p2), (.ref ja)])) _
    refine XS.dup X150.here hx rfl (hb hby d20_6) rfl rfl ?_
    show Steps p.tables e below (T150.setTop (mkF m 7 #[.val (.ref a1), .val (.int p2), .unset, .unset, .unset, .unset] [(.ref a1), (.ref a1), (.int p2), (.ref ja)])) _
    refine st151 _ ?_
    show Steps p.tables e below (T151.setTop (mkF m 10 #[.val (.ref a1), .val (.int p2), .unset, .unset, .unset, .unset] [(.long w1), (.ref a1), (.int p2), (.ref ja)])) _
    jvm_step X151.here [X151.here.top, hx, (hb hby d20_10), Value.category]
    show Steps p.tables e below (T151.setTop (mkF m 11 #[.val (.ref a1), .val (.int p2), .unset, .unset, .unset, .unset] [(.long w1), (.ref a1), (.long w1), (.int p2), (.ref ja)])) _
    refine XS.lconst X151.here hx rfl (hb hby d20_11) ?_
    show Steps p.tables e below (T151.setTop (mkF m 12 #[.val (.ref a1), .val (.int p2), .unset, .unset, .unset, .unset] [(.long (1 : Int64)), (.long w1), (.ref a1), (.long w1), (.int p2), (.ref ja)])) _
    refine XS.ladd X151.here hx rfl (hb hby d20_12) rfl ?_
    show Steps p.tables e below (T151.setTop (mkF m 13 #[.val (.ref a1), .val (.int p2), .unset, .unset, .unset, .unset] [(.long (w1 + (1 : Int64))), (.ref a1), (.long w1), (.int p2), (.ref ja)])) _
    refine st152 _ ?_
    show Steps p.tables e below (T152.setTop (mkF m 16 #[.val (.ref a1), .val (.int p2), .unset, .unset, .unset, .unset] [(.long w1), (.int p2), (.ref ja)])) _
    refine st154 _ ?_
    show Steps p.tables e below (T154.setTop (mkF m 17 #[.val (.ref a1), .val (.int p2), .unset, .unset, .unset, .unset] [])) _
    refine XS.aloadN X154.here hx rfl (hb hby d20_17) rfl rfl ?_
    show Steps p.tables e below (T154.setTop (mkF m 18 #[.val (.ref a1), .val (.int p2), .unset, .unset, .unset, .unset] [(.ref a1)])) _
    refine st155 _ ?_
    show Steps p.tables e below (T155.setTop (mkF m 21 #[.val (.ref a1), .val (.int p2), .unset, .unset, .unset, .unset] [(.ref bl)])) _
    refine XS.iloadN X155.here hx rfl (hb hby d20_21) rfl ?_
    show Steps p.tables e below (T155.setTop (mkF m 22 #[.val (.ref a1), .val (.int p2), .unset, .unset, .unset, .unset] [(.int p2), (.ref bl)])) _
    refine st156.trans ?_
    show Steps p.tables e below (T156.setTop (mkF m 27 #[.val (.ref a1), .val (.int p2), .unset, .unset, .unset, .unset] [(.ref li)])) _
    refine st157 _ ?_
    show Steps p.tables e below (T157.setTop (mkF m 30 #[.val (.ref a1), .val (.int p2), .unset, .unset, .unset, .unset] [(.ref li)])) _
    refine XS.astoreN X157.here hx rfl (hb hby d20_30) rfl rfl (l' := #[.val (.ref a1), .val (.int p2), .val (.ref li), .unset, .unset, .unset]) rfl ?_
    show Steps p.tables e below (T157.setTop (mkF m 31 #[.val (.ref a1), .val (.int p2), .val (.ref li), .unset, .unset, .unset] [])) _
    refine XS.aloadN X157.here hx rfl (hb hby d20_31) rfl rfl ?_
    show Steps p.tables e below (T157.setTop (mkF m 32 #[.val (.ref a1), .val (.int p2), .val (.ref li), .unset, .unset, .unset] [(.ref li)])) _
    refine st158.trans ?_
    show Steps p.tables e below (T158.setTop (mkF m 37 #[.val (.ref a1), .val (.int p2), .val (.ref li), .unset, .unset, .unset] [(.ref b_158)])) _
    refine XS.astoreN X158.here hx rfl (hb hby d20_37) rfl rfl (l' := #[.val (.ref a1), .val (.int p2), .val (.ref li), .val (.ref b_158), .unset, .unset]) rfl ?_
    show Steps p.tables e below (T158.setTop (mkF m 38 #[.val (.ref a1), .val (.int p2), .val (.ref li), .val (.ref b_158), .unset, .unset] [])) _
    refine XS.aloadN X158.here hx rfl (hb hby d20_38) rfl rfl ?_
    show Steps p.tables e below (T158.setTop (mkF m 39 #[.val (.ref a1), .val (.int p2), .val (.ref li), .val (.ref b_158), .unset, .unset] [(.ref b_158)])) _
    refine st159.trans ?_
    show Steps p.tables e below (T159.setTop (mkF m 44 #[.val (.ref a1), .val (.int p2), .val (.ref li), .val (.ref b_158), .unset, .unset] [(.int (1 : Int32))])) _
    refine XS.ifNo X159.here hx rfl (hb hby d20_44) rfl ((if0 _ _).trans (feq (by decide)).1) ?_
    show Steps p.tables e below (T159.setTop (mkF m 47 #[.val (.ref a1), .val (.int p2), .val (.ref li), .val (.ref b_158), .unset, .unset] [])) _
    refine XS.aloadN X159.here hx rfl (hb hby d20_47) rfl rfl ?_
    show Steps p.tables e below (T159.setTop (mkF m 48 #[.val (.ref a1), .val (.int p2), .val (.ref li), .val (.ref b_158), .unset, .unset] [(.ref b_158)])) _
    refine st160.trans ?_
    show Steps p.tables e below (T160.setTop (mkF m 53 #[.val (.ref a1), .val (.int p2), .val (.ref li), .val (.ref b_158), .unset, .unset] [(.ref wt)])) _
    refine st161 _ ?_
    show Steps p.tables e below (T161.setTop (mkF m 56 #[.val (.ref a1), .val (.int p2), .val (.ref li), .val (.ref b_158), .unset, .unset] [(.ref wt)])) _
    refine XS.astore X161.here hx rfl (hb hby d20_56) rfl rfl (l' := #[.val (.ref a1), .val (.int p2), .val (.ref li), .val (.ref b_158), .val (.ref wt), .unset]) rfl ?_
    show Steps p.tables e below (T161.setTop (mkF m 58 #[.val (.ref a1), .val (.int p2), .val (.ref li), .val (.ref b_158), .val (.ref wt), .unset] [])) _
    refine XS.aload X161.here hx rfl (hb hby d20_58) rfl rfl ?_
    show Steps p.tables e below (T161.setTop (mkF m 60 #[.val (.ref a1), .val (.int p2), .val (.ref li), .val (.ref b_158), .val (.ref wt), .unset] [(.ref wt)])) _
    refine XS.iconst X161.here hx rfl (hb hby d20_60) ?_
    show Steps p.tables e below (T161.setTop (mkF m 61 #[.val (.ref a1), .val (.int p2), .val (.ref li), .val (.ref b_158), .val (.ref wt), .unset] [(.int (0 : Int32)), (.ref wt)])) _
    refine X161.iaload hx (j := (0 : Int32)) (v := (.int (fw (0 : Int32).toNatClampNeg))) (by rw [e161]; exact Ar162.1) (State.isArrayOf_alike hZ.alike Ar162.2.1) Ar162.2.2 hin162 hat162 (g := (mkF m 61 #[.val (.ref a1), .val (.int p2), .val (.ref li), .val (.ref b_158), .val (.ref wt), .unset] [(.int (0 : Int32)), (.ref wt)])) rfl rfl (hb hby d20_61) _ ?_
    show Steps p.tables e below (T161.setTop (mkF m 62 #[.val (.ref a1), .val (.int p2), .val (.ref li), .val (.ref b_158), .val (.ref wt), .unset] [(.int (fw (0 : Int32).toNatClampNeg))])) _
    rw [hw0]
    exact k)
  obtain ⟨cl164, Ar164, hs164, hin164, hat164⟩ := ArI.open (j := (1 : Int32)) A_wt (by decide)
  obtain ⟨T165, X165, e165, st165⟩ := getF X161 hx hZ hown (host := "") (Or.inl (hw _ (List.mem_of_getElem? (i := 11) rfl))) Via.refl e161 F_requests_a1 (g := (mkF m 69 #[.val (.ref a1), .val (.int p2), .val (.ref li), .val (.ref b_158), .val (.ref wt), .val (.int pv)] [(.ref a1), (.int (fw (1 : Int32).toNatClampNeg))])) rfl rfl (hb hby d20_69)
  obtain ⟨cl166, Ar166, hs166, hin166, hat166⟩ := ArI.open (j := pv) A_ra hpv
  obtain ⟨cq167, kq167, q167a, q167b, q167c⟩ := isOf hZ e165 E_b_158
  obtain ⟨_, _, ⟨T167, L167, k167, n167⟩, -, X167, ⟨Lc167, hQ167, l167, y167, z167⟩, st167⟩ := X165.interfaceBack hx (xi := (⟨"java/util/Iterator", "hasNext", "()Z"⟩ : MethodName)) (y := (⟨"java/util/ArrayList$Itr", "hasNext", "()Z"⟩ : MethodName)) hown (mvT hZ (hw _ (List.mem_of_getElem? (i := 152) rfl))) (mvT hZ (hw _ (List.mem_of_getElem? (i := 153) rfl))) (mvT hZ (hw _ (List.mem_of_getElem? (i := 154) rfl))) (mvT hZ (hw _ (List.mem_of_getElem? (i := 155) rfl))) (mvT hZ (hw _ (List.mem_of_getElem? (i := 156) rfl))) (mvT hZ (hw _ (List.mem_of_getElem? (i := 157) rfl))) (mvT hZ (hw _ (List.mem_of_getElem? (i := 158) rfl))) (mvT hZ (hw _ (List.mem_of_getElem? (i := 159) rfl))) (by decide) (backOf (W := 0) (rmH11 l Z a0 hw [] b_158 li T160.heap n0 Zs F_this_0_b_158 F_cursor_b_158 F_size_li) hZ (hw _ (List.mem_of_getElem? (i := 160) rfl)) (hw _ (List.mem_of_getElem? (i := 139) rfl)) (by decide) (by decide)) q167a q167b q167c (g := (mkF m 39 #[.val (.ref a1), .val (.int p2), .val (.ref li), .val (.ref b_158), .val (.ref wt), .val (.int pv)] [(.ref b_158)])) rfl (by rw [hml]; rfl) (Steps.refl _) (argsL := []) (rest := []) (lenOf pd_10 rfl) rfl (by show 2 * 0 + _ ≤ _; exact Nat.le_of_eq rfl) (hb hby d20_39) (fun _ _ => ⟨rfl, e165, (by decide : 1 + 0 ≤ _), (by decide : 4 + 0 ≤ _)⟩)
  dsimp only [Pt.U, Pt.locs, Pt.cells, Pt.slots] at X167 l167 y167 z167 st167 hQ167
  subst l167 y167 z167
  obtain ⟨rfl, N167q, e167⟩ := hQ167
  have N167 := Fr.app N160 N167q
  obtain ⟨cq168, kq168, q168a, q168b, q168c⟩ := isOf hZ e167 E_li
  obtain ⟨_, _, ⟨T168, L168, k168, n168⟩, -, X168, ⟨Lc168, hQ168, l168, y168, z168⟩, st168⟩ := X167.interfaceBack hx (xi := (⟨"java/util/List", "clear", "()V"⟩ : MethodName)) (y := (⟨"java/util/ArrayList", "clear", "()V"⟩ : MethodName)) hown (mvT hZ (hw _ (List.mem_of_getElem? (i := 180) rfl))) (mvT hZ (hw _ (List.mem_of_getElem? (i := 181) rfl))) (mvT hZ (hw _ (List.mem_of_getElem? (i := 182) rfl))) (mvT hZ (hw _ (List.mem_of_getElem? (i := 183) rfl))) (mvT hZ (hw _ (List.mem_of_getElem? (i := 184) rfl))) (mvT hZ (hw _ (List.mem_of_getElem? (i := 185) rfl))) (mvT hZ (hw _ (List.mem_of_getElem? (i := 186) rfl))) (mvT hZ (hw _ (List.mem_of_getElem? (i := 59) rfl))) (by decide) (backOf (W := 0) (rmC1 l Z a0 hw [] li eb w3 ke fe T160.heap n0 Zs E_li F_elementData_li F_size_li F_modCount_li g_li g_eb A_eb ne_li_eb) hZ (hw _ (List.mem_of_getElem? (i := 187) rfl)) (hw _ (List.mem_of_getElem? (i := 18) rfl)) (by decide) (by decide)) q168a q168b q168c (g := (mkF m 102 #[.val (.ref a1), .val (.int p2), .val (.ref li), .val (.ref b_158), .val (.ref wt), .val (.int pv)] [(.ref li)])) rfl (by rw [hml]; rfl) (Steps.refl _) (argsL := []) (rest := []) (lenOf pd_0 rfl) rfl (by show 2 * 0 + _ ≤ _; exact Nat.le_of_eq rfl) (hb hby d20_102) (fun _ _ => ⟨rfl, e167, (by decide : 1 + 0 ≤ _), (by decide : 4 + 0 ≤ _)⟩)
  dsimp only [Pt.U, Pt.locs, Pt.cells, Pt.slots] at X168 l168 y168 z168 st168 hQ168
  subst l168 y168 z168
  obtain ⟨rfl, N168q, K168, P168_1, P168_2, P168_3, P168_4⟩ := hQ168
  have Zs : n0 ≤ T168.heap.size := Nat.le_trans Zs K168.1
  have E_a1 : Exa Z T168.heap a1 "com/example/wachter/wachter/sim/QueueOrder" := E_a1.keep K168
  have F_requests_a1 : Fld Z T168.heap a1 "com/example/wachter/wachter/sim/QueueOrder" "requests" "[I" (.ref ra) := F_requests_a1.keep K168 (ninS ne_a1_li (ninS ne_a1_eb nin0))
  have F_joinedAs_a1 : Fld Z T168.heap a1 "com/example/wachter/wachter/sim/QueueOrder" "joinedAs" "[J" (.ref ja) := F_joinedAs_a1.keep K168 (ninS ne_a1_li (ninS ne_a1_eb nin0))
  have F_behind_a1 : Fld Z T168.heap a1 "com/example/wachter/wachter/sim/QueueOrder" "behind" "Ljava/util/List;" (.ref bl) := F_behind_a1.keep K168 (ninS ne_a1_li (ninS ne_a1_eb nin0))
  have F_joined_a1 : Fld Z T168.heap a1 "com/example/wachter/wachter/sim/QueueOrder" "joined" "J" (.long (w1 + (1 : Int64))) := F_joined_a1.keep K168 (ninS ne_a1_li (ninS ne_a1_eb nin0))
  have A_ja : ArJ Z T168.heap ja (4 : Int32) (upd f p2.toNatClampNeg w1) := A_ja.keep K168 (ninS ne_ja_li (ninS ne_ja_eb nin0))
  have A_ra : ArI Z T168.heap ra (4 : Int32) fr := A_ra.keep K168 (ninS ne_ra_li (ninS ne_ra_eb nin0))
  have E_bl : Exa Z T168.heap bl "java/util/ArrayList" := E_bl.keep K168
  have F_elementData_bl : Fld Z T168.heap bl "java/util/ArrayList" "elementData" "[Ljava/lang/Object;" (.ref bd) := F_elementData_bl.keep K168 (ninS ne_bl_li (ninS ne_bl_eb nin0))
  have F_size_bl : Fld Z T168.heap bl "java/util/ArrayList" "size" "I" (.int (4 : Int32)) := F_size_bl.keep K168 (ninS ne_bl_li (ninS ne_bl_eb nin0))
  have F_modCount_bl : Fld Z T168.heap bl "java/util/AbstractList" "modCount" "I" (.int wm) := F_modCount_bl.keep K168 (ninS ne_bl_li (ninS ne_bl_eb nin0))
  have A_bd : ArR Z T168.heap bd kb "java/lang/Object" (4 : Int32) fb := A_bd.keep K168 (ninS ne_bd_li (ninS ne_bd_eb nin0))
  have E_li : Exa Z T168.heap li "java/util/ArrayList" := E_li.keep K168
  have E_wt : Exa Z T168.heap wt "[I" := E_wt.keep K168
  have A_wt : ArI Z T168.heap wt (2 : Int32) fw := A_wt.keep K168 (ninS (Ne.symm ne_li_wt) (ninS (Ne.symm ne_eb_wt) nin0))
  have Kp : Keep h0 T168.heap [a1, ja, li, eb] := Kp.trans K168 (allS (Or.inl (List.mem_of_getElem? (i := 2) rfl)) (allS (Or.inl (List.mem_of_getElem? (i := 3) rfl)) all0))
  have E_b_158 : Exa Z T168.heap b_158 "java/util/ArrayList$Itr" := E_b_158.keep K168
  have F_this_0_b_158 : Fld Z T168.heap b_158 "java/util/ArrayList$Itr" "this$0" "Ljava/util/ArrayList;" (.ref li) := F_this_0_b_158.keep K168 (ninS (Ne.symm ne_li_b_158) (ninS (Ne.symm ne_eb_b_158) nin0))
  have F_cursor_b_158 : Fld Z T168.heap b_158 "java/util/ArrayList$Itr" "cursor" "I" (.int (1 : Int32)) := F_cursor_b_158.keep K168 (ninS (Ne.symm ne_li_b_158) (ninS (Ne.symm ne_eb_b_158) nin0))
  have F_lastRet_b_158 : Fld Z T168.heap b_158 "java/util/ArrayList$Itr" "lastRet" "I" (.int (0 : Int32)) := F_lastRet_b_158.keep K168 (ninS (Ne.symm ne_li_b_158) (ninS (Ne.symm ne_eb_b_158) nin0))
  have F_expectedModCount_b_158 : Fld Z T168.heap b_158 "java/util/ArrayList$Itr" "expectedModCount" "I" (.int w3) := F_expectedModCount_b_158.keep K168 (ninS (Ne.symm ne_li_b_158) (ninS (Ne.symm ne_eb_b_158) nin0))
  have F_elementData_li : Fld Z T168.heap li "java/util/ArrayList" "elementData" "[Ljava/lang/Object;" (.ref eb) := P168_1
  have F_size_li : Fld Z T168.heap li "java/util/ArrayList" "size" "I" (.int (0 : Int32)) := P168_2
  have F_modCount_li : Fld Z T168.heap li "java/util/AbstractList" "modCount" "I" (.int (w3 + (1 : Int32))) := P168_3
  have A_eb : ArR Z T168.heap eb ke "java/lang/Object" (10 : Int32) (upd fe (0 : Int32).toNatClampNeg .null) := P168_4
  have N168 := Fr.app N167 N168q
  obtain ⟨fs, hr, hrun, hended, hW, hsame⟩ := X168.leave (v := none) (fun _ => rfl)
  refine ⟨_, _, pre163 _ ?_, hrun, hended, _, _, rfl, ?_, ⟨_, rfl⟩, hW, hsame.mono (by decide) (by decide)⟩
  · show Steps p.tables e below (T161.setTop (mkF m 62 #[.val (.ref a1), .val (.int p2), .val (.ref li), .val (.ref b_158), .val (.ref wt), .unset] [(.int pv)])) _
    refine XS.istore X161.here hx rfl (hb hby d20_62) rfl (l' := #[.val (.ref a1), .val (.int p2), .val (.ref li), .val (.ref b_158), .val (.ref wt), .val (.int pv)]) rfl ?_
    show Steps p.tables e below (T161.setTop (mkF m 64 #[.val (.ref a1), .val (.int p2), .val (.ref li), .val (.ref b_158), .val (.ref wt), .val (.int pv)] [])) _
    refine XS.aload X161.here hx rfl (hb hby d20_64) rfl rfl ?_
    show Steps p.tables e below (T161.setTop (mkF m 66 #[.val (.ref a1), .val (.int p2), .val (.ref li), .val (.ref b_158), .val (.ref wt), .val (.int pv)] [(.ref wt)])) _
    refine XS.iconst X161.here hx rfl (hb hby d20_66) ?_
    show Steps p.tables e below (T161.setTop (mkF m 67 #[.val (.ref a1), .val (.int p2), .val (.ref li), .val (.ref b_158), .val (.ref wt), .val (.int pv)] [(.int (1 : Int32)), (.ref wt)])) _
    refine X161.iaload hx (j := (1 : Int32)) (v := (.int (fw (1 : Int32).toNatClampNeg))) (by rw [e161]; exact Ar164.1) (State.isArrayOf_alike hZ.alike Ar164.2.1) Ar164.2.2 hin164 hat164 (g := (mkF m 67 #[.val (.ref a1), .val (.int p2), .val (.ref li), .val (.ref b_158), .val (.ref wt), .val (.int pv)] [(.int (1 : Int32)), (.ref wt)])) rfl rfl (hb hby d20_67) _ ?_
    show Steps p.tables e below (T161.setTop (mkF m 68 #[.val (.ref a1), .val (.int p2), .val (.ref li), .val (.ref b_158), .val (.ref wt), .val (.int pv)] [(.int (fw (1 : Int32).toNatClampNeg))])) _
    refine XS.aloadN X161.here hx rfl (hb hby d20_68) rfl rfl ?_
    show Steps p.tables e below (T161.setTop (mkF m 69 #[.val (.ref a1), .val (.int p2), .val (.ref li), .val (.ref b_158), .val (.ref wt), .val (.int pv)] [(.ref a1), (.int (fw (1 : Int32).toNatClampNeg))])) _
    refine st165 _ ?_
    show Steps p.tables e below (T165.setTop (mkF m 72 #[.val (.ref a1), .val (.int p2), .val (.ref li), .val (.ref b_158), .val (.ref wt), .val (.int pv)] [(.ref ra), (.int (fw (1 : Int32).toNatClampNeg))])) _
    refine XS.iload X165.here hx rfl (hb hby d20_72) rfl ?_
    show Steps p.tables e below (T165.setTop (mkF m 74 #[.val (.ref a1), .val (.int p2), .val (.ref li), .val (.ref b_158), .val (.ref wt), .val (.int pv)] [(.int pv), (.ref ra), (.int (fw (1 : Int32).toNatClampNeg))])) _
    refine X165.iaload hx (j := pv) (v := (.int (fr pv.toNatClampNeg))) (by rw [e165]; exact Ar166.1) (State.isArrayOf_alike hZ.alike Ar166.2.1) Ar166.2.2 hin166 hat166 (g := (mkF m 74 #[.val (.ref a1), .val (.int p2), .val (.ref li), .val (.ref b_158), .val (.ref wt), .val (.int pv)] [(.int pv), (.ref ra), (.int (fw (1 : Int32).toNatClampNeg))])) rfl rfl (hb hby d20_74) _ ?_
    show Steps p.tables e below (T165.setTop (mkF m 75 #[.val (.ref a1), .val (.int p2), .val (.ref li), .val (.ref b_158), .val (.ref wt), .val (.int pv)] [(.int (fr pv.toNatClampNeg)), (.int (fw (1 : Int32).toNatClampNeg))])) _
    refine XS.icmpYes X165.here hx rfl (pc0 := 75) (pc' := 98) rfl (hb hby d20_75) rfl (feq hreq).2 (by decide) (by decide) ?_
    show Steps p.tables e below (T165.setTop (mkF m 98 #[.val (.ref a1), .val (.int p2), .val (.ref li), .val (.ref b_158), .val (.ref wt), .val (.int pv)] [])) _
    refine XS.goto X165.here hx rfl (pc0 := 98) (pc' := 38) rfl (hb hby d20_98) (by decide) (by decide) ?_
    show Steps p.tables e below (T165.setTop (mkF m 38 #[.val (.ref a1), .val (.int p2), .val (.ref li), .val (.ref b_158), .val (.ref wt), .val (.int pv)] [])) _
    refine XS.aloadN X165.here hx rfl (hb hby d20_38) rfl rfl ?_
    show Steps p.tables e below (T165.setTop (mkF m 39 #[.val (.ref a1), .val (.int p2), .val (.ref li), .val (.ref b_158), .val (.ref wt), .val (.int pv)] [(.ref b_158)])) _
    refine st167.trans ?_
    show Steps p.tables e below (T167.setTop (mkF m 44 #[.val (.ref a1), .val (.int p2), .val (.ref li), .val (.ref b_158), .val (.ref wt), .val (.int pv)] [(.int (0 : Int32))])) _
    refine XS.ifYes X167.here hx rfl (pc0 := 44) (pc' := 101) rfl (hb hby d20_44) rfl ((if0 _ _).trans (teq (by decide)).1) (by decide) (by decide) ?_
    show Steps p.tables e below (T167.setTop (mkF m 101 #[.val (.ref a1), .val (.int p2), .val (.ref li), .val (.ref b_158), .val (.ref wt), .val (.int pv)] [])) _
    refine XS.aloadN X167.here hx rfl (hb hby d20_101) rfl rfl ?_
    show Steps p.tables e below (T167.setTop (mkF m 102 #[.val (.ref a1), .val (.int p2), .val (.ref li), .val (.ref b_158), .val (.ref wt), .val (.int pv)] [(.ref li)])) _
    refine st168.trans ?_
    show Steps p.tables e below (T168.setTop (mkF m 107 #[.val (.ref a1), .val (.int p2), .val (.ref li), .val (.ref b_158), .val (.ref wt), .val (.int pv)] [])) _
    exact X168.returnOut hx Bd.returns (hb hby d20_107) hr
  · show QJs Z a1 p2 ra ja bl bd kb fb wm w1 f fr li eb w3 ke fe wt fw pv h0 n0 _ T168.heap _
    exact ⟨rfl, N168, Kp, F_requests_a1, F_joinedAs_a1, F_behind_a1, F_joined_a1, A_ja, F_elementData_li, F_size_li, F_modCount_li, A_eb⟩
def QGN (Z : State) (a1 : Addr) (p2 : Int32) (ja : Addr) (f : Nat → Int64) (h0 : Heap) (n0 : Nat) (v : Option Value) (h : Heap) (L : List Loc) : Prop := v = some (.long (f p2.toNatClampNeg)) ∧ Fr n0 L ∧ h = h0
theorem ef_GN (m : MethodId) (a1 : Addr) (p2 : Int32) : entryFrame m #[(.ref a1), (.int p2)] 2 = mkF m 0 #[.val (.ref a1), .val (.int p2)] [] := by first | (simp [entryFrame, mkF, argsToLocals, Value.category]; done) | rfl
set_option maxRecDepth 65536 in
set_option maxHeartbeats 40000000 in
theorem rmGN (l : Launch) (Z : State) (a0 : Array Value) (hw : ∀ d ∈ tables_1, d.before a0 Z = true) (ws : List Jvm.Cond) (a1 : Addr) (p2 : Int32) (ja : Addr) (f : Nat → Int64) (h0 : Heap) (n0 : Nat) (Zs : n0 ≤ h0.size) (F_joinedAs_a1 : Fld Z h0 a1 "com/example/wachter/wachter/sim/QueueOrder" "joinedAs" "[J" (.ref ja)) (A_ja : ArJ Z h0 ja (4 : Int32) f) (hi : ¬ p2 < (0 : Int32) ∧ p2 < (4 : Int32)) (hf : ¬ (f p2.toNatClampNeg) = (-1 : Int64)) :
    MetFree l (⟨"com/example/wachter/wachter/sim/QueueOrder", "granted", "(I)J"⟩ : MethodName) (head1 (Jvm.Cond.code (⟨"com/example/wachter/wachter/sim/QueueOrder", "granted", "(I)J"⟩ : MethodName) prog_41_method_4_code 2 (some .long) :: ws) ({ frames := 0, cells := 0, slots := 0, locals := 0 } : Room)) (fun a U => a = #[(.ref a1), (.int p2)] ∧ Z.Warmed39 U.vm ∧ U.heap = h0) (fun _ _ _ _ _ => True) (fun _ U o U' => ∃ v L, o = .returned v ∧ QGN Z a1 p2 ja f h0 n0 v U'.heap L ∧ FrameEnd U o U' L ({ frames := 0, cells := 0, slots := 0, locals := 0 } : Room).cells ({ frames := 0, cells := 0, slots := 0, locals := 0 } : Room).slots) := by
  refine MetFree.of_bodySF (plainFor_of_name pn_7) hisR ?_
  intro p e s m args below meth c s₁ Bd hml0 hP hK
  obtain ⟨rfl, hZ, hh⟩ := hP
  have hx := Bd.exec
  have hby := Bd.bytes
  have hml : c.maxLocals = 2 := hml0
  have hown : s.vm.findClass "com/example/wachter/wachter/sim/QueueOrder" = some m.cls := findClass_of_methodNamed Bd.named
  have hnm := (name_of_methodNamed Bd.named Bd.method).1
  have X0 : Stand p l e ({ frames := 0, cells := 0, slots := 0, locals := 0 } : Room) s m #[(.ref a1), (.int p2)] below meth c s₁ [] 0 0 := Stand.of_body Bd
  have e0 : s₁.heap = h0 := by rw [← hh, Bd.state]; rfl
  have N0 := Fr.nil n0
  have pre0 : ∀ t, Steps p.tables e below (s₁.setTop (mkF m 0 #[.val (.ref a1), .val (.int p2)] [])) t → Steps p.tables e below (s₁.setTop (entryFrame m #[(.ref a1), (.int p2)] 2)) t := fun t k => castTop (ef_GN m a1 p2) k
  obtain ⟨T169, X169, e169, st169⟩ := getF X0 hx hZ hown (host := "") (Or.inl (hw _ (List.mem_of_getElem? (i := 14) rfl))) Via.refl e0 F_joinedAs_a1 (g := (mkF m 1 #[.val (.ref a1), .val (.int p2)] [(.ref a1)])) rfl rfl (hb hby d19_1)
  obtain ⟨cl170, Ar170, hs170, hin170, hat170⟩ := ArJ.open (j := p2) A_ja hi
  obtain ⟨T171, X171, e171, st171⟩ := getF X169 hx hZ hown (host := "") (Or.inl (hw _ (List.mem_of_getElem? (i := 14) rfl))) Via.refl e169 F_joinedAs_a1 (g := (mkF m 19 #[.val (.ref a1), .val (.int p2)] [(.ref a1)])) rfl rfl (hb hby d19_19)
  obtain ⟨cl172, Ar172, hs172, hin172, hat172⟩ := ArJ.open (j := p2) A_ja hi
  obtain ⟨fs, hr, hrun, hended, hW, hsame⟩ := X171.leave (v := some (.long (f p2.toNatClampNeg))) (fun h => by rw [Bd.returns] at h; cases h)
  refine ⟨_, _, pre0 _ ?_, hrun, hended, _, _, rfl, ?_, ⟨_, rfl⟩, hW, hsame.mono (by decide) (by decide)⟩
  · show Steps p.tables e below (s₁.setTop (mkF m 0 #[.val (.ref a1), .val (.int p2)] [])) _
    refine XS.aloadN X0.here hx rfl (hb hby d19_0) rfl rfl ?_
    show Steps p.tables e below (s₁.setTop (mkF m 1 #[.val (.ref a1), .val (.int p2)] [(.ref a1)])) _
    refine st169 _ ?_
    show Steps p.tables e below (T169.setTop (mkF m 4 #[.val (.ref a1), .val (.int p2)] [(.ref ja)])) _
    refine XS.iloadN X169.here hx rfl (hb hby d19_4) rfl ?_
    show Steps p.tables e below (T169.setTop (mkF m 5 #[.val (.ref a1), .val (.int p2)] [(.int p2), (.ref ja)])) _
    refine X169.laload hx (j := p2) (v := (.long (f p2.toNatClampNeg))) (by rw [e169]; exact Ar170.1) (State.isArrayOf_alike hZ.alike Ar170.2.1) Ar170.2.2 hin170 hat170 (g := (mkF m 5 #[.val (.ref a1), .val (.int p2)] [(.int p2), (.ref ja)])) rfl rfl (hb hby d19_5) _ ?_
    show Steps p.tables e below (T169.setTop (mkF m 6 #[.val (.ref a1), .val (.int p2)] [(.long (f p2.toNatClampNeg))])) _
    refine X169.ldc2Long hx hown (mvT hZ (hw _ (List.mem_of_getElem? (i := 43) rfl))) (g := (mkF m 6 #[.val (.ref a1), .val (.int p2)] [(.long (f p2.toNatClampNeg))])) rfl (hb hby d19_6) _ ?_
    show Steps p.tables e below (T169.setTop (mkF m 9 #[.val (.ref a1), .val (.int p2)] [(.long (-1 : Int64)), (.long (f p2.toNatClampNeg))])) _
    refine XS.lcmp X169.here hx rfl (hb hby d19_9) rfl ?_
    show Steps p.tables e below (T169.setTop (mkF m 10 #[.val (.ref a1), .val (.int p2)] [(.int (lcmpW (f p2.toNatClampNeg) (-1 : Int64)))])) _
    refine XS.ifYes X169.here hx rfl (pc0 := 10) (pc' := 18) rfl (hb hby d19_10) rfl ((if0 _ _).trans (feq (fun q => hf ((lw_eq (f p2.toNatClampNeg) (-1 : Int64)).mp q))).2) (by decide) (by decide) ?_
    show Steps p.tables e below (T169.setTop (mkF m 18 #[.val (.ref a1), .val (.int p2)] [])) _
    refine XS.aloadN X169.here hx rfl (hb hby d19_18) rfl rfl ?_
    show Steps p.tables e below (T169.setTop (mkF m 19 #[.val (.ref a1), .val (.int p2)] [(.ref a1)])) _
    refine st171 _ ?_
    show Steps p.tables e below (T171.setTop (mkF m 22 #[.val (.ref a1), .val (.int p2)] [(.ref ja)])) _
    refine XS.iloadN X171.here hx rfl (hb hby d19_22) rfl ?_
    show Steps p.tables e below (T171.setTop (mkF m 23 #[.val (.ref a1), .val (.int p2)] [(.int p2), (.ref ja)])) _
    refine X171.laload hx (j := p2) (v := (.long (f p2.toNatClampNeg))) (by rw [e171]; exact Ar172.1) (State.isArrayOf_alike hZ.alike Ar172.2.1) Ar172.2.2 hin172 hat172 (g := (mkF m 23 #[.val (.ref a1), .val (.int p2)] [(.int p2), (.ref ja)])) rfl rfl (hb hby d19_23) _ ?_
    show Steps p.tables e below (T171.setTop (mkF m 24 #[.val (.ref a1), .val (.int p2)] [(.long (f p2.toNatClampNeg))])) _
    exact retOut X171 hx Bd.returns rfl (Or.inr (Or.inl ⟨rfl, rfl, _, rfl⟩)) (hb hby d19_24) hr
  · show QGN Z a1 p2 ja f h0 n0 _ T171.heap _
    rw [e171]
    exact ⟨rfl, N0, rfl⟩
def QG0 (Z : State) (a1 : Addr) (p2 : Int32) (ra : Addr) (ja : Addr) (bl : Addr) (bd : Addr) (kb : ClassId) (fb : Nat → Value) (wm : Int32) (w1 : Int64) (f : Nat → Int64) (li : Addr) (e1 : Addr) (w3 : Int32) (h0 : Heap) (n0 : Nat) (v : Option Value) (h : Heap) (L : List Loc) : Prop := v = some (.long ((upd f p2.toNatClampNeg w1) p2.toNatClampNeg)) ∧ Fr n0 L ∧ (Keep h0 h [a1, ja, li]) ∧ (Fld Z h a1 "com/example/wachter/wachter/sim/QueueOrder" "requests" "[I" (.ref ra)) ∧ (Fld Z h a1 "com/example/wachter/wachter/sim/QueueOrder" "joinedAs" "[J" (.ref ja)) ∧ (Fld Z h a1 "com/example/wachter/wachter/sim/QueueOrder" "behind" "Ljava/util/List;" (.ref bl)) ∧ (Fld Z h a1 "com/example/wachter/wachter/sim/QueueOrder" "joined" "J" (.long (w1 + (1 : Int64)))) ∧ (ArJ Z h ja (4 : Int32) (upd f p2.toNatClampNeg w1)) ∧ (Fld Z h li "java/util/ArrayList" "elementData" "[Ljava/lang/Object;" (.ref e1)) ∧ (Fld Z h li "java/util/ArrayList" "size" "I" (.int (0 : Int32))) ∧ (Fld Z h li "java/util/AbstractList" "modCount" "I" (.int (w3 + (1 : Int32))))
theorem ef_G0 (m : MethodId) (a1 : Addr) (p2 : Int32) : entryFrame m #[(.ref a1), (.int p2)] 2 = mkF m 0 #[.val (.ref a1), .val (.int p2)] [] := by first | (simp [entryFrame, mkF, argsToLocals, Value.category]; done) | rfl
set_option maxRecDepth 65536 in
set_option maxHeartbeats 40000000 in
theorem rmG0 (l : Launch) (Z : State) (a0 : Array Value) (hw : ∀ d ∈ tables_1, d.before a0 Z = true) (ws : List Jvm.Cond) (a1 : Addr) (p2 : Int32) (ra : Addr) (ja : Addr) (bl : Addr) (bd : Addr) (kb : ClassId) (fb : Nat → Value) (wm : Int32) (w1 : Int64) (f : Nat → Int64) (li : Addr) (e1 : Addr) (w3 : Int32) (h0 : Heap) (n0 : Nat) (Zs : n0 ≤ h0.size) (E_a1 : Exa Z h0 a1 "com/example/wachter/wachter/sim/QueueOrder") (F_requests_a1 : Fld Z h0 a1 "com/example/wachter/wachter/sim/QueueOrder" "requests" "[I" (.ref ra)) (F_joinedAs_a1 : Fld Z h0 a1 "com/example/wachter/wachter/sim/QueueOrder" "joinedAs" "[J" (.ref ja)) (F_behind_a1 : Fld Z h0 a1 "com/example/wachter/wachter/sim/QueueOrder" "behind" "Ljava/util/List;" (.ref bl)) (F_joined_a1 : Fld Z h0 a1 "com/example/wachter/wachter/sim/QueueOrder" "joined" "J" (.long w1)) (A_ja : ArJ Z h0 ja (4 : Int32) f) (g_a1 : n0 ≤ a1) (g_ja : n0 ≤ ja) (g_li : n0 ≤ li) (E_bl : Exa Z h0 bl "java/util/ArrayList") (F_elementData_bl : Fld Z h0 bl "java/util/ArrayList" "elementData" "[Ljava/lang/Object;" (.ref bd)) (F_size_bl : Fld Z h0 bl "java/util/ArrayList" "size" "I" (.int (4 : Int32))) (F_modCount_bl : Fld Z h0 bl "java/util/AbstractList" "modCount" "I" (.int wm)) (A_bd : ArR Z h0 bd kb "java/lang/Object" (4 : Int32) fb) (E_li : Exa Z h0 li "java/util/ArrayList") (F_elementData_li : Fld Z h0 li "java/util/ArrayList" "elementData" "[Ljava/lang/Object;" (.ref e1)) (F_size_li : Fld Z h0 li "java/util/ArrayList" "size" "I" (.int (0 : Int32))) (F_modCount_li : Fld Z h0 li "java/util/AbstractList" "modCount" "I" (.int w3)) (ne_a1_ja : a1 ≠ ja) (ne_a1_bl : a1 ≠ bl) (ne_a1_bd : a1 ≠ bd) (ne_a1_li : a1 ≠ li) (ne_ja_bl : ja ≠ bl) (ne_ja_bd : ja ≠ bd) (ne_ja_li : ja ≠ li) (ne_bl_bd : bl ≠ bd) (ne_bl_li : bl ≠ li) (ne_bd_li : bd ≠ li) (hi : ¬ p2 < (0 : Int32) ∧ p2 < (4 : Int32)) (hB : fb p2.toNatClampNeg = .ref li) (hf : (f p2.toNatClampNeg) = (-1 : Int64)) :
    MetFree l (⟨"com/example/wachter/wachter/sim/QueueOrder", "granted", "(I)J"⟩ : MethodName) (head1 (Jvm.Cond.code (⟨"com/example/wachter/wachter/sim/QueueOrder", "granted", "(I)J"⟩ : MethodName) prog_41_method_4_code 2 (some .long) :: ws) ({ frames := 4, cells := 1, slots := 4, locals := 57 } : Room)) (fun a U => a = #[(.ref a1), (.int p2)] ∧ Z.Warmed39 U.vm ∧ U.heap = h0) (fun _ _ _ _ _ => True) (fun _ U o U' => ∃ v L, o = .returned v ∧ QG0 Z a1 p2 ra ja bl bd kb fb wm w1 f li e1 w3 h0 n0 v U'.heap L ∧ FrameEnd U o U' L ({ frames := 4, cells := 1, slots := 4, locals := 57 } : Room).cells ({ frames := 4, cells := 1, slots := 4, locals := 57 } : Room).slots) := by
  refine MetFree.of_bodySF (plainFor_of_name pn_7) hisR ?_
  intro p e s m args below meth c s₁ Bd hml0 hP hK
  obtain ⟨rfl, hZ, hh⟩ := hP
  have hx := Bd.exec
  have hby := Bd.bytes
  have hml : c.maxLocals = 2 := hml0
  have hown : s.vm.findClass "com/example/wachter/wachter/sim/QueueOrder" = some m.cls := findClass_of_methodNamed Bd.named
  have hnm := (name_of_methodNamed Bd.named Bd.method).1
  have X0 : Stand p l e ({ frames := 4, cells := 1, slots := 4, locals := 57 } : Room) s m #[(.ref a1), (.int p2)] below meth c s₁ [] 0 0 := Stand.of_body Bd
  have e0 : s₁.heap = h0 := by rw [← hh, Bd.state]; rfl
  have N0 := Fr.nil n0
  have pre0 : ∀ t, Steps p.tables e below (s₁.setTop (mkF m 0 #[.val (.ref a1), .val (.int p2)] [])) t → Steps p.tables e below (s₁.setTop (entryFrame m #[(.ref a1), (.int p2)] 2)) t := fun t k => castTop (ef_G0 m a1 p2) k
  have Kp : Keep h0 h0 [a1, ja, li] := Keep.refl h0 [a1, ja, li]
  obtain ⟨T173, X173, e173, st173⟩ := getF X0 hx hZ hown (host := "") (Or.inl (hw _ (List.mem_of_getElem? (i := 14) rfl))) Via.refl e0 F_joinedAs_a1 (g := (mkF m 1 #[.val (.ref a1), .val (.int p2)] [(.ref a1)])) rfl rfl (hb hby d19_1)
  obtain ⟨cl174, Ar174, hs174, hin174, hat174⟩ := ArJ.open (j := p2) A_ja hi
  obtain ⟨cq175, q175, q175'⟩ := E_a1.cell
  obtain ⟨_, _, ⟨T175, L175, k175, n175⟩, -, X175, ⟨Lc175, hQ175, l175, y175, z175⟩, st175⟩ := X173.privateBack hx (y := (⟨"com/example/wachter/wachter/sim/QueueOrder", "join", "(I)V"⟩ : MethodName)) hown (mvT hZ (hw _ (List.mem_of_getElem? (i := 125) rfl))) (mvT hZ (hw _ (List.mem_of_getElem? (i := 126) rfl))) (own_sel hZ (hw _ (List.mem_of_getElem? (i := 2) rfl)) (hw _ (List.mem_of_getElem? (i := 127) rfl)) (hw _ (List.mem_of_getElem? (i := 126) rfl)) (by decide)) (Cond.privateMethod_at (mvP hZ (hw _ (List.mem_of_getElem? (i := 127) rfl)) (args := #[]))) (mvT hZ (hw _ (List.mem_of_getElem? (i := 128) rfl))) (by decide) (backOf (W := 0) (rmJ0 l Z a0 hw [] a1 p2 ra ja bl bd kb fb wm w1 f li e1 w3 h0 n0 Zs E_a1 F_requests_a1 F_joinedAs_a1 F_behind_a1 F_joined_a1 A_ja g_a1 g_ja g_li E_bl F_elementData_bl F_size_bl F_modCount_bl A_bd E_li F_elementData_li F_size_li F_modCount_li ne_a1_ja ne_a1_bl ne_a1_bd ne_a1_li ne_ja_bl ne_ja_bd ne_ja_li ne_bl_bd ne_bl_li ne_bd_li hi hB) hZ (hw _ (List.mem_of_getElem? (i := 128) rfl)) (hw _ (List.mem_of_getElem? (i := 3) rfl)) (by decide) (by decide)) (g := (mkF m 15 #[.val (.ref a1), .val (.int p2)] [(.int p2), (.ref a1)])) rfl (by rw [hml]; rfl) (Steps.refl _) (a := a1) (by rw [e173]; exact q175) q175' (argsL := [(.int p2)]) (rest := []) (lenOf pd_12 rfl) rfl (by show 2 * 0 + _ ≤ _; exact Nat.le_of_eq rfl) (hb hby d19_15) (fun _ _ => ⟨rfl, e173, (by decide : 0 + 1 ≤ _), (by decide : 0 + 4 ≤ _)⟩)
  dsimp only [Pt.U, Pt.locs, Pt.cells, Pt.slots] at X175 l175 y175 z175 st175 hQ175
  subst l175 y175 z175
  obtain ⟨rfl, N175q, K175, P175_1, P175_2, P175_3, P175_4, P175_5, P175_6, P175_7, P175_8⟩ := hQ175
  have Zs : n0 ≤ T175.heap.size := Nat.le_trans Zs K175.1
  have E_a1 : Exa Z T175.heap a1 "com/example/wachter/wachter/sim/QueueOrder" := E_a1.keep K175
  have E_bl : Exa Z T175.heap bl "java/util/ArrayList" := E_bl.keep K175
  have F_elementData_bl : Fld Z T175.heap bl "java/util/ArrayList" "elementData" "[Ljava/lang/Object;" (.ref bd) := F_elementData_bl.keep K175 (ninS (Ne.symm ne_a1_bl) (ninS (Ne.symm ne_ja_bl) (ninS ne_bl_li nin0)))
  have F_size_bl : Fld Z T175.heap bl "java/util/ArrayList" "size" "I" (.int (4 : Int32)) := F_size_bl.keep K175 (ninS (Ne.symm ne_a1_bl) (ninS (Ne.symm ne_ja_bl) (ninS ne_bl_li nin0)))
  have F_modCount_bl : Fld Z T175.heap bl "java/util/AbstractList" "modCount" "I" (.int wm) := F_modCount_bl.keep K175 (ninS (Ne.symm ne_a1_bl) (ninS (Ne.symm ne_ja_bl) (ninS ne_bl_li nin0)))
  have A_bd : ArR Z T175.heap bd kb "java/lang/Object" (4 : Int32) fb := A_bd.keep K175 (ninS (Ne.symm ne_a1_bd) (ninS (Ne.symm ne_ja_bd) (ninS ne_bd_li nin0)))
  have E_li : Exa Z T175.heap li "java/util/ArrayList" := E_li.keep K175
  have Kp : Keep h0 T175.heap [a1, ja, li] := Kp.trans K175 (allS (Or.inl (List.mem_of_getElem? (i := 0) rfl)) (allS (Or.inl (List.mem_of_getElem? (i := 1) rfl)) (allS (Or.inl (List.mem_of_getElem? (i := 2) rfl)) all0)))
  have F_requests_a1 : Fld Z T175.heap a1 "com/example/wachter/wachter/sim/QueueOrder" "requests" "[I" (.ref ra) := P175_1
  have F_joinedAs_a1 : Fld Z T175.heap a1 "com/example/wachter/wachter/sim/QueueOrder" "joinedAs" "[J" (.ref ja) := P175_2
  have F_behind_a1 : Fld Z T175.heap a1 "com/example/wachter/wachter/sim/QueueOrder" "behind" "Ljava/util/List;" (.ref bl) := P175_3
  have F_joined_a1 : Fld Z T175.heap a1 "com/example/wachter/wachter/sim/QueueOrder" "joined" "J" (.long (w1 + (1 : Int64))) := P175_4
  have A_ja : ArJ Z T175.heap ja (4 : Int32) (upd f p2.toNatClampNeg w1) := P175_5
  have F_elementData_li : Fld Z T175.heap li "java/util/ArrayList" "elementData" "[Ljava/lang/Object;" (.ref e1) := P175_6
  have F_size_li : Fld Z T175.heap li "java/util/ArrayList" "size" "I" (.int (0 : Int32)) := P175_7
  have F_modCount_li : Fld Z T175.heap li "java/util/AbstractList" "modCount" "I" (.int (w3 + (1 : Int32))) := P175_8
  have N175 := Fr.app N0 N175q
  obtain ⟨T176, X176, e176, st176⟩ := getF X175 hx hZ hown (host := "") (Or.inl (hw _ (List.mem_of_getElem? (i := 14) rfl))) Via.refl rfl F_joinedAs_a1 (g := (mkF m 19 #[.val (.ref a1), .val (.int p2)] [(.ref a1)])) rfl rfl (hb hby d19_19)
  obtain ⟨cl177, Ar177, hs177, hin177, hat177⟩ := ArJ.open (j := p2) A_ja hi
  obtain ⟨fs, hr, hrun, hended, hW, hsame⟩ := X176.leave (v := some (.long ((upd f p2.toNatClampNeg w1) p2.toNatClampNeg))) (fun h => by rw [Bd.returns] at h; cases h)
  refine ⟨_, _, pre0 _ ?_, hrun, hended, _, _, rfl, ?_, ⟨_, rfl⟩, hW, hsame.mono (by decide) (by decide)⟩
  · show Steps p.tables e below (s₁.setTop (mkF m 0 #[.val (.ref a1), .val (.int p2)] [])) _
    refine XS.aloadN X0.here hx rfl (hb hby d19_0) rfl rfl ?_
    show Steps p.tables e below (s₁.setTop (mkF m 1 #[.val (.ref a1), .val (.int p2)] [(.ref a1)])) _
    refine st173 _ ?_
    show Steps p.tables e below (T173.setTop (mkF m 4 #[.val (.ref a1), .val (.int p2)] [(.ref ja)])) _
    refine XS.iloadN X173.here hx rfl (hb hby d19_4) rfl ?_
    show Steps p.tables e below (T173.setTop (mkF m 5 #[.val (.ref a1), .val (.int p2)] [(.int p2), (.ref ja)])) _
    refine X173.laload hx (j := p2) (v := (.long (f p2.toNatClampNeg))) (by rw [e173]; exact Ar174.1) (State.isArrayOf_alike hZ.alike Ar174.2.1) Ar174.2.2 hin174 hat174 (g := (mkF m 5 #[.val (.ref a1), .val (.int p2)] [(.int p2), (.ref ja)])) rfl rfl (hb hby d19_5) _ ?_
    show Steps p.tables e below (T173.setTop (mkF m 6 #[.val (.ref a1), .val (.int p2)] [(.long (f p2.toNatClampNeg))])) _
    refine X173.ldc2Long hx hown (mvT hZ (hw _ (List.mem_of_getElem? (i := 43) rfl))) (g := (mkF m 6 #[.val (.ref a1), .val (.int p2)] [(.long (f p2.toNatClampNeg))])) rfl (hb hby d19_6) _ ?_
    show Steps p.tables e below (T173.setTop (mkF m 9 #[.val (.ref a1), .val (.int p2)] [(.long (-1 : Int64)), (.long (f p2.toNatClampNeg))])) _
    refine XS.lcmp X173.here hx rfl (hb hby d19_9) rfl ?_
    show Steps p.tables e below (T173.setTop (mkF m 10 #[.val (.ref a1), .val (.int p2)] [(.int (lcmpW (f p2.toNatClampNeg) (-1 : Int64)))])) _
    refine XS.ifNo X173.here hx rfl (hb hby d19_10) rfl ((if0 _ _).trans (teq ((lw_eq (f p2.toNatClampNeg) (-1 : Int64)).mpr hf)).2) ?_
    show Steps p.tables e below (T173.setTop (mkF m 13 #[.val (.ref a1), .val (.int p2)] [])) _
    refine XS.aloadN X173.here hx rfl (hb hby d19_13) rfl rfl ?_
    show Steps p.tables e below (T173.setTop (mkF m 14 #[.val (.ref a1), .val (.int p2)] [(.ref a1)])) _
    refine XS.iloadN X173.here hx rfl (hb hby d19_14) rfl ?_
    show Steps p.tables e below (T173.setTop (mkF m 15 #[.val (.ref a1), .val (.int p2)] [(.int p2), (.ref a1)])) _
    refine st175.trans ?_
    show Steps p.tables e below (T175.setTop (mkF m 18 #[.val (.ref a1), .val (.int p2)] [])) _
    refine XS.aloadN X175.here hx rfl (hb hby d19_18) rfl rfl ?_
    show Steps p.tables e below (T175.setTop (mkF m 19 #[.val (.ref a1), .val (.int p2)] [(.ref a1)])) _
    refine st176 _ ?_
    show Steps p.tables e below (T176.setTop (mkF m 22 #[.val (.ref a1), .val (.int p2)] [(.ref ja)])) _
    refine XS.iloadN X176.here hx rfl (hb hby d19_22) rfl ?_
    show Steps p.tables e below (T176.setTop (mkF m 23 #[.val (.ref a1), .val (.int p2)] [(.int p2), (.ref ja)])) _
    refine X176.laload hx (j := p2) (v := (.long ((upd f p2.toNatClampNeg w1) p2.toNatClampNeg))) (by rw [e176]; exact Ar177.1) (State.isArrayOf_alike hZ.alike Ar177.2.1) Ar177.2.2 hin177 hat177 (g := (mkF m 23 #[.val (.ref a1), .val (.int p2)] [(.int p2), (.ref ja)])) rfl rfl (hb hby d19_23) _ ?_
    show Steps p.tables e below (T176.setTop (mkF m 24 #[.val (.ref a1), .val (.int p2)] [(.long ((upd f p2.toNatClampNeg w1) p2.toNatClampNeg))])) _
    exact retOut X176 hx Bd.returns rfl (Or.inr (Or.inl ⟨rfl, rfl, _, rfl⟩)) (hb hby d19_24) hr
  · show QG0 Z a1 p2 ra ja bl bd kb fb wm w1 f li e1 w3 h0 n0 _ T176.heap _
    rw [e176]
    exact ⟨rfl, N175, Kp, F_requests_a1, F_joinedAs_a1, F_behind_a1, F_joined_a1, A_ja, F_elementData_li, F_size_li, F_modCount_li⟩
def QG1 (Z : State) (a1 : Addr) (p2 : Int32) (ra : Addr) (ja : Addr) (bl : Addr) (bd : Addr) (kb : ClassId) (fb : Nat → Value) (wm : Int32) (w1 : Int64) (f : Nat → Int64) (fr : Nat → Int32) (li : Addr) (eb : Addr) (w3 : Int32) (ke : ClassId) (fe : Nat → Value) (wt : Addr) (fw : Nat → Int32) (pv : Int32) (lv : Addr) (e2 : Addr) (w4 : Int32) (h0 : Heap) (n0 : Nat) (v : Option Value) (h : Heap) (L : List Loc) : Prop := v = some (.long ((upd (upd f p2.toNatClampNeg w1) pv.toNatClampNeg (w1 + (1 : Int64))) p2.toNatClampNeg)) ∧ Fr n0 L ∧ (Keep h0 h [a1, ja, li, eb, lv]) ∧ (Fld Z h a1 "com/example/wachter/wachter/sim/QueueOrder" "requests" "[I" (.ref ra)) ∧ (Fld Z h a1 "com/example/wachter/wachter/sim/QueueOrder" "joinedAs" "[J" (.ref ja)) ∧ (Fld Z h a1 "com/example/wachter/wachter/sim/QueueOrder" "behind" "Ljava/util/List;" (.ref bl)) ∧ (Fld Z h a1 "com/example/wachter/wachter/sim/QueueOrder" "joined" "J" (.long ((w1 + (1 : Int64)) + (1 : Int64)))) ∧ (ArJ Z h ja (4 : Int32) (upd (upd f p2.toNatClampNeg w1) pv.toNatClampNeg (w1 + (1 : Int64)))) ∧ (Fld Z h li "java/util/ArrayList" "elementData" "[Ljava/lang/Object;" (.ref eb)) ∧ (Fld Z h li "java/util/ArrayList" "size" "I" (.int (0 : Int32))) ∧ (Fld Z h li "java/util/AbstractList" "modCount" "I" (.int (w3 + (1 : Int32)))) ∧ (ArR Z h eb ke "java/lang/Object" (10 : Int32) (upd fe (0 : Int32).toNatClampNeg .null)) ∧ (Fld Z h lv "java/util/ArrayList" "elementData" "[Ljava/lang/Object;" (.ref e2)) ∧ (Fld Z h lv "java/util/ArrayList" "size" "I" (.int (0 : Int32))) ∧ (Fld Z h lv "java/util/AbstractList" "modCount" "I" (.int (w4 + (1 : Int32))))
theorem ef_G1 (m : MethodId) (a1 : Addr) (p2 : Int32) : entryFrame m #[(.ref a1), (.int p2)] 2 = mkF m 0 #[.val (.ref a1), .val (.int p2)] [] := by first | (simp [entryFrame, mkF, argsToLocals, Value.category]; done) | rfl
set_option maxRecDepth 65536 in
set_option maxHeartbeats 40000000 in
theorem rmG1 (l : Launch) (Z : State) (a0 : Array Value) (hw : ∀ d ∈ tables_1, d.before a0 Z = true) (ws : List Jvm.Cond) (a1 : Addr) (p2 : Int32) (ra : Addr) (ja : Addr) (bl : Addr) (bd : Addr) (kb : ClassId) (fb : Nat → Value) (wm : Int32) (w1 : Int64) (f : Nat → Int64) (fr : Nat → Int32) (li : Addr) (eb : Addr) (w3 : Int32) (ke : ClassId) (fe : Nat → Value) (wt : Addr) (fw : Nat → Int32) (pv : Int32) (lv : Addr) (e2 : Addr) (w4 : Int32) (h0 : Heap) (n0 : Nat) (Zs : n0 ≤ h0.size) (E_a1 : Exa Z h0 a1 "com/example/wachter/wachter/sim/QueueOrder") (F_requests_a1 : Fld Z h0 a1 "com/example/wachter/wachter/sim/QueueOrder" "requests" "[I" (.ref ra)) (F_joinedAs_a1 : Fld Z h0 a1 "com/example/wachter/wachter/sim/QueueOrder" "joinedAs" "[J" (.ref ja)) (F_behind_a1 : Fld Z h0 a1 "com/example/wachter/wachter/sim/QueueOrder" "behind" "Ljava/util/List;" (.ref bl)) (F_joined_a1 : Fld Z h0 a1 "com/example/wachter/wachter/sim/QueueOrder" "joined" "J" (.long w1)) (A_ja : ArJ Z h0 ja (4 : Int32) f) (A_ra : ArI Z h0 ra (4 : Int32) fr) (g_a1 : n0 ≤ a1) (g_ja : n0 ≤ ja) (g_li : n0 ≤ li) (g_eb : n0 ≤ eb) (g_lv : n0 ≤ lv) (E_bl : Exa Z h0 bl "java/util/ArrayList") (F_elementData_bl : Fld Z h0 bl "java/util/ArrayList" "elementData" "[Ljava/lang/Object;" (.ref bd)) (F_size_bl : Fld Z h0 bl "java/util/ArrayList" "size" "I" (.int (4 : Int32))) (F_modCount_bl : Fld Z h0 bl "java/util/AbstractList" "modCount" "I" (.int wm)) (A_bd : ArR Z h0 bd kb "java/lang/Object" (4 : Int32) fb) (E_li : Exa Z h0 li "java/util/ArrayList") (F_elementData_li : Fld Z h0 li "java/util/ArrayList" "elementData" "[Ljava/lang/Object;" (.ref eb)) (F_size_li : Fld Z h0 li "java/util/ArrayList" "size" "I" (.int (1 : Int32))) (F_modCount_li : Fld Z h0 li "java/util/AbstractList" "modCount" "I" (.int w3)) (A_eb : ArR Z h0 eb ke "java/lang/Object" (10 : Int32) fe) (E_wt : Exa Z h0 wt "[I") (A_wt : ArI Z h0 wt (2 : Int32) fw) (E_lv : Exa Z h0 lv "java/util/ArrayList") (F_elementData_lv : Fld Z h0 lv "java/util/ArrayList" "elementData" "[Ljava/lang/Object;" (.ref e2)) (F_size_lv : Fld Z h0 lv "java/util/ArrayList" "size" "I" (.int (0 : Int32))) (F_modCount_lv : Fld Z h0 lv "java/util/AbstractList" "modCount" "I" (.int w4)) (ne_a1_ja : a1 ≠ ja) (ne_a1_ra : a1 ≠ ra) (ne_a1_bl : a1 ≠ bl) (ne_a1_bd : a1 ≠ bd) (ne_a1_li : a1 ≠ li) (ne_a1_eb : a1 ≠ eb) (ne_a1_wt : a1 ≠ wt) (ne_a1_lv : a1 ≠ lv) (ne_ja_ra : ja ≠ ra) (ne_ja_bl : ja ≠ bl) (ne_ja_bd : ja ≠ bd) (ne_ja_li : ja ≠ li) (ne_ja_eb : ja ≠ eb) (ne_ja_wt : ja ≠ wt) (ne_ja_lv : ja ≠ lv) (ne_ra_bl : ra ≠ bl) (ne_ra_bd : ra ≠ bd) (ne_ra_li : ra ≠ li) (ne_ra_eb : ra ≠ eb) (ne_ra_wt : ra ≠ wt) (ne_ra_lv : ra ≠ lv) (ne_bl_bd : bl ≠ bd) (ne_bl_li : bl ≠ li) (ne_bl_eb : bl ≠ eb) (ne_bl_wt : bl ≠ wt) (ne_bl_lv : bl ≠ lv) (ne_bd_li : bd ≠ li) (ne_bd_eb : bd ≠ eb) (ne_bd_wt : bd ≠ wt) (ne_bd_lv : bd ≠ lv) (ne_li_eb : li ≠ eb) (ne_li_wt : li ≠ wt) (ne_li_lv : li ≠ lv) (ne_eb_wt : eb ≠ wt) (ne_eb_lv : eb ≠ lv) (ne_wt_lv : wt ≠ lv) (hi : ¬ p2 < (0 : Int32) ∧ p2 < (4 : Int32)) (hB : fb p2.toNatClampNeg = .ref li) (he : fe (0 : Int32).toNatClampNeg = .ref wt) (hw0 : fw (0 : Int32).toNatClampNeg = pv) (hpv : ¬ pv < (0 : Int32) ∧ pv < (4 : Int32)) (hreq : (fw (1 : Int32).toNatClampNeg) = (fr pv.toNatClampNeg)) (hj : ((upd f p2.toNatClampNeg w1) pv.toNatClampNeg) = (-1 : Int64)) (hbv : fb pv.toNatClampNeg = .ref lv) (hf : (f p2.toNatClampNeg) = (-1 : Int64)) :
    MetFree l (⟨"com/example/wachter/wachter/sim/QueueOrder", "granted", "(I)J"⟩ : MethodName) (head1 (Jvm.Cond.code (⟨"com/example/wachter/wachter/sim/QueueOrder", "granted", "(I)J"⟩ : MethodName) prog_41_method_4_code 2 (some .long) :: ws) ({ frames := 5, cells := 2, slots := 8, locals := 74 } : Room)) (fun a U => a = #[(.ref a1), (.int p2)] ∧ Z.Warmed39 U.vm ∧ U.heap = h0) (fun _ _ _ _ _ => True) (fun _ U o U' => ∃ v L, o = .returned v ∧ QG1 Z a1 p2 ra ja bl bd kb fb wm w1 f fr li eb w3 ke fe wt fw pv lv e2 w4 h0 n0 v U'.heap L ∧ FrameEnd U o U' L ({ frames := 5, cells := 2, slots := 8, locals := 74 } : Room).cells ({ frames := 5, cells := 2, slots := 8, locals := 74 } : Room).slots) := by
  refine MetFree.of_bodySF (plainFor_of_name pn_7) hisR ?_
  intro p e s m args below meth c s₁ Bd hml0 hP hK
  obtain ⟨rfl, hZ, hh⟩ := hP
  have hx := Bd.exec
  have hby := Bd.bytes
  have hml : c.maxLocals = 2 := hml0
  have hown : s.vm.findClass "com/example/wachter/wachter/sim/QueueOrder" = some m.cls := findClass_of_methodNamed Bd.named
  have hnm := (name_of_methodNamed Bd.named Bd.method).1
  have X0 : Stand p l e ({ frames := 5, cells := 2, slots := 8, locals := 74 } : Room) s m #[(.ref a1), (.int p2)] below meth c s₁ [] 0 0 := Stand.of_body Bd
  have e0 : s₁.heap = h0 := by rw [← hh, Bd.state]; rfl
  have N0 := Fr.nil n0
  have pre0 : ∀ t, Steps p.tables e below (s₁.setTop (mkF m 0 #[.val (.ref a1), .val (.int p2)] [])) t → Steps p.tables e below (s₁.setTop (entryFrame m #[(.ref a1), (.int p2)] 2)) t := fun t k => castTop (ef_G1 m a1 p2) k
  have Kp : Keep h0 h0 [a1, ja, li, eb, lv] := Keep.refl h0 [a1, ja, li, eb, lv]
  obtain ⟨T178, X178, e178, st178⟩ := getF X0 hx hZ hown (host := "") (Or.inl (hw _ (List.mem_of_getElem? (i := 14) rfl))) Via.refl e0 F_joinedAs_a1 (g := (mkF m 1 #[.val (.ref a1), .val (.int p2)] [(.ref a1)])) rfl rfl (hb hby d19_1)
  obtain ⟨cl179, Ar179, hs179, hin179, hat179⟩ := ArJ.open (j := p2) A_ja hi
  obtain ⟨cq180, q180, q180'⟩ := E_a1.cell
  obtain ⟨_, _, ⟨T180, L180, k180, n180⟩, -, X180, ⟨Lc180, hQ180, l180, y180, z180⟩, st180⟩ := X178.privateBack hx (y := (⟨"com/example/wachter/wachter/sim/QueueOrder", "join", "(I)V"⟩ : MethodName)) hown (mvT hZ (hw _ (List.mem_of_getElem? (i := 125) rfl))) (mvT hZ (hw _ (List.mem_of_getElem? (i := 126) rfl))) (own_sel hZ (hw _ (List.mem_of_getElem? (i := 2) rfl)) (hw _ (List.mem_of_getElem? (i := 127) rfl)) (hw _ (List.mem_of_getElem? (i := 126) rfl)) (by decide)) (Cond.privateMethod_at (mvP hZ (hw _ (List.mem_of_getElem? (i := 127) rfl)) (args := #[]))) (mvT hZ (hw _ (List.mem_of_getElem? (i := 128) rfl))) (by decide) (backOf (W := 0) (rmJ1 l Z a0 hw [] a1 p2 ra ja bl bd kb fb wm w1 f fr li eb w3 ke fe wt fw pv lv e2 w4 h0 n0 Zs E_a1 F_requests_a1 F_joinedAs_a1 F_behind_a1 F_joined_a1 A_ja A_ra g_a1 g_ja g_li g_eb g_lv E_bl F_elementData_bl F_size_bl F_modCount_bl A_bd E_li F_elementData_li F_size_li F_modCount_li A_eb E_wt A_wt E_lv F_elementData_lv F_size_lv F_modCount_lv ne_a1_ja ne_a1_ra ne_a1_bl ne_a1_bd ne_a1_li ne_a1_eb ne_a1_wt ne_a1_lv ne_ja_ra ne_ja_bl ne_ja_bd ne_ja_li ne_ja_eb ne_ja_wt ne_ja_lv ne_ra_bl ne_ra_bd ne_ra_li ne_ra_eb ne_ra_wt ne_ra_lv ne_bl_bd ne_bl_li ne_bl_eb ne_bl_wt ne_bl_lv ne_bd_li ne_bd_eb ne_bd_wt ne_bd_lv ne_li_eb ne_li_wt ne_li_lv ne_eb_wt ne_eb_lv ne_wt_lv hi hB he hw0 hpv hreq hj hbv) hZ (hw _ (List.mem_of_getElem? (i := 128) rfl)) (hw _ (List.mem_of_getElem? (i := 3) rfl)) (by decide) (by decide)) (g := (mkF m 15 #[.val (.ref a1), .val (.int p2)] [(.int p2), (.ref a1)])) rfl (by rw [hml]; rfl) (Steps.refl _) (a := a1) (by rw [e178]; exact q180) q180' (argsL := [(.int p2)]) (rest := []) (lenOf pd_12 rfl) rfl (by show 2 * 0 + _ ≤ _; exact Nat.le_of_eq rfl) (hb hby d19_15) (fun _ _ => ⟨rfl, e178, (by decide : 0 + 2 ≤ _), (by decide : 0 + 8 ≤ _)⟩)
  dsimp only [Pt.U, Pt.locs, Pt.cells, Pt.slots] at X180 l180 y180 z180 st180 hQ180
  subst l180 y180 z180
  obtain ⟨rfl, N180q, K180, P180_1, P180_2, P180_3, P180_4, P180_5, P180_6, P180_7, P180_8, P180_9, P180_10, P180_11, P180_12⟩ := hQ180
  have Zs : n0 ≤ T180.heap.size := Nat.le_trans Zs K180.1
  have E_a1 : Exa Z T180.heap a1 "com/example/wachter/wachter/sim/QueueOrder" := E_a1.keep K180
  have A_ra : ArI Z T180.heap ra (4 : Int32) fr := A_ra.keep K180 (ninS (Ne.symm ne_a1_ra) (ninS (Ne.symm ne_ja_ra) (ninS ne_ra_li (ninS ne_ra_eb (ninS ne_ra_lv nin0)))))
  have E_bl : Exa Z T180.heap bl "java/util/ArrayList" := E_bl.keep K180
  have F_elementData_bl : Fld Z T180.heap bl "java/util/ArrayList" "elementData" "[Ljava/lang/Object;" (.ref bd) := F_elementData_bl.keep K180 (ninS (Ne.symm ne_a1_bl) (ninS (Ne.symm ne_ja_bl) (ninS ne_bl_li (ninS ne_bl_eb (ninS ne_bl_lv nin0)))))
  have F_size_bl : Fld Z T180.heap bl "java/util/ArrayList" "size" "I" (.int (4 : Int32)) := F_size_bl.keep K180 (ninS (Ne.symm ne_a1_bl) (ninS (Ne.symm ne_ja_bl) (ninS ne_bl_li (ninS ne_bl_eb (ninS ne_bl_lv nin0)))))
  have F_modCount_bl : Fld Z T180.heap bl "java/util/AbstractList" "modCount" "I" (.int wm) := F_modCount_bl.keep K180 (ninS (Ne.symm ne_a1_bl) (ninS (Ne.symm ne_ja_bl) (ninS ne_bl_li (ninS ne_bl_eb (ninS ne_bl_lv nin0)))))
  have A_bd : ArR Z T180.heap bd kb "java/lang/Object" (4 : Int32) fb := A_bd.keep K180 (ninS (Ne.symm ne_a1_bd) (ninS (Ne.symm ne_ja_bd) (ninS ne_bd_li (ninS ne_bd_eb (ninS ne_bd_lv nin0)))))
  have E_li : Exa Z T180.heap li "java/util/ArrayList" := E_li.keep K180
  have E_wt : Exa Z T180.heap wt "[I" := E_wt.keep K180
  have A_wt : ArI Z T180.heap wt (2 : Int32) fw := A_wt.keep K180 (ninS (Ne.symm ne_a1_wt) (ninS (Ne.symm ne_ja_wt) (ninS (Ne.symm ne_li_wt) (ninS (Ne.symm ne_eb_wt) (ninS ne_wt_lv nin0)))))
  have E_lv : Exa Z T180.heap lv "java/util/ArrayList" := E_lv.keep K180
  have Kp : Keep h0 T180.heap [a1, ja, li, eb, lv] := Kp.trans K180 (allS (Or.inl (List.mem_of_getElem? (i := 0) rfl)) (allS (Or.inl (List.mem_of_getElem? (i := 1) rfl)) (allS (Or.inl (List.mem_of_getElem? (i := 2) rfl)) (allS (Or.inl (List.mem_of_getElem? (i := 3) rfl)) (allS (Or.inl (List.mem_of_getElem? (i := 4) rfl)) all0)))))
  have F_requests_a1 : Fld Z T180.heap a1 "com/example/wachter/wachter/sim/QueueOrder" "requests" "[I" (.ref ra) := P180_1
  have F_joinedAs_a1 : Fld Z T180.heap a1 "com/example/wachter/wachter/sim/QueueOrder" "joinedAs" "[J" (.ref ja) := P180_2
  have F_behind_a1 : Fld Z T180.heap a1 "com/example/wachter/wachter/sim/QueueOrder" "behind" "Ljava/util/List;" (.ref bl) := P180_3
  have F_joined_a1 : Fld Z T180.heap a1 "com/example/wachter/wachter/sim/QueueOrder" "joined" "J" (.long ((w1 + (1 : Int64)) + (1 : Int64))) := P180_4
  have A_ja : ArJ Z T180.heap ja (4 : Int32) (upd (upd f p2.toNatClampNeg w1) pv.toNatClampNeg (w1 + (1 : Int64))) := P180_5
  have F_elementData_li : Fld Z T180.heap li "java/util/ArrayList" "elementData" "[Ljava/lang/Object;" (.ref eb) := P180_6
  have F_size_li : Fld Z T180.heap li "java/util/ArrayList" "size" "I" (.int (0 : Int32)) := P180_7
  have F_modCount_li : Fld Z T180.heap li "java/util/AbstractList" "modCount" "I" (.int (w3 + (1 : Int32))) := P180_8
  have A_eb : ArR Z T180.heap eb ke "java/lang/Object" (10 : Int32) (upd fe (0 : Int32).toNatClampNeg .null) := P180_9
  have F_elementData_lv : Fld Z T180.heap lv "java/util/ArrayList" "elementData" "[Ljava/lang/Object;" (.ref e2) := P180_10
  have F_size_lv : Fld Z T180.heap lv "java/util/ArrayList" "size" "I" (.int (0 : Int32)) := P180_11
  have F_modCount_lv : Fld Z T180.heap lv "java/util/AbstractList" "modCount" "I" (.int (w4 + (1 : Int32))) := P180_12
  have N180 := Fr.app N0 N180q
  obtain ⟨T181, X181, e181, st181⟩ := getF X180 hx hZ hown (host := "") (Or.inl (hw _ (List.mem_of_getElem? (i := 14) rfl))) Via.refl rfl F_joinedAs_a1 (g := (mkF m 19 #[.val (.ref a1), .val (.int p2)] [(.ref a1)])) rfl rfl (hb hby d19_19)
  obtain ⟨cl182, Ar182, hs182, hin182, hat182⟩ := ArJ.open (j := p2) A_ja hi
  obtain ⟨fs, hr, hrun, hended, hW, hsame⟩ := X181.leave (v := some (.long ((upd (upd f p2.toNatClampNeg w1) pv.toNatClampNeg (w1 + (1 : Int64))) p2.toNatClampNeg))) (fun h => by rw [Bd.returns] at h; cases h)
  refine ⟨_, _, pre0 _ ?_, hrun, hended, _, _, rfl, ?_, ⟨_, rfl⟩, hW, hsame.mono (by decide) (by decide)⟩
  · show Steps p.tables e below (s₁.setTop (mkF m 0 #[.val (.ref a1), .val (.int p2)] [])) _
    refine XS.aloadN X0.here hx rfl (hb hby d19_0) rfl rfl ?_
    show Steps p.tables e below (s₁.setTop (mkF m 1 #[.val (.ref a1), .val (.int p2)] [(.ref a1)])) _
    refine st178 _ ?_
    show Steps p.tables e below (T178.setTop (mkF m 4 #[.val (.ref a1), .val (.int p2)] [(.ref ja)])) _
    refine XS.iloadN X178.here hx rfl (hb hby d19_4) rfl ?_
    show Steps p.tables e below (T178.setTop (mkF m 5 #[.val (.ref a1), .val (.int p2)] [(.int p2), (.ref ja)])) _
    refine X178.laload hx (j := p2) (v := (.long (f p2.toNatClampNeg))) (by rw [e178]; exact Ar179.1) (State.isArrayOf_alike hZ.alike Ar179.2.1) Ar179.2.2 hin179 hat179 (g := (mkF m 5 #[.val (.ref a1), .val (.int p2)] [(.int p2), (.ref ja)])) rfl rfl (hb hby d19_5) _ ?_
    show Steps p.tables e below (T178.setTop (mkF m 6 #[.val (.ref a1), .val (.int p2)] [(.long (f p2.toNatClampNeg))])) _
    refine X178.ldc2Long hx hown (mvT hZ (hw _ (List.mem_of_getElem? (i := 43) rfl))) (g := (mkF m 6 #[.val (.ref a1), .val (.int p2)] [(.long (f p2.toNatClampNeg))])) rfl (hb hby d19_6) _ ?_
    show Steps p.tables e below (T178.setTop (mkF m 9 #[.val (.ref a1), .val (.int p2)] [(.long (-1 : Int64)), (.long (f p2.toNatClampNeg))])) _
    refine XS.lcmp X178.here hx rfl (hb hby d19_9) rfl ?_
    show Steps p.tables e below (T178.setTop (mkF m 10 #[.val (.ref a1), .val (.int p2)] [(.int (lcmpW (f p2.toNatClampNeg) (-1 : Int64)))])) _
    refine XS.ifNo X178.here hx rfl (hb hby d19_10) rfl ((if0 _ _).trans (teq ((lw_eq (f p2.toNatClampNeg) (-1 : Int64)).mpr hf)).2) ?_
    show Steps p.tables e below (T178.setTop (mkF m 13 #[.val (.ref a1), .val (.int p2)] [])) _
    refine XS.aloadN X178.here hx rfl (hb hby d19_13) rfl rfl ?_
    show Steps p.tables e below (T178.setTop (mkF m 14 #[.val (.ref a1), .val (.int p2)] [(.ref a1)])) _
    refine XS.iloadN X178.here hx rfl (hb hby d19_14) rfl ?_
    show Steps p.tables e below (T178.setTop (mkF m 15 #[.val (.ref a1), .val (.int p2)] [(.int p2), (.ref a1)])) _
    refine st180.trans ?_
    show Steps p.tables e below (T180.setTop (mkF m 18 #[.val (.ref a1), .val (.int p2)] [])) _
    refine XS.aloadN X180.here hx rfl (hb hby d19_18) rfl rfl ?_
    show Steps p.tables e below (T180.setTop (mkF m 19 #[.val (.ref a1), .val (.int p2)] [(.ref a1)])) _
    refine st181 _ ?_
    show Steps p.tables e below (T181.setTop (mkF m 22 #[.val (.ref a1), .val (.int p2)] [(.ref ja)])) _
    refine XS.iloadN X181.here hx rfl (hb hby d19_22) rfl ?_
    show Steps p.tables e below (T181.setTop (mkF m 23 #[.val (.ref a1), .val (.int p2)] [(.int p2), (.ref ja)])) _
    refine X181.laload hx (j := p2) (v := (.long ((upd (upd f p2.toNatClampNeg w1) pv.toNatClampNeg (w1 + (1 : Int64))) p2.toNatClampNeg))) (by rw [e181]; exact Ar182.1) (State.isArrayOf_alike hZ.alike Ar182.2.1) Ar182.2.2 hin182 hat182 (g := (mkF m 23 #[.val (.ref a1), .val (.int p2)] [(.int p2), (.ref ja)])) rfl rfl (hb hby d19_23) _ ?_
    show Steps p.tables e below (T181.setTop (mkF m 24 #[.val (.ref a1), .val (.int p2)] [(.long ((upd (upd f p2.toNatClampNeg w1) pv.toNatClampNeg (w1 + (1 : Int64))) p2.toNatClampNeg))])) _
    exact retOut X181 hx Bd.returns rfl (Or.inr (Or.inl ⟨rfl, rfl, _, rfl⟩)) (hb hby d19_24) hr
  · show QG1 Z a1 p2 ra ja bl bd kb fb wm w1 f fr li eb w3 ke fe wt fw pv lv e2 w4 h0 n0 _ T181.heap _
    rw [e181]
    exact ⟨rfl, N180, Kp, F_requests_a1, F_joinedAs_a1, F_behind_a1, F_joined_a1, A_ja, F_elementData_li, F_size_li, F_modCount_li, A_eb, F_elementData_lv, F_size_lv, F_modCount_lv⟩
def QGs (Z : State) (a1 : Addr) (p2 : Int32) (ra : Addr) (ja : Addr) (bl : Addr) (bd : Addr) (kb : ClassId) (fb : Nat → Value) (wm : Int32) (w1 : Int64) (f : Nat → Int64) (fr : Nat → Int32) (li : Addr) (eb : Addr) (w3 : Int32) (ke : ClassId) (fe : Nat → Value) (wt : Addr) (fw : Nat → Int32) (pv : Int32) (h0 : Heap) (n0 : Nat) (v : Option Value) (h : Heap) (L : List Loc) : Prop := v = some (.long ((upd f p2.toNatClampNeg w1) p2.toNatClampNeg)) ∧ Fr n0 L ∧ (Keep h0 h [a1, ja, li, eb]) ∧ (Fld Z h a1 "com/example/wachter/wachter/sim/QueueOrder" "requests" "[I" (.ref ra)) ∧ (Fld Z h a1 "com/example/wachter/wachter/sim/QueueOrder" "joinedAs" "[J" (.ref ja)) ∧ (Fld Z h a1 "com/example/wachter/wachter/sim/QueueOrder" "behind" "Ljava/util/List;" (.ref bl)) ∧ (Fld Z h a1 "com/example/wachter/wachter/sim/QueueOrder" "joined" "J" (.long (w1 + (1 : Int64)))) ∧ (ArJ Z h ja (4 : Int32) (upd f p2.toNatClampNeg w1)) ∧ (Fld Z h li "java/util/ArrayList" "elementData" "[Ljava/lang/Object;" (.ref eb)) ∧ (Fld Z h li "java/util/ArrayList" "size" "I" (.int (0 : Int32))) ∧ (Fld Z h li "java/util/AbstractList" "modCount" "I" (.int (w3 + (1 : Int32)))) ∧ (ArR Z h eb ke "java/lang/Object" (10 : Int32) (upd fe (0 : Int32).toNatClampNeg .null))
theorem ef_Gs (m : MethodId) (a1 : Addr) (p2 : Int32) : entryFrame m #[(.ref a1), (.int p2)] 2 = mkF m 0 #[.val (.ref a1), .val (.int p2)] [] := by first | (simp [entryFrame, mkF, argsToLocals, Value.category]; done) | rfl
set_option maxRecDepth 65536 in
set_option maxHeartbeats 40000000 in
theorem rmGs (l : Launch) (Z : State) (a0 : Array Value) (hw : ∀ d ∈ tables_1, d.before a0 Z = true) (ws : List Jvm.Cond) (a1 : Addr) (p2 : Int32) (ra : Addr) (ja : Addr) (bl : Addr) (bd : Addr) (kb : ClassId) (fb : Nat → Value) (wm : Int32) (w1 : Int64) (f : Nat → Int64) (fr : Nat → Int32) (li : Addr) (eb : Addr) (w3 : Int32) (ke : ClassId) (fe : Nat → Value) (wt : Addr) (fw : Nat → Int32) (pv : Int32) (h0 : Heap) (n0 : Nat) (Zs : n0 ≤ h0.size) (E_a1 : Exa Z h0 a1 "com/example/wachter/wachter/sim/QueueOrder") (F_requests_a1 : Fld Z h0 a1 "com/example/wachter/wachter/sim/QueueOrder" "requests" "[I" (.ref ra)) (F_joinedAs_a1 : Fld Z h0 a1 "com/example/wachter/wachter/sim/QueueOrder" "joinedAs" "[J" (.ref ja)) (F_behind_a1 : Fld Z h0 a1 "com/example/wachter/wachter/sim/QueueOrder" "behind" "Ljava/util/List;" (.ref bl)) (F_joined_a1 : Fld Z h0 a1 "com/example/wachter/wachter/sim/QueueOrder" "joined" "J" (.long w1)) (A_ja : ArJ Z h0 ja (4 : Int32) f) (A_ra : ArI Z h0 ra (4 : Int32) fr) (g_a1 : n0 ≤ a1) (g_ja : n0 ≤ ja) (g_li : n0 ≤ li) (g_eb : n0 ≤ eb) (E_bl : Exa Z h0 bl "java/util/ArrayList") (F_elementData_bl : Fld Z h0 bl "java/util/ArrayList" "elementData" "[Ljava/lang/Object;" (.ref bd)) (F_size_bl : Fld Z h0 bl "java/util/ArrayList" "size" "I" (.int (4 : Int32))) (F_modCount_bl : Fld Z h0 bl "java/util/AbstractList" "modCount" "I" (.int wm)) (A_bd : ArR Z h0 bd kb "java/lang/Object" (4 : Int32) fb) (E_li : Exa Z h0 li "java/util/ArrayList") (F_elementData_li : Fld Z h0 li "java/util/ArrayList" "elementData" "[Ljava/lang/Object;" (.ref eb)) (F_size_li : Fld Z h0 li "java/util/ArrayList" "size" "I" (.int (1 : Int32))) (F_modCount_li : Fld Z h0 li "java/util/AbstractList" "modCount" "I" (.int w3)) (A_eb : ArR Z h0 eb ke "java/lang/Object" (10 : Int32) fe) (E_wt : Exa Z h0 wt "[I") (A_wt : ArI Z h0 wt (2 : Int32) fw) (ne_a1_ja : a1 ≠ ja) (ne_a1_ra : a1 ≠ ra) (ne_a1_bl : a1 ≠ bl) (ne_a1_bd : a1 ≠ bd) (ne_a1_li : a1 ≠ li) (ne_a1_eb : a1 ≠ eb) (ne_a1_wt : a1 ≠ wt) (ne_ja_ra : ja ≠ ra) (ne_ja_bl : ja ≠ bl) (ne_ja_bd : ja ≠ bd) (ne_ja_li : ja ≠ li) (ne_ja_eb : ja ≠ eb) (ne_ja_wt : ja ≠ wt) (ne_ra_bl : ra ≠ bl) (ne_ra_bd : ra ≠ bd) (ne_ra_li : ra ≠ li) (ne_ra_eb : ra ≠ eb) (ne_ra_wt : ra ≠ wt) (ne_bl_bd : bl ≠ bd) (ne_bl_li : bl ≠ li) (ne_bl_eb : bl ≠ eb) (ne_bl_wt : bl ≠ wt) (ne_bd_li : bd ≠ li) (ne_bd_eb : bd ≠ eb) (ne_bd_wt : bd ≠ wt) (ne_li_eb : li ≠ eb) (ne_li_wt : li ≠ wt) (ne_eb_wt : eb ≠ wt) (hi : ¬ p2 < (0 : Int32) ∧ p2 < (4 : Int32)) (hB : fb p2.toNatClampNeg = .ref li) (he : fe (0 : Int32).toNatClampNeg = .ref wt) (hw0 : fw (0 : Int32).toNatClampNeg = pv) (hpv : ¬ pv < (0 : Int32) ∧ pv < (4 : Int32)) (hreq : ¬ (fw (1 : Int32).toNatClampNeg) = (fr pv.toNatClampNeg)) (hf : (f p2.toNatClampNeg) = (-1 : Int64)) :
    MetFree l (⟨"com/example/wachter/wachter/sim/QueueOrder", "granted", "(I)J"⟩ : MethodName) (head1 (Jvm.Cond.code (⟨"com/example/wachter/wachter/sim/QueueOrder", "granted", "(I)J"⟩ : MethodName) prog_41_method_4_code 2 (some .long) :: ws) ({ frames := 4, cells := 1, slots := 4, locals := 57 } : Room)) (fun a U => a = #[(.ref a1), (.int p2)] ∧ Z.Warmed39 U.vm ∧ U.heap = h0) (fun _ _ _ _ _ => True) (fun _ U o U' => ∃ v L, o = .returned v ∧ QGs Z a1 p2 ra ja bl bd kb fb wm w1 f fr li eb w3 ke fe wt fw pv h0 n0 v U'.heap L ∧ FrameEnd U o U' L ({ frames := 4, cells := 1, slots := 4, locals := 57 } : Room).cells ({ frames := 4, cells := 1, slots := 4, locals := 57 } : Room).slots) := by
  refine MetFree.of_bodySF (plainFor_of_name pn_7) hisR ?_
  intro p e s m args below meth c s₁ Bd hml0 hP hK
  obtain ⟨rfl, hZ, hh⟩ := hP
  have hx := Bd.exec
  have hby := Bd.bytes
  have hml : c.maxLocals = 2 := hml0
  have hown : s.vm.findClass "com/example/wachter/wachter/sim/QueueOrder" = some m.cls := findClass_of_methodNamed Bd.named
  have hnm := (name_of_methodNamed Bd.named Bd.method).1
  have X0 : Stand p l e ({ frames := 4, cells := 1, slots := 4, locals := 57 } : Room) s m #[(.ref a1), (.int p2)] below meth c s₁ [] 0 0 := Stand.of_body Bd
  have e0 : s₁.heap = h0 := by rw [← hh, Bd.state]; rfl
  have N0 := Fr.nil n0
  have pre0 : ∀ t, Steps p.tables e below (s₁.setTop (mkF m 0 #[.val (.ref a1), .val (.int p2)] [])) t → Steps p.tables e below (s₁.setTop (entryFrame m #[(.ref a1), (.int p2)] 2)) t := fun t k => castTop (ef_Gs m a1 p2) k
  have Kp : Keep h0 h0 [a1, ja, li, eb] := Keep.refl h0 [a1, ja, li, eb]
  obtain ⟨T183, X183, e183, st183⟩ := getF X0 hx hZ hown (host := "") (Or.inl (hw _ (List.mem_of_getElem? (i := 14) rfl))) Via.refl e0 F_joinedAs_a1 (g := (mkF m 1 #[.val (.ref a1), .val (.int p2)] [(.ref a1)])) rfl rfl (hb hby d19_1)
  obtain ⟨cl184, Ar184, hs184, hin184, hat184⟩ := ArJ.open (j := p2) A_ja hi
  obtain ⟨cq185, q185, q185'⟩ := E_a1.cell
  obtain ⟨_, _, ⟨T185, L185, k185, n185⟩, -, X185, ⟨Lc185, hQ185, l185, y185, z185⟩, st185⟩ := X183.privateBack hx (y := (⟨"com/example/wachter/wachter/sim/QueueOrder", "join", "(I)V"⟩ : MethodName)) hown (mvT hZ (hw _ (List.mem_of_getElem? (i := 125) rfl))) (mvT hZ (hw _ (List.mem_of_getElem? (i := 126) rfl))) (own_sel hZ (hw _ (List.mem_of_getElem? (i := 2) rfl)) (hw _ (List.mem_of_getElem? (i := 127) rfl)) (hw _ (List.mem_of_getElem? (i := 126) rfl)) (by decide)) (Cond.privateMethod_at (mvP hZ (hw _ (List.mem_of_getElem? (i := 127) rfl)) (args := #[]))) (mvT hZ (hw _ (List.mem_of_getElem? (i := 128) rfl))) (by decide) (backOf (W := 0) (rmJs l Z a0 hw [] a1 p2 ra ja bl bd kb fb wm w1 f fr li eb w3 ke fe wt fw pv h0 n0 Zs E_a1 F_requests_a1 F_joinedAs_a1 F_behind_a1 F_joined_a1 A_ja A_ra g_a1 g_ja g_li g_eb E_bl F_elementData_bl F_size_bl F_modCount_bl A_bd E_li F_elementData_li F_size_li F_modCount_li A_eb E_wt A_wt ne_a1_ja ne_a1_ra ne_a1_bl ne_a1_bd ne_a1_li ne_a1_eb ne_a1_wt ne_ja_ra ne_ja_bl ne_ja_bd ne_ja_li ne_ja_eb ne_ja_wt ne_ra_bl ne_ra_bd ne_ra_li ne_ra_eb ne_ra_wt ne_bl_bd ne_bl_li ne_bl_eb ne_bl_wt ne_bd_li ne_bd_eb ne_bd_wt ne_li_eb ne_li_wt ne_eb_wt hi hB he hw0 hpv hreq) hZ (hw _ (List.mem_of_getElem? (i := 128) rfl)) (hw _ (List.mem_of_getElem? (i := 3) rfl)) (by decide) (by decide)) (g := (mkF m 15 #[.val (.ref a1), .val (.int p2)] [(.int p2), (.ref a1)])) rfl (by rw [hml]; rfl) (Steps.refl _) (a := a1) (by rw [e183]; exact q185) q185' (argsL := [(.int p2)]) (rest := []) (lenOf pd_12 rfl) rfl (by show 2 * 0 + _ ≤ _; exact Nat.le_of_eq rfl) (hb hby d19_15) (fun _ _ => ⟨rfl, e183, (by decide : 0 + 1 ≤ _), (by decide : 0 + 4 ≤ _)⟩)
  dsimp only [Pt.U, Pt.locs, Pt.cells, Pt.slots] at X185 l185 y185 z185 st185 hQ185
  subst l185 y185 z185
  obtain ⟨rfl, N185q, K185, P185_1, P185_2, P185_3, P185_4, P185_5, P185_6, P185_7, P185_8, P185_9⟩ := hQ185
  have Zs : n0 ≤ T185.heap.size := Nat.le_trans Zs K185.1
  have E_a1 : Exa Z T185.heap a1 "com/example/wachter/wachter/sim/QueueOrder" := E_a1.keep K185
  have A_ra : ArI Z T185.heap ra (4 : Int32) fr := A_ra.keep K185 (ninS (Ne.symm ne_a1_ra) (ninS (Ne.symm ne_ja_ra) (ninS ne_ra_li (ninS ne_ra_eb nin0))))
  have E_bl : Exa Z T185.heap bl "java/util/ArrayList" := E_bl.keep K185
  have F_elementData_bl : Fld Z T185.heap bl "java/util/ArrayList" "elementData" "[Ljava/lang/Object;" (.ref bd) := F_elementData_bl.keep K185 (ninS (Ne.symm ne_a1_bl) (ninS (Ne.symm ne_ja_bl) (ninS ne_bl_li (ninS ne_bl_eb nin0))))
  have F_size_bl : Fld Z T185.heap bl "java/util/ArrayList" "size" "I" (.int (4 : Int32)) := F_size_bl.keep K185 (ninS (Ne.symm ne_a1_bl) (ninS (Ne.symm ne_ja_bl) (ninS ne_bl_li (ninS ne_bl_eb nin0))))
  have F_modCount_bl : Fld Z T185.heap bl "java/util/AbstractList" "modCount" "I" (.int wm) := F_modCount_bl.keep K185 (ninS (Ne.symm ne_a1_bl) (ninS (Ne.symm ne_ja_bl) (ninS ne_bl_li (ninS ne_bl_eb nin0))))
  have A_bd : ArR Z T185.heap bd kb "java/lang/Object" (4 : Int32) fb := A_bd.keep K185 (ninS (Ne.symm ne_a1_bd) (ninS (Ne.symm ne_ja_bd) (ninS ne_bd_li (ninS ne_bd_eb nin0))))
  have E_li : Exa Z T185.heap li "java/util/ArrayList" := E_li.keep K185
  have E_wt : Exa Z T185.heap wt "[I" := E_wt.keep K185
  have A_wt : ArI Z T185.heap wt (2 : Int32) fw := A_wt.keep K185 (ninS (Ne.symm ne_a1_wt) (ninS (Ne.symm ne_ja_wt) (ninS (Ne.symm ne_li_wt) (ninS (Ne.symm ne_eb_wt) nin0))))
  have Kp : Keep h0 T185.heap [a1, ja, li, eb] := Kp.trans K185 (allS (Or.inl (List.mem_of_getElem? (i := 0) rfl)) (allS (Or.inl (List.mem_of_getElem? (i := 1) rfl)) (allS (Or.inl (List.mem_of_getElem? (i := 2) rfl)) (allS (Or.inl (List.mem_of_getElem? (i := 3) rfl)) all0))))
  have F_requests_a1 : Fld Z T185.heap a1 "com/example/wachter/wachter/sim/QueueOrder" "requests" "[I" (.ref ra) := P185_1
  have F_joinedAs_a1 : Fld Z T185.heap a1 "com/example/wachter/wachter/sim/QueueOrder" "joinedAs" "[J" (.ref ja) := P185_2
  have F_behind_a1 : Fld Z T185.heap a1 "com/example/wachter/wachter/sim/QueueOrder" "behind" "Ljava/util/List;" (.ref bl) := P185_3
  have F_joined_a1 : Fld Z T185.heap a1 "com/example/wachter/wachter/sim/QueueOrder" "joined" "J" (.long (w1 + (1 : Int64))) := P185_4
  have A_ja : ArJ Z T185.heap ja (4 : Int32) (upd f p2.toNatClampNeg w1) := P185_5
  have F_elementData_li : Fld Z T185.heap li "java/util/ArrayList" "elementData" "[Ljava/lang/Object;" (.ref eb) := P185_6
  have F_size_li : Fld Z T185.heap li "java/util/ArrayList" "size" "I" (.int (0 : Int32)) := P185_7
  have F_modCount_li : Fld Z T185.heap li "java/util/AbstractList" "modCount" "I" (.int (w3 + (1 : Int32))) := P185_8
  have A_eb : ArR Z T185.heap eb ke "java/lang/Object" (10 : Int32) (upd fe (0 : Int32).toNatClampNeg .null) := P185_9
  have N185 := Fr.app N0 N185q
  obtain ⟨T186, X186, e186, st186⟩ := getF X185 hx hZ hown (host := "") (Or.inl (hw _ (List.mem_of_getElem? (i := 14) rfl))) Via.refl rfl F_joinedAs_a1 (g := (mkF m 19 #[.val (.ref a1), .val (.int p2)] [(.ref a1)])) rfl rfl (hb hby d19_19)
  obtain ⟨cl187, Ar187, hs187, hin187, hat187⟩ := ArJ.open (j := p2) A_ja hi
  obtain ⟨fs, hr, hrun, hended, hW, hsame⟩ := X186.leave (v := some (.long ((upd f p2.toNatClampNeg w1) p2.toNatClampNeg))) (fun h => by rw [Bd.returns] at h; cases h)
  refine ⟨_, _, pre0 _ ?_, hrun, hended, _, _, rfl, ?_, ⟨_, rfl⟩, hW, hsame.mono (by decide) (by decide)⟩
  · show Steps p.tables e below (s₁.setTop (mkF m 0 #[.val (.ref a1), .val (.int p2)] [])) _
    refine XS.aloadN X0.here hx rfl (hb hby d19_0) rfl rfl ?_
    show Steps p.tables e below (s₁.setTop (mkF m 1 #[.val (.ref a1), .val (.int p2)] [(.ref a1)])) _
    refine st183 _ ?_
    show Steps p.tables e below (T183.setTop (mkF m 4 #[.val (.ref a1), .val (.int p2)] [(.ref ja)])) _
    refine XS.iloadN X183.here hx rfl (hb hby d19_4) rfl ?_
    show Steps p.tables e below (T183.setTop (mkF m 5 #[.val (.ref a1), .val (.int p2)] [(.int p2), (.ref ja)])) _
    refine X183.laload hx (j := p2) (v := (.long (f p2.toNatClampNeg))) (by rw [e183]; exact Ar184.1) (State.isArrayOf_alike hZ.alike Ar184.2.1) Ar184.2.2 hin184 hat184 (g := (mkF m 5 #[.val (.ref a1), .val (.int p2)] [(.int p2), (.ref ja)])) rfl rfl (hb hby d19_5) _ ?_
    show Steps p.tables e below (T183.setTop (mkF m 6 #[.val (.ref a1), .val (.int p2)] [(.long (f p2.toNatClampNeg))])) _
    refine X183.ldc2Long hx hown (mvT hZ (hw _ (List.mem_of_getElem? (i := 43) rfl))) (g := (mkF m 6 #[.val (.ref a1), .val (.int p2)] [(.long (f p2.toNatClampNeg))])) rfl (hb hby d19_6) _ ?_
    show Steps p.tables e below (T183.setTop (mkF m 9 #[.val (.ref a1), .val (.int p2)] [(.long (-1 : Int64)), (.long (f p2.toNatClampNeg))])) _
    refine XS.lcmp X183.here hx rfl (hb hby d19_9) rfl ?_
    show Steps p.tables e below (T183.setTop (mkF m 10 #[.val (.ref a1), .val (.int p2)] [(.int (lcmpW (f p2.toNatClampNeg) (-1 : Int64)))])) _
    refine XS.ifNo X183.here hx rfl (hb hby d19_10) rfl ((if0 _ _).trans (teq ((lw_eq (f p2.toNatClampNeg) (-1 : Int64)).mpr hf)).2) ?_
    show Steps p.tables e below (T183.setTop (mkF m 13 #[.val (.ref a1), .val (.int p2)] [])) _
    refine XS.aloadN X183.here hx rfl (hb hby d19_13) rfl rfl ?_
    show Steps p.tables e below (T183.setTop (mkF m 14 #[.val (.ref a1), .val (.int p2)] [(.ref a1)])) _
    refine XS.iloadN X183.here hx rfl (hb hby d19_14) rfl ?_
    show Steps p.tables e below (T183.setTop (mkF m 15 #[.val (.ref a1), .val (.int p2)] [(.int p2), (.ref a1)])) _
    refine st185.trans ?_
    show Steps p.tables e below (T185.setTop (mkF m 18 #[.val (.ref a1), .val (.int p2)] [])) _
    refine XS.aloadN X185.here hx rfl (hb hby d19_18) rfl rfl ?_
    show Steps p.tables e below (T185.setTop (mkF m 19 #[.val (.ref a1), .val (.int p2)] [(.ref a1)])) _
    refine st186 _ ?_
    show Steps p.tables e below (T186.setTop (mkF m 22 #[.val (.ref a1), .val (.int p2)] [(.ref ja)])) _
    refine XS.iloadN X186.here hx rfl (hb hby d19_22) rfl ?_
    show Steps p.tables e below (T186.setTop (mkF m 23 #[.val (.ref a1), .val (.int p2)] [(.int p2), (.ref ja)])) _
    refine X186.laload hx (j := p2) (v := (.long ((upd f p2.toNatClampNeg w1) p2.toNatClampNeg))) (by rw [e186]; exact Ar187.1) (State.isArrayOf_alike hZ.alike Ar187.2.1) Ar187.2.2 hin187 hat187 (g := (mkF m 23 #[.val (.ref a1), .val (.int p2)] [(.int p2), (.ref ja)])) rfl rfl (hb hby d19_23) _ ?_
    show Steps p.tables e below (T186.setTop (mkF m 24 #[.val (.ref a1), .val (.int p2)] [(.long ((upd f p2.toNatClampNeg w1) p2.toNatClampNeg))])) _
    exact retOut X186 hx Bd.returns rfl (Or.inr (Or.inl ⟨rfl, rfl, _, rfl⟩)) (hb hby d19_24) hr
  · show QGs Z a1 p2 ra ja bl bd kb fb wm w1 f fr li eb w3 ke fe wt fw pv h0 n0 _ T186.heap _
    rw [e186]
    exact ⟨rfl, N185, Kp, F_requests_a1, F_joinedAs_a1, F_behind_a1, F_joined_a1, A_ja, F_elementData_li, F_size_li, F_modCount_li, A_eb⟩
def QQ (Z : State) (a1 : Addr) (p3 : Int32) (dd : Addr) (h0 : Heap) (n0 : Nat) (v : Option Value) (h : Heap) (L : List Loc) : Prop := ∃ ra : Addr, ∃ ja : Addr, ∃ bl : Addr, ∃ bd : Addr, ∃ l0 : Addr, ∃ l1 : Addr, ∃ l2 : Addr, ∃ l3 : Addr, ∃ kb : ClassId, v = none ∧ Fr n0 L ∧ (Keep h0 h [a1]) ∧ (h0.size ≤ ra) ∧ (h0.size ≤ ja) ∧ (h0.size ≤ bl) ∧ (h0.size ≤ bd) ∧ (h0.size ≤ l0) ∧ (h0.size ≤ l1) ∧ (h0.size ≤ l2) ∧ (h0.size ≤ l3) ∧ (n0 ≤ ra) ∧ (n0 ≤ ja) ∧ (n0 ≤ bl) ∧ (n0 ≤ bd) ∧ (n0 ≤ l0) ∧ (n0 ≤ l1) ∧ (n0 ≤ l2) ∧ (n0 ≤ l3) ∧ (ra ≠ ja) ∧ (ra ≠ bl) ∧ (ra ≠ bd) ∧ (ra ≠ l0) ∧ (ra ≠ l1) ∧ (ra ≠ l2) ∧ (ra ≠ l3) ∧ (ja ≠ bl) ∧ (ja ≠ bd) ∧ (ja ≠ l0) ∧ (ja ≠ l1) ∧ (ja ≠ l2) ∧ (ja ≠ l3) ∧ (bl ≠ bd) ∧ (bl ≠ l0) ∧ (bl ≠ l1) ∧ (bl ≠ l2) ∧ (bl ≠ l3) ∧ (bd ≠ l0) ∧ (bd ≠ l1) ∧ (bd ≠ l2) ∧ (bd ≠ l3) ∧ (l0 ≠ l1) ∧ (l0 ≠ l2) ∧ (l0 ≠ l3) ∧ (l1 ≠ l2) ∧ (l1 ≠ l3) ∧ (l2 ≠ l3) ∧ (Fld Z h a1 "com/example/wachter/wachter/sim/QueueOrder" "requests" "[I" (.ref ra)) ∧ (Fld Z h a1 "com/example/wachter/wachter/sim/QueueOrder" "joinedAs" "[J" (.ref ja)) ∧ (Fld Z h a1 "com/example/wachter/wachter/sim/QueueOrder" "behind" "Ljava/util/List;" (.ref bl)) ∧ (Fld Z h a1 "com/example/wachter/wachter/sim/QueueOrder" "joined" "J" (.long (1 : Int64))) ∧ (ArI Z h ra (4 : Int32) (fun _ => 0)) ∧ (ArJ Z h ja (4 : Int32) (upd (upd (upd (upd (upd (fun _ => 0) (0 : Int32).toNatClampNeg (-1 : Int64)) (1 : Int32).toNatClampNeg (-1 : Int64)) (2 : Int32).toNatClampNeg (-1 : Int64)) (3 : Int32).toNatClampNeg (-1 : Int64)) p3.toNatClampNeg (0 : Int64))) ∧ (Exa Z h bl "java/util/ArrayList") ∧ (Fld Z h bl "java/util/ArrayList" "elementData" "[Ljava/lang/Object;" (.ref bd)) ∧ (Fld Z h bl "java/util/ArrayList" "size" "I" (.int (4 : Int32))) ∧ (Fld Z h bl "java/util/AbstractList" "modCount" "I" (.int (4 : Int32))) ∧ (ArR Z h bd kb "java/lang/Object" (4 : Int32) (upd (upd (upd (upd (fun _ => .null) (0 : Int32).toNatClampNeg (.ref l0)) (1 : Int32).toNatClampNeg (.ref l1)) (2 : Int32).toNatClampNeg (.ref l2)) (3 : Int32).toNatClampNeg (.ref l3))) ∧ (Exa Z h l0 "java/util/ArrayList") ∧ (Fld Z h l0 "java/util/ArrayList" "elementData" "[Ljava/lang/Object;" (.ref dd)) ∧ (Fld Z h l0 "java/util/ArrayList" "size" "I" (.int (0 : Int32))) ∧ (Fld Z h l0 "java/util/AbstractList" "modCount" "I" (.int (0 : Int32))) ∧ (Exa Z h l1 "java/util/ArrayList") ∧ (Fld Z h l1 "java/util/ArrayList" "elementData" "[Ljava/lang/Object;" (.ref dd)) ∧ (Fld Z h l1 "java/util/ArrayList" "size" "I" (.int (0 : Int32))) ∧ (Fld Z h l1 "java/util/AbstractList" "modCount" "I" (.int (0 : Int32))) ∧ (Exa Z h l2 "java/util/ArrayList") ∧ (Fld Z h l2 "java/util/ArrayList" "elementData" "[Ljava/lang/Object;" (.ref dd)) ∧ (Fld Z h l2 "java/util/ArrayList" "size" "I" (.int (0 : Int32))) ∧ (Fld Z h l2 "java/util/AbstractList" "modCount" "I" (.int (0 : Int32))) ∧ (Exa Z h l3 "java/util/ArrayList") ∧ (Fld Z h l3 "java/util/ArrayList" "elementData" "[Ljava/lang/Object;" (.ref dd)) ∧ (Fld Z h l3 "java/util/ArrayList" "size" "I" (.int (0 : Int32))) ∧ (Fld Z h l3 "java/util/AbstractList" "modCount" "I" (.int (0 : Int32)))
theorem ef_Q (m : MethodId) (a1 : Addr) (p3 : Int32) : entryFrame m #[(.ref a1), (.int (4 : Int32)), (.int p3)] 4 = mkF m 0 #[.val (.ref a1), .val (.int (4 : Int32)), .val (.int p3), .unset] [] := by first | (simp [entryFrame, mkF, argsToLocals, Value.category]; done) | rfl
set_option maxRecDepth 65536 in
set_option maxHeartbeats 40000000 in
theorem rmQ (l : Launch) (Z : State) (a0 : Array Value) (hw : ∀ d ∈ tables_1, d.before a0 Z = true) (ws : List Jvm.Cond) (a1 : Addr) (p3 : Int32) (dd : Addr) (h0 : Heap) (n0 : Nat) (Zs : n0 ≤ h0.size) (E_a1 : Exa Z h0 a1 "com/example/wachter/wachter/sim/QueueOrder") (F_requests_a1 : Fld Z h0 a1 "com/example/wachter/wachter/sim/QueueOrder" "requests" "[I" .null) (F_joinedAs_a1 : Fld Z h0 a1 "com/example/wachter/wachter/sim/QueueOrder" "joinedAs" "[J" .null) (F_behind_a1 : Fld Z h0 a1 "com/example/wachter/wachter/sim/QueueOrder" "behind" "Ljava/util/List;" .null) (F_joined_a1 : Fld Z h0 a1 "com/example/wachter/wachter/sim/QueueOrder" "joined" "J" (.long (0 : Int64))) (g_a1 : n0 ≤ a1) (Ol : Old Z n0 h0) (S_DEFAULTCAPACITY_EMPTY_ELEMENTDATA : Sta Z Z.heap "java/util/ArrayList" "DEFAULTCAPACITY_EMPTY_ELEMENTDATA" "[Ljava/lang/Object;" (.ref dd)) (hi : ¬ p3 < (0 : Int32) ∧ p3 < (4 : Int32)) :
    MetFree l (⟨"com/example/wachter/wachter/sim/QueueOrder", "<init>", "(II)V"⟩ : MethodName) (head1 (Jvm.Cond.code (⟨"com/example/wachter/wachter/sim/QueueOrder", "<init>", "(II)V"⟩ : MethodName) prog_41_method_1_code 4 none :: ws) ({ frames := 4, cells := 8, slots := 27, locals := 51 } : Room)) (fun a U => a = #[(.ref a1), (.int (4 : Int32)), (.int p3)] ∧ Z.Warmed39 U.vm ∧ U.heap = h0) (fun _ _ _ _ _ => True) (fun _ U o U' => ∃ v L, o = .returned v ∧ QQ Z a1 p3 dd h0 n0 v U'.heap L ∧ FrameEnd U o U' L ({ frames := 4, cells := 8, slots := 27, locals := 51 } : Room).cells ({ frames := 4, cells := 8, slots := 27, locals := 51 } : Room).slots) := by
  refine MetFree.of_bodySF (plainFor_of_name pn_7) hisR ?_
  intro p e s m args below meth c s₁ Bd hml0 hP hK
  obtain ⟨rfl, hZ, hh⟩ := hP
  have hx := Bd.exec
  have hby := Bd.bytes
  have hml : c.maxLocals = 4 := hml0
  have hown : s.vm.findClass "com/example/wachter/wachter/sim/QueueOrder" = some m.cls := findClass_of_methodNamed Bd.named
  have hnm := (name_of_methodNamed Bd.named Bd.method).1
  have X0 : Stand p l e ({ frames := 4, cells := 8, slots := 27, locals := 51 } : Room) s m #[(.ref a1), (.int (4 : Int32)), (.int p3)] below meth c s₁ [] 0 0 := Stand.of_body Bd
  have e0 : s₁.heap = h0 := by rw [← hh, Bd.state]; rfl
  have N0 := Fr.nil n0
  have pre0 : ∀ t, Steps p.tables e below (s₁.setTop (mkF m 0 #[.val (.ref a1), .val (.int (4 : Int32)), .val (.int p3), .unset] [])) t → Steps p.tables e below (s₁.setTop (entryFrame m #[(.ref a1), (.int (4 : Int32)), (.int p3)] 4)) t := fun t k => castTop (ef_Q m a1 p3) k
  have Kp : Keep h0 h0 [a1] := Keep.refl h0 [a1]
  obtain ⟨T188, X188, e188, st188⟩ := initO X0 hx hZ hown (hw _ (List.mem_of_getElem? (i := 7) rfl)) (hw _ (List.mem_of_getElem? (i := 8) rfl)) (hw _ (List.mem_of_getElem? (i := 9) rfl)) e0 (g := (mkF m 1 #[.val (.ref a1), .val (.int (4 : Int32)), .val (.int p3), .unset] [(.ref a1)])) rfl (by rw [hml]; rfl) rfl (hb hby d1_1) (by decide) (W := 0) (by show 2 * 0 + _ ≤ _; exact Nat.le_of_eq rfl) (by decide)
  obtain ⟨T189, h189, k189, X189, e189, E189, A189, B189, st189⟩ := newPE X188 hx hZ (hw _ (List.mem_of_getElem? (i := 10) rfl)) e188 (g := (mkF m 6 #[.val (.ref a1), .val (.int (4 : Int32)), .val (.int p3), .unset] [(.int (4 : Int32)), (.ref a1)])) rfl (hb hby d1_6) rfl (by decide) (cap := 4) (by decide) (by decide) (by decide) (by decide) (ad := "[I") (by decide)
  obtain ⟨b189, g189⟩ : ∃ z, z = h0.size := ⟨_, rfl⟩
  rw [← g189] at A189 B189 st189
  have g_b189 : n0 ≤ b189 := Nat.le_trans Zs (Nat.le_of_eq g189.symm)
  have sz_b189 : h0.size ≤ b189 := Nat.le_trans Kp.1 (Nat.le_of_eq g189.symm)
  have ne_a1_b189 : a1 ≠ b189 := Nat.ne_of_lt (Nat.lt_of_lt_of_le E_a1.lt (Nat.le_of_eq g189.symm))
  have Zs : n0 ≤ h189.size := Nat.le_trans Zs E189.1
  have E_a1 : Exa Z h189 a1 "com/example/wachter/wachter/sim/QueueOrder" := E_a1.ext E189
  have F_requests_a1 : Fld Z h189 a1 "com/example/wachter/wachter/sim/QueueOrder" "requests" "[I" .null := F_requests_a1.ext E189
  have F_joinedAs_a1 : Fld Z h189 a1 "com/example/wachter/wachter/sim/QueueOrder" "joinedAs" "[J" .null := F_joinedAs_a1.ext E189
  have F_behind_a1 : Fld Z h189 a1 "com/example/wachter/wachter/sim/QueueOrder" "behind" "Ljava/util/List;" .null := F_behind_a1.ext E189
  have F_joined_a1 : Fld Z h189 a1 "com/example/wachter/wachter/sim/QueueOrder" "joined" "J" (.long (0 : Int64)) := F_joined_a1.ext E189
  have Ol : Old Z n0 h189 := Ol.ext E189
  have Kp : Keep h0 h189 [a1] := Kp.ext E189
  have E_b189 : Exa Z h189 b189 "[I" := B189
  have A_b189 : ArI Z h189 b189 (4 : Int32) (fun _ => 0) := ArI.new A189 (by decide)
  obtain ⟨T190, h190, X190, e190, W190, st190⟩ := putF X189 hx hZ hown (host := "") (Or.inl (hw _ (List.mem_of_getElem? (i := 11) rfl))) Via.refl e189 F_requests_a1 E_a1 (Or.inr ⟨(hw _ (List.mem_of_getElem? (i := 12) rfl)), rfl, hnm⟩) (hw _ (List.mem_of_getElem? (i := 2) rfl)) (ty := (.array .int)) (by decide) rfl rfl (g := (mkF m 8 #[.val (.ref a1), .val (.int (4 : Int32)), .val (.int p3), .unset] [(.ref b189), (.ref a1)])) rfl rfl (hb hby d1_8)
  have N190 := Fr.snoc X190 N0 g_a1
  have Zs : n0 ≤ h190.size := Nat.le_trans Zs (Keep.of_wr W190).1
  have E_a1 : Exa Z h190 a1 "com/example/wachter/wachter/sim/QueueOrder" := E_a1.wr W190
  have F_requests_a1 : Fld Z h190 a1 "com/example/wachter/wachter/sim/QueueOrder" "requests" "[I" (.ref b189) := F_requests_a1.same W190
  have F_joinedAs_a1 : Fld Z h190 a1 "com/example/wachter/wachter/sim/QueueOrder" "joinedAs" "[J" .null := F_joinedAs_a1.other W190 (Or.inr (slot_ne (Or.inr (hw _ (List.mem_of_getElem? (i := 15) rfl))) (Or.inr (hw _ (List.mem_of_getElem? (i := 12) rfl))) (by decide) (t := (.array .long)) (t' := (.array .int)) (by decide) (by decide)))
  have F_behind_a1 : Fld Z h190 a1 "com/example/wachter/wachter/sim/QueueOrder" "behind" "Ljava/util/List;" .null := F_behind_a1.other W190 (Or.inr (slot_ne (Or.inr (hw _ (List.mem_of_getElem? (i := 42) rfl))) (Or.inr (hw _ (List.mem_of_getElem? (i := 12) rfl))) (by decide) (t := (.object "java/util/List")) (t' := (.array .int)) (by decide) (by decide)))
  have F_joined_a1 : Fld Z h190 a1 "com/example/wachter/wachter/sim/QueueOrder" "joined" "J" (.long (0 : Int64)) := F_joined_a1.other W190 (Or.inr (slot_ne (Or.inl (hw _ (List.mem_of_getElem? (i := 72) rfl))) (Or.inr (hw _ (List.mem_of_getElem? (i := 12) rfl))) (by decide) (t := .long) (t' := (.array .int)) (by decide) (by decide)))
  have Ol : Old Z n0 h190 := Ol.wr W190 g_a1
  have Kp : Keep h0 h190 [a1] := Kp.wr W190 (Or.inl (List.mem_of_getElem? (i := 0) rfl))
  have E_b189 : Exa Z h190 b189 "[I" := E_b189.wr W190
  have A_b189 : ArI Z h190 b189 (4 : Int32) (fun _ => 0) := A_b189.other W190 (Ne.symm ne_a1_b189)
  obtain ⟨T191, h191, k191, X191, e191, E191, A191, B191, st191⟩ := newPE X190 hx hZ (hw _ (List.mem_of_getElem? (i := 13) rfl)) e190 (g := (mkF m 13 #[.val (.ref a1), .val (.int (4 : Int32)), .val (.int p3), .unset] [(.int (4 : Int32)), (.ref a1)])) rfl (hb hby d1_13) rfl (by decide) (cap := 4) (by decide) (by decide) (by decide) (by decide) (ad := "[J") (by decide)
  obtain ⟨b191, g191⟩ : ∃ z, z = h190.size := ⟨_, rfl⟩
  rw [← g191] at A191 B191 st191
  have g_b191 : n0 ≤ b191 := Nat.le_trans Zs (Nat.le_of_eq g191.symm)
  have sz_b191 : h0.size ≤ b191 := Nat.le_trans Kp.1 (Nat.le_of_eq g191.symm)
  have ne_a1_b191 : a1 ≠ b191 := Nat.ne_of_lt (Nat.lt_of_lt_of_le E_a1.lt (Nat.le_of_eq g191.symm))
  have ne_b189_b191 : b189 ≠ b191 := Nat.ne_of_lt (Nat.lt_of_lt_of_le E_b189.lt (Nat.le_of_eq g191.symm))
  have Zs : n0 ≤ h191.size := Nat.le_trans Zs E191.1
  have E_a1 : Exa Z h191 a1 "com/example/wachter/wachter/sim/QueueOrder" := E_a1.ext E191
  have F_requests_a1 : Fld Z h191 a1 "com/example/wachter/wachter/sim/QueueOrder" "requests" "[I" (.ref b189) := F_requests_a1.ext E191
  have F_joinedAs_a1 : Fld Z h191 a1 "com/example/wachter/wachter/sim/QueueOrder" "joinedAs" "[J" .null := F_joinedAs_a1.ext E191
  have F_behind_a1 : Fld Z h191 a1 "com/example/wachter/wachter/sim/QueueOrder" "behind" "Ljava/util/List;" .null := F_behind_a1.ext E191
  have F_joined_a1 : Fld Z h191 a1 "com/example/wachter/wachter/sim/QueueOrder" "joined" "J" (.long (0 : Int64)) := F_joined_a1.ext E191
  have Ol : Old Z n0 h191 := Ol.ext E191
  have Kp : Keep h0 h191 [a1] := Kp.ext E191
  have E_b189 : Exa Z h191 b189 "[I" := E_b189.ext E191
  have A_b189 : ArI Z h191 b189 (4 : Int32) (fun _ => 0) := A_b189.ext E191
  have E_b191 : Exa Z h191 b191 "[J" := B191
  have A_b191 : ArJ Z h191 b191 (4 : Int32) (fun _ => 0) := ArJ.new A191 (by decide)
  obtain ⟨T192, h192, X192, e192, W192, st192⟩ := putF X191 hx hZ hown (host := "") (Or.inl (hw _ (List.mem_of_getElem? (i := 14) rfl))) Via.refl e191 F_joinedAs_a1 E_a1 (Or.inr ⟨(hw _ (List.mem_of_getElem? (i := 15) rfl)), rfl, hnm⟩) (hw _ (List.mem_of_getElem? (i := 2) rfl)) (ty := (.array .long)) (by decide) rfl rfl (g := (mkF m 15 #[.val (.ref a1), .val (.int (4 : Int32)), .val (.int p3), .unset] [(.ref b191), (.ref a1)])) rfl rfl (hb hby d1_15)
  have N192 := Fr.snoc X192 N190 g_a1
  have Zs : n0 ≤ h192.size := Nat.le_trans Zs (Keep.of_wr W192).1
  have E_a1 : Exa Z h192 a1 "com/example/wachter/wachter/sim/QueueOrder" := E_a1.wr W192
  have F_requests_a1 : Fld Z h192 a1 "com/example/wachter/wachter/sim/QueueOrder" "requests" "[I" (.ref b189) := F_requests_a1.other W192 (Or.inr (slot_ne (Or.inr (hw _ (List.mem_of_getElem? (i := 12) rfl))) (Or.inr (hw _ (List.mem_of_getElem? (i := 15) rfl))) (by decide) (t := (.array .int)) (t' := (.array .long)) (by decide) (by decide)))
  have F_joinedAs_a1 : Fld Z h192 a1 "com/example/wachter/wachter/sim/QueueOrder" "joinedAs" "[J" (.ref b191) := F_joinedAs_a1.same W192
  have F_behind_a1 : Fld Z h192 a1 "com/example/wachter/wachter/sim/QueueOrder" "behind" "Ljava/util/List;" .null := F_behind_a1.other W192 (Or.inr (slot_ne (Or.inr (hw _ (List.mem_of_getElem? (i := 42) rfl))) (Or.inr (hw _ (List.mem_of_getElem? (i := 15) rfl))) (by decide) (t := (.object "java/util/List")) (t' := (.array .long)) (by decide) (by decide)))
  have F_joined_a1 : Fld Z h192 a1 "com/example/wachter/wachter/sim/QueueOrder" "joined" "J" (.long (0 : Int64)) := F_joined_a1.other W192 (Or.inr (slot_ne (Or.inl (hw _ (List.mem_of_getElem? (i := 72) rfl))) (Or.inr (hw _ (List.mem_of_getElem? (i := 15) rfl))) (by decide) (t := .long) (t' := (.array .long)) (by decide) (by decide)))
  have Ol : Old Z n0 h192 := Ol.wr W192 g_a1
  have Kp : Keep h0 h192 [a1] := Kp.wr W192 (Or.inl (List.mem_of_getElem? (i := 0) rfl))
  have E_b189 : Exa Z h192 b189 "[I" := E_b189.wr W192
  have A_b189 : ArI Z h192 b189 (4 : Int32) (fun _ => 0) := A_b189.other W192 (Ne.symm ne_a1_b189)
  have E_b191 : Exa Z h192 b191 "[J" := E_b191.wr W192
  have A_b191 : ArJ Z h192 b191 (4 : Int32) (fun _ => 0) := A_b191.other W192 (Ne.symm ne_a1_b191)
  obtain ⟨T193, h193, X193, e193, E193, A193, D193, -, st193⟩ := newO X192 hx hZ hown (hw _ (List.mem_of_getElem? (i := 16) rfl)) (hw _ (List.mem_of_getElem? (i := 17) rfl)) (hw _ (List.mem_of_getElem? (i := 18) rfl)) e192 (g := (mkF m 19 #[.val (.ref a1), .val (.int (4 : Int32)), .val (.int p3), .unset] [(.ref a1)])) rfl (hb hby d1_19) (by decide) (by decide)
  obtain ⟨b193, g193⟩ : ∃ z, z = h192.size := ⟨_, rfl⟩
  rw [← g193] at A193 D193 st193
  have g_b193 : n0 ≤ b193 := Nat.le_trans Zs (Nat.le_of_eq g193.symm)
  have sz_b193 : h0.size ≤ b193 := Nat.le_trans Kp.1 (Nat.le_of_eq g193.symm)
  have ne_a1_b193 : a1 ≠ b193 := Nat.ne_of_lt (Nat.lt_of_lt_of_le E_a1.lt (Nat.le_of_eq g193.symm))
  have ne_b189_b193 : b189 ≠ b193 := Nat.ne_of_lt (Nat.lt_of_lt_of_le E_b189.lt (Nat.le_of_eq g193.symm))
  have ne_b191_b193 : b191 ≠ b193 := Nat.ne_of_lt (Nat.lt_of_lt_of_le E_b191.lt (Nat.le_of_eq g193.symm))
  have Zs : n0 ≤ h193.size := Nat.le_trans Zs E193.1
  have E_a1 : Exa Z h193 a1 "com/example/wachter/wachter/sim/QueueOrder" := E_a1.ext E193
  have F_requests_a1 : Fld Z h193 a1 "com/example/wachter/wachter/sim/QueueOrder" "requests" "[I" (.ref b189) := F_requests_a1.ext E193
  have F_joinedAs_a1 : Fld Z h193 a1 "com/example/wachter/wachter/sim/QueueOrder" "joinedAs" "[J" (.ref b191) := F_joinedAs_a1.ext E193
  have F_behind_a1 : Fld Z h193 a1 "com/example/wachter/wachter/sim/QueueOrder" "behind" "Ljava/util/List;" .null := F_behind_a1.ext E193
  have F_joined_a1 : Fld Z h193 a1 "com/example/wachter/wachter/sim/QueueOrder" "joined" "J" (.long (0 : Int64)) := F_joined_a1.ext E193
  have Ol : Old Z n0 h193 := Ol.ext E193
  have Kp : Keep h0 h193 [a1] := Kp.ext E193
  have E_b189 : Exa Z h193 b189 "[I" := E_b189.ext E193
  have A_b189 : ArI Z h193 b189 (4 : Int32) (fun _ => 0) := A_b189.ext E193
  have E_b191 : Exa Z h193 b191 "[J" := E_b191.ext E193
  have A_b191 : ArJ Z h193 b191 (4 : Int32) (fun _ => 0) := A_b191.ext E193
  have E_b193 : Exa Z h193 b193 "java/util/ArrayList" := A193
  have F_modCount_b193 : Fld Z h193 b193 "java/util/AbstractList" "modCount" "I" (.int (0 : Int32)) := D193 (Or.inl (hw _ (List.mem_of_getElem? (i := 36) rfl))) (ty := .int) (by decide)
  have F_elementData_b193 : Fld Z h193 b193 "java/util/ArrayList" "elementData" "[Ljava/lang/Object;" .null := D193 (Or.inl (hw _ (List.mem_of_getElem? (i := 40) rfl))) (ty := (.array (.object "java/lang/Object"))) (by decide)
  have F_size_b193 : Fld Z h193 b193 "java/util/ArrayList" "size" "I" (.int (0 : Int32)) := D193 (Or.inl (hw _ (List.mem_of_getElem? (i := 64) rfl))) (ty := .int) (by decide)
  obtain ⟨_, _, ⟨T194, L194, k194, n194⟩, -, X194, ⟨Lc194, hQ194, l194, y194, z194⟩, st194⟩ := X193.specialBack hx (y := (⟨"java/util/ArrayList", "<init>", "(I)V"⟩ : MethodName)) rfl hown (mvT hZ (hw _ (List.mem_of_getElem? (i := 19) rfl))) (mvT hZ (hw _ (List.mem_of_getElem? (i := 20) rfl))) (mvT hZ (hw _ (List.mem_of_getElem? (i := 21) rfl))) (by decide) (backOf (W := 2) (rmALI l Z a0 hw [] b193 (0 : Int32) (0 : Int32) h193 n0 Zs E_b193 F_elementData_b193 F_size_b193 F_modCount_b193 g_b193) hZ (hw _ (List.mem_of_getElem? (i := 21) rfl)) (hw _ (List.mem_of_getElem? (i := 18) rfl)) (by decide) (by decide)) (g := (mkF m 24 #[.val (.ref a1), .val (.int (4 : Int32)), .val (.int p3), .unset] [(.int (4 : Int32)), (.ref b193), (.ref b193), (.ref a1)])) rfl (by rw [hml]; rfl) (Steps.refl _) (a := b193) (argsL := [(.int (4 : Int32))]) (rest := [(.ref b193), (.ref a1)]) (lenOf pd_12 rfl) rfl (by show 2 * 0 + _ ≤ _; exact Nat.le_of_eq rfl) (hb hby d1_24) (fun _ _ => ⟨rfl, e193, (by decide : 3 + 1 ≤ _), (by decide : 11 + 4 ≤ _)⟩)
  dsimp only [Pt.U, Pt.locs, Pt.cells, Pt.slots] at X194 l194 y194 z194 st194 hQ194
  subst l194 y194 z194
  obtain ⟨b_194, kb_194, rfl, N194q, K194, szc_b_194, g_b_194, P194_3, P194_4, P194_5, P194_6⟩ := hQ194
  have sz_b_194 : h0.size ≤ b_194 := Nat.le_trans Kp.1 szc_b_194
  have ne_a1_b_194 : a1 ≠ b_194 := Nat.ne_of_lt (Nat.lt_of_lt_of_le E_a1.lt szc_b_194)
  have ne_b189_b_194 : b189 ≠ b_194 := Nat.ne_of_lt (Nat.lt_of_lt_of_le E_b189.lt szc_b_194)
  have ne_b191_b_194 : b191 ≠ b_194 := Nat.ne_of_lt (Nat.lt_of_lt_of_le E_b191.lt szc_b_194)
  have ne_b193_b_194 : b193 ≠ b_194 := Nat.ne_of_lt (Nat.lt_of_lt_of_le E_b193.lt szc_b_194)
  have Zs : n0 ≤ T194.heap.size := Nat.le_trans Zs K194.1
  have E_a1 : Exa Z T194.heap a1 "com/example/wachter/wachter/sim/QueueOrder" := E_a1.keep K194
  have F_requests_a1 : Fld Z T194.heap a1 "com/example/wachter/wachter/sim/QueueOrder" "requests" "[I" (.ref b189) := F_requests_a1.keep K194 (ninS ne_a1_b193 nin0)
  have F_joinedAs_a1 : Fld Z T194.heap a1 "com/example/wachter/wachter/sim/QueueOrder" "joinedAs" "[J" (.ref b191) := F_joinedAs_a1.keep K194 (ninS ne_a1_b193 nin0)
  have F_behind_a1 : Fld Z T194.heap a1 "com/example/wachter/wachter/sim/QueueOrder" "behind" "Ljava/util/List;" .null := F_behind_a1.keep K194 (ninS ne_a1_b193 nin0)
  have F_joined_a1 : Fld Z T194.heap a1 "com/example/wachter/wachter/sim/QueueOrder" "joined" "J" (.long (0 : Int64)) := F_joined_a1.keep K194 (ninS ne_a1_b193 nin0)
  have Ol : Old Z n0 T194.heap := Ol.keep K194 (allS g_b193 all0)
  have Kp : Keep h0 T194.heap [a1] := Kp.trans K194 (allS (Or.inr sz_b193) all0)
  have E_b189 : Exa Z T194.heap b189 "[I" := E_b189.keep K194
  have A_b189 : ArI Z T194.heap b189 (4 : Int32) (fun _ => 0) := A_b189.keep K194 (ninS ne_b189_b193 nin0)
  have E_b191 : Exa Z T194.heap b191 "[J" := E_b191.keep K194
  have A_b191 : ArJ Z T194.heap b191 (4 : Int32) (fun _ => 0) := A_b191.keep K194 (ninS ne_b191_b193 nin0)
  have E_b193 : Exa Z T194.heap b193 "java/util/ArrayList" := E_b193.keep K194
  have F_elementData_b193 : Fld Z T194.heap b193 "java/util/ArrayList" "elementData" "[Ljava/lang/Object;" (.ref b_194) := P194_3
  have F_size_b193 : Fld Z T194.heap b193 "java/util/ArrayList" "size" "I" (.int (0 : Int32)) := P194_4
  have F_modCount_b193 : Fld Z T194.heap b193 "java/util/AbstractList" "modCount" "I" (.int (0 : Int32)) := P194_5
  have A_b_194 : ArR Z T194.heap b_194 kb_194 "java/lang/Object" (4 : Int32) (fun _ => .null) := P194_6
  have N194 := Fr.app N192 N194q
  obtain ⟨T195, h195, X195, e195, W195, st195⟩ := putF X194 hx hZ hown (host := "") (Or.inl (hw _ (List.mem_of_getElem? (i := 41) rfl))) Via.refl rfl F_behind_a1 E_a1 (Or.inr ⟨(hw _ (List.mem_of_getElem? (i := 42) rfl)), rfl, hnm⟩) (hw _ (List.mem_of_getElem? (i := 2) rfl)) (ty := (.object "java/util/List")) (by decide) rfl rfl (g := (mkF m 27 #[.val (.ref a1), .val (.int (4 : Int32)), .val (.int p3), .unset] [(.ref b193), (.ref a1)])) rfl rfl (hb hby d1_27)
  have N195 := Fr.snoc X195 N194 g_a1
  have Zs : n0 ≤ h195.size := Nat.le_trans Zs (Keep.of_wr W195).1
  have E_a1 : Exa Z h195 a1 "com/example/wachter/wachter/sim/QueueOrder" := E_a1.wr W195
  have F_requests_a1 : Fld Z h195 a1 "com/example/wachter/wachter/sim/QueueOrder" "requests" "[I" (.ref b189) := F_requests_a1.other W195 (Or.inr (slot_ne (Or.inr (hw _ (List.mem_of_getElem? (i := 12) rfl))) (Or.inr (hw _ (List.mem_of_getElem? (i := 42) rfl))) (by decide) (t := (.array .int)) (t' := (.object "java/util/List")) (by decide) (by decide)))
  have F_joinedAs_a1 : Fld Z h195 a1 "com/example/wachter/wachter/sim/QueueOrder" "joinedAs" "[J" (.ref b191) := F_joinedAs_a1.other W195 (Or.inr (slot_ne (Or.inr (hw _ (List.mem_of_getElem? (i := 15) rfl))) (Or.inr (hw _ (List.mem_of_getElem? (i := 42) rfl))) (by decide) (t := (.array .long)) (t' := (.object "java/util/List")) (by decide) (by decide)))
  have F_behind_a1 : Fld Z h195 a1 "com/example/wachter/wachter/sim/QueueOrder" "behind" "Ljava/util/List;" (.ref b193) := F_behind_a1.same W195
  have F_joined_a1 : Fld Z h195 a1 "com/example/wachter/wachter/sim/QueueOrder" "joined" "J" (.long (0 : Int64)) := F_joined_a1.other W195 (Or.inr (slot_ne (Or.inl (hw _ (List.mem_of_getElem? (i := 72) rfl))) (Or.inr (hw _ (List.mem_of_getElem? (i := 42) rfl))) (by decide) (t := .long) (t' := (.object "java/util/List")) (by decide) (by decide)))
  have Ol : Old Z n0 h195 := Ol.wr W195 g_a1
  have Kp : Keep h0 h195 [a1] := Kp.wr W195 (Or.inl (List.mem_of_getElem? (i := 0) rfl))
  have E_b189 : Exa Z h195 b189 "[I" := E_b189.wr W195
  have A_b189 : ArI Z h195 b189 (4 : Int32) (fun _ => 0) := A_b189.other W195 (Ne.symm ne_a1_b189)
  have E_b191 : Exa Z h195 b191 "[J" := E_b191.wr W195
  have A_b191 : ArJ Z h195 b191 (4 : Int32) (fun _ => 0) := A_b191.other W195 (Ne.symm ne_a1_b191)
  have E_b193 : Exa Z h195 b193 "java/util/ArrayList" := E_b193.wr W195
  have F_elementData_b193 : Fld Z h195 b193 "java/util/ArrayList" "elementData" "[Ljava/lang/Object;" (.ref b_194) := F_elementData_b193.other W195 (Or.inl (Ne.symm ne_a1_b193))
  have F_size_b193 : Fld Z h195 b193 "java/util/ArrayList" "size" "I" (.int (0 : Int32)) := F_size_b193.other W195 (Or.inl (Ne.symm ne_a1_b193))
  have F_modCount_b193 : Fld Z h195 b193 "java/util/AbstractList" "modCount" "I" (.int (0 : Int32)) := F_modCount_b193.other W195 (Or.inl (Ne.symm ne_a1_b193))
  have A_b_194 : ArR Z h195 b_194 kb_194 "java/lang/Object" (4 : Int32) (fun _ => .null) := A_b_194.other W195 (Ne.symm ne_a1_b_194)
  obtain ⟨T196, X196, e196, st196⟩ := getF X195 hx hZ hown (host := "") (Or.inl (hw _ (List.mem_of_getElem? (i := 14) rfl))) Via.refl e195 F_joinedAs_a1 (g := (mkF m 31 #[.val (.ref a1), .val (.int (4 : Int32)), .val (.int p3), .unset] [(.ref a1)])) rfl rfl (hb hby d1_31)
  obtain ⟨_, _, ⟨T197, L197, k197, n197⟩, -, X197, ⟨Lc197, hQ197, l197, y197, z197⟩, st197⟩ := Jvm.LawKit.callS X196 hx (y := (⟨"java/util/Arrays", "fill", "([JJ)V"⟩ : MethodName)) hown (mvT hZ (hw _ (List.mem_of_getElem? (i := 44) rfl))) (mvT hZ (hw _ (List.mem_of_getElem? (i := 45) rfl))) (mvT hZ (hw _ (List.mem_of_getElem? (i := 46) rfl))) (mvT hZ (hw _ (List.mem_of_getElem? (i := 47) rfl))) (by decide) (backOf (W := 0) (rmFILL l Z a0 hw [] b191 (-1 : Int64) (fun _ => 0) h195 n0 Zs A_b191 g_b191) hZ (hw _ (List.mem_of_getElem? (i := 47) rfl)) (hw _ (List.mem_of_getElem? (i := 46) rfl)) (by decide) (by decide)) (g := (mkF m 37 #[.val (.ref a1), .val (.int (4 : Int32)), .val (.int p3), .unset] [(.long (-1 : Int64)), (.ref b191)])) rfl (by rw [hml]; rfl) (argsL := [(.ref b191), (.long (-1 : Int64))]) (rest := []) (lenOf pd_13 rfl) rfl (by show 2 * 0 + _ ≤ _; exact Nat.le_of_eq rfl) (hb hby d1_37) (fun _ _ => ⟨rfl, e196, (by decide : 4 + 0 ≤ _), (by decide : 15 + 0 ≤ _)⟩)
  dsimp only [Pt.U, Pt.locs, Pt.cells, Pt.slots] at X197 l197 y197 z197 st197 hQ197
  subst l197 y197 z197
  obtain ⟨rfl, N197q, K197, P197_1⟩ := hQ197
  have Zs : n0 ≤ T197.heap.size := Nat.le_trans Zs K197.1
  have E_a1 : Exa Z T197.heap a1 "com/example/wachter/wachter/sim/QueueOrder" := E_a1.keep K197
  have F_requests_a1 : Fld Z T197.heap a1 "com/example/wachter/wachter/sim/QueueOrder" "requests" "[I" (.ref b189) := F_requests_a1.keep K197 (ninS ne_a1_b191 nin0)
  have F_joinedAs_a1 : Fld Z T197.heap a1 "com/example/wachter/wachter/sim/QueueOrder" "joinedAs" "[J" (.ref b191) := F_joinedAs_a1.keep K197 (ninS ne_a1_b191 nin0)
  have F_behind_a1 : Fld Z T197.heap a1 "com/example/wachter/wachter/sim/QueueOrder" "behind" "Ljava/util/List;" (.ref b193) := F_behind_a1.keep K197 (ninS ne_a1_b191 nin0)
  have F_joined_a1 : Fld Z T197.heap a1 "com/example/wachter/wachter/sim/QueueOrder" "joined" "J" (.long (0 : Int64)) := F_joined_a1.keep K197 (ninS ne_a1_b191 nin0)
  have Ol : Old Z n0 T197.heap := Ol.keep K197 (allS g_b191 all0)
  have Kp : Keep h0 T197.heap [a1] := Kp.trans K197 (allS (Or.inr sz_b191) all0)
  have E_b189 : Exa Z T197.heap b189 "[I" := E_b189.keep K197
  have A_b189 : ArI Z T197.heap b189 (4 : Int32) (fun _ => 0) := A_b189.keep K197 (ninS ne_b189_b191 nin0)
  have E_b191 : Exa Z T197.heap b191 "[J" := E_b191.keep K197
  have E_b193 : Exa Z T197.heap b193 "java/util/ArrayList" := E_b193.keep K197
  have F_elementData_b193 : Fld Z T197.heap b193 "java/util/ArrayList" "elementData" "[Ljava/lang/Object;" (.ref b_194) := F_elementData_b193.keep K197 (ninS (Ne.symm ne_b191_b193) nin0)
  have F_size_b193 : Fld Z T197.heap b193 "java/util/ArrayList" "size" "I" (.int (0 : Int32)) := F_size_b193.keep K197 (ninS (Ne.symm ne_b191_b193) nin0)
  have F_modCount_b193 : Fld Z T197.heap b193 "java/util/AbstractList" "modCount" "I" (.int (0 : Int32)) := F_modCount_b193.keep K197 (ninS (Ne.symm ne_b191_b193) nin0)
  have A_b_194 : ArR Z T197.heap b_194 kb_194 "java/lang/Object" (4 : Int32) (fun _ => .null) := A_b_194.keep K197 (ninS (Ne.symm ne_b191_b_194) nin0)
  have A_b191 : ArJ Z T197.heap b191 (4 : Int32) (upd (upd (upd (upd (fun _ => 0) (0 : Int32).toNatClampNeg (-1 : Int64)) (1 : Int32).toNatClampNeg (-1 : Int64)) (2 : Int32).toNatClampNeg (-1 : Int64)) (3 : Int32).toNatClampNeg (-1 : Int64)) := P197_1
  have N197 := Fr.app N195 N197q
  obtain ⟨T198, X198, e198, st198⟩ := getF X197 hx hZ hown (host := "") (Or.inl (hw _ (List.mem_of_getElem? (i := 41) rfl))) Via.refl rfl F_behind_a1 (g := (mkF m 48 #[.val (.ref a1), .val (.int (4 : Int32)), .val (.int p3), .val (.int (0 : Int32))] [(.ref a1)])) rfl rfl (hb hby d1_48)
  obtain ⟨T199, h199, X199, e199, E199, A199, D199, -, st199⟩ := newO X198 hx hZ hown (hw _ (List.mem_of_getElem? (i := 16) rfl)) (hw _ (List.mem_of_getElem? (i := 17) rfl)) (hw _ (List.mem_of_getElem? (i := 18) rfl)) e198 (g := (mkF m 51 #[.val (.ref a1), .val (.int (4 : Int32)), .val (.int p3), .val (.int (0 : Int32))] [(.ref b193)])) rfl (hb hby d1_51) (by decide) (by decide)
  obtain ⟨b199, g199⟩ : ∃ z, z = T197.heap.size := ⟨_, rfl⟩
  rw [← g199] at A199 D199 st199
  have g_b199 : n0 ≤ b199 := Nat.le_trans Zs (Nat.le_of_eq g199.symm)
  have sz_b199 : h0.size ≤ b199 := Nat.le_trans Kp.1 (Nat.le_of_eq g199.symm)
  have ne_a1_b199 : a1 ≠ b199 := Nat.ne_of_lt (Nat.lt_of_lt_of_le E_a1.lt (Nat.le_of_eq g199.symm))
  have ne_b189_b199 : b189 ≠ b199 := Nat.ne_of_lt (Nat.lt_of_lt_of_le E_b189.lt (Nat.le_of_eq g199.symm))
  have ne_b191_b199 : b191 ≠ b199 := Nat.ne_of_lt (Nat.lt_of_lt_of_le E_b191.lt (Nat.le_of_eq g199.symm))
  have ne_b193_b199 : b193 ≠ b199 := Nat.ne_of_lt (Nat.lt_of_lt_of_le E_b193.lt (Nat.le_of_eq g199.symm))
  have ne_b_194_b199 : b_194 ≠ b199 := Nat.ne_of_lt (Nat.lt_of_lt_of_le A_b_194.lt (Nat.le_of_eq g199.symm))
  have Zs : n0 ≤ h199.size := Nat.le_trans Zs E199.1
  have E_a1 : Exa Z h199 a1 "com/example/wachter/wachter/sim/QueueOrder" := E_a1.ext E199
  have F_requests_a1 : Fld Z h199 a1 "com/example/wachter/wachter/sim/QueueOrder" "requests" "[I" (.ref b189) := F_requests_a1.ext E199
  have F_joinedAs_a1 : Fld Z h199 a1 "com/example/wachter/wachter/sim/QueueOrder" "joinedAs" "[J" (.ref b191) := F_joinedAs_a1.ext E199
  have F_behind_a1 : Fld Z h199 a1 "com/example/wachter/wachter/sim/QueueOrder" "behind" "Ljava/util/List;" (.ref b193) := F_behind_a1.ext E199
  have F_joined_a1 : Fld Z h199 a1 "com/example/wachter/wachter/sim/QueueOrder" "joined" "J" (.long (0 : Int64)) := F_joined_a1.ext E199
  have Ol : Old Z n0 h199 := Ol.ext E199
  have Kp : Keep h0 h199 [a1] := Kp.ext E199
  have E_b189 : Exa Z h199 b189 "[I" := E_b189.ext E199
  have A_b189 : ArI Z h199 b189 (4 : Int32) (fun _ => 0) := A_b189.ext E199
  have E_b191 : Exa Z h199 b191 "[J" := E_b191.ext E199
  have E_b193 : Exa Z h199 b193 "java/util/ArrayList" := E_b193.ext E199
  have F_elementData_b193 : Fld Z h199 b193 "java/util/ArrayList" "elementData" "[Ljava/lang/Object;" (.ref b_194) := F_elementData_b193.ext E199
  have F_size_b193 : Fld Z h199 b193 "java/util/ArrayList" "size" "I" (.int (0 : Int32)) := F_size_b193.ext E199
  have F_modCount_b193 : Fld Z h199 b193 "java/util/AbstractList" "modCount" "I" (.int (0 : Int32)) := F_modCount_b193.ext E199
  have A_b_194 : ArR Z h199 b_194 kb_194 "java/lang/Object" (4 : Int32) (fun _ => .null) := A_b_194.ext E199
  have A_b191 : ArJ Z h199 b191 (4 : Int32) (upd (upd (upd (upd (fun _ => 0) (0 : Int32).toNatClampNeg (-1 : Int64)) (1 : Int32).toNatClampNeg (-1 : Int64)) (2 : Int32).toNatClampNeg (-1 : Int64)) (3 : Int32).toNatClampNeg (-1 : Int64)) := A_b191.ext E199
  have E_b199 : Exa Z h199 b199 "java/util/ArrayList" := A199
  have F_modCount_b199 : Fld Z h199 b199 "java/util/AbstractList" "modCount" "I" (.int (0 : Int32)) := D199 (Or.inl (hw _ (List.mem_of_getElem? (i := 36) rfl))) (ty := .int) (by decide)
  have F_elementData_b199 : Fld Z h199 b199 "java/util/ArrayList" "elementData" "[Ljava/lang/Object;" .null := D199 (Or.inl (hw _ (List.mem_of_getElem? (i := 40) rfl))) (ty := (.array (.object "java/lang/Object"))) (by decide)
  have F_size_b199 : Fld Z h199 b199 "java/util/ArrayList" "size" "I" (.int (0 : Int32)) := D199 (Or.inl (hw _ (List.mem_of_getElem? (i := 64) rfl))) (ty := .int) (by decide)
  obtain ⟨_, _, ⟨T200, L200, k200, n200⟩, -, X200, ⟨Lc200, hQ200, l200, y200, z200⟩, st200⟩ := X199.specialBack hx (y := (⟨"java/util/ArrayList", "<init>", "()V"⟩ : MethodName)) rfl hown (mvT hZ (hw _ (List.mem_of_getElem? (i := 48) rfl))) (mvT hZ (hw _ (List.mem_of_getElem? (i := 49) rfl))) (mvT hZ (hw _ (List.mem_of_getElem? (i := 50) rfl))) (by decide) (backOf (W := 2) (rmAL0 l Z a0 hw [] b199 (0 : Int32) (0 : Int32) dd h199 n0 Zs E_b199 F_elementData_b199 F_size_b199 F_modCount_b199 g_b199 Ol S_DEFAULTCAPACITY_EMPTY_ELEMENTDATA) hZ (hw _ (List.mem_of_getElem? (i := 50) rfl)) (hw _ (List.mem_of_getElem? (i := 18) rfl)) (by decide) (by decide)) (g := (mkF m 55 #[.val (.ref a1), .val (.int (4 : Int32)), .val (.int p3), .val (.int (0 : Int32))] [(.ref b199), (.ref b199), (.ref b193)])) rfl (by rw [hml]; rfl) (Steps.refl _) (a := b199) (argsL := []) (rest := [(.ref b199), (.ref b193)]) (lenOf pd_0 rfl) rfl (by show 2 * 0 + _ ≤ _; exact Nat.le_of_eq rfl) (hb hby d1_55) (fun _ _ => ⟨rfl, e199, (by decide : 5 + 0 ≤ _), (by decide : 18 + 0 ≤ _)⟩)
  dsimp only [Pt.U, Pt.locs, Pt.cells, Pt.slots] at X200 l200 y200 z200 st200 hQ200
  subst l200 y200 z200
  obtain ⟨rfl, N200q, K200, P200_1, P200_2, P200_3⟩ := hQ200
  have Zs : n0 ≤ T200.heap.size := Nat.le_trans Zs K200.1
  have E_a1 : Exa Z T200.heap a1 "com/example/wachter/wachter/sim/QueueOrder" := E_a1.keep K200
  have F_requests_a1 : Fld Z T200.heap a1 "com/example/wachter/wachter/sim/QueueOrder" "requests" "[I" (.ref b189) := F_requests_a1.keep K200 (ninS ne_a1_b199 nin0)
  have F_joinedAs_a1 : Fld Z T200.heap a1 "com/example/wachter/wachter/sim/QueueOrder" "joinedAs" "[J" (.ref b191) := F_joinedAs_a1.keep K200 (ninS ne_a1_b199 nin0)
  have F_behind_a1 : Fld Z T200.heap a1 "com/example/wachter/wachter/sim/QueueOrder" "behind" "Ljava/util/List;" (.ref b193) := F_behind_a1.keep K200 (ninS ne_a1_b199 nin0)
  have F_joined_a1 : Fld Z T200.heap a1 "com/example/wachter/wachter/sim/QueueOrder" "joined" "J" (.long (0 : Int64)) := F_joined_a1.keep K200 (ninS ne_a1_b199 nin0)
  have Ol : Old Z n0 T200.heap := Ol.keep K200 (allS g_b199 all0)
  have Kp : Keep h0 T200.heap [a1] := Kp.trans K200 (allS (Or.inr sz_b199) all0)
  have E_b189 : Exa Z T200.heap b189 "[I" := E_b189.keep K200
  have A_b189 : ArI Z T200.heap b189 (4 : Int32) (fun _ => 0) := A_b189.keep K200 (ninS ne_b189_b199 nin0)
  have E_b191 : Exa Z T200.heap b191 "[J" := E_b191.keep K200
  have E_b193 : Exa Z T200.heap b193 "java/util/ArrayList" := E_b193.keep K200
  have F_elementData_b193 : Fld Z T200.heap b193 "java/util/ArrayList" "elementData" "[Ljava/lang/Object;" (.ref b_194) := F_elementData_b193.keep K200 (ninS ne_b193_b199 nin0)
  have F_size_b193 : Fld Z T200.heap b193 "java/util/ArrayList" "size" "I" (.int (0 : Int32)) := F_size_b193.keep K200 (ninS ne_b193_b199 nin0)
  have F_modCount_b193 : Fld Z T200.heap b193 "java/util/AbstractList" "modCount" "I" (.int (0 : Int32)) := F_modCount_b193.keep K200 (ninS ne_b193_b199 nin0)
  have A_b_194 : ArR Z T200.heap b_194 kb_194 "java/lang/Object" (4 : Int32) (fun _ => .null) := A_b_194.keep K200 (ninS ne_b_194_b199 nin0)
  have A_b191 : ArJ Z T200.heap b191 (4 : Int32) (upd (upd (upd (upd (fun _ => 0) (0 : Int32).toNatClampNeg (-1 : Int64)) (1 : Int32).toNatClampNeg (-1 : Int64)) (2 : Int32).toNatClampNeg (-1 : Int64)) (3 : Int32).toNatClampNeg (-1 : Int64)) := A_b191.keep K200 (ninS ne_b191_b199 nin0)
  have E_b199 : Exa Z T200.heap b199 "java/util/ArrayList" := E_b199.keep K200
  have F_elementData_b199 : Fld Z T200.heap b199 "java/util/ArrayList" "elementData" "[Ljava/lang/Object;" (.ref dd) := P200_1
  have F_size_b199 : Fld Z T200.heap b199 "java/util/ArrayList" "size" "I" (.int (0 : Int32)) := P200_2
  have F_modCount_b199 : Fld Z T200.heap b199 "java/util/AbstractList" "modCount" "I" (.int (0 : Int32)) := P200_3
  have N200 := Fr.app N197 N200q
  obtain ⟨cq201, kq201, q201a, q201b, q201c⟩ := isOf hZ rfl E_b193
  obtain ⟨_, _, ⟨T201, L201, k201, n201⟩, -, X201, ⟨Lc201, hQ201, l201, y201, z201⟩, st201⟩ := X200.interfaceBack hx (xi := (⟨"java/util/List", "add", "(Ljava/lang/Object;)Z"⟩ : MethodName)) (y := (⟨"java/util/ArrayList", "add", "(Ljava/lang/Object;)Z"⟩ : MethodName)) hown (mvT hZ (hw _ (List.mem_of_getElem? (i := 52) rfl))) (mvT hZ (hw _ (List.mem_of_getElem? (i := 53) rfl))) (mvT hZ (hw _ (List.mem_of_getElem? (i := 54) rfl))) (mvT hZ (hw _ (List.mem_of_getElem? (i := 55) rfl))) (mvT hZ (hw _ (List.mem_of_getElem? (i := 56) rfl))) (mvT hZ (hw _ (List.mem_of_getElem? (i := 57) rfl))) (mvT hZ (hw _ (List.mem_of_getElem? (i := 58) rfl))) (mvT hZ (hw _ (List.mem_of_getElem? (i := 59) rfl))) (by decide) (backOf (W := 0) (rmA1n l Z a0 hw [] b193 b199 b_194 (0 : Int32) (0 : Int32) kb_194 (fun _ => .null) T200.heap n0 Zs E_b193 E_b199 F_elementData_b193 F_size_b193 F_modCount_b193 g_b193 g_b_194 A_b_194 ne_b193_b_194 (by decide) (by decide)) hZ (hw _ (List.mem_of_getElem? (i := 60) rfl)) (hw _ (List.mem_of_getElem? (i := 18) rfl)) (by decide) (by decide)) q201a q201b q201c (g := (mkF m 58 #[.val (.ref a1), .val (.int (4 : Int32)), .val (.int p3), .val (.int (0 : Int32))] [(.ref b199), (.ref b193)])) rfl (by rw [hml]; rfl) (Steps.refl _) (argsL := [(.ref b199)]) (rest := []) (lenOf pd_8 rfl) rfl (by show 2 * 0 + _ ≤ _; exact Nat.le_of_eq rfl) (hb hby d1_58) (fun _ _ => ⟨rfl, rfl, (by decide : 5 + 0 ≤ _), (by decide : 18 + 0 ≤ _)⟩)
  dsimp only [Pt.U, Pt.locs, Pt.cells, Pt.slots] at X201 l201 y201 z201 st201 hQ201
  subst l201 y201 z201
  obtain ⟨rfl, N201q, K201, P201_1, P201_2, P201_3, P201_4⟩ := hQ201
  have Zs : n0 ≤ T201.heap.size := Nat.le_trans Zs K201.1
  have E_a1 : Exa Z T201.heap a1 "com/example/wachter/wachter/sim/QueueOrder" := E_a1.keep K201
  have F_requests_a1 : Fld Z T201.heap a1 "com/example/wachter/wachter/sim/QueueOrder" "requests" "[I" (.ref b189) := F_requests_a1.keep K201 (ninS ne_a1_b193 (ninS ne_a1_b_194 nin0))
  have F_joinedAs_a1 : Fld Z T201.heap a1 "com/example/wachter/wachter/sim/QueueOrder" "joinedAs" "[J" (.ref b191) := F_joinedAs_a1.keep K201 (ninS ne_a1_b193 (ninS ne_a1_b_194 nin0))
  have F_behind_a1 : Fld Z T201.heap a1 "com/example/wachter/wachter/sim/QueueOrder" "behind" "Ljava/util/List;" (.ref b193) := F_behind_a1.keep K201 (ninS ne_a1_b193 (ninS ne_a1_b_194 nin0))
  have F_joined_a1 : Fld Z T201.heap a1 "com/example/wachter/wachter/sim/QueueOrder" "joined" "J" (.long (0 : Int64)) := F_joined_a1.keep K201 (ninS ne_a1_b193 (ninS ne_a1_b_194 nin0))
  have Ol : Old Z n0 T201.heap := Ol.keep K201 (allS g_b193 (allS g_b_194 all0))
  have Kp : Keep h0 T201.heap [a1] := Kp.trans K201 (allS (Or.inr sz_b193) (allS (Or.inr sz_b_194) all0))
  have E_b189 : Exa Z T201.heap b189 "[I" := E_b189.keep K201
  have A_b189 : ArI Z T201.heap b189 (4 : Int32) (fun _ => 0) := A_b189.keep K201 (ninS ne_b189_b193 (ninS ne_b189_b_194 nin0))
  have E_b191 : Exa Z T201.heap b191 "[J" := E_b191.keep K201
  have E_b193 : Exa Z T201.heap b193 "java/util/ArrayList" := E_b193.keep K201
  have A_b191 : ArJ Z T201.heap b191 (4 : Int32) (upd (upd (upd (upd (fun _ => 0) (0 : Int32).toNatClampNeg (-1 : Int64)) (1 : Int32).toNatClampNeg (-1 : Int64)) (2 : Int32).toNatClampNeg (-1 : Int64)) (3 : Int32).toNatClampNeg (-1 : Int64)) := A_b191.keep K201 (ninS ne_b191_b193 (ninS ne_b191_b_194 nin0))
  have E_b199 : Exa Z T201.heap b199 "java/util/ArrayList" := E_b199.keep K201
  have F_elementData_b199 : Fld Z T201.heap b199 "java/util/ArrayList" "elementData" "[Ljava/lang/Object;" (.ref dd) := F_elementData_b199.keep K201 (ninS (Ne.symm ne_b193_b199) (ninS (Ne.symm ne_b_194_b199) nin0))
  have F_size_b199 : Fld Z T201.heap b199 "java/util/ArrayList" "size" "I" (.int (0 : Int32)) := F_size_b199.keep K201 (ninS (Ne.symm ne_b193_b199) (ninS (Ne.symm ne_b_194_b199) nin0))
  have F_modCount_b199 : Fld Z T201.heap b199 "java/util/AbstractList" "modCount" "I" (.int (0 : Int32)) := F_modCount_b199.keep K201 (ninS (Ne.symm ne_b193_b199) (ninS (Ne.symm ne_b_194_b199) nin0))
  have F_elementData_b193 : Fld Z T201.heap b193 "java/util/ArrayList" "elementData" "[Ljava/lang/Object;" (.ref b_194) := P201_1
  have F_size_b193 : Fld Z T201.heap b193 "java/util/ArrayList" "size" "I" (.int (1 : Int32)) := P201_2
  have F_modCount_b193 : Fld Z T201.heap b193 "java/util/AbstractList" "modCount" "I" (.int (1 : Int32)) := P201_3
  have A_b_194 : ArR Z T201.heap b_194 kb_194 "java/lang/Object" (4 : Int32) (upd (fun _ => .null) (0 : Int32).toNatClampNeg (.ref b199)) := P201_4
  have N201 := Fr.app N200 N201q
  obtain ⟨T202, X202, e202, st202⟩ := getF X201 hx hZ hown (host := "") (Or.inl (hw _ (List.mem_of_getElem? (i := 41) rfl))) Via.refl rfl F_behind_a1 (g := (mkF m 48 #[.val (.ref a1), .val (.int (4 : Int32)), .val (.int p3), .val (.int (1 : Int32))] [(.ref a1)])) rfl rfl (hb hby d1_48)
  obtain ⟨T203, h203, X203, e203, E203, A203, D203, -, st203⟩ := newO X202 hx hZ hown (hw _ (List.mem_of_getElem? (i := 16) rfl)) (hw _ (List.mem_of_getElem? (i := 17) rfl)) (hw _ (List.mem_of_getElem? (i := 18) rfl)) e202 (g := (mkF m 51 #[.val (.ref a1), .val (.int (4 : Int32)), .val (.int p3), .val (.int (1 : Int32))] [(.ref b193)])) rfl (hb hby d1_51) (by decide) (by decide)
  obtain ⟨b203, g203⟩ : ∃ z, z = T201.heap.size := ⟨_, rfl⟩
  rw [← g203] at A203 D203 st203
  have g_b203 : n0 ≤ b203 := Nat.le_trans Zs (Nat.le_of_eq g203.symm)
  have sz_b203 : h0.size ≤ b203 := Nat.le_trans Kp.1 (Nat.le_of_eq g203.symm)
  have ne_a1_b203 : a1 ≠ b203 := Nat.ne_of_lt (Nat.lt_of_lt_of_le E_a1.lt (Nat.le_of_eq g203.symm))
  have ne_b189_b203 : b189 ≠ b203 := Nat.ne_of_lt (Nat.lt_of_lt_of_le E_b189.lt (Nat.le_of_eq g203.symm))
  have ne_b191_b203 : b191 ≠ b203 := Nat.ne_of_lt (Nat.lt_of_lt_of_le E_b191.lt (Nat.le_of_eq g203.symm))
  have ne_b193_b203 : b193 ≠ b203 := Nat.ne_of_lt (Nat.lt_of_lt_of_le E_b193.lt (Nat.le_of_eq g203.symm))
  have ne_b199_b203 : b199 ≠ b203 := Nat.ne_of_lt (Nat.lt_of_lt_of_le E_b199.lt (Nat.le_of_eq g203.symm))
  have ne_b_194_b203 : b_194 ≠ b203 := Nat.ne_of_lt (Nat.lt_of_lt_of_le A_b_194.lt (Nat.le_of_eq g203.symm))
  have Zs : n0 ≤ h203.size := Nat.le_trans Zs E203.1
  have E_a1 : Exa Z h203 a1 "com/example/wachter/wachter/sim/QueueOrder" := E_a1.ext E203
  have F_requests_a1 : Fld Z h203 a1 "com/example/wachter/wachter/sim/QueueOrder" "requests" "[I" (.ref b189) := F_requests_a1.ext E203
  have F_joinedAs_a1 : Fld Z h203 a1 "com/example/wachter/wachter/sim/QueueOrder" "joinedAs" "[J" (.ref b191) := F_joinedAs_a1.ext E203
  have F_behind_a1 : Fld Z h203 a1 "com/example/wachter/wachter/sim/QueueOrder" "behind" "Ljava/util/List;" (.ref b193) := F_behind_a1.ext E203
  have F_joined_a1 : Fld Z h203 a1 "com/example/wachter/wachter/sim/QueueOrder" "joined" "J" (.long (0 : Int64)) := F_joined_a1.ext E203
  have Ol : Old Z n0 h203 := Ol.ext E203
  have Kp : Keep h0 h203 [a1] := Kp.ext E203
  have E_b189 : Exa Z h203 b189 "[I" := E_b189.ext E203
  have A_b189 : ArI Z h203 b189 (4 : Int32) (fun _ => 0) := A_b189.ext E203
  have E_b191 : Exa Z h203 b191 "[J" := E_b191.ext E203
  have E_b193 : Exa Z h203 b193 "java/util/ArrayList" := E_b193.ext E203
  have A_b191 : ArJ Z h203 b191 (4 : Int32) (upd (upd (upd (upd (fun _ => 0) (0 : Int32).toNatClampNeg (-1 : Int64)) (1 : Int32).toNatClampNeg (-1 : Int64)) (2 : Int32).toNatClampNeg (-1 : Int64)) (3 : Int32).toNatClampNeg (-1 : Int64)) := A_b191.ext E203
  have E_b199 : Exa Z h203 b199 "java/util/ArrayList" := E_b199.ext E203
  have F_elementData_b199 : Fld Z h203 b199 "java/util/ArrayList" "elementData" "[Ljava/lang/Object;" (.ref dd) := F_elementData_b199.ext E203
  have F_size_b199 : Fld Z h203 b199 "java/util/ArrayList" "size" "I" (.int (0 : Int32)) := F_size_b199.ext E203
  have F_modCount_b199 : Fld Z h203 b199 "java/util/AbstractList" "modCount" "I" (.int (0 : Int32)) := F_modCount_b199.ext E203
  have F_elementData_b193 : Fld Z h203 b193 "java/util/ArrayList" "elementData" "[Ljava/lang/Object;" (.ref b_194) := F_elementData_b193.ext E203
  have F_size_b193 : Fld Z h203 b193 "java/util/ArrayList" "size" "I" (.int (1 : Int32)) := F_size_b193.ext E203
  have F_modCount_b193 : Fld Z h203 b193 "java/util/AbstractList" "modCount" "I" (.int (1 : Int32)) := F_modCount_b193.ext E203
  have A_b_194 : ArR Z h203 b_194 kb_194 "java/lang/Object" (4 : Int32) (upd (fun _ => .null) (0 : Int32).toNatClampNeg (.ref b199)) := A_b_194.ext E203
  have E_b203 : Exa Z h203 b203 "java/util/ArrayList" := A203
  have F_modCount_b203 : Fld Z h203 b203 "java/util/AbstractList" "modCount" "I" (.int (0 : Int32)) := D203 (Or.inl (hw _ (List.mem_of_getElem? (i := 36) rfl))) (ty := .int) (by decide)
  have F_elementData_b203 : Fld Z h203 b203 "java/util/ArrayList" "elementData" "[Ljava/lang/Object;" .null := D203 (Or.inl (hw _ (List.mem_of_getElem? (i := 40) rfl))) (ty := (.array (.object "java/lang/Object"))) (by decide)
  have F_size_b203 : Fld Z h203 b203 "java/util/ArrayList" "size" "I" (.int (0 : Int32)) := D203 (Or.inl (hw _ (List.mem_of_getElem? (i := 64) rfl))) (ty := .int) (by decide)
  obtain ⟨_, _, ⟨T204, L204, k204, n204⟩, -, X204, ⟨Lc204, hQ204, l204, y204, z204⟩, st204⟩ := X203.specialBack hx (y := (⟨"java/util/ArrayList", "<init>", "()V"⟩ : MethodName)) rfl hown (mvT hZ (hw _ (List.mem_of_getElem? (i := 48) rfl))) (mvT hZ (hw _ (List.mem_of_getElem? (i := 49) rfl))) (mvT hZ (hw _ (List.mem_of_getElem? (i := 50) rfl))) (by decide) (backOf (W := 2) (rmAL0 l Z a0 hw [] b203 (0 : Int32) (0 : Int32) dd h203 n0 Zs E_b203 F_elementData_b203 F_size_b203 F_modCount_b203 g_b203 Ol S_DEFAULTCAPACITY_EMPTY_ELEMENTDATA) hZ (hw _ (List.mem_of_getElem? (i := 50) rfl)) (hw _ (List.mem_of_getElem? (i := 18) rfl)) (by decide) (by decide)) (g := (mkF m 55 #[.val (.ref a1), .val (.int (4 : Int32)), .val (.int p3), .val (.int (1 : Int32))] [(.ref b203), (.ref b203), (.ref b193)])) rfl (by rw [hml]; rfl) (Steps.refl _) (a := b203) (argsL := []) (rest := [(.ref b203), (.ref b193)]) (lenOf pd_0 rfl) rfl (by show 2 * 0 + _ ≤ _; exact Nat.le_of_eq rfl) (hb hby d1_55) (fun _ _ => ⟨rfl, e203, (by decide : 6 + 0 ≤ _), (by decide : 21 + 0 ≤ _)⟩)
  dsimp only [Pt.U, Pt.locs, Pt.cells, Pt.slots] at X204 l204 y204 z204 st204 hQ204
  subst l204 y204 z204
  obtain ⟨rfl, N204q, K204, P204_1, P204_2, P204_3⟩ := hQ204
  have Zs : n0 ≤ T204.heap.size := Nat.le_trans Zs K204.1
  have E_a1 : Exa Z T204.heap a1 "com/example/wachter/wachter/sim/QueueOrder" := E_a1.keep K204
  have F_requests_a1 : Fld Z T204.heap a1 "com/example/wachter/wachter/sim/QueueOrder" "requests" "[I" (.ref b189) := F_requests_a1.keep K204 (ninS ne_a1_b203 nin0)
  have F_joinedAs_a1 : Fld Z T204.heap a1 "com/example/wachter/wachter/sim/QueueOrder" "joinedAs" "[J" (.ref b191) := F_joinedAs_a1.keep K204 (ninS ne_a1_b203 nin0)
  have F_behind_a1 : Fld Z T204.heap a1 "com/example/wachter/wachter/sim/QueueOrder" "behind" "Ljava/util/List;" (.ref b193) := F_behind_a1.keep K204 (ninS ne_a1_b203 nin0)
  have F_joined_a1 : Fld Z T204.heap a1 "com/example/wachter/wachter/sim/QueueOrder" "joined" "J" (.long (0 : Int64)) := F_joined_a1.keep K204 (ninS ne_a1_b203 nin0)
  have Ol : Old Z n0 T204.heap := Ol.keep K204 (allS g_b203 all0)
  have Kp : Keep h0 T204.heap [a1] := Kp.trans K204 (allS (Or.inr sz_b203) all0)
  have E_b189 : Exa Z T204.heap b189 "[I" := E_b189.keep K204
  have A_b189 : ArI Z T204.heap b189 (4 : Int32) (fun _ => 0) := A_b189.keep K204 (ninS ne_b189_b203 nin0)
  have E_b191 : Exa Z T204.heap b191 "[J" := E_b191.keep K204
  have E_b193 : Exa Z T204.heap b193 "java/util/ArrayList" := E_b193.keep K204
  have A_b191 : ArJ Z T204.heap b191 (4 : Int32) (upd (upd (upd (upd (fun _ => 0) (0 : Int32).toNatClampNeg (-1 : Int64)) (1 : Int32).toNatClampNeg (-1 : Int64)) (2 : Int32).toNatClampNeg (-1 : Int64)) (3 : Int32).toNatClampNeg (-1 : Int64)) := A_b191.keep K204 (ninS ne_b191_b203 nin0)
  have E_b199 : Exa Z T204.heap b199 "java/util/ArrayList" := E_b199.keep K204
  have F_elementData_b199 : Fld Z T204.heap b199 "java/util/ArrayList" "elementData" "[Ljava/lang/Object;" (.ref dd) := F_elementData_b199.keep K204 (ninS ne_b199_b203 nin0)
  have F_size_b199 : Fld Z T204.heap b199 "java/util/ArrayList" "size" "I" (.int (0 : Int32)) := F_size_b199.keep K204 (ninS ne_b199_b203 nin0)
  have F_modCount_b199 : Fld Z T204.heap b199 "java/util/AbstractList" "modCount" "I" (.int (0 : Int32)) := F_modCount_b199.keep K204 (ninS ne_b199_b203 nin0)
  have F_elementData_b193 : Fld Z T204.heap b193 "java/util/ArrayList" "elementData" "[Ljava/lang/Object;" (.ref b_194) := F_elementData_b193.keep K204 (ninS ne_b193_b203 nin0)
  have F_size_b193 : Fld Z T204.heap b193 "java/util/ArrayList" "size" "I" (.int (1 : Int32)) := F_size_b193.keep K204 (ninS ne_b193_b203 nin0)
  have F_modCount_b193 : Fld Z T204.heap b193 "java/util/AbstractList" "modCount" "I" (.int (1 : Int32)) := F_modCount_b193.keep K204 (ninS ne_b193_b203 nin0)
  have A_b_194 : ArR Z T204.heap b_194 kb_194 "java/lang/Object" (4 : Int32) (upd (fun _ => .null) (0 : Int32).toNatClampNeg (.ref b199)) := A_b_194.keep K204 (ninS ne_b_194_b203 nin0)
  have E_b203 : Exa Z T204.heap b203 "java/util/ArrayList" := E_b203.keep K204
  have F_elementData_b203 : Fld Z T204.heap b203 "java/util/ArrayList" "elementData" "[Ljava/lang/Object;" (.ref dd) := P204_1
  have F_size_b203 : Fld Z T204.heap b203 "java/util/ArrayList" "size" "I" (.int (0 : Int32)) := P204_2
  have F_modCount_b203 : Fld Z T204.heap b203 "java/util/AbstractList" "modCount" "I" (.int (0 : Int32)) := P204_3
  have N204 := Fr.app N201 N204q
  obtain ⟨cq205, kq205, q205a, q205b, q205c⟩ := isOf hZ rfl E_b193
  obtain ⟨_, _, ⟨T205, L205, k205, n205⟩, -, X205, ⟨Lc205, hQ205, l205, y205, z205⟩, st205⟩ := X204.interfaceBack hx (xi := (⟨"java/util/List", "add", "(Ljava/lang/Object;)Z"⟩ : MethodName)) (y := (⟨"java/util/ArrayList", "add", "(Ljava/lang/Object;)Z"⟩ : MethodName)) hown (mvT hZ (hw _ (List.mem_of_getElem? (i := 52) rfl))) (mvT hZ (hw _ (List.mem_of_getElem? (i := 53) rfl))) (mvT hZ (hw _ (List.mem_of_getElem? (i := 54) rfl))) (mvT hZ (hw _ (List.mem_of_getElem? (i := 55) rfl))) (mvT hZ (hw _ (List.mem_of_getElem? (i := 56) rfl))) (mvT hZ (hw _ (List.mem_of_getElem? (i := 57) rfl))) (mvT hZ (hw _ (List.mem_of_getElem? (i := 58) rfl))) (mvT hZ (hw _ (List.mem_of_getElem? (i := 59) rfl))) (by decide) (backOf (W := 0) (rmA1n l Z a0 hw [] b193 b203 b_194 (1 : Int32) (1 : Int32) kb_194 (upd (fun _ => .null) (0 : Int32).toNatClampNeg (.ref b199)) T204.heap n0 Zs E_b193 E_b203 F_elementData_b193 F_size_b193 F_modCount_b193 g_b193 g_b_194 A_b_194 ne_b193_b_194 (by decide) (by decide)) hZ (hw _ (List.mem_of_getElem? (i := 60) rfl)) (hw _ (List.mem_of_getElem? (i := 18) rfl)) (by decide) (by decide)) q205a q205b q205c (g := (mkF m 58 #[.val (.ref a1), .val (.int (4 : Int32)), .val (.int p3), .val (.int (1 : Int32))] [(.ref b203), (.ref b193)])) rfl (by rw [hml]; rfl) (Steps.refl _) (argsL := [(.ref b203)]) (rest := []) (lenOf pd_8 rfl) rfl (by show 2 * 0 + _ ≤ _; exact Nat.le_of_eq rfl) (hb hby d1_58) (fun _ _ => ⟨rfl, rfl, (by decide : 6 + 0 ≤ _), (by decide : 21 + 0 ≤ _)⟩)
  dsimp only [Pt.U, Pt.locs, Pt.cells, Pt.slots] at X205 l205 y205 z205 st205 hQ205
  subst l205 y205 z205
  obtain ⟨rfl, N205q, K205, P205_1, P205_2, P205_3, P205_4⟩ := hQ205
  have Zs : n0 ≤ T205.heap.size := Nat.le_trans Zs K205.1
  have E_a1 : Exa Z T205.heap a1 "com/example/wachter/wachter/sim/QueueOrder" := E_a1.keep K205
  have F_requests_a1 : Fld Z T205.heap a1 "com/example/wachter/wachter/sim/QueueOrder" "requests" "[I" (.ref b189) := F_requests_a1.keep K205 (ninS ne_a1_b193 (ninS ne_a1_b_194 nin0))
  have F_joinedAs_a1 : Fld Z T205.heap a1 "com/example/wachter/wachter/sim/QueueOrder" "joinedAs" "[J" (.ref b191) := F_joinedAs_a1.keep K205 (ninS ne_a1_b193 (ninS ne_a1_b_194 nin0))
  have F_behind_a1 : Fld Z T205.heap a1 "com/example/wachter/wachter/sim/QueueOrder" "behind" "Ljava/util/List;" (.ref b193) := F_behind_a1.keep K205 (ninS ne_a1_b193 (ninS ne_a1_b_194 nin0))
  have F_joined_a1 : Fld Z T205.heap a1 "com/example/wachter/wachter/sim/QueueOrder" "joined" "J" (.long (0 : Int64)) := F_joined_a1.keep K205 (ninS ne_a1_b193 (ninS ne_a1_b_194 nin0))
  have Ol : Old Z n0 T205.heap := Ol.keep K205 (allS g_b193 (allS g_b_194 all0))
  have Kp : Keep h0 T205.heap [a1] := Kp.trans K205 (allS (Or.inr sz_b193) (allS (Or.inr sz_b_194) all0))
  have E_b189 : Exa Z T205.heap b189 "[I" := E_b189.keep K205
  have A_b189 : ArI Z T205.heap b189 (4 : Int32) (fun _ => 0) := A_b189.keep K205 (ninS ne_b189_b193 (ninS ne_b189_b_194 nin0))
  have E_b191 : Exa Z T205.heap b191 "[J" := E_b191.keep K205
  have E_b193 : Exa Z T205.heap b193 "java/util/ArrayList" := E_b193.keep K205
  have A_b191 : ArJ Z T205.heap b191 (4 : Int32) (upd (upd (upd (upd (fun _ => 0) (0 : Int32).toNatClampNeg (-1 : Int64)) (1 : Int32).toNatClampNeg (-1 : Int64)) (2 : Int32).toNatClampNeg (-1 : Int64)) (3 : Int32).toNatClampNeg (-1 : Int64)) := A_b191.keep K205 (ninS ne_b191_b193 (ninS ne_b191_b_194 nin0))
  have E_b199 : Exa Z T205.heap b199 "java/util/ArrayList" := E_b199.keep K205
  have F_elementData_b199 : Fld Z T205.heap b199 "java/util/ArrayList" "elementData" "[Ljava/lang/Object;" (.ref dd) := F_elementData_b199.keep K205 (ninS (Ne.symm ne_b193_b199) (ninS (Ne.symm ne_b_194_b199) nin0))
  have F_size_b199 : Fld Z T205.heap b199 "java/util/ArrayList" "size" "I" (.int (0 : Int32)) := F_size_b199.keep K205 (ninS (Ne.symm ne_b193_b199) (ninS (Ne.symm ne_b_194_b199) nin0))
  have F_modCount_b199 : Fld Z T205.heap b199 "java/util/AbstractList" "modCount" "I" (.int (0 : Int32)) := F_modCount_b199.keep K205 (ninS (Ne.symm ne_b193_b199) (ninS (Ne.symm ne_b_194_b199) nin0))
  have E_b203 : Exa Z T205.heap b203 "java/util/ArrayList" := E_b203.keep K205
  have F_elementData_b203 : Fld Z T205.heap b203 "java/util/ArrayList" "elementData" "[Ljava/lang/Object;" (.ref dd) := F_elementData_b203.keep K205 (ninS (Ne.symm ne_b193_b203) (ninS (Ne.symm ne_b_194_b203) nin0))
  have F_size_b203 : Fld Z T205.heap b203 "java/util/ArrayList" "size" "I" (.int (0 : Int32)) := F_size_b203.keep K205 (ninS (Ne.symm ne_b193_b203) (ninS (Ne.symm ne_b_194_b203) nin0))
  have F_modCount_b203 : Fld Z T205.heap b203 "java/util/AbstractList" "modCount" "I" (.int (0 : Int32)) := F_modCount_b203.keep K205 (ninS (Ne.symm ne_b193_b203) (ninS (Ne.symm ne_b_194_b203) nin0))
  have F_elementData_b193 : Fld Z T205.heap b193 "java/util/ArrayList" "elementData" "[Ljava/lang/Object;" (.ref b_194) := P205_1
  have F_size_b193 : Fld Z T205.heap b193 "java/util/ArrayList" "size" "I" (.int (2 : Int32)) := P205_2
  have F_modCount_b193 : Fld Z T205.heap b193 "java/util/AbstractList" "modCount" "I" (.int (2 : Int32)) := P205_3
  have A_b_194 : ArR Z T205.heap b_194 kb_194 "java/lang/Object" (4 : Int32) (upd (upd (fun _ => .null) (0 : Int32).toNatClampNeg (.ref b199)) (1 : Int32).toNatClampNeg (.ref b203)) := P205_4
  have N205 := Fr.app N204 N205q
  obtain ⟨T206, X206, e206, st206⟩ := getF X205 hx hZ hown (host := "") (Or.inl (hw _ (List.mem_of_getElem? (i := 41) rfl))) Via.refl rfl F_behind_a1 (g := (mkF m 48 #[.val (.ref a1), .val (.int (4 : Int32)), .val (.int p3), .val (.int (2 : Int32))] [(.ref a1)])) rfl rfl (hb hby d1_48)
  obtain ⟨T207, h207, X207, e207, E207, A207, D207, -, st207⟩ := newO X206 hx hZ hown (hw _ (List.mem_of_getElem? (i := 16) rfl)) (hw _ (List.mem_of_getElem? (i := 17) rfl)) (hw _ (List.mem_of_getElem? (i := 18) rfl)) e206 (g := (mkF m 51 #[.val (.ref a1), .val (.int (4 : Int32)), .val (.int p3), .val (.int (2 : Int32))] [(.ref b193)])) rfl (hb hby d1_51) (by decide) (by decide)
  obtain ⟨b207, g207⟩ : ∃ z, z = T205.heap.size := ⟨_, rfl⟩
  rw [← g207] at A207 D207 st207
  have g_b207 : n0 ≤ b207 := Nat.le_trans Zs (Nat.le_of_eq g207.symm)
  have sz_b207 : h0.size ≤ b207 := Nat.le_trans Kp.1 (Nat.le_of_eq g207.symm)
  have ne_a1_b207 : a1 ≠ b207 := Nat.ne_of_lt (Nat.lt_of_lt_of_le E_a1.lt (Nat.le_of_eq g207.symm))
  have ne_b189_b207 : b189 ≠ b207 := Nat.ne_of_lt (Nat.lt_of_lt_of_le E_b189.lt (Nat.le_of_eq g207.symm))
  have ne_b191_b207 : b191 ≠ b207 := Nat.ne_of_lt (Nat.lt_of_lt_of_le E_b191.lt (Nat.le_of_eq g207.symm))
  have ne_b193_b207 : b193 ≠ b207 := Nat.ne_of_lt (Nat.lt_of_lt_of_le E_b193.lt (Nat.le_of_eq g207.symm))
  have ne_b199_b207 : b199 ≠ b207 := Nat.ne_of_lt (Nat.lt_of_lt_of_le E_b199.lt (Nat.le_of_eq g207.symm))
  have ne_b203_b207 : b203 ≠ b207 := Nat.ne_of_lt (Nat.lt_of_lt_of_le E_b203.lt (Nat.le_of_eq g207.symm))
  have ne_b_194_b207 : b_194 ≠ b207 := Nat.ne_of_lt (Nat.lt_of_lt_of_le A_b_194.lt (Nat.le_of_eq g207.symm))
  have Zs : n0 ≤ h207.size := Nat.le_trans Zs E207.1
  have E_a1 : Exa Z h207 a1 "com/example/wachter/wachter/sim/QueueOrder" := E_a1.ext E207
  have F_requests_a1 : Fld Z h207 a1 "com/example/wachter/wachter/sim/QueueOrder" "requests" "[I" (.ref b189) := F_requests_a1.ext E207
  have F_joinedAs_a1 : Fld Z h207 a1 "com/example/wachter/wachter/sim/QueueOrder" "joinedAs" "[J" (.ref b191) := F_joinedAs_a1.ext E207
  have F_behind_a1 : Fld Z h207 a1 "com/example/wachter/wachter/sim/QueueOrder" "behind" "Ljava/util/List;" (.ref b193) := F_behind_a1.ext E207
  have F_joined_a1 : Fld Z h207 a1 "com/example/wachter/wachter/sim/QueueOrder" "joined" "J" (.long (0 : Int64)) := F_joined_a1.ext E207
  have Ol : Old Z n0 h207 := Ol.ext E207
  have Kp : Keep h0 h207 [a1] := Kp.ext E207
  have E_b189 : Exa Z h207 b189 "[I" := E_b189.ext E207
  have A_b189 : ArI Z h207 b189 (4 : Int32) (fun _ => 0) := A_b189.ext E207
  have E_b191 : Exa Z h207 b191 "[J" := E_b191.ext E207
  have E_b193 : Exa Z h207 b193 "java/util/ArrayList" := E_b193.ext E207
  have A_b191 : ArJ Z h207 b191 (4 : Int32) (upd (upd (upd (upd (fun _ => 0) (0 : Int32).toNatClampNeg (-1 : Int64)) (1 : Int32).toNatClampNeg (-1 : Int64)) (2 : Int32).toNatClampNeg (-1 : Int64)) (3 : Int32).toNatClampNeg (-1 : Int64)) := A_b191.ext E207
  have E_b199 : Exa Z h207 b199 "java/util/ArrayList" := E_b199.ext E207
  have F_elementData_b199 : Fld Z h207 b199 "java/util/ArrayList" "elementData" "[Ljava/lang/Object;" (.ref dd) := F_elementData_b199.ext E207
  have F_size_b199 : Fld Z h207 b199 "java/util/ArrayList" "size" "I" (.int (0 : Int32)) := F_size_b199.ext E207
  have F_modCount_b199 : Fld Z h207 b199 "java/util/AbstractList" "modCount" "I" (.int (0 : Int32)) := F_modCount_b199.ext E207
  have E_b203 : Exa Z h207 b203 "java/util/ArrayList" := E_b203.ext E207
  have F_elementData_b203 : Fld Z h207 b203 "java/util/ArrayList" "elementData" "[Ljava/lang/Object;" (.ref dd) := F_elementData_b203.ext E207
  have F_size_b203 : Fld Z h207 b203 "java/util/ArrayList" "size" "I" (.int (0 : Int32)) := F_size_b203.ext E207
  have F_modCount_b203 : Fld Z h207 b203 "java/util/AbstractList" "modCount" "I" (.int (0 : Int32)) := F_modCount_b203.ext E207
  have F_elementData_b193 : Fld Z h207 b193 "java/util/ArrayList" "elementData" "[Ljava/lang/Object;" (.ref b_194) := F_elementData_b193.ext E207
  have F_size_b193 : Fld Z h207 b193 "java/util/ArrayList" "size" "I" (.int (2 : Int32)) := F_size_b193.ext E207
  have F_modCount_b193 : Fld Z h207 b193 "java/util/AbstractList" "modCount" "I" (.int (2 : Int32)) := F_modCount_b193.ext E207
  have A_b_194 : ArR Z h207 b_194 kb_194 "java/lang/Object" (4 : Int32) (upd (upd (fun _ => .null) (0 : Int32).toNatClampNeg (.ref b199)) (1 : Int32).toNatClampNeg (.ref b203)) := A_b_194.ext E207
  have E_b207 : Exa Z h207 b207 "java/util/ArrayList" := A207
  have F_modCount_b207 : Fld Z h207 b207 "java/util/AbstractList" "modCount" "I" (.int (0 : Int32)) := D207 (Or.inl (hw _ (List.mem_of_getElem? (i := 36) rfl))) (ty := .int) (by decide)
  have F_elementData_b207 : Fld Z h207 b207 "java/util/ArrayList" "elementData" "[Ljava/lang/Object;" .null := D207 (Or.inl (hw _ (List.mem_of_getElem? (i := 40) rfl))) (ty := (.array (.object "java/lang/Object"))) (by decide)
  have F_size_b207 : Fld Z h207 b207 "java/util/ArrayList" "size" "I" (.int (0 : Int32)) := D207 (Or.inl (hw _ (List.mem_of_getElem? (i := 64) rfl))) (ty := .int) (by decide)
  obtain ⟨_, _, ⟨T208, L208, k208, n208⟩, -, X208, ⟨Lc208, hQ208, l208, y208, z208⟩, st208⟩ := X207.specialBack hx (y := (⟨"java/util/ArrayList", "<init>", "()V"⟩ : MethodName)) rfl hown (mvT hZ (hw _ (List.mem_of_getElem? (i := 48) rfl))) (mvT hZ (hw _ (List.mem_of_getElem? (i := 49) rfl))) (mvT hZ (hw _ (List.mem_of_getElem? (i := 50) rfl))) (by decide) (backOf (W := 2) (rmAL0 l Z a0 hw [] b207 (0 : Int32) (0 : Int32) dd h207 n0 Zs E_b207 F_elementData_b207 F_size_b207 F_modCount_b207 g_b207 Ol S_DEFAULTCAPACITY_EMPTY_ELEMENTDATA) hZ (hw _ (List.mem_of_getElem? (i := 50) rfl)) (hw _ (List.mem_of_getElem? (i := 18) rfl)) (by decide) (by decide)) (g := (mkF m 55 #[.val (.ref a1), .val (.int (4 : Int32)), .val (.int p3), .val (.int (2 : Int32))] [(.ref b207), (.ref b207), (.ref b193)])) rfl (by rw [hml]; rfl) (Steps.refl _) (a := b207) (argsL := []) (rest := [(.ref b207), (.ref b193)]) (lenOf pd_0 rfl) rfl (by show 2 * 0 + _ ≤ _; exact Nat.le_of_eq rfl) (hb hby d1_55) (fun _ _ => ⟨rfl, e207, (by decide : 7 + 0 ≤ _), (by decide : 24 + 0 ≤ _)⟩)
  dsimp only [Pt.U, Pt.locs, Pt.cells, Pt.slots] at X208 l208 y208 z208 st208 hQ208
  subst l208 y208 z208
  obtain ⟨rfl, N208q, K208, P208_1, P208_2, P208_3⟩ := hQ208
  have Zs : n0 ≤ T208.heap.size := Nat.le_trans Zs K208.1
  have E_a1 : Exa Z T208.heap a1 "com/example/wachter/wachter/sim/QueueOrder" := E_a1.keep K208
  have F_requests_a1 : Fld Z T208.heap a1 "com/example/wachter/wachter/sim/QueueOrder" "requests" "[I" (.ref b189) := F_requests_a1.keep K208 (ninS ne_a1_b207 nin0)
  have F_joinedAs_a1 : Fld Z T208.heap a1 "com/example/wachter/wachter/sim/QueueOrder" "joinedAs" "[J" (.ref b191) := F_joinedAs_a1.keep K208 (ninS ne_a1_b207 nin0)
  have F_behind_a1 : Fld Z T208.heap a1 "com/example/wachter/wachter/sim/QueueOrder" "behind" "Ljava/util/List;" (.ref b193) := F_behind_a1.keep K208 (ninS ne_a1_b207 nin0)
  have F_joined_a1 : Fld Z T208.heap a1 "com/example/wachter/wachter/sim/QueueOrder" "joined" "J" (.long (0 : Int64)) := F_joined_a1.keep K208 (ninS ne_a1_b207 nin0)
  have Ol : Old Z n0 T208.heap := Ol.keep K208 (allS g_b207 all0)
  have Kp : Keep h0 T208.heap [a1] := Kp.trans K208 (allS (Or.inr sz_b207) all0)
  have E_b189 : Exa Z T208.heap b189 "[I" := E_b189.keep K208
  have A_b189 : ArI Z T208.heap b189 (4 : Int32) (fun _ => 0) := A_b189.keep K208 (ninS ne_b189_b207 nin0)
  have E_b191 : Exa Z T208.heap b191 "[J" := E_b191.keep K208
  have E_b193 : Exa Z T208.heap b193 "java/util/ArrayList" := E_b193.keep K208
  have A_b191 : ArJ Z T208.heap b191 (4 : Int32) (upd (upd (upd (upd (fun _ => 0) (0 : Int32).toNatClampNeg (-1 : Int64)) (1 : Int32).toNatClampNeg (-1 : Int64)) (2 : Int32).toNatClampNeg (-1 : Int64)) (3 : Int32).toNatClampNeg (-1 : Int64)) := A_b191.keep K208 (ninS ne_b191_b207 nin0)
  have E_b199 : Exa Z T208.heap b199 "java/util/ArrayList" := E_b199.keep K208
  have F_elementData_b199 : Fld Z T208.heap b199 "java/util/ArrayList" "elementData" "[Ljava/lang/Object;" (.ref dd) := F_elementData_b199.keep K208 (ninS ne_b199_b207 nin0)
  have F_size_b199 : Fld Z T208.heap b199 "java/util/ArrayList" "size" "I" (.int (0 : Int32)) := F_size_b199.keep K208 (ninS ne_b199_b207 nin0)
  have F_modCount_b199 : Fld Z T208.heap b199 "java/util/AbstractList" "modCount" "I" (.int (0 : Int32)) := F_modCount_b199.keep K208 (ninS ne_b199_b207 nin0)
  have E_b203 : Exa Z T208.heap b203 "java/util/ArrayList" := E_b203.keep K208
  have F_elementData_b203 : Fld Z T208.heap b203 "java/util/ArrayList" "elementData" "[Ljava/lang/Object;" (.ref dd) := F_elementData_b203.keep K208 (ninS ne_b203_b207 nin0)
  have F_size_b203 : Fld Z T208.heap b203 "java/util/ArrayList" "size" "I" (.int (0 : Int32)) := F_size_b203.keep K208 (ninS ne_b203_b207 nin0)
  have F_modCount_b203 : Fld Z T208.heap b203 "java/util/AbstractList" "modCount" "I" (.int (0 : Int32)) := F_modCount_b203.keep K208 (ninS ne_b203_b207 nin0)
  have F_elementData_b193 : Fld Z T208.heap b193 "java/util/ArrayList" "elementData" "[Ljava/lang/Object;" (.ref b_194) := F_elementData_b193.keep K208 (ninS ne_b193_b207 nin0)
  have F_size_b193 : Fld Z T208.heap b193 "java/util/ArrayList" "size" "I" (.int (2 : Int32)) := F_size_b193.keep K208 (ninS ne_b193_b207 nin0)
  have F_modCount_b193 : Fld Z T208.heap b193 "java/util/AbstractList" "modCount" "I" (.int (2 : Int32)) := F_modCount_b193.keep K208 (ninS ne_b193_b207 nin0)
  have A_b_194 : ArR Z T208.heap b_194 kb_194 "java/lang/Object" (4 : Int32) (upd (upd (fun _ => .null) (0 : Int32).toNatClampNeg (.ref b199)) (1 : Int32).toNatClampNeg (.ref b203)) := A_b_194.keep K208 (ninS ne_b_194_b207 nin0)
  have E_b207 : Exa Z T208.heap b207 "java/util/ArrayList" := E_b207.keep K208
  have F_elementData_b207 : Fld Z T208.heap b207 "java/util/ArrayList" "elementData" "[Ljava/lang/Object;" (.ref dd) := P208_1
  have F_size_b207 : Fld Z T208.heap b207 "java/util/ArrayList" "size" "I" (.int (0 : Int32)) := P208_2
  have F_modCount_b207 : Fld Z T208.heap b207 "java/util/AbstractList" "modCount" "I" (.int (0 : Int32)) := P208_3
  have N208 := Fr.app N205 N208q
  obtain ⟨cq209, kq209, q209a, q209b, q209c⟩ := isOf hZ rfl E_b193
  obtain ⟨_, _, ⟨T209, L209, k209, n209⟩, -, X209, ⟨Lc209, hQ209, l209, y209, z209⟩, st209⟩ := X208.interfaceBack hx (xi := (⟨"java/util/List", "add", "(Ljava/lang/Object;)Z"⟩ : MethodName)) (y := (⟨"java/util/ArrayList", "add", "(Ljava/lang/Object;)Z"⟩ : MethodName)) hown (mvT hZ (hw _ (List.mem_of_getElem? (i := 52) rfl))) (mvT hZ (hw _ (List.mem_of_getElem? (i := 53) rfl))) (mvT hZ (hw _ (List.mem_of_getElem? (i := 54) rfl))) (mvT hZ (hw _ (List.mem_of_getElem? (i := 55) rfl))) (mvT hZ (hw _ (List.mem_of_getElem? (i := 56) rfl))) (mvT hZ (hw _ (List.mem_of_getElem? (i := 57) rfl))) (mvT hZ (hw _ (List.mem_of_getElem? (i := 58) rfl))) (mvT hZ (hw _ (List.mem_of_getElem? (i := 59) rfl))) (by decide) (backOf (W := 0) (rmA1n l Z a0 hw [] b193 b207 b_194 (2 : Int32) (2 : Int32) kb_194 (upd (upd (fun _ => .null) (0 : Int32).toNatClampNeg (.ref b199)) (1 : Int32).toNatClampNeg (.ref b203)) T208.heap n0 Zs E_b193 E_b207 F_elementData_b193 F_size_b193 F_modCount_b193 g_b193 g_b_194 A_b_194 ne_b193_b_194 (by decide) (by decide)) hZ (hw _ (List.mem_of_getElem? (i := 60) rfl)) (hw _ (List.mem_of_getElem? (i := 18) rfl)) (by decide) (by decide)) q209a q209b q209c (g := (mkF m 58 #[.val (.ref a1), .val (.int (4 : Int32)), .val (.int p3), .val (.int (2 : Int32))] [(.ref b207), (.ref b193)])) rfl (by rw [hml]; rfl) (Steps.refl _) (argsL := [(.ref b207)]) (rest := []) (lenOf pd_8 rfl) rfl (by show 2 * 0 + _ ≤ _; exact Nat.le_of_eq rfl) (hb hby d1_58) (fun _ _ => ⟨rfl, rfl, (by decide : 7 + 0 ≤ _), (by decide : 24 + 0 ≤ _)⟩)
  dsimp only [Pt.U, Pt.locs, Pt.cells, Pt.slots] at X209 l209 y209 z209 st209 hQ209
  subst l209 y209 z209
  obtain ⟨rfl, N209q, K209, P209_1, P209_2, P209_3, P209_4⟩ := hQ209
  have Zs : n0 ≤ T209.heap.size := Nat.le_trans Zs K209.1
  have E_a1 : Exa Z T209.heap a1 "com/example/wachter/wachter/sim/QueueOrder" := E_a1.keep K209
  have F_requests_a1 : Fld Z T209.heap a1 "com/example/wachter/wachter/sim/QueueOrder" "requests" "[I" (.ref b189) := F_requests_a1.keep K209 (ninS ne_a1_b193 (ninS ne_a1_b_194 nin0))
  have F_joinedAs_a1 : Fld Z T209.heap a1 "com/example/wachter/wachter/sim/QueueOrder" "joinedAs" "[J" (.ref b191) := F_joinedAs_a1.keep K209 (ninS ne_a1_b193 (ninS ne_a1_b_194 nin0))
  have F_behind_a1 : Fld Z T209.heap a1 "com/example/wachter/wachter/sim/QueueOrder" "behind" "Ljava/util/List;" (.ref b193) := F_behind_a1.keep K209 (ninS ne_a1_b193 (ninS ne_a1_b_194 nin0))
  have F_joined_a1 : Fld Z T209.heap a1 "com/example/wachter/wachter/sim/QueueOrder" "joined" "J" (.long (0 : Int64)) := F_joined_a1.keep K209 (ninS ne_a1_b193 (ninS ne_a1_b_194 nin0))
  have Ol : Old Z n0 T209.heap := Ol.keep K209 (allS g_b193 (allS g_b_194 all0))
  have Kp : Keep h0 T209.heap [a1] := Kp.trans K209 (allS (Or.inr sz_b193) (allS (Or.inr sz_b_194) all0))
  have E_b189 : Exa Z T209.heap b189 "[I" := E_b189.keep K209
  have A_b189 : ArI Z T209.heap b189 (4 : Int32) (fun _ => 0) := A_b189.keep K209 (ninS ne_b189_b193 (ninS ne_b189_b_194 nin0))
  have E_b191 : Exa Z T209.heap b191 "[J" := E_b191.keep K209
  have E_b193 : Exa Z T209.heap b193 "java/util/ArrayList" := E_b193.keep K209
  have A_b191 : ArJ Z T209.heap b191 (4 : Int32) (upd (upd (upd (upd (fun _ => 0) (0 : Int32).toNatClampNeg (-1 : Int64)) (1 : Int32).toNatClampNeg (-1 : Int64)) (2 : Int32).toNatClampNeg (-1 : Int64)) (3 : Int32).toNatClampNeg (-1 : Int64)) := A_b191.keep K209 (ninS ne_b191_b193 (ninS ne_b191_b_194 nin0))
  have E_b199 : Exa Z T209.heap b199 "java/util/ArrayList" := E_b199.keep K209
  have F_elementData_b199 : Fld Z T209.heap b199 "java/util/ArrayList" "elementData" "[Ljava/lang/Object;" (.ref dd) := F_elementData_b199.keep K209 (ninS (Ne.symm ne_b193_b199) (ninS (Ne.symm ne_b_194_b199) nin0))
  have F_size_b199 : Fld Z T209.heap b199 "java/util/ArrayList" "size" "I" (.int (0 : Int32)) := F_size_b199.keep K209 (ninS (Ne.symm ne_b193_b199) (ninS (Ne.symm ne_b_194_b199) nin0))
  have F_modCount_b199 : Fld Z T209.heap b199 "java/util/AbstractList" "modCount" "I" (.int (0 : Int32)) := F_modCount_b199.keep K209 (ninS (Ne.symm ne_b193_b199) (ninS (Ne.symm ne_b_194_b199) nin0))
  have E_b203 : Exa Z T209.heap b203 "java/util/ArrayList" := E_b203.keep K209
  have F_elementData_b203 : Fld Z T209.heap b203 "java/util/ArrayList" "elementData" "[Ljava/lang/Object;" (.ref dd) := F_elementData_b203.keep K209 (ninS (Ne.symm ne_b193_b203) (ninS (Ne.symm ne_b_194_b203) nin0))
  have F_size_b203 : Fld Z T209.heap b203 "java/util/ArrayList" "size" "I" (.int (0 : Int32)) := F_size_b203.keep K209 (ninS (Ne.symm ne_b193_b203) (ninS (Ne.symm ne_b_194_b203) nin0))
  have F_modCount_b203 : Fld Z T209.heap b203 "java/util/AbstractList" "modCount" "I" (.int (0 : Int32)) := F_modCount_b203.keep K209 (ninS (Ne.symm ne_b193_b203) (ninS (Ne.symm ne_b_194_b203) nin0))
  have E_b207 : Exa Z T209.heap b207 "java/util/ArrayList" := E_b207.keep K209
  have F_elementData_b207 : Fld Z T209.heap b207 "java/util/ArrayList" "elementData" "[Ljava/lang/Object;" (.ref dd) := F_elementData_b207.keep K209 (ninS (Ne.symm ne_b193_b207) (ninS (Ne.symm ne_b_194_b207) nin0))
  have F_size_b207 : Fld Z T209.heap b207 "java/util/ArrayList" "size" "I" (.int (0 : Int32)) := F_size_b207.keep K209 (ninS (Ne.symm ne_b193_b207) (ninS (Ne.symm ne_b_194_b207) nin0))
  have F_modCount_b207 : Fld Z T209.heap b207 "java/util/AbstractList" "modCount" "I" (.int (0 : Int32)) := F_modCount_b207.keep K209 (ninS (Ne.symm ne_b193_b207) (ninS (Ne.symm ne_b_194_b207) nin0))
  have F_elementData_b193 : Fld Z T209.heap b193 "java/util/ArrayList" "elementData" "[Ljava/lang/Object;" (.ref b_194) := P209_1
  have F_size_b193 : Fld Z T209.heap b193 "java/util/ArrayList" "size" "I" (.int (3 : Int32)) := P209_2
  have F_modCount_b193 : Fld Z T209.heap b193 "java/util/AbstractList" "modCount" "I" (.int (3 : Int32)) := P209_3
  have A_b_194 : ArR Z T209.heap b_194 kb_194 "java/lang/Object" (4 : Int32) (upd (upd (upd (fun _ => .null) (0 : Int32).toNatClampNeg (.ref b199)) (1 : Int32).toNatClampNeg (.ref b203)) (2 : Int32).toNatClampNeg (.ref b207)) := P209_4
  have N209 := Fr.app N208 N209q
  obtain ⟨T210, X210, e210, st210⟩ := getF X209 hx hZ hown (host := "") (Or.inl (hw _ (List.mem_of_getElem? (i := 41) rfl))) Via.refl rfl F_behind_a1 (g := (mkF m 48 #[.val (.ref a1), .val (.int (4 : Int32)), .val (.int p3), .val (.int (3 : Int32))] [(.ref a1)])) rfl rfl (hb hby d1_48)
  obtain ⟨T211, h211, X211, e211, E211, A211, D211, -, st211⟩ := newO X210 hx hZ hown (hw _ (List.mem_of_getElem? (i := 16) rfl)) (hw _ (List.mem_of_getElem? (i := 17) rfl)) (hw _ (List.mem_of_getElem? (i := 18) rfl)) e210 (g := (mkF m 51 #[.val (.ref a1), .val (.int (4 : Int32)), .val (.int p3), .val (.int (3 : Int32))] [(.ref b193)])) rfl (hb hby d1_51) (by decide) (by decide)
  obtain ⟨b211, g211⟩ : ∃ z, z = T209.heap.size := ⟨_, rfl⟩
  rw [← g211] at A211 D211 st211
  have g_b211 : n0 ≤ b211 := Nat.le_trans Zs (Nat.le_of_eq g211.symm)
  have sz_b211 : h0.size ≤ b211 := Nat.le_trans Kp.1 (Nat.le_of_eq g211.symm)
  have ne_a1_b211 : a1 ≠ b211 := Nat.ne_of_lt (Nat.lt_of_lt_of_le E_a1.lt (Nat.le_of_eq g211.symm))
  have ne_b189_b211 : b189 ≠ b211 := Nat.ne_of_lt (Nat.lt_of_lt_of_le E_b189.lt (Nat.le_of_eq g211.symm))
  have ne_b191_b211 : b191 ≠ b211 := Nat.ne_of_lt (Nat.lt_of_lt_of_le E_b191.lt (Nat.le_of_eq g211.symm))
  have ne_b193_b211 : b193 ≠ b211 := Nat.ne_of_lt (Nat.lt_of_lt_of_le E_b193.lt (Nat.le_of_eq g211.symm))
  have ne_b199_b211 : b199 ≠ b211 := Nat.ne_of_lt (Nat.lt_of_lt_of_le E_b199.lt (Nat.le_of_eq g211.symm))
  have ne_b203_b211 : b203 ≠ b211 := Nat.ne_of_lt (Nat.lt_of_lt_of_le E_b203.lt (Nat.le_of_eq g211.symm))
  have ne_b207_b211 : b207 ≠ b211 := Nat.ne_of_lt (Nat.lt_of_lt_of_le E_b207.lt (Nat.le_of_eq g211.symm))
  have ne_b_194_b211 : b_194 ≠ b211 := Nat.ne_of_lt (Nat.lt_of_lt_of_le A_b_194.lt (Nat.le_of_eq g211.symm))
  have Zs : n0 ≤ h211.size := Nat.le_trans Zs E211.1
  have E_a1 : Exa Z h211 a1 "com/example/wachter/wachter/sim/QueueOrder" := E_a1.ext E211
  have F_requests_a1 : Fld Z h211 a1 "com/example/wachter/wachter/sim/QueueOrder" "requests" "[I" (.ref b189) := F_requests_a1.ext E211
  have F_joinedAs_a1 : Fld Z h211 a1 "com/example/wachter/wachter/sim/QueueOrder" "joinedAs" "[J" (.ref b191) := F_joinedAs_a1.ext E211
  have F_behind_a1 : Fld Z h211 a1 "com/example/wachter/wachter/sim/QueueOrder" "behind" "Ljava/util/List;" (.ref b193) := F_behind_a1.ext E211
  have F_joined_a1 : Fld Z h211 a1 "com/example/wachter/wachter/sim/QueueOrder" "joined" "J" (.long (0 : Int64)) := F_joined_a1.ext E211
  have Ol : Old Z n0 h211 := Ol.ext E211
  have Kp : Keep h0 h211 [a1] := Kp.ext E211
  have E_b189 : Exa Z h211 b189 "[I" := E_b189.ext E211
  have A_b189 : ArI Z h211 b189 (4 : Int32) (fun _ => 0) := A_b189.ext E211
  have E_b191 : Exa Z h211 b191 "[J" := E_b191.ext E211
  have E_b193 : Exa Z h211 b193 "java/util/ArrayList" := E_b193.ext E211
  have A_b191 : ArJ Z h211 b191 (4 : Int32) (upd (upd (upd (upd (fun _ => 0) (0 : Int32).toNatClampNeg (-1 : Int64)) (1 : Int32).toNatClampNeg (-1 : Int64)) (2 : Int32).toNatClampNeg (-1 : Int64)) (3 : Int32).toNatClampNeg (-1 : Int64)) := A_b191.ext E211
  have E_b199 : Exa Z h211 b199 "java/util/ArrayList" := E_b199.ext E211
  have F_elementData_b199 : Fld Z h211 b199 "java/util/ArrayList" "elementData" "[Ljava/lang/Object;" (.ref dd) := F_elementData_b199.ext E211
  have F_size_b199 : Fld Z h211 b199 "java/util/ArrayList" "size" "I" (.int (0 : Int32)) := F_size_b199.ext E211
  have F_modCount_b199 : Fld Z h211 b199 "java/util/AbstractList" "modCount" "I" (.int (0 : Int32)) := F_modCount_b199.ext E211
  have E_b203 : Exa Z h211 b203 "java/util/ArrayList" := E_b203.ext E211
  have F_elementData_b203 : Fld Z h211 b203 "java/util/ArrayList" "elementData" "[Ljava/lang/Object;" (.ref dd) := F_elementData_b203.ext E211
  have F_size_b203 : Fld Z h211 b203 "java/util/ArrayList" "size" "I" (.int (0 : Int32)) := F_size_b203.ext E211
  have F_modCount_b203 : Fld Z h211 b203 "java/util/AbstractList" "modCount" "I" (.int (0 : Int32)) := F_modCount_b203.ext E211
  have E_b207 : Exa Z h211 b207 "java/util/ArrayList" := E_b207.ext E211
  have F_elementData_b207 : Fld Z h211 b207 "java/util/ArrayList" "elementData" "[Ljava/lang/Object;" (.ref dd) := F_elementData_b207.ext E211
  have F_size_b207 : Fld Z h211 b207 "java/util/ArrayList" "size" "I" (.int (0 : Int32)) := F_size_b207.ext E211
  have F_modCount_b207 : Fld Z h211 b207 "java/util/AbstractList" "modCount" "I" (.int (0 : Int32)) := F_modCount_b207.ext E211
  have F_elementData_b193 : Fld Z h211 b193 "java/util/ArrayList" "elementData" "[Ljava/lang/Object;" (.ref b_194) := F_elementData_b193.ext E211
  have F_size_b193 : Fld Z h211 b193 "java/util/ArrayList" "size" "I" (.int (3 : Int32)) := F_size_b193.ext E211
  have F_modCount_b193 : Fld Z h211 b193 "java/util/AbstractList" "modCount" "I" (.int (3 : Int32)) := F_modCount_b193.ext E211
  have A_b_194 : ArR Z h211 b_194 kb_194 "java/lang/Object" (4 : Int32) (upd (upd (upd (fun _ => .null) (0 : Int32).toNatClampNeg (.ref b199)) (1 : Int32).toNatClampNeg (.ref b203)) (2 : Int32).toNatClampNeg (.ref b207)) := A_b_194.ext E211
  have E_b211 : Exa Z h211 b211 "java/util/ArrayList" := A211
  have F_modCount_b211 : Fld Z h211 b211 "java/util/AbstractList" "modCount" "I" (.int (0 : Int32)) := D211 (Or.inl (hw _ (List.mem_of_getElem? (i := 36) rfl))) (ty := .int) (by decide)
  have F_elementData_b211 : Fld Z h211 b211 "java/util/ArrayList" "elementData" "[Ljava/lang/Object;" .null := D211 (Or.inl (hw _ (List.mem_of_getElem? (i := 40) rfl))) (ty := (.array (.object "java/lang/Object"))) (by decide)
  have F_size_b211 : Fld Z h211 b211 "java/util/ArrayList" "size" "I" (.int (0 : Int32)) := D211 (Or.inl (hw _ (List.mem_of_getElem? (i := 64) rfl))) (ty := .int) (by decide)
  obtain ⟨_, _, ⟨T212, L212, k212, n212⟩, -, X212, ⟨Lc212, hQ212, l212, y212, z212⟩, st212⟩ := X211.specialBack hx (y := (⟨"java/util/ArrayList", "<init>", "()V"⟩ : MethodName)) rfl hown (mvT hZ (hw _ (List.mem_of_getElem? (i := 48) rfl))) (mvT hZ (hw _ (List.mem_of_getElem? (i := 49) rfl))) (mvT hZ (hw _ (List.mem_of_getElem? (i := 50) rfl))) (by decide) (backOf (W := 2) (rmAL0 l Z a0 hw [] b211 (0 : Int32) (0 : Int32) dd h211 n0 Zs E_b211 F_elementData_b211 F_size_b211 F_modCount_b211 g_b211 Ol S_DEFAULTCAPACITY_EMPTY_ELEMENTDATA) hZ (hw _ (List.mem_of_getElem? (i := 50) rfl)) (hw _ (List.mem_of_getElem? (i := 18) rfl)) (by decide) (by decide)) (g := (mkF m 55 #[.val (.ref a1), .val (.int (4 : Int32)), .val (.int p3), .val (.int (3 : Int32))] [(.ref b211), (.ref b211), (.ref b193)])) rfl (by rw [hml]; rfl) (Steps.refl _) (a := b211) (argsL := []) (rest := [(.ref b211), (.ref b193)]) (lenOf pd_0 rfl) rfl (by show 2 * 0 + _ ≤ _; exact Nat.le_of_eq rfl) (hb hby d1_55) (fun _ _ => ⟨rfl, e211, (by decide : 8 + 0 ≤ _), (by decide : 27 + 0 ≤ _)⟩)
  dsimp only [Pt.U, Pt.locs, Pt.cells, Pt.slots] at X212 l212 y212 z212 st212 hQ212
  subst l212 y212 z212
  obtain ⟨rfl, N212q, K212, P212_1, P212_2, P212_3⟩ := hQ212
  have Zs : n0 ≤ T212.heap.size := Nat.le_trans Zs K212.1
  have E_a1 : Exa Z T212.heap a1 "com/example/wachter/wachter/sim/QueueOrder" := E_a1.keep K212
  have F_requests_a1 : Fld Z T212.heap a1 "com/example/wachter/wachter/sim/QueueOrder" "requests" "[I" (.ref b189) := F_requests_a1.keep K212 (ninS ne_a1_b211 nin0)
  have F_joinedAs_a1 : Fld Z T212.heap a1 "com/example/wachter/wachter/sim/QueueOrder" "joinedAs" "[J" (.ref b191) := F_joinedAs_a1.keep K212 (ninS ne_a1_b211 nin0)
  have F_behind_a1 : Fld Z T212.heap a1 "com/example/wachter/wachter/sim/QueueOrder" "behind" "Ljava/util/List;" (.ref b193) := F_behind_a1.keep K212 (ninS ne_a1_b211 nin0)
  have F_joined_a1 : Fld Z T212.heap a1 "com/example/wachter/wachter/sim/QueueOrder" "joined" "J" (.long (0 : Int64)) := F_joined_a1.keep K212 (ninS ne_a1_b211 nin0)
  have Ol : Old Z n0 T212.heap := Ol.keep K212 (allS g_b211 all0)
  have Kp : Keep h0 T212.heap [a1] := Kp.trans K212 (allS (Or.inr sz_b211) all0)
  have E_b189 : Exa Z T212.heap b189 "[I" := E_b189.keep K212
  have A_b189 : ArI Z T212.heap b189 (4 : Int32) (fun _ => 0) := A_b189.keep K212 (ninS ne_b189_b211 nin0)
  have E_b191 : Exa Z T212.heap b191 "[J" := E_b191.keep K212
  have E_b193 : Exa Z T212.heap b193 "java/util/ArrayList" := E_b193.keep K212
  have A_b191 : ArJ Z T212.heap b191 (4 : Int32) (upd (upd (upd (upd (fun _ => 0) (0 : Int32).toNatClampNeg (-1 : Int64)) (1 : Int32).toNatClampNeg (-1 : Int64)) (2 : Int32).toNatClampNeg (-1 : Int64)) (3 : Int32).toNatClampNeg (-1 : Int64)) := A_b191.keep K212 (ninS ne_b191_b211 nin0)
  have E_b199 : Exa Z T212.heap b199 "java/util/ArrayList" := E_b199.keep K212
  have F_elementData_b199 : Fld Z T212.heap b199 "java/util/ArrayList" "elementData" "[Ljava/lang/Object;" (.ref dd) := F_elementData_b199.keep K212 (ninS ne_b199_b211 nin0)
  have F_size_b199 : Fld Z T212.heap b199 "java/util/ArrayList" "size" "I" (.int (0 : Int32)) := F_size_b199.keep K212 (ninS ne_b199_b211 nin0)
  have F_modCount_b199 : Fld Z T212.heap b199 "java/util/AbstractList" "modCount" "I" (.int (0 : Int32)) := F_modCount_b199.keep K212 (ninS ne_b199_b211 nin0)
  have E_b203 : Exa Z T212.heap b203 "java/util/ArrayList" := E_b203.keep K212
  have F_elementData_b203 : Fld Z T212.heap b203 "java/util/ArrayList" "elementData" "[Ljava/lang/Object;" (.ref dd) := F_elementData_b203.keep K212 (ninS ne_b203_b211 nin0)
  have F_size_b203 : Fld Z T212.heap b203 "java/util/ArrayList" "size" "I" (.int (0 : Int32)) := F_size_b203.keep K212 (ninS ne_b203_b211 nin0)
  have F_modCount_b203 : Fld Z T212.heap b203 "java/util/AbstractList" "modCount" "I" (.int (0 : Int32)) := F_modCount_b203.keep K212 (ninS ne_b203_b211 nin0)
  have E_b207 : Exa Z T212.heap b207 "java/util/ArrayList" := E_b207.keep K212
  have F_elementData_b207 : Fld Z T212.heap b207 "java/util/ArrayList" "elementData" "[Ljava/lang/Object;" (.ref dd) := F_elementData_b207.keep K212 (ninS ne_b207_b211 nin0)
  have F_size_b207 : Fld Z T212.heap b207 "java/util/ArrayList" "size" "I" (.int (0 : Int32)) := F_size_b207.keep K212 (ninS ne_b207_b211 nin0)
  have F_modCount_b207 : Fld Z T212.heap b207 "java/util/AbstractList" "modCount" "I" (.int (0 : Int32)) := F_modCount_b207.keep K212 (ninS ne_b207_b211 nin0)
  have F_elementData_b193 : Fld Z T212.heap b193 "java/util/ArrayList" "elementData" "[Ljava/lang/Object;" (.ref b_194) := F_elementData_b193.keep K212 (ninS ne_b193_b211 nin0)
  have F_size_b193 : Fld Z T212.heap b193 "java/util/ArrayList" "size" "I" (.int (3 : Int32)) := F_size_b193.keep K212 (ninS ne_b193_b211 nin0)
  have F_modCount_b193 : Fld Z T212.heap b193 "java/util/AbstractList" "modCount" "I" (.int (3 : Int32)) := F_modCount_b193.keep K212 (ninS ne_b193_b211 nin0)
  have A_b_194 : ArR Z T212.heap b_194 kb_194 "java/lang/Object" (4 : Int32) (upd (upd (upd (fun _ => .null) (0 : Int32).toNatClampNeg (.ref b199)) (1 : Int32).toNatClampNeg (.ref b203)) (2 : Int32).toNatClampNeg (.ref b207)) := A_b_194.keep K212 (ninS ne_b_194_b211 nin0)
  have E_b211 : Exa Z T212.heap b211 "java/util/ArrayList" := E_b211.keep K212
  have F_elementData_b211 : Fld Z T212.heap b211 "java/util/ArrayList" "elementData" "[Ljava/lang/Object;" (.ref dd) := P212_1
  have F_size_b211 : Fld Z T212.heap b211 "java/util/ArrayList" "size" "I" (.int (0 : Int32)) := P212_2
  have F_modCount_b211 : Fld Z T212.heap b211 "java/util/AbstractList" "modCount" "I" (.int (0 : Int32)) := P212_3
  have N212 := Fr.app N209 N212q
  obtain ⟨cq213, kq213, q213a, q213b, q213c⟩ := isOf hZ rfl E_b193
  obtain ⟨_, _, ⟨T213, L213, k213, n213⟩, -, X213, ⟨Lc213, hQ213, l213, y213, z213⟩, st213⟩ := X212.interfaceBack hx (xi := (⟨"java/util/List", "add", "(Ljava/lang/Object;)Z"⟩ : MethodName)) (y := (⟨"java/util/ArrayList", "add", "(Ljava/lang/Object;)Z"⟩ : MethodName)) hown (mvT hZ (hw _ (List.mem_of_getElem? (i := 52) rfl))) (mvT hZ (hw _ (List.mem_of_getElem? (i := 53) rfl))) (mvT hZ (hw _ (List.mem_of_getElem? (i := 54) rfl))) (mvT hZ (hw _ (List.mem_of_getElem? (i := 55) rfl))) (mvT hZ (hw _ (List.mem_of_getElem? (i := 56) rfl))) (mvT hZ (hw _ (List.mem_of_getElem? (i := 57) rfl))) (mvT hZ (hw _ (List.mem_of_getElem? (i := 58) rfl))) (mvT hZ (hw _ (List.mem_of_getElem? (i := 59) rfl))) (by decide) (backOf (W := 0) (rmA1n l Z a0 hw [] b193 b211 b_194 (3 : Int32) (3 : Int32) kb_194 (upd (upd (upd (fun _ => .null) (0 : Int32).toNatClampNeg (.ref b199)) (1 : Int32).toNatClampNeg (.ref b203)) (2 : Int32).toNatClampNeg (.ref b207)) T212.heap n0 Zs E_b193 E_b211 F_elementData_b193 F_size_b193 F_modCount_b193 g_b193 g_b_194 A_b_194 ne_b193_b_194 (by decide) (by decide)) hZ (hw _ (List.mem_of_getElem? (i := 60) rfl)) (hw _ (List.mem_of_getElem? (i := 18) rfl)) (by decide) (by decide)) q213a q213b q213c (g := (mkF m 58 #[.val (.ref a1), .val (.int (4 : Int32)), .val (.int p3), .val (.int (3 : Int32))] [(.ref b211), (.ref b193)])) rfl (by rw [hml]; rfl) (Steps.refl _) (argsL := [(.ref b211)]) (rest := []) (lenOf pd_8 rfl) rfl (by show 2 * 0 + _ ≤ _; exact Nat.le_of_eq rfl) (hb hby d1_58) (fun _ _ => ⟨rfl, rfl, (by decide : 8 + 0 ≤ _), (by decide : 27 + 0 ≤ _)⟩)
  dsimp only [Pt.U, Pt.locs, Pt.cells, Pt.slots] at X213 l213 y213 z213 st213 hQ213
  subst l213 y213 z213
  obtain ⟨rfl, N213q, K213, P213_1, P213_2, P213_3, P213_4⟩ := hQ213
  have Zs : n0 ≤ T213.heap.size := Nat.le_trans Zs K213.1
  have E_a1 : Exa Z T213.heap a1 "com/example/wachter/wachter/sim/QueueOrder" := E_a1.keep K213
  have F_requests_a1 : Fld Z T213.heap a1 "com/example/wachter/wachter/sim/QueueOrder" "requests" "[I" (.ref b189) := F_requests_a1.keep K213 (ninS ne_a1_b193 (ninS ne_a1_b_194 nin0))
  have F_joinedAs_a1 : Fld Z T213.heap a1 "com/example/wachter/wachter/sim/QueueOrder" "joinedAs" "[J" (.ref b191) := F_joinedAs_a1.keep K213 (ninS ne_a1_b193 (ninS ne_a1_b_194 nin0))
  have F_behind_a1 : Fld Z T213.heap a1 "com/example/wachter/wachter/sim/QueueOrder" "behind" "Ljava/util/List;" (.ref b193) := F_behind_a1.keep K213 (ninS ne_a1_b193 (ninS ne_a1_b_194 nin0))
  have F_joined_a1 : Fld Z T213.heap a1 "com/example/wachter/wachter/sim/QueueOrder" "joined" "J" (.long (0 : Int64)) := F_joined_a1.keep K213 (ninS ne_a1_b193 (ninS ne_a1_b_194 nin0))
  have Ol : Old Z n0 T213.heap := Ol.keep K213 (allS g_b193 (allS g_b_194 all0))
  have Kp : Keep h0 T213.heap [a1] := Kp.trans K213 (allS (Or.inr sz_b193) (allS (Or.inr sz_b_194) all0))
  have E_b189 : Exa Z T213.heap b189 "[I" := E_b189.keep K213
  have A_b189 : ArI Z T213.heap b189 (4 : Int32) (fun _ => 0) := A_b189.keep K213 (ninS ne_b189_b193 (ninS ne_b189_b_194 nin0))
  have E_b191 : Exa Z T213.heap b191 "[J" := E_b191.keep K213
  have E_b193 : Exa Z T213.heap b193 "java/util/ArrayList" := E_b193.keep K213
  have A_b191 : ArJ Z T213.heap b191 (4 : Int32) (upd (upd (upd (upd (fun _ => 0) (0 : Int32).toNatClampNeg (-1 : Int64)) (1 : Int32).toNatClampNeg (-1 : Int64)) (2 : Int32).toNatClampNeg (-1 : Int64)) (3 : Int32).toNatClampNeg (-1 : Int64)) := A_b191.keep K213 (ninS ne_b191_b193 (ninS ne_b191_b_194 nin0))
  have E_b199 : Exa Z T213.heap b199 "java/util/ArrayList" := E_b199.keep K213
  have F_elementData_b199 : Fld Z T213.heap b199 "java/util/ArrayList" "elementData" "[Ljava/lang/Object;" (.ref dd) := F_elementData_b199.keep K213 (ninS (Ne.symm ne_b193_b199) (ninS (Ne.symm ne_b_194_b199) nin0))
  have F_size_b199 : Fld Z T213.heap b199 "java/util/ArrayList" "size" "I" (.int (0 : Int32)) := F_size_b199.keep K213 (ninS (Ne.symm ne_b193_b199) (ninS (Ne.symm ne_b_194_b199) nin0))
  have F_modCount_b199 : Fld Z T213.heap b199 "java/util/AbstractList" "modCount" "I" (.int (0 : Int32)) := F_modCount_b199.keep K213 (ninS (Ne.symm ne_b193_b199) (ninS (Ne.symm ne_b_194_b199) nin0))
  have E_b203 : Exa Z T213.heap b203 "java/util/ArrayList" := E_b203.keep K213
  have F_elementData_b203 : Fld Z T213.heap b203 "java/util/ArrayList" "elementData" "[Ljava/lang/Object;" (.ref dd) := F_elementData_b203.keep K213 (ninS (Ne.symm ne_b193_b203) (ninS (Ne.symm ne_b_194_b203) nin0))
  have F_size_b203 : Fld Z T213.heap b203 "java/util/ArrayList" "size" "I" (.int (0 : Int32)) := F_size_b203.keep K213 (ninS (Ne.symm ne_b193_b203) (ninS (Ne.symm ne_b_194_b203) nin0))
  have F_modCount_b203 : Fld Z T213.heap b203 "java/util/AbstractList" "modCount" "I" (.int (0 : Int32)) := F_modCount_b203.keep K213 (ninS (Ne.symm ne_b193_b203) (ninS (Ne.symm ne_b_194_b203) nin0))
  have E_b207 : Exa Z T213.heap b207 "java/util/ArrayList" := E_b207.keep K213
  have F_elementData_b207 : Fld Z T213.heap b207 "java/util/ArrayList" "elementData" "[Ljava/lang/Object;" (.ref dd) := F_elementData_b207.keep K213 (ninS (Ne.symm ne_b193_b207) (ninS (Ne.symm ne_b_194_b207) nin0))
  have F_size_b207 : Fld Z T213.heap b207 "java/util/ArrayList" "size" "I" (.int (0 : Int32)) := F_size_b207.keep K213 (ninS (Ne.symm ne_b193_b207) (ninS (Ne.symm ne_b_194_b207) nin0))
  have F_modCount_b207 : Fld Z T213.heap b207 "java/util/AbstractList" "modCount" "I" (.int (0 : Int32)) := F_modCount_b207.keep K213 (ninS (Ne.symm ne_b193_b207) (ninS (Ne.symm ne_b_194_b207) nin0))
  have E_b211 : Exa Z T213.heap b211 "java/util/ArrayList" := E_b211.keep K213
  have F_elementData_b211 : Fld Z T213.heap b211 "java/util/ArrayList" "elementData" "[Ljava/lang/Object;" (.ref dd) := F_elementData_b211.keep K213 (ninS (Ne.symm ne_b193_b211) (ninS (Ne.symm ne_b_194_b211) nin0))
  have F_size_b211 : Fld Z T213.heap b211 "java/util/ArrayList" "size" "I" (.int (0 : Int32)) := F_size_b211.keep K213 (ninS (Ne.symm ne_b193_b211) (ninS (Ne.symm ne_b_194_b211) nin0))
  have F_modCount_b211 : Fld Z T213.heap b211 "java/util/AbstractList" "modCount" "I" (.int (0 : Int32)) := F_modCount_b211.keep K213 (ninS (Ne.symm ne_b193_b211) (ninS (Ne.symm ne_b_194_b211) nin0))
  have F_elementData_b193 : Fld Z T213.heap b193 "java/util/ArrayList" "elementData" "[Ljava/lang/Object;" (.ref b_194) := P213_1
  have F_size_b193 : Fld Z T213.heap b193 "java/util/ArrayList" "size" "I" (.int (4 : Int32)) := P213_2
  have F_modCount_b193 : Fld Z T213.heap b193 "java/util/AbstractList" "modCount" "I" (.int (4 : Int32)) := P213_3
  have A_b_194 : ArR Z T213.heap b_194 kb_194 "java/lang/Object" (4 : Int32) (upd (upd (upd (upd (fun _ => .null) (0 : Int32).toNatClampNeg (.ref b199)) (1 : Int32).toNatClampNeg (.ref b203)) (2 : Int32).toNatClampNeg (.ref b207)) (3 : Int32).toNatClampNeg (.ref b211)) := P213_4
  have N213 := Fr.app N212 N213q
  obtain ⟨T214, X214, e214, st214⟩ := getF X213 hx hZ hown (host := "") (Or.inl (hw _ (List.mem_of_getElem? (i := 14) rfl))) Via.refl rfl F_joinedAs_a1 (g := (mkF m 71 #[.val (.ref a1), .val (.int (4 : Int32)), .val (.int p3), .val (.int (4 : Int32))] [(.ref a1)])) rfl rfl (hb hby d1_71)
  obtain ⟨T215, X215, e215, st215⟩ := getF X214 hx hZ hown (host := "") (Or.inl (hw _ (List.mem_of_getElem? (i := 71) rfl))) Via.refl e214 F_joined_a1 (g := (mkF m 77 #[.val (.ref a1), .val (.int (4 : Int32)), .val (.int p3), .val (.int (4 : Int32))] [(.ref a1), (.ref a1), (.int p3), (.ref b191)])) rfl rfl (hb hby d1_77)
  obtain ⟨T216, h216, X216, e216, W216, st216⟩ := putF X215 hx hZ hown (host := "") (Or.inl (hw _ (List.mem_of_getElem? (i := 71) rfl))) Via.refl e215 F_joined_a1 E_a1 (Or.inl (hw _ (List.mem_of_getElem? (i := 72) rfl))) (hw _ (List.mem_of_getElem? (i := 2) rfl)) (ty := .long) (by decide) rfl rfl (g := (mkF m 83 #[.val (.ref a1), .val (.int (4 : Int32)), .val (.int p3), .val (.int (4 : Int32))] [(.long (1 : Int64)), (.ref a1), (.long (0 : Int64)), (.int p3), (.ref b191)])) rfl rfl (hb hby d1_83)
  have N216 := Fr.snoc X216 N213 g_a1
  have Zs : n0 ≤ h216.size := Nat.le_trans Zs (Keep.of_wr W216).1
  have E_a1 : Exa Z h216 a1 "com/example/wachter/wachter/sim/QueueOrder" := E_a1.wr W216
  have F_requests_a1 : Fld Z h216 a1 "com/example/wachter/wachter/sim/QueueOrder" "requests" "[I" (.ref b189) := F_requests_a1.other W216 (Or.inr (slot_ne (Or.inr (hw _ (List.mem_of_getElem? (i := 12) rfl))) (Or.inl (hw _ (List.mem_of_getElem? (i := 72) rfl))) (by decide) (t := (.array .int)) (t' := .long) (by decide) (by decide)))
  have F_joinedAs_a1 : Fld Z h216 a1 "com/example/wachter/wachter/sim/QueueOrder" "joinedAs" "[J" (.ref b191) := F_joinedAs_a1.other W216 (Or.inr (slot_ne (Or.inr (hw _ (List.mem_of_getElem? (i := 15) rfl))) (Or.inl (hw _ (List.mem_of_getElem? (i := 72) rfl))) (by decide) (t := (.array .long)) (t' := .long) (by decide) (by decide)))
  have F_behind_a1 : Fld Z h216 a1 "com/example/wachter/wachter/sim/QueueOrder" "behind" "Ljava/util/List;" (.ref b193) := F_behind_a1.other W216 (Or.inr (slot_ne (Or.inr (hw _ (List.mem_of_getElem? (i := 42) rfl))) (Or.inl (hw _ (List.mem_of_getElem? (i := 72) rfl))) (by decide) (t := (.object "java/util/List")) (t' := .long) (by decide) (by decide)))
  have F_joined_a1 : Fld Z h216 a1 "com/example/wachter/wachter/sim/QueueOrder" "joined" "J" (.long (1 : Int64)) := F_joined_a1.same W216
  have Ol : Old Z n0 h216 := Ol.wr W216 g_a1
  have Kp : Keep h0 h216 [a1] := Kp.wr W216 (Or.inl (List.mem_of_getElem? (i := 0) rfl))
  have E_b189 : Exa Z h216 b189 "[I" := E_b189.wr W216
  have A_b189 : ArI Z h216 b189 (4 : Int32) (fun _ => 0) := A_b189.other W216 (Ne.symm ne_a1_b189)
  have E_b191 : Exa Z h216 b191 "[J" := E_b191.wr W216
  have E_b193 : Exa Z h216 b193 "java/util/ArrayList" := E_b193.wr W216
  have A_b191 : ArJ Z h216 b191 (4 : Int32) (upd (upd (upd (upd (fun _ => 0) (0 : Int32).toNatClampNeg (-1 : Int64)) (1 : Int32).toNatClampNeg (-1 : Int64)) (2 : Int32).toNatClampNeg (-1 : Int64)) (3 : Int32).toNatClampNeg (-1 : Int64)) := A_b191.other W216 (Ne.symm ne_a1_b191)
  have E_b199 : Exa Z h216 b199 "java/util/ArrayList" := E_b199.wr W216
  have F_elementData_b199 : Fld Z h216 b199 "java/util/ArrayList" "elementData" "[Ljava/lang/Object;" (.ref dd) := F_elementData_b199.other W216 (Or.inl (Ne.symm ne_a1_b199))
  have F_size_b199 : Fld Z h216 b199 "java/util/ArrayList" "size" "I" (.int (0 : Int32)) := F_size_b199.other W216 (Or.inl (Ne.symm ne_a1_b199))
  have F_modCount_b199 : Fld Z h216 b199 "java/util/AbstractList" "modCount" "I" (.int (0 : Int32)) := F_modCount_b199.other W216 (Or.inl (Ne.symm ne_a1_b199))
  have E_b203 : Exa Z h216 b203 "java/util/ArrayList" := E_b203.wr W216
  have F_elementData_b203 : Fld Z h216 b203 "java/util/ArrayList" "elementData" "[Ljava/lang/Object;" (.ref dd) := F_elementData_b203.other W216 (Or.inl (Ne.symm ne_a1_b203))
  have F_size_b203 : Fld Z h216 b203 "java/util/ArrayList" "size" "I" (.int (0 : Int32)) := F_size_b203.other W216 (Or.inl (Ne.symm ne_a1_b203))
  have F_modCount_b203 : Fld Z h216 b203 "java/util/AbstractList" "modCount" "I" (.int (0 : Int32)) := F_modCount_b203.other W216 (Or.inl (Ne.symm ne_a1_b203))
  have E_b207 : Exa Z h216 b207 "java/util/ArrayList" := E_b207.wr W216
  have F_elementData_b207 : Fld Z h216 b207 "java/util/ArrayList" "elementData" "[Ljava/lang/Object;" (.ref dd) := F_elementData_b207.other W216 (Or.inl (Ne.symm ne_a1_b207))
  have F_size_b207 : Fld Z h216 b207 "java/util/ArrayList" "size" "I" (.int (0 : Int32)) := F_size_b207.other W216 (Or.inl (Ne.symm ne_a1_b207))
  have F_modCount_b207 : Fld Z h216 b207 "java/util/AbstractList" "modCount" "I" (.int (0 : Int32)) := F_modCount_b207.other W216 (Or.inl (Ne.symm ne_a1_b207))
  have E_b211 : Exa Z h216 b211 "java/util/ArrayList" := E_b211.wr W216
  have F_elementData_b211 : Fld Z h216 b211 "java/util/ArrayList" "elementData" "[Ljava/lang/Object;" (.ref dd) := F_elementData_b211.other W216 (Or.inl (Ne.symm ne_a1_b211))
  have F_size_b211 : Fld Z h216 b211 "java/util/ArrayList" "size" "I" (.int (0 : Int32)) := F_size_b211.other W216 (Or.inl (Ne.symm ne_a1_b211))
  have F_modCount_b211 : Fld Z h216 b211 "java/util/AbstractList" "modCount" "I" (.int (0 : Int32)) := F_modCount_b211.other W216 (Or.inl (Ne.symm ne_a1_b211))
  have F_elementData_b193 : Fld Z h216 b193 "java/util/ArrayList" "elementData" "[Ljava/lang/Object;" (.ref b_194) := F_elementData_b193.other W216 (Or.inl (Ne.symm ne_a1_b193))
  have F_size_b193 : Fld Z h216 b193 "java/util/ArrayList" "size" "I" (.int (4 : Int32)) := F_size_b193.other W216 (Or.inl (Ne.symm ne_a1_b193))
  have F_modCount_b193 : Fld Z h216 b193 "java/util/AbstractList" "modCount" "I" (.int (4 : Int32)) := F_modCount_b193.other W216 (Or.inl (Ne.symm ne_a1_b193))
  have A_b_194 : ArR Z h216 b_194 kb_194 "java/lang/Object" (4 : Int32) (upd (upd (upd (upd (fun _ => .null) (0 : Int32).toNatClampNeg (.ref b199)) (1 : Int32).toNatClampNeg (.ref b203)) (2 : Int32).toNatClampNeg (.ref b207)) (3 : Int32).toNatClampNeg (.ref b211)) := A_b_194.other W216 (Ne.symm ne_a1_b_194)
  obtain ⟨cl217, Ar217, hs217, hin217, hat217⟩ := ArJ.open (j := p3) A_b191 hi
  obtain ⟨T218, h218, X218, e218, W218, st218⟩ := stJ X216 hx hZ e216 Ar217 (j := p3) hin217 (g := (mkF m 86 #[.val (.ref a1), .val (.int (4 : Int32)), .val (.int p3), .val (.int (4 : Int32))] [(.long (0 : Int64)), (.int p3), (.ref b191)])) rfl rfl (hb hby d1_86)
  have N218 := Fr.snoc X218 N216 g_b191
  have Zs : n0 ≤ h218.size := Nat.le_trans Zs (Keep.of_wr W218).1
  have E_a1 : Exa Z h218 a1 "com/example/wachter/wachter/sim/QueueOrder" := E_a1.wr W218
  have F_requests_a1 : Fld Z h218 a1 "com/example/wachter/wachter/sim/QueueOrder" "requests" "[I" (.ref b189) := F_requests_a1.other W218 (Or.inl ne_a1_b191)
  have F_joinedAs_a1 : Fld Z h218 a1 "com/example/wachter/wachter/sim/QueueOrder" "joinedAs" "[J" (.ref b191) := F_joinedAs_a1.other W218 (Or.inl ne_a1_b191)
  have F_behind_a1 : Fld Z h218 a1 "com/example/wachter/wachter/sim/QueueOrder" "behind" "Ljava/util/List;" (.ref b193) := F_behind_a1.other W218 (Or.inl ne_a1_b191)
  have F_joined_a1 : Fld Z h218 a1 "com/example/wachter/wachter/sim/QueueOrder" "joined" "J" (.long (1 : Int64)) := F_joined_a1.other W218 (Or.inl ne_a1_b191)
  have Ol : Old Z n0 h218 := Ol.wr W218 g_b191
  have Kp : Keep h0 h218 [a1] := Kp.wr W218 (Or.inr sz_b191)
  have E_b189 : Exa Z h218 b189 "[I" := E_b189.wr W218
  have A_b189 : ArI Z h218 b189 (4 : Int32) (fun _ => 0) := A_b189.other W218 ne_b189_b191
  have E_b191 : Exa Z h218 b191 "[J" := E_b191.wr W218
  have E_b193 : Exa Z h218 b193 "java/util/ArrayList" := E_b193.wr W218
  have E_b199 : Exa Z h218 b199 "java/util/ArrayList" := E_b199.wr W218
  have F_elementData_b199 : Fld Z h218 b199 "java/util/ArrayList" "elementData" "[Ljava/lang/Object;" (.ref dd) := F_elementData_b199.other W218 (Or.inl (Ne.symm ne_b191_b199))
  have F_size_b199 : Fld Z h218 b199 "java/util/ArrayList" "size" "I" (.int (0 : Int32)) := F_size_b199.other W218 (Or.inl (Ne.symm ne_b191_b199))
  have F_modCount_b199 : Fld Z h218 b199 "java/util/AbstractList" "modCount" "I" (.int (0 : Int32)) := F_modCount_b199.other W218 (Or.inl (Ne.symm ne_b191_b199))
  have E_b203 : Exa Z h218 b203 "java/util/ArrayList" := E_b203.wr W218
  have F_elementData_b203 : Fld Z h218 b203 "java/util/ArrayList" "elementData" "[Ljava/lang/Object;" (.ref dd) := F_elementData_b203.other W218 (Or.inl (Ne.symm ne_b191_b203))
  have F_size_b203 : Fld Z h218 b203 "java/util/ArrayList" "size" "I" (.int (0 : Int32)) := F_size_b203.other W218 (Or.inl (Ne.symm ne_b191_b203))
  have F_modCount_b203 : Fld Z h218 b203 "java/util/AbstractList" "modCount" "I" (.int (0 : Int32)) := F_modCount_b203.other W218 (Or.inl (Ne.symm ne_b191_b203))
  have E_b207 : Exa Z h218 b207 "java/util/ArrayList" := E_b207.wr W218
  have F_elementData_b207 : Fld Z h218 b207 "java/util/ArrayList" "elementData" "[Ljava/lang/Object;" (.ref dd) := F_elementData_b207.other W218 (Or.inl (Ne.symm ne_b191_b207))
  have F_size_b207 : Fld Z h218 b207 "java/util/ArrayList" "size" "I" (.int (0 : Int32)) := F_size_b207.other W218 (Or.inl (Ne.symm ne_b191_b207))
  have F_modCount_b207 : Fld Z h218 b207 "java/util/AbstractList" "modCount" "I" (.int (0 : Int32)) := F_modCount_b207.other W218 (Or.inl (Ne.symm ne_b191_b207))
  have E_b211 : Exa Z h218 b211 "java/util/ArrayList" := E_b211.wr W218
  have F_elementData_b211 : Fld Z h218 b211 "java/util/ArrayList" "elementData" "[Ljava/lang/Object;" (.ref dd) := F_elementData_b211.other W218 (Or.inl (Ne.symm ne_b191_b211))
  have F_size_b211 : Fld Z h218 b211 "java/util/ArrayList" "size" "I" (.int (0 : Int32)) := F_size_b211.other W218 (Or.inl (Ne.symm ne_b191_b211))
  have F_modCount_b211 : Fld Z h218 b211 "java/util/AbstractList" "modCount" "I" (.int (0 : Int32)) := F_modCount_b211.other W218 (Or.inl (Ne.symm ne_b191_b211))
  have F_elementData_b193 : Fld Z h218 b193 "java/util/ArrayList" "elementData" "[Ljava/lang/Object;" (.ref b_194) := F_elementData_b193.other W218 (Or.inl (Ne.symm ne_b191_b193))
  have F_size_b193 : Fld Z h218 b193 "java/util/ArrayList" "size" "I" (.int (4 : Int32)) := F_size_b193.other W218 (Or.inl (Ne.symm ne_b191_b193))
  have F_modCount_b193 : Fld Z h218 b193 "java/util/AbstractList" "modCount" "I" (.int (4 : Int32)) := F_modCount_b193.other W218 (Or.inl (Ne.symm ne_b191_b193))
  have A_b_194 : ArR Z h218 b_194 kb_194 "java/lang/Object" (4 : Int32) (upd (upd (upd (upd (fun _ => .null) (0 : Int32).toNatClampNeg (.ref b199)) (1 : Int32).toNatClampNeg (.ref b203)) (2 : Int32).toNatClampNeg (.ref b207)) (3 : Int32).toNatClampNeg (.ref b211)) := A_b_194.other W218 (Ne.symm ne_b191_b_194)
  have A_b191 : ArJ Z h218 b191 (4 : Int32) (upd (upd (upd (upd (upd (fun _ => 0) (0 : Int32).toNatClampNeg (-1 : Int64)) (1 : Int32).toNatClampNeg (-1 : Int64)) (2 : Int32).toNatClampNeg (-1 : Int64)) (3 : Int32).toNatClampNeg (-1 : Int64)) p3.toNatClampNeg (0 : Int64)) := ArJ.set A_b191 W218
  obtain ⟨fs, hr, hrun, hended, hW, hsame⟩ := X218.leave (v := none) (fun _ => rfl)
  refine ⟨_, _, pre0 _ ?_, hrun, hended, _, _, rfl, ?_, ⟨_, rfl⟩, hW, hsame.mono (by decide) (by decide)⟩
  · show Steps p.tables e below (s₁.setTop (mkF m 0 #[.val (.ref a1), .val (.int (4 : Int32)), .val (.int p3), .unset] [])) _
    refine XS.aloadN X0.here hx rfl (hb hby d1_0) rfl rfl ?_
    show Steps p.tables e below (s₁.setTop (mkF m 1 #[.val (.ref a1), .val (.int (4 : Int32)), .val (.int p3), .unset] [(.ref a1)])) _
    refine st188 _ ?_
    show Steps p.tables e below (T188.setTop (mkF m 4 #[.val (.ref a1), .val (.int (4 : Int32)), .val (.int p3), .unset] [])) _
    refine XS.aloadN X188.here hx rfl (hb hby d1_4) rfl rfl ?_
    show Steps p.tables e below (T188.setTop (mkF m 5 #[.val (.ref a1), .val (.int (4 : Int32)), .val (.int p3), .unset] [(.ref a1)])) _
    refine XS.iloadN X188.here hx rfl (hb hby d1_5) rfl ?_
    show Steps p.tables e below (T188.setTop (mkF m 6 #[.val (.ref a1), .val (.int (4 : Int32)), .val (.int p3), .unset] [(.int (4 : Int32)), (.ref a1)])) _
    refine st189 _ ?_
    show Steps p.tables e below (T189.setTop (mkF m 8 #[.val (.ref a1), .val (.int (4 : Int32)), .val (.int p3), .unset] [(.ref b189), (.ref a1)])) _
    refine st190 _ ?_
    show Steps p.tables e below (T190.setTop (mkF m 11 #[.val (.ref a1), .val (.int (4 : Int32)), .val (.int p3), .unset] [])) _
    refine XS.aloadN X190.here hx rfl (hb hby d1_11) rfl rfl ?_
    show Steps p.tables e below (T190.setTop (mkF m 12 #[.val (.ref a1), .val (.int (4 : Int32)), .val (.int p3), .unset] [(.ref a1)])) _
    refine XS.iloadN X190.here hx rfl (hb hby d1_12) rfl ?_
    show Steps p.tables e below (T190.setTop (mkF m 13 #[.val (.ref a1), .val (.int (4 : Int32)), .val (.int p3), .unset] [(.int (4 : Int32)), (.ref a1)])) _
    refine st191 _ ?_
    show Steps p.tables e below (T191.setTop (mkF m 15 #[.val (.ref a1), .val (.int (4 : Int32)), .val (.int p3), .unset] [(.ref b191), (.ref a1)])) _
    refine st192 _ ?_
    show Steps p.tables e below (T192.setTop (mkF m 18 #[.val (.ref a1), .val (.int (4 : Int32)), .val (.int p3), .unset] [])) _
    refine XS.aloadN X192.here hx rfl (hb hby d1_18) rfl rfl ?_
    show Steps p.tables e below (T192.setTop (mkF m 19 #[.val (.ref a1), .val (.int (4 : Int32)), .val (.int p3), .unset] [(.ref a1)])) _
    refine st193 _ ?_
    show Steps p.tables e below (T193.setTop (mkF m 22 #[.val (.ref a1), .val (.int (4 : Int32)), .val (.int p3), .unset] [(.ref b193), (.ref a1)])) _
    refine XS.dup X193.here hx rfl (hb hby d1_22) rfl rfl ?_
    show Steps p.tables e below (T193.setTop (mkF m 23 #[.val (.ref a1), .val (.int (4 : Int32)), .val (.int p3), .unset] [(.ref b193), (.ref b193), (.ref a1)])) _
    refine XS.iloadN X193.here hx rfl (hb hby d1_23) rfl ?_
    show Steps p.tables e below (T193.setTop (mkF m 24 #[.val (.ref a1), .val (.int (4 : Int32)), .val (.int p3), .unset] [(.int (4 : Int32)), (.ref b193), (.ref b193), (.ref a1)])) _
    refine st194.trans ?_
    show Steps p.tables e below (T194.setTop (mkF m 27 #[.val (.ref a1), .val (.int (4 : Int32)), .val (.int p3), .unset] [(.ref b193), (.ref a1)])) _
    refine st195 _ ?_
    show Steps p.tables e below (T195.setTop (mkF m 30 #[.val (.ref a1), .val (.int (4 : Int32)), .val (.int p3), .unset] [])) _
    refine XS.aloadN X195.here hx rfl (hb hby d1_30) rfl rfl ?_
    show Steps p.tables e below (T195.setTop (mkF m 31 #[.val (.ref a1), .val (.int (4 : Int32)), .val (.int p3), .unset] [(.ref a1)])) _
    refine st196 _ ?_
    show Steps p.tables e below (T196.setTop (mkF m 34 #[.val (.ref a1), .val (.int (4 : Int32)), .val (.int p3), .unset] [(.ref b191)])) _
    refine X196.ldc2Long hx hown (mvT hZ (hw _ (List.mem_of_getElem? (i := 43) rfl))) (g := (mkF m 34 #[.val (.ref a1), .val (.int (4 : Int32)), .val (.int p3), .unset] [(.ref b191)])) rfl (hb hby d1_34) _ ?_
    show Steps p.tables e below (T196.setTop (mkF m 37 #[.val (.ref a1), .val (.int (4 : Int32)), .val (.int p3), .unset] [(.long (-1 : Int64)), (.ref b191)])) _
    refine st197 _ ?_
    show Steps p.tables e below (T197.setTop (mkF m 40 #[.val (.ref a1), .val (.int (4 : Int32)), .val (.int p3), .unset] [])) _
    refine XS.iconst X197.here hx rfl (hb hby d1_40) ?_
    show Steps p.tables e below (T197.setTop (mkF m 41 #[.val (.ref a1), .val (.int (4 : Int32)), .val (.int p3), .unset] [(.int (0 : Int32))])) _
    refine XS.istoreN X197.here hx rfl (hb hby d1_41) rfl (l' := #[.val (.ref a1), .val (.int (4 : Int32)), .val (.int p3), .val (.int (0 : Int32))]) rfl ?_
    show Steps p.tables e below (T197.setTop (mkF m 42 #[.val (.ref a1), .val (.int (4 : Int32)), .val (.int p3), .val (.int (0 : Int32))] [])) _
    refine XS.iloadN X197.here hx rfl (hb hby d1_42) rfl ?_
    show Steps p.tables e below (T197.setTop (mkF m 43 #[.val (.ref a1), .val (.int (4 : Int32)), .val (.int p3), .val (.int (0 : Int32))] [(.int (0 : Int32))])) _
    refine XS.iloadN X197.here hx rfl (hb hby d1_43) rfl ?_
    show Steps p.tables e below (T197.setTop (mkF m 44 #[.val (.ref a1), .val (.int (4 : Int32)), .val (.int p3), .val (.int (0 : Int32))] [(.int (4 : Int32)), (.int (0 : Int32))])) _
    refine XS.icmpNo X197.here hx rfl (hb hby d1_44) rfl (tlt (by decide)).2.1 ?_
    show Steps p.tables e below (T197.setTop (mkF m 47 #[.val (.ref a1), .val (.int (4 : Int32)), .val (.int p3), .val (.int (0 : Int32))] [])) _
    refine XS.aloadN X197.here hx rfl (hb hby d1_47) rfl rfl ?_
    show Steps p.tables e below (T197.setTop (mkF m 48 #[.val (.ref a1), .val (.int (4 : Int32)), .val (.int p3), .val (.int (0 : Int32))] [(.ref a1)])) _
    refine st198 _ ?_
    show Steps p.tables e below (T198.setTop (mkF m 51 #[.val (.ref a1), .val (.int (4 : Int32)), .val (.int p3), .val (.int (0 : Int32))] [(.ref b193)])) _
    refine st199 _ ?_
    show Steps p.tables e below (T199.setTop (mkF m 54 #[.val (.ref a1), .val (.int (4 : Int32)), .val (.int p3), .val (.int (0 : Int32))] [(.ref b199), (.ref b193)])) _
    refine XS.dup X199.here hx rfl (hb hby d1_54) rfl rfl ?_
    show Steps p.tables e below (T199.setTop (mkF m 55 #[.val (.ref a1), .val (.int (4 : Int32)), .val (.int p3), .val (.int (0 : Int32))] [(.ref b199), (.ref b199), (.ref b193)])) _
    refine st200.trans ?_
    show Steps p.tables e below (T200.setTop (mkF m 58 #[.val (.ref a1), .val (.int (4 : Int32)), .val (.int p3), .val (.int (0 : Int32))] [(.ref b199), (.ref b193)])) _
    refine st201.trans ?_
    show Steps p.tables e below (T201.setTop (mkF m 63 #[.val (.ref a1), .val (.int (4 : Int32)), .val (.int p3), .val (.int (0 : Int32))] [(.int (1 : Int32))])) _
    refine XS.pop X201.here hx rfl (hb hby d1_63) rfl rfl ?_
    show Steps p.tables e below (T201.setTop (mkF m 64 #[.val (.ref a1), .val (.int (4 : Int32)), .val (.int p3), .val (.int (0 : Int32))] [])) _
    refine XS.iinc X201.here hx rfl (hb hby d1_64) rfl (l' := #[.val (.ref a1), .val (.int (4 : Int32)), .val (.int p3), .val (.int (1 : Int32))]) rfl ?_
    show Steps p.tables e below (T201.setTop (mkF m 67 #[.val (.ref a1), .val (.int (4 : Int32)), .val (.int p3), .val (.int (1 : Int32))] [])) _
    refine XS.goto X201.here hx rfl (pc0 := 67) (pc' := 42) rfl (hb hby d1_67) (by decide) (by decide) ?_
    show Steps p.tables e below (T201.setTop (mkF m 42 #[.val (.ref a1), .val (.int (4 : Int32)), .val (.int p3), .val (.int (1 : Int32))] [])) _
    refine XS.iloadN X201.here hx rfl (hb hby d1_42) rfl ?_
    show Steps p.tables e below (T201.setTop (mkF m 43 #[.val (.ref a1), .val (.int (4 : Int32)), .val (.int p3), .val (.int (1 : Int32))] [(.int (1 : Int32))])) _
    refine XS.iloadN X201.here hx rfl (hb hby d1_43) rfl ?_
    show Steps p.tables e below (T201.setTop (mkF m 44 #[.val (.ref a1), .val (.int (4 : Int32)), .val (.int p3), .val (.int (1 : Int32))] [(.int (4 : Int32)), (.int (1 : Int32))])) _
    refine XS.icmpNo X201.here hx rfl (hb hby d1_44) rfl (tlt (by decide)).2.1 ?_
    show Steps p.tables e below (T201.setTop (mkF m 47 #[.val (.ref a1), .val (.int (4 : Int32)), .val (.int p3), .val (.int (1 : Int32))] [])) _
    refine XS.aloadN X201.here hx rfl (hb hby d1_47) rfl rfl ?_
    show Steps p.tables e below (T201.setTop (mkF m 48 #[.val (.ref a1), .val (.int (4 : Int32)), .val (.int p3), .val (.int (1 : Int32))] [(.ref a1)])) _
    refine st202 _ ?_
    show Steps p.tables e below (T202.setTop (mkF m 51 #[.val (.ref a1), .val (.int (4 : Int32)), .val (.int p3), .val (.int (1 : Int32))] [(.ref b193)])) _
    refine st203 _ ?_
    show Steps p.tables e below (T203.setTop (mkF m 54 #[.val (.ref a1), .val (.int (4 : Int32)), .val (.int p3), .val (.int (1 : Int32))] [(.ref b203), (.ref b193)])) _
    refine XS.dup X203.here hx rfl (hb hby d1_54) rfl rfl ?_
    show Steps p.tables e below (T203.setTop (mkF m 55 #[.val (.ref a1), .val (.int (4 : Int32)), .val (.int p3), .val (.int (1 : Int32))] [(.ref b203), (.ref b203), (.ref b193)])) _
    refine st204.trans ?_
    show Steps p.tables e below (T204.setTop (mkF m 58 #[.val (.ref a1), .val (.int (4 : Int32)), .val (.int p3), .val (.int (1 : Int32))] [(.ref b203), (.ref b193)])) _
    refine st205.trans ?_
    show Steps p.tables e below (T205.setTop (mkF m 63 #[.val (.ref a1), .val (.int (4 : Int32)), .val (.int p3), .val (.int (1 : Int32))] [(.int (1 : Int32))])) _
    refine XS.pop X205.here hx rfl (hb hby d1_63) rfl rfl ?_
    show Steps p.tables e below (T205.setTop (mkF m 64 #[.val (.ref a1), .val (.int (4 : Int32)), .val (.int p3), .val (.int (1 : Int32))] [])) _
    refine XS.iinc X205.here hx rfl (hb hby d1_64) rfl (l' := #[.val (.ref a1), .val (.int (4 : Int32)), .val (.int p3), .val (.int (2 : Int32))]) rfl ?_
    show Steps p.tables e below (T205.setTop (mkF m 67 #[.val (.ref a1), .val (.int (4 : Int32)), .val (.int p3), .val (.int (2 : Int32))] [])) _
    refine XS.goto X205.here hx rfl (pc0 := 67) (pc' := 42) rfl (hb hby d1_67) (by decide) (by decide) ?_
    show Steps p.tables e below (T205.setTop (mkF m 42 #[.val (.ref a1), .val (.int (4 : Int32)), .val (.int p3), .val (.int (2 : Int32))] [])) _
    refine XS.iloadN X205.here hx rfl (hb hby d1_42) rfl ?_
    show Steps p.tables e below (T205.setTop (mkF m 43 #[.val (.ref a1), .val (.int (4 : Int32)), .val (.int p3), .val (.int (2 : Int32))] [(.int (2 : Int32))])) _
    refine XS.iloadN X205.here hx rfl (hb hby d1_43) rfl ?_
    show Steps p.tables e below (T205.setTop (mkF m 44 #[.val (.ref a1), .val (.int (4 : Int32)), .val (.int p3), .val (.int (2 : Int32))] [(.int (4 : Int32)), (.int (2 : Int32))])) _
    refine XS.icmpNo X205.here hx rfl (hb hby d1_44) rfl (tlt (by decide)).2.1 ?_
    show Steps p.tables e below (T205.setTop (mkF m 47 #[.val (.ref a1), .val (.int (4 : Int32)), .val (.int p3), .val (.int (2 : Int32))] [])) _
    refine XS.aloadN X205.here hx rfl (hb hby d1_47) rfl rfl ?_
    show Steps p.tables e below (T205.setTop (mkF m 48 #[.val (.ref a1), .val (.int (4 : Int32)), .val (.int p3), .val (.int (2 : Int32))] [(.ref a1)])) _
    refine st206 _ ?_
    show Steps p.tables e below (T206.setTop (mkF m 51 #[.val (.ref a1), .val (.int (4 : Int32)), .val (.int p3), .val (.int (2 : Int32))] [(.ref b193)])) _
    refine st207 _ ?_
    show Steps p.tables e below (T207.setTop (mkF m 54 #[.val (.ref a1), .val (.int (4 : Int32)), .val (.int p3), .val (.int (2 : Int32))] [(.ref b207), (.ref b193)])) _
    refine XS.dup X207.here hx rfl (hb hby d1_54) rfl rfl ?_
    show Steps p.tables e below (T207.setTop (mkF m 55 #[.val (.ref a1), .val (.int (4 : Int32)), .val (.int p3), .val (.int (2 : Int32))] [(.ref b207), (.ref b207), (.ref b193)])) _
    refine st208.trans ?_
    show Steps p.tables e below (T208.setTop (mkF m 58 #[.val (.ref a1), .val (.int (4 : Int32)), .val (.int p3), .val (.int (2 : Int32))] [(.ref b207), (.ref b193)])) _
    refine st209.trans ?_
    show Steps p.tables e below (T209.setTop (mkF m 63 #[.val (.ref a1), .val (.int (4 : Int32)), .val (.int p3), .val (.int (2 : Int32))] [(.int (1 : Int32))])) _
    refine XS.pop X209.here hx rfl (hb hby d1_63) rfl rfl ?_
    show Steps p.tables e below (T209.setTop (mkF m 64 #[.val (.ref a1), .val (.int (4 : Int32)), .val (.int p3), .val (.int (2 : Int32))] [])) _
    refine XS.iinc X209.here hx rfl (hb hby d1_64) rfl (l' := #[.val (.ref a1), .val (.int (4 : Int32)), .val (.int p3), .val (.int (3 : Int32))]) rfl ?_
    show Steps p.tables e below (T209.setTop (mkF m 67 #[.val (.ref a1), .val (.int (4 : Int32)), .val (.int p3), .val (.int (3 : Int32))] [])) _
    refine XS.goto X209.here hx rfl (pc0 := 67) (pc' := 42) rfl (hb hby d1_67) (by decide) (by decide) ?_
    show Steps p.tables e below (T209.setTop (mkF m 42 #[.val (.ref a1), .val (.int (4 : Int32)), .val (.int p3), .val (.int (3 : Int32))] [])) _
    refine XS.iloadN X209.here hx rfl (hb hby d1_42) rfl ?_
    show Steps p.tables e below (T209.setTop (mkF m 43 #[.val (.ref a1), .val (.int (4 : Int32)), .val (.int p3), .val (.int (3 : Int32))] [(.int (3 : Int32))])) _
    refine XS.iloadN X209.here hx rfl (hb hby d1_43) rfl ?_
    show Steps p.tables e below (T209.setTop (mkF m 44 #[.val (.ref a1), .val (.int (4 : Int32)), .val (.int p3), .val (.int (3 : Int32))] [(.int (4 : Int32)), (.int (3 : Int32))])) _
    refine XS.icmpNo X209.here hx rfl (hb hby d1_44) rfl (tlt (by decide)).2.1 ?_
    show Steps p.tables e below (T209.setTop (mkF m 47 #[.val (.ref a1), .val (.int (4 : Int32)), .val (.int p3), .val (.int (3 : Int32))] [])) _
    refine XS.aloadN X209.here hx rfl (hb hby d1_47) rfl rfl ?_
    show Steps p.tables e below (T209.setTop (mkF m 48 #[.val (.ref a1), .val (.int (4 : Int32)), .val (.int p3), .val (.int (3 : Int32))] [(.ref a1)])) _
    refine st210 _ ?_
    show Steps p.tables e below (T210.setTop (mkF m 51 #[.val (.ref a1), .val (.int (4 : Int32)), .val (.int p3), .val (.int (3 : Int32))] [(.ref b193)])) _
    refine st211 _ ?_
    show Steps p.tables e below (T211.setTop (mkF m 54 #[.val (.ref a1), .val (.int (4 : Int32)), .val (.int p3), .val (.int (3 : Int32))] [(.ref b211), (.ref b193)])) _
    refine XS.dup X211.here hx rfl (hb hby d1_54) rfl rfl ?_
    show Steps p.tables e below (T211.setTop (mkF m 55 #[.val (.ref a1), .val (.int (4 : Int32)), .val (.int p3), .val (.int (3 : Int32))] [(.ref b211), (.ref b211), (.ref b193)])) _
    refine st212.trans ?_
    show Steps p.tables e below (T212.setTop (mkF m 58 #[.val (.ref a1), .val (.int (4 : Int32)), .val (.int p3), .val (.int (3 : Int32))] [(.ref b211), (.ref b193)])) _
    refine st213.trans ?_
    show Steps p.tables e below (T213.setTop (mkF m 63 #[.val (.ref a1), .val (.int (4 : Int32)), .val (.int p3), .val (.int (3 : Int32))] [(.int (1 : Int32))])) _
    refine XS.pop X213.here hx rfl (hb hby d1_63) rfl rfl ?_
    show Steps p.tables e below (T213.setTop (mkF m 64 #[.val (.ref a1), .val (.int (4 : Int32)), .val (.int p3), .val (.int (3 : Int32))] [])) _
    refine XS.iinc X213.here hx rfl (hb hby d1_64) rfl (l' := #[.val (.ref a1), .val (.int (4 : Int32)), .val (.int p3), .val (.int (4 : Int32))]) rfl ?_
    show Steps p.tables e below (T213.setTop (mkF m 67 #[.val (.ref a1), .val (.int (4 : Int32)), .val (.int p3), .val (.int (4 : Int32))] [])) _
    refine XS.goto X213.here hx rfl (pc0 := 67) (pc' := 42) rfl (hb hby d1_67) (by decide) (by decide) ?_
    show Steps p.tables e below (T213.setTop (mkF m 42 #[.val (.ref a1), .val (.int (4 : Int32)), .val (.int p3), .val (.int (4 : Int32))] [])) _
    refine XS.iloadN X213.here hx rfl (hb hby d1_42) rfl ?_
    show Steps p.tables e below (T213.setTop (mkF m 43 #[.val (.ref a1), .val (.int (4 : Int32)), .val (.int p3), .val (.int (4 : Int32))] [(.int (4 : Int32))])) _
    refine XS.iloadN X213.here hx rfl (hb hby d1_43) rfl ?_
    show Steps p.tables e below (T213.setTop (mkF m 44 #[.val (.ref a1), .val (.int (4 : Int32)), .val (.int p3), .val (.int (4 : Int32))] [(.int (4 : Int32)), (.int (4 : Int32))])) _
    refine XS.icmpYes X213.here hx rfl (pc0 := 44) (pc' := 70) rfl (hb hby d1_44) rfl (flt (by decide)).2.1 (by decide) (by decide) ?_
    show Steps p.tables e below (T213.setTop (mkF m 70 #[.val (.ref a1), .val (.int (4 : Int32)), .val (.int p3), .val (.int (4 : Int32))] [])) _
    refine XS.aloadN X213.here hx rfl (hb hby d1_70) rfl rfl ?_
    show Steps p.tables e below (T213.setTop (mkF m 71 #[.val (.ref a1), .val (.int (4 : Int32)), .val (.int p3), .val (.int (4 : Int32))] [(.ref a1)])) _
    refine st214 _ ?_
    show Steps p.tables e below (T214.setTop (mkF m 74 #[.val (.ref a1), .val (.int (4 : Int32)), .val (.int p3), .val (.int (4 : Int32))] [(.ref b191)])) _
    refine XS.iloadN X214.here hx rfl (hb hby d1_74) rfl ?_
    show Steps p.tables e below (T214.setTop (mkF m 75 #[.val (.ref a1), .val (.int (4 : Int32)), .val (.int p3), .val (.int (4 : Int32))] [(.int p3), (.ref b191)])) _
    refine XS.aloadN X214.here hx rfl (hb hby d1_75) rfl rfl ?_
    show Steps p.tables e below (T214.setTop (mkF m 76 #[.val (.ref a1), .val (.int (4 : Int32)), .val (.int p3), .val (.int (4 : Int32))] [(.ref a1), (.int p3), (.ref b191)])) _
    refine XS.dup X214.here hx rfl (hb hby d1_76) rfl rfl ?_
    show Steps p.tables e below (T214.setTop (mkF m 77 #[.val (.ref a1), .val (.int (4 : Int32)), .val (.int p3), .val (.int (4 : Int32))] [(.ref a1), (.ref a1), (.int p3), (.ref b191)])) _
    refine st215 _ ?_
    show Steps p.tables e below (T215.setTop (mkF m 80 #[.val (.ref a1), .val (.int (4 : Int32)), .val (.int p3), .val (.int (4 : Int32))] [(.long (0 : Int64)), (.ref a1), (.int p3), (.ref b191)])) _
    jvm_step X215.here [X215.here.top, hx, (hb hby d1_80), Value.category]
    show Steps p.tables e below (T215.setTop (mkF m 81 #[.val (.ref a1), .val (.int (4 : Int32)), .val (.int p3), .val (.int (4 : Int32))] [(.long (0 : Int64)), (.ref a1), (.long (0 : Int64)), (.int p3), (.ref b191)])) _
    refine XS.lconst X215.here hx rfl (hb hby d1_81) ?_
    show Steps p.tables e below (T215.setTop (mkF m 82 #[.val (.ref a1), .val (.int (4 : Int32)), .val (.int p3), .val (.int (4 : Int32))] [(.long (1 : Int64)), (.long (0 : Int64)), (.ref a1), (.long (0 : Int64)), (.int p3), (.ref b191)])) _
    refine XS.ladd X215.here hx rfl (hb hby d1_82) rfl ?_
    show Steps p.tables e below (T215.setTop (mkF m 83 #[.val (.ref a1), .val (.int (4 : Int32)), .val (.int p3), .val (.int (4 : Int32))] [(.long (1 : Int64)), (.ref a1), (.long (0 : Int64)), (.int p3), (.ref b191)])) _
    refine st216 _ ?_
    show Steps p.tables e below (T216.setTop (mkF m 86 #[.val (.ref a1), .val (.int (4 : Int32)), .val (.int p3), .val (.int (4 : Int32))] [(.long (0 : Int64)), (.int p3), (.ref b191)])) _
    refine st218 _ ?_
    show Steps p.tables e below (T218.setTop (mkF m 87 #[.val (.ref a1), .val (.int (4 : Int32)), .val (.int p3), .val (.int (4 : Int32))] [])) _
    exact X218.returnOut hx Bd.returns (hb hby d1_87) hr
  · show QQ Z a1 p3 dd h0 n0 _ T218.heap _
    rw [e218]
    exact ⟨b189, b191, b193, b_194, b199, b203, b207, b211, kb_194, rfl, N218, Kp, sz_b189, sz_b191, sz_b193, sz_b_194, sz_b199, sz_b203, sz_b207, sz_b211, g_b189, g_b191, g_b193, g_b_194, g_b199, g_b203, g_b207, g_b211, ne_b189_b191, ne_b189_b193, ne_b189_b_194, ne_b189_b199, ne_b189_b203, ne_b189_b207, ne_b189_b211, ne_b191_b193, ne_b191_b_194, ne_b191_b199, ne_b191_b203, ne_b191_b207, ne_b191_b211, ne_b193_b_194, ne_b193_b199, ne_b193_b203, ne_b193_b207, ne_b193_b211, ne_b_194_b199, ne_b_194_b203, ne_b_194_b207, ne_b_194_b211, ne_b199_b203, ne_b199_b207, ne_b199_b211, ne_b203_b207, ne_b203_b211, ne_b207_b211, F_requests_a1, F_joinedAs_a1, F_behind_a1, F_joined_a1, A_b189, A_b191, E_b193, F_elementData_b193, F_size_b193, F_modCount_b193, A_b_194, E_b199, F_elementData_b199, F_size_b199, F_modCount_b199, E_b203, F_elementData_b203, F_size_b203, F_modCount_b203, E_b207, F_elementData_b207, F_size_b207, F_modCount_b207, E_b211, F_elementData_b211, F_size_b211, F_modCount_b211⟩
def Q0 (Z : State) (p1 : Int32) (p2 : Int32) (dd : Addr) (h0 : Heap) (n0 : Nat) (v : Option Value) (h : Heap) (L : List Loc) : Prop := v = some (.int (1 : Int32)) ∧ Fr n0 L
theorem ef_0 (m : MethodId) (p1 : Int32) (p2 : Int32) : entryFrame m #[(.int p1), (.int p2)] maxLocals = mkF m 0 #[.val (.int p1), .val (.int p2), .unset, .unset, .unset, .unset, .unset, .unset, .unset, .unset, .unset, .unset, .unset, .unset, .unset, .unset, .unset, .unset, .unset, .unset, .unset, .unset] [] := by first | (simp [entryFrame, mkF, argsToLocals, Value.category, maxLocals]; done) | rfl
set_option maxRecDepth 65536 in
set_option maxHeartbeats 40000000 in
theorem rm0 (l : Launch) (Z : State) (a0 : Array Value) (hw : ∀ d ∈ tables_1, d.before a0 Z = true) (ws : List Jvm.Cond) (p1 : Int32) (p2 : Int32) (dd : Addr) (h0 : Heap) (n0 : Nat) (Zs : n0 ≤ h0.size) (Ol : Old Z n0 h0) (S_DEFAULTCAPACITY_EMPTY_ELEMENTDATA : Sta Z Z.heap "java/util/ArrayList" "DEFAULTCAPACITY_EMPTY_ELEMENTDATA" "[Ljava/lang/Object;" (.ref dd)) (A_dd : ArZ Z Z.heap dd) :
    MetFree l x (head1 (Jvm.Cond.code x code maxLocals ret :: ws) room_1) (fun a U => a = #[(.int p1), (.int p2)] ∧ Z.Warmed39 U.vm ∧ U.heap = h0) (fun _ _ _ _ _ => True) (fun _ U o U' => ∃ v L, o = .returned v ∧ Q0 Z p1 p2 dd h0 n0 v U'.heap L ∧ FrameEnd U o U' L room_1.cells room_1.slots) := by
  refine MetFree.of_bodySF (plainFor_of_name pn_8) hisR ?_
  intro p e s m args below meth c s₁ Bd hml0 hP hK
  obtain ⟨rfl, hZ, hh⟩ := hP
  have hx := Bd.exec
  have hby := Bd.bytes
  have hml : c.maxLocals = 22 := hml0
  have hown : s.vm.findClass "com/example/wachter/wachter/sim/QueueOrderAskedPinLaw" = some m.cls := findClass_of_methodNamed Bd.named
  have hnm := (name_of_methodNamed Bd.named Bd.method).1
  have X0 : Stand p l e room_1 s m #[(.int p1), (.int p2)] below meth c s₁ [] 0 0 := Stand.of_body Bd
  have e0 : s₁.heap = h0 := by rw [← hh, Bd.state]; rfl
  have N0 := Fr.nil n0
  have pre0 : ∀ t, Steps p.tables e below (s₁.setTop (mkF m 0 #[.val (.int p1), .val (.int p2), .unset, .unset, .unset, .unset, .unset, .unset, .unset, .unset, .unset, .unset, .unset, .unset, .unset, .unset, .unset, .unset, .unset, .unset, .unset, .unset] [])) t → Steps p.tables e below (s₁.setTop (entryFrame m #[(.int p1), (.int p2)] maxLocals)) t := fun t k => castTop (ef_0 m p1 p2) k
  obtain ⟨v6, hv6⟩ : ∃ z : Int32, z = ((p1 &&& (2147483647 : Int32)) % (4 : Int32)) := ⟨_, rfl⟩
  have pre219 : ∀ t, Steps p.tables e below (s₁.setTop (mkF m 7 #[.val (.int p1), .val (.int p2), .val (.int v6), .unset, .unset, .unset, .unset, .unset, .unset, .unset, .unset, .unset, .unset, .unset, .unset, .unset, .unset, .unset, .unset, .unset, .unset, .unset] [])) t → Steps p.tables e below (s₁.setTop (entryFrame m #[(.int p1), (.int p2)] maxLocals)) t := fun t k => pre0 t (by
    show Steps p.tables e below (s₁.setTop (mkF m 0 #[.val (.int p1), .val (.int p2), .unset, .unset, .unset, .unset, .unset, .unset, .unset, .unset, .unset, .unset, .unset, .unset, .unset, .unset, .unset, .unset, .unset, .unset, .unset, .unset] [])) _
    refine XS.iloadN X0.here hx rfl (hb hby at_0) rfl ?_
    show Steps p.tables e below (s₁.setTop (mkF m 1 #[.val (.int p1), .val (.int p2), .unset, .unset, .unset, .unset, .unset, .unset, .unset, .unset, .unset, .unset, .unset, .unset, .unset, .unset, .unset, .unset, .unset, .unset, .unset, .unset] [(.int p1)])) _
    refine X0.ldcInt hx hown (mvT hZ (hw _ (List.mem_of_getElem? (i := 0) rfl))) (g := (mkF m 1 #[.val (.int p1), .val (.int p2), .unset, .unset, .unset, .unset, .unset, .unset, .unset, .unset, .unset, .unset, .unset, .unset, .unset, .unset, .unset, .unset, .unset, .unset, .unset, .unset] [(.int p1)])) rfl (hb hby at_1) _ ?_
    show Steps p.tables e below (s₁.setTop (mkF m 3 #[.val (.int p1), .val (.int p2), .unset, .unset, .unset, .unset, .unset, .unset, .unset, .unset, .unset, .unset, .unset, .unset, .unset, .unset, .unset, .unset, .unset, .unset, .unset, .unset] [(.int (2147483647 : Int32)), (.int p1)])) _
    refine XS.iand X0.here hx rfl (hb hby at_3) rfl ?_
    show Steps p.tables e below (s₁.setTop (mkF m 4 #[.val (.int p1), .val (.int p2), .unset, .unset, .unset, .unset, .unset, .unset, .unset, .unset, .unset, .unset, .unset, .unset, .unset, .unset, .unset, .unset, .unset, .unset, .unset, .unset] [(.int (p1 &&& (2147483647 : Int32)))])) _
    refine XS.iconst X0.here hx rfl (hb hby at_4) ?_
    show Steps p.tables e below (s₁.setTop (mkF m 5 #[.val (.int p1), .val (.int p2), .unset, .unset, .unset, .unset, .unset, .unset, .unset, .unset, .unset, .unset, .unset, .unset, .unset, .unset, .unset, .unset, .unset, .unset, .unset, .unset] [(.int (4 : Int32)), (.int (p1 &&& (2147483647 : Int32)))])) _
    refine iremM X0 hx rfl (hb hby at_5) rfl (by decide) ?_
    show Steps p.tables e below (s₁.setTop (mkF m 6 #[.val (.int p1), .val (.int p2), .unset, .unset, .unset, .unset, .unset, .unset, .unset, .unset, .unset, .unset, .unset, .unset, .unset, .unset, .unset, .unset, .unset, .unset, .unset, .unset] [(.int ((p1 &&& (2147483647 : Int32)) % (4 : Int32)))])) _
    refine XS.istoreN X0.here hx rfl (hb hby at_6) rfl (l' := #[.val (.int p1), .val (.int p2), .val (.int ((p1 &&& (2147483647 : Int32)) % (4 : Int32))), .unset, .unset, .unset, .unset, .unset, .unset, .unset, .unset, .unset, .unset, .unset, .unset, .unset, .unset, .unset, .unset, .unset, .unset, .unset]) rfl ?_
    rw [hv6] at k
    exact k)
  obtain ⟨v12, hv12⟩ : ∃ z : Int32, z = ((v6 + (1 : Int32)) % (4 : Int32)) := ⟨_, rfl⟩
  have pre220 : ∀ t, Steps p.tables e below (s₁.setTop (mkF m 13 #[.val (.int p1), .val (.int p2), .val (.int v6), .val (.int v12), .unset, .unset, .unset, .unset, .unset, .unset, .unset, .unset, .unset, .unset, .unset, .unset, .unset, .unset, .unset, .unset, .unset, .unset] [])) t → Steps p.tables e below (s₁.setTop (entryFrame m #[(.int p1), (.int p2)] maxLocals)) t := fun t k => pre219 t (by
    show Steps p.tables e below (s₁.setTop (mkF m 7 #[.val (.int p1), .val (.int p2), .val (.int v6), .unset, .unset, .unset, .unset, .unset, .unset, .unset, .unset, .unset, .unset, .unset, .unset, .unset, .unset, .unset, .unset, .unset, .unset, .unset] [])) _
    refine XS.iloadN X0.here hx rfl (hb hby at_7) rfl ?_
    show Steps p.tables e below (s₁.setTop (mkF m 8 #[.val (.int p1), .val (.int p2), .val (.int v6), .unset, .unset, .unset, .unset, .unset, .unset, .unset, .unset, .unset, .unset, .unset, .unset, .unset, .unset, .unset, .unset, .unset, .unset, .unset] [(.int v6)])) _
    refine XS.iconst X0.here hx rfl (hb hby at_8) ?_
    show Steps p.tables e below (s₁.setTop (mkF m 9 #[.val (.int p1), .val (.int p2), .val (.int v6), .unset, .unset, .unset, .unset, .unset, .unset, .unset, .unset, .unset, .unset, .unset, .unset, .unset, .unset, .unset, .unset, .unset, .unset, .unset] [(.int (1 : Int32)), (.int v6)])) _
    refine XS.iadd X0.here hx rfl (hb hby at_9) rfl ?_
    show Steps p.tables e below (s₁.setTop (mkF m 10 #[.val (.int p1), .val (.int p2), .val (.int v6), .unset, .unset, .unset, .unset, .unset, .unset, .unset, .unset, .unset, .unset, .unset, .unset, .unset, .unset, .unset, .unset, .unset, .unset, .unset] [(.int (v6 + (1 : Int32)))])) _
    refine XS.iconst X0.here hx rfl (hb hby at_10) ?_
    show Steps p.tables e below (s₁.setTop (mkF m 11 #[.val (.int p1), .val (.int p2), .val (.int v6), .unset, .unset, .unset, .unset, .unset, .unset, .unset, .unset, .unset, .unset, .unset, .unset, .unset, .unset, .unset, .unset, .unset, .unset, .unset] [(.int (4 : Int32)), (.int (v6 + (1 : Int32)))])) _
    refine iremM X0 hx rfl (hb hby at_11) rfl (by decide) ?_
    show Steps p.tables e below (s₁.setTop (mkF m 12 #[.val (.int p1), .val (.int p2), .val (.int v6), .unset, .unset, .unset, .unset, .unset, .unset, .unset, .unset, .unset, .unset, .unset, .unset, .unset, .unset, .unset, .unset, .unset, .unset, .unset] [(.int ((v6 + (1 : Int32)) % (4 : Int32)))])) _
    refine XS.istoreN X0.here hx rfl (hb hby at_12) rfl (l' := #[.val (.int p1), .val (.int p2), .val (.int v6), .val (.int ((v6 + (1 : Int32)) % (4 : Int32))), .unset, .unset, .unset, .unset, .unset, .unset, .unset, .unset, .unset, .unset, .unset, .unset, .unset, .unset, .unset, .unset, .unset, .unset]) rfl ?_
    rw [hv12] at k
    exact k)
  obtain ⟨v18, hv18⟩ : ∃ z : Int32, z = ((v6 + (2 : Int32)) % (4 : Int32)) := ⟨_, rfl⟩
  have pre221 : ∀ t, Steps p.tables e below (s₁.setTop (mkF m 20 #[.val (.int p1), .val (.int p2), .val (.int v6), .val (.int v12), .val (.int v18), .unset, .unset, .unset, .unset, .unset, .unset, .unset, .unset, .unset, .unset, .unset, .unset, .unset, .unset, .unset, .unset, .unset] [])) t → Steps p.tables e below (s₁.setTop (entryFrame m #[(.int p1), (.int p2)] maxLocals)) t := fun t k => pre220 t (by
    show Steps p.tables e below (s₁.setTop (mkF m 13 #[.val (.int p1), .val (.int p2), .val (.int v6), .val (.int v12), .unset, .unset, .unset, .unset, .unset, .unset, .unset, .unset, .unset, .unset, .unset, .unset, .unset, .unset, .unset, .unset, .unset, .unset] [])) _
    refine XS.iloadN X0.here hx rfl (hb hby at_13) rfl ?_
    show Steps p.tables e below (s₁.setTop (mkF m 14 #[.val (.int p1), .val (.int p2), .val (.int v6), .val (.int v12), .unset, .unset, .unset, .unset, .unset, .unset, .unset, .unset, .unset, .unset, .unset, .unset, .unset, .unset, .unset, .unset, .unset, .unset] [(.int v6)])) _
    refine XS.iconst X0.here hx rfl (hb hby at_14) ?_
    show Steps p.tables e below (s₁.setTop (mkF m 15 #[.val (.int p1), .val (.int p2), .val (.int v6), .val (.int v12), .unset, .unset, .unset, .unset, .unset, .unset, .unset, .unset, .unset, .unset, .unset, .unset, .unset, .unset, .unset, .unset, .unset, .unset] [(.int (2 : Int32)), (.int v6)])) _
    refine XS.iadd X0.here hx rfl (hb hby at_15) rfl ?_
    show Steps p.tables e below (s₁.setTop (mkF m 16 #[.val (.int p1), .val (.int p2), .val (.int v6), .val (.int v12), .unset, .unset, .unset, .unset, .unset, .unset, .unset, .unset, .unset, .unset, .unset, .unset, .unset, .unset, .unset, .unset, .unset, .unset] [(.int (v6 + (2 : Int32)))])) _
    refine XS.iconst X0.here hx rfl (hb hby at_16) ?_
    show Steps p.tables e below (s₁.setTop (mkF m 17 #[.val (.int p1), .val (.int p2), .val (.int v6), .val (.int v12), .unset, .unset, .unset, .unset, .unset, .unset, .unset, .unset, .unset, .unset, .unset, .unset, .unset, .unset, .unset, .unset, .unset, .unset] [(.int (4 : Int32)), (.int (v6 + (2 : Int32)))])) _
    refine iremM X0 hx rfl (hb hby at_17) rfl (by decide) ?_
    show Steps p.tables e below (s₁.setTop (mkF m 18 #[.val (.int p1), .val (.int p2), .val (.int v6), .val (.int v12), .unset, .unset, .unset, .unset, .unset, .unset, .unset, .unset, .unset, .unset, .unset, .unset, .unset, .unset, .unset, .unset, .unset, .unset] [(.int ((v6 + (2 : Int32)) % (4 : Int32)))])) _
    refine XS.istore X0.here hx rfl (hb hby at_18) rfl (l' := #[.val (.int p1), .val (.int p2), .val (.int v6), .val (.int v12), .val (.int ((v6 + (2 : Int32)) % (4 : Int32))), .unset, .unset, .unset, .unset, .unset, .unset, .unset, .unset, .unset, .unset, .unset, .unset, .unset, .unset, .unset, .unset, .unset]) rfl ?_
    rw [hv18] at k
    exact k)
  obtain ⟨v25, hv25⟩ : ∃ z : Int32, z = ((v6 + (3 : Int32)) % (4 : Int32)) := ⟨_, rfl⟩
  have pre222 : ∀ t, Steps p.tables e below (s₁.setTop (mkF m 27 #[.val (.int p1), .val (.int p2), .val (.int v6), .val (.int v12), .val (.int v18), .val (.int v25), .unset, .unset, .unset, .unset, .unset, .unset, .unset, .unset, .unset, .unset, .unset, .unset, .unset, .unset, .unset, .unset] [])) t → Steps p.tables e below (s₁.setTop (entryFrame m #[(.int p1), (.int p2)] maxLocals)) t := fun t k => pre221 t (by
    show Steps p.tables e below (s₁.setTop (mkF m 20 #[.val (.int p1), .val (.int p2), .val (.int v6), .val (.int v12), .val (.int v18), .unset, .unset, .unset, .unset, .unset, .unset, .unset, .unset, .unset, .unset, .unset, .unset, .unset, .unset, .unset, .unset, .unset] [])) _
    refine XS.iloadN X0.here hx rfl (hb hby at_20) rfl ?_
    show Steps p.tables e below (s₁.setTop (mkF m 21 #[.val (.int p1), .val (.int p2), .val (.int v6), .val (.int v12), .val (.int v18), .unset, .unset, .unset, .unset, .unset, .unset, .unset, .unset, .unset, .unset, .unset, .unset, .unset, .unset, .unset, .unset, .unset] [(.int v6)])) _
    refine XS.iconst X0.here hx rfl (hb hby at_21) ?_
    show Steps p.tables e below (s₁.setTop (mkF m 22 #[.val (.int p1), .val (.int p2), .val (.int v6), .val (.int v12), .val (.int v18), .unset, .unset, .unset, .unset, .unset, .unset, .unset, .unset, .unset, .unset, .unset, .unset, .unset, .unset, .unset, .unset, .unset] [(.int (3 : Int32)), (.int v6)])) _
    refine XS.iadd X0.here hx rfl (hb hby at_22) rfl ?_
    show Steps p.tables e below (s₁.setTop (mkF m 23 #[.val (.int p1), .val (.int p2), .val (.int v6), .val (.int v12), .val (.int v18), .unset, .unset, .unset, .unset, .unset, .unset, .unset, .unset, .unset, .unset, .unset, .unset, .unset, .unset, .unset, .unset, .unset] [(.int (v6 + (3 : Int32)))])) _
    refine XS.iconst X0.here hx rfl (hb hby at_23) ?_
    show Steps p.tables e below (s₁.setTop (mkF m 24 #[.val (.int p1), .val (.int p2), .val (.int v6), .val (.int v12), .val (.int v18), .unset, .unset, .unset, .unset, .unset, .unset, .unset, .unset, .unset, .unset, .unset, .unset, .unset, .unset, .unset, .unset, .unset] [(.int (4 : Int32)), (.int (v6 + (3 : Int32)))])) _
    refine iremM X0 hx rfl (hb hby at_24) rfl (by decide) ?_
    show Steps p.tables e below (s₁.setTop (mkF m 25 #[.val (.int p1), .val (.int p2), .val (.int v6), .val (.int v12), .val (.int v18), .unset, .unset, .unset, .unset, .unset, .unset, .unset, .unset, .unset, .unset, .unset, .unset, .unset, .unset, .unset, .unset, .unset] [(.int ((v6 + (3 : Int32)) % (4 : Int32)))])) _
    refine XS.istore X0.here hx rfl (hb hby at_25) rfl (l' := #[.val (.int p1), .val (.int p2), .val (.int v6), .val (.int v12), .val (.int v18), .val (.int ((v6 + (3 : Int32)) % (4 : Int32))), .unset, .unset, .unset, .unset, .unset, .unset, .unset, .unset, .unset, .unset, .unset, .unset, .unset, .unset, .unset, .unset]) rfl ?_
    rw [hv25] at k
    exact k)
  obtain ⟨v30, hv30⟩ : ∃ z : Int32, z = (p2 &&& (3 : Int32)) := ⟨_, rfl⟩
  have pre223 : ∀ t, Steps p.tables e below (s₁.setTop (mkF m 32 #[.val (.int p1), .val (.int p2), .val (.int v6), .val (.int v12), .val (.int v18), .val (.int v25), .val (.int v30), .unset, .unset, .unset, .unset, .unset, .unset, .unset, .unset, .unset, .unset, .unset, .unset, .unset, .unset, .unset] [])) t → Steps p.tables e below (s₁.setTop (entryFrame m #[(.int p1), (.int p2)] maxLocals)) t := fun t k => pre222 t (by
    show Steps p.tables e below (s₁.setTop (mkF m 27 #[.val (.int p1), .val (.int p2), .val (.int v6), .val (.int v12), .val (.int v18), .val (.int v25), .unset, .unset, .unset, .unset, .unset, .unset, .unset, .unset, .unset, .unset, .unset, .unset, .unset, .unset, .unset, .unset] [])) _
    refine XS.iloadN X0.here hx rfl (hb hby at_27) rfl ?_
    show Steps p.tables e below (s₁.setTop (mkF m 28 #[.val (.int p1), .val (.int p2), .val (.int v6), .val (.int v12), .val (.int v18), .val (.int v25), .unset, .unset, .unset, .unset, .unset, .unset, .unset, .unset, .unset, .unset, .unset, .unset, .unset, .unset, .unset, .unset] [(.int p2)])) _
    refine XS.iconst X0.here hx rfl (hb hby at_28) ?_
    show Steps p.tables e below (s₁.setTop (mkF m 29 #[.val (.int p1), .val (.int p2), .val (.int v6), .val (.int v12), .val (.int v18), .val (.int v25), .unset, .unset, .unset, .unset, .unset, .unset, .unset, .unset, .unset, .unset, .unset, .unset, .unset, .unset, .unset, .unset] [(.int (3 : Int32)), (.int p2)])) _
    refine XS.iand X0.here hx rfl (hb hby at_29) rfl ?_
    show Steps p.tables e below (s₁.setTop (mkF m 30 #[.val (.int p1), .val (.int p2), .val (.int v6), .val (.int v12), .val (.int v18), .val (.int v25), .unset, .unset, .unset, .unset, .unset, .unset, .unset, .unset, .unset, .unset, .unset, .unset, .unset, .unset, .unset, .unset] [(.int (p2 &&& (3 : Int32)))])) _
    refine XS.istore X0.here hx rfl (hb hby at_30) rfl (l' := #[.val (.int p1), .val (.int p2), .val (.int v6), .val (.int v12), .val (.int v18), .val (.int v25), .val (.int (p2 &&& (3 : Int32))), .unset, .unset, .unset, .unset, .unset, .unset, .unset, .unset, .unset, .unset, .unset, .unset, .unset, .unset, .unset]) rfl ?_
    rw [hv30] at k
    exact k)
  have hc4 := own_cases hv6 hv12 hv18 hv25
  have im4 := own_m4 hv30
  have im := own_m hv30
  have ih : ¬ v6 < (0 : Int32) ∧ v6 < (4 : Int32) := (by rcases hc4 with ⟨e1, e2, e3, e4⟩ | ⟨e1, e2, e3, e4⟩ | ⟨e1, e2, e3, e4⟩ | ⟨e1, e2, e3, e4⟩ <;> simp only [e1, e2, e3, e4] <;> decide)
  have iu : ¬ v12 < (0 : Int32) ∧ v12 < (4 : Int32) := (by rcases hc4 with ⟨e1, e2, e3, e4⟩ | ⟨e1, e2, e3, e4⟩ | ⟨e1, e2, e3, e4⟩ | ⟨e1, e2, e3, e4⟩ <;> simp only [e1, e2, e3, e4] <;> decide)
  have iv : ¬ v18 < (0 : Int32) ∧ v18 < (4 : Int32) := (by rcases hc4 with ⟨e1, e2, e3, e4⟩ | ⟨e1, e2, e3, e4⟩ | ⟨e1, e2, e3, e4⟩ | ⟨e1, e2, e3, e4⟩ <;> simp only [e1, e2, e3, e4] <;> decide)
  have iw : ¬ v25 < (0 : Int32) ∧ v25 < (4 : Int32) := (by rcases hc4 with ⟨e1, e2, e3, e4⟩ | ⟨e1, e2, e3, e4⟩ | ⟨e1, e2, e3, e4⟩ | ⟨e1, e2, e3, e4⟩ <;> simp only [e1, e2, e3, e4] <;> decide)
  obtain ⟨T224, h224, X224, e224, E224, A224, D224, -, st224⟩ := newO X0 hx hZ hown (hw _ (List.mem_of_getElem? (i := 1) rfl)) (hw _ (List.mem_of_getElem? (i := 2) rfl)) (hw _ (List.mem_of_getElem? (i := 3) rfl)) e0 (g := (mkF m 32 #[.val (.int p1), .val (.int p2), .val (.int v6), .val (.int v12), .val (.int v18), .val (.int v25), .val (.int v30), .unset, .unset, .unset, .unset, .unset, .unset, .unset, .unset, .unset, .unset, .unset, .unset, .unset, .unset, .unset] [])) rfl (hb hby at_32) (by decide) (by decide)
  obtain ⟨b224, g224⟩ : ∃ z, z = h0.size := ⟨_, rfl⟩
  rw [← g224] at A224 D224 st224
  have g_b224 : n0 ≤ b224 := Nat.le_trans Zs (Nat.le_of_eq g224.symm)
  have Zs : n0 ≤ h224.size := Nat.le_trans Zs E224.1
  have Ol : Old Z n0 h224 := Ol.ext E224
  have E_b224 : Exa Z h224 b224 "com/example/wachter/wachter/sim/QueueOrder" := A224
  have F_requests_b224 : Fld Z h224 b224 "com/example/wachter/wachter/sim/QueueOrder" "requests" "[I" .null := D224 (Or.inr (hw _ (List.mem_of_getElem? (i := 12) rfl))) (ty := (.array .int)) (by decide)
  have F_joinedAs_b224 : Fld Z h224 b224 "com/example/wachter/wachter/sim/QueueOrder" "joinedAs" "[J" .null := D224 (Or.inr (hw _ (List.mem_of_getElem? (i := 15) rfl))) (ty := (.array .long)) (by decide)
  have F_behind_b224 : Fld Z h224 b224 "com/example/wachter/wachter/sim/QueueOrder" "behind" "Ljava/util/List;" .null := D224 (Or.inr (hw _ (List.mem_of_getElem? (i := 42) rfl))) (ty := (.object "java/util/List")) (by decide)
  have F_joined_b224 : Fld Z h224 b224 "com/example/wachter/wachter/sim/QueueOrder" "joined" "J" (.long (0 : Int64)) := D224 (Or.inl (hw _ (List.mem_of_getElem? (i := 72) rfl))) (ty := .long) (by decide)
  obtain ⟨_, _, ⟨T225, L225, k225, n225⟩, -, X225, ⟨Lc225, hQ225, l225, y225, z225⟩, st225⟩ := X224.specialBack hx (y := (⟨"com/example/wachter/wachter/sim/QueueOrder", "<init>", "(II)V"⟩ : MethodName)) rfl hown (mvT hZ (hw _ (List.mem_of_getElem? (i := 4) rfl))) (mvT hZ (hw _ (List.mem_of_getElem? (i := 5) rfl))) (mvT hZ (hw _ (List.mem_of_getElem? (i := 6) rfl))) (by decide) (backOf (W := 1) (rmQ l Z a0 hw [] b224 v6 dd h224 n0 Zs E_b224 F_requests_b224 F_joinedAs_b224 F_behind_b224 F_joined_b224 g_b224 Ol S_DEFAULTCAPACITY_EMPTY_ELEMENTDATA ih) hZ (hw _ (List.mem_of_getElem? (i := 6) rfl)) (hw _ (List.mem_of_getElem? (i := 3) rfl)) (by decide) (by decide)) (g := (mkF m 38 #[.val (.int p1), .val (.int p2), .val (.int v6), .val (.int v12), .val (.int v18), .val (.int v25), .val (.int v30), .unset, .unset, .unset, .unset, .unset, .unset, .unset, .unset, .unset, .unset, .unset, .unset, .unset, .unset, .unset] [(.int v6), (.int (4 : Int32)), (.ref b224), (.ref b224)])) rfl (by rw [hml]; rfl) (Steps.refl _) (a := b224) (argsL := [(.int (4 : Int32)), (.int v6)]) (rest := [(.ref b224)]) (lenOf pd_14 rfl) rfl (by show 2 * 0 + _ ≤ _; exact Nat.le_of_eq rfl) (hb hby at_38) (fun _ _ => ⟨rfl, e224, (by decide : 1 + 8 ≤ _), (by decide : 4 + 27 ≤ _)⟩)
  dsimp only [Pt.U, Pt.locs, Pt.cells, Pt.slots] at X225 l225 y225 z225 st225 hQ225
  subst l225 y225 z225
  obtain ⟨ra_225, ja_225, bl_225, bd_225, l0_225, l1_225, l2_225, l3_225, kb_225, rfl, N225q, K225, szc_ra_225, szc_ja_225, szc_bl_225, szc_bd_225, szc_l0_225, szc_l1_225, szc_l2_225, szc_l3_225, g_ra_225, g_ja_225, g_bl_225, g_bd_225, g_l0_225, g_l1_225, g_l2_225, g_l3_225, ne_ra_225_ja_225, ne_ra_225_bl_225, ne_ra_225_bd_225, ne_ra_225_l0_225, ne_ra_225_l1_225, ne_ra_225_l2_225, ne_ra_225_l3_225, ne_ja_225_bl_225, ne_ja_225_bd_225, ne_ja_225_l0_225, ne_ja_225_l1_225, ne_ja_225_l2_225, ne_ja_225_l3_225, ne_bl_225_bd_225, ne_bl_225_l0_225, ne_bl_225_l1_225, ne_bl_225_l2_225, ne_bl_225_l3_225, ne_bd_225_l0_225, ne_bd_225_l1_225, ne_bd_225_l2_225, ne_bd_225_l3_225, ne_l0_225_l1_225, ne_l0_225_l2_225, ne_l0_225_l3_225, ne_l1_225_l2_225, ne_l1_225_l3_225, ne_l2_225_l3_225, P225_45, P225_46, P225_47, P225_48, P225_49, P225_50, P225_51, P225_52, P225_53, P225_54, P225_55, P225_56, P225_57, P225_58, P225_59, P225_60, P225_61, P225_62, P225_63, P225_64, P225_65, P225_66, P225_67, P225_68, P225_69, P225_70, P225_71⟩ := hQ225
  have ne_b224_ra_225 : b224 ≠ ra_225 := Nat.ne_of_lt (Nat.lt_of_lt_of_le E_b224.lt szc_ra_225)
  have ne_b224_ja_225 : b224 ≠ ja_225 := Nat.ne_of_lt (Nat.lt_of_lt_of_le E_b224.lt szc_ja_225)
  have ne_b224_bl_225 : b224 ≠ bl_225 := Nat.ne_of_lt (Nat.lt_of_lt_of_le E_b224.lt szc_bl_225)
  have ne_b224_bd_225 : b224 ≠ bd_225 := Nat.ne_of_lt (Nat.lt_of_lt_of_le E_b224.lt szc_bd_225)
  have ne_b224_l0_225 : b224 ≠ l0_225 := Nat.ne_of_lt (Nat.lt_of_lt_of_le E_b224.lt szc_l0_225)
  have ne_b224_l1_225 : b224 ≠ l1_225 := Nat.ne_of_lt (Nat.lt_of_lt_of_le E_b224.lt szc_l1_225)
  have ne_b224_l2_225 : b224 ≠ l2_225 := Nat.ne_of_lt (Nat.lt_of_lt_of_le E_b224.lt szc_l2_225)
  have ne_b224_l3_225 : b224 ≠ l3_225 := Nat.ne_of_lt (Nat.lt_of_lt_of_le E_b224.lt szc_l3_225)
  have Zs : n0 ≤ T225.heap.size := Nat.le_trans Zs K225.1
  have Ol : Old Z n0 T225.heap := Ol.keep K225 (allS g_b224 all0)
  have E_b224 : Exa Z T225.heap b224 "com/example/wachter/wachter/sim/QueueOrder" := E_b224.keep K225
  have F_requests_b224 : Fld Z T225.heap b224 "com/example/wachter/wachter/sim/QueueOrder" "requests" "[I" (.ref ra_225) := P225_45
  have F_joinedAs_b224 : Fld Z T225.heap b224 "com/example/wachter/wachter/sim/QueueOrder" "joinedAs" "[J" (.ref ja_225) := P225_46
  have F_behind_b224 : Fld Z T225.heap b224 "com/example/wachter/wachter/sim/QueueOrder" "behind" "Ljava/util/List;" (.ref bl_225) := P225_47
  have F_joined_b224 : Fld Z T225.heap b224 "com/example/wachter/wachter/sim/QueueOrder" "joined" "J" (.long (1 : Int64)) := P225_48
  have A_ra_225 : ArI Z T225.heap ra_225 (4 : Int32) (fun _ => 0) := P225_49
  have A_ja_225 : ArJ Z T225.heap ja_225 (4 : Int32) (upd (upd (upd (upd (upd (fun _ => 0) (0 : Int32).toNatClampNeg (-1 : Int64)) (1 : Int32).toNatClampNeg (-1 : Int64)) (2 : Int32).toNatClampNeg (-1 : Int64)) (3 : Int32).toNatClampNeg (-1 : Int64)) v6.toNatClampNeg (0 : Int64)) := P225_50
  have E_bl_225 : Exa Z T225.heap bl_225 "java/util/ArrayList" := P225_51
  have F_elementData_bl_225 : Fld Z T225.heap bl_225 "java/util/ArrayList" "elementData" "[Ljava/lang/Object;" (.ref bd_225) := P225_52
  have F_size_bl_225 : Fld Z T225.heap bl_225 "java/util/ArrayList" "size" "I" (.int (4 : Int32)) := P225_53
  have F_modCount_bl_225 : Fld Z T225.heap bl_225 "java/util/AbstractList" "modCount" "I" (.int (4 : Int32)) := P225_54
  have A_bd_225 : ArR Z T225.heap bd_225 kb_225 "java/lang/Object" (4 : Int32) (upd (upd (upd (upd (fun _ => .null) (0 : Int32).toNatClampNeg (.ref l0_225)) (1 : Int32).toNatClampNeg (.ref l1_225)) (2 : Int32).toNatClampNeg (.ref l2_225)) (3 : Int32).toNatClampNeg (.ref l3_225)) := P225_55
  have E_l0_225 : Exa Z T225.heap l0_225 "java/util/ArrayList" := P225_56
  have F_elementData_l0_225 : Fld Z T225.heap l0_225 "java/util/ArrayList" "elementData" "[Ljava/lang/Object;" (.ref dd) := P225_57
  have F_size_l0_225 : Fld Z T225.heap l0_225 "java/util/ArrayList" "size" "I" (.int (0 : Int32)) := P225_58
  have F_modCount_l0_225 : Fld Z T225.heap l0_225 "java/util/AbstractList" "modCount" "I" (.int (0 : Int32)) := P225_59
  have E_l1_225 : Exa Z T225.heap l1_225 "java/util/ArrayList" := P225_60
  have F_elementData_l1_225 : Fld Z T225.heap l1_225 "java/util/ArrayList" "elementData" "[Ljava/lang/Object;" (.ref dd) := P225_61
  have F_size_l1_225 : Fld Z T225.heap l1_225 "java/util/ArrayList" "size" "I" (.int (0 : Int32)) := P225_62
  have F_modCount_l1_225 : Fld Z T225.heap l1_225 "java/util/AbstractList" "modCount" "I" (.int (0 : Int32)) := P225_63
  have E_l2_225 : Exa Z T225.heap l2_225 "java/util/ArrayList" := P225_64
  have F_elementData_l2_225 : Fld Z T225.heap l2_225 "java/util/ArrayList" "elementData" "[Ljava/lang/Object;" (.ref dd) := P225_65
  have F_size_l2_225 : Fld Z T225.heap l2_225 "java/util/ArrayList" "size" "I" (.int (0 : Int32)) := P225_66
  have F_modCount_l2_225 : Fld Z T225.heap l2_225 "java/util/AbstractList" "modCount" "I" (.int (0 : Int32)) := P225_67
  have E_l3_225 : Exa Z T225.heap l3_225 "java/util/ArrayList" := P225_68
  have F_elementData_l3_225 : Fld Z T225.heap l3_225 "java/util/ArrayList" "elementData" "[Ljava/lang/Object;" (.ref dd) := P225_69
  have F_size_l3_225 : Fld Z T225.heap l3_225 "java/util/ArrayList" "size" "I" (.int (0 : Int32)) := P225_70
  have F_modCount_l3_225 : Fld Z T225.heap l3_225 "java/util/AbstractList" "modCount" "I" (.int (0 : Int32)) := P225_71
  have N225 := Fr.app N0 N225q
  obtain ⟨lh, lu, lv, lw, hB_lh, hB_lu, hB_lv, hB_lw, E_lh, F_elementData_lh, F_size_lh, F_modCount_lh, g_lh, ne_lh_b224, ne_lh_ra_225, ne_lh_ja_225, ne_lh_bl_225, ne_lh_bd_225, E_lu, F_elementData_lu, F_size_lu, F_modCount_lu, g_lu, ne_lu_b224, ne_lu_ra_225, ne_lu_ja_225, ne_lu_bl_225, ne_lu_bd_225, E_lv, F_elementData_lv, F_size_lv, F_modCount_lv, g_lv, ne_lv_b224, ne_lv_ra_225, ne_lv_ja_225, ne_lv_bl_225, ne_lv_bd_225, E_lw, F_elementData_lw, F_size_lw, F_modCount_lw, g_lw, ne_lw_b224, ne_lw_ra_225, ne_lw_ja_225, ne_lw_bl_225, ne_lw_bd_225, ne_lh_lu, ne_lh_lv, ne_lh_lw, ne_lu_lv, ne_lu_lw, ne_lv_lw⟩ : ∃ lh lu lv lw : Addr, (((upd (upd (upd (upd (fun _ => Value.null) (0 : Int32).toNatClampNeg (Value.ref l0_225)) (1 : Int32).toNatClampNeg (Value.ref l1_225)) (2 : Int32).toNatClampNeg (Value.ref l2_225)) (3 : Int32).toNatClampNeg (Value.ref l3_225)) v6.toNatClampNeg : Value) = .ref lh) ∧ (((upd (upd (upd (upd (fun _ => Value.null) (0 : Int32).toNatClampNeg (Value.ref l0_225)) (1 : Int32).toNatClampNeg (Value.ref l1_225)) (2 : Int32).toNatClampNeg (Value.ref l2_225)) (3 : Int32).toNatClampNeg (Value.ref l3_225)) v12.toNatClampNeg : Value) = .ref lu) ∧ (((upd (upd (upd (upd (fun _ => Value.null) (0 : Int32).toNatClampNeg (Value.ref l0_225)) (1 : Int32).toNatClampNeg (Value.ref l1_225)) (2 : Int32).toNatClampNeg (Value.ref l2_225)) (3 : Int32).toNatClampNeg (Value.ref l3_225)) v18.toNatClampNeg : Value) = .ref lv) ∧ (((upd (upd (upd (upd (fun _ => Value.null) (0 : Int32).toNatClampNeg (Value.ref l0_225)) (1 : Int32).toNatClampNeg (Value.ref l1_225)) (2 : Int32).toNatClampNeg (Value.ref l2_225)) (3 : Int32).toNatClampNeg (Value.ref l3_225)) v25.toNatClampNeg : Value) = .ref lw) ∧ (Exa Z T225.heap lh "java/util/ArrayList") ∧ (Fld Z T225.heap lh "java/util/ArrayList" "elementData" "[Ljava/lang/Object;" (.ref dd)) ∧ (Fld Z T225.heap lh "java/util/ArrayList" "size" "I" (.int (0 : Int32))) ∧ (Fld Z T225.heap lh "java/util/AbstractList" "modCount" "I" (.int (0 : Int32))) ∧ (n0 ≤ lh) ∧ (lh ≠ b224) ∧ (lh ≠ ra_225) ∧ (lh ≠ ja_225) ∧ (lh ≠ bl_225) ∧ (lh ≠ bd_225) ∧ (Exa Z T225.heap lu "java/util/ArrayList") ∧ (Fld Z T225.heap lu "java/util/ArrayList" "elementData" "[Ljava/lang/Object;" (.ref dd)) ∧ (Fld Z T225.heap lu "java/util/ArrayList" "size" "I" (.int (0 : Int32))) ∧ (Fld Z T225.heap lu "java/util/AbstractList" "modCount" "I" (.int (0 : Int32))) ∧ (n0 ≤ lu) ∧ (lu ≠ b224) ∧ (lu ≠ ra_225) ∧ (lu ≠ ja_225) ∧ (lu ≠ bl_225) ∧ (lu ≠ bd_225) ∧ (Exa Z T225.heap lv "java/util/ArrayList") ∧ (Fld Z T225.heap lv "java/util/ArrayList" "elementData" "[Ljava/lang/Object;" (.ref dd)) ∧ (Fld Z T225.heap lv "java/util/ArrayList" "size" "I" (.int (0 : Int32))) ∧ (Fld Z T225.heap lv "java/util/AbstractList" "modCount" "I" (.int (0 : Int32))) ∧ (n0 ≤ lv) ∧ (lv ≠ b224) ∧ (lv ≠ ra_225) ∧ (lv ≠ ja_225) ∧ (lv ≠ bl_225) ∧ (lv ≠ bd_225) ∧ (Exa Z T225.heap lw "java/util/ArrayList") ∧ (Fld Z T225.heap lw "java/util/ArrayList" "elementData" "[Ljava/lang/Object;" (.ref dd)) ∧ (Fld Z T225.heap lw "java/util/ArrayList" "size" "I" (.int (0 : Int32))) ∧ (Fld Z T225.heap lw "java/util/AbstractList" "modCount" "I" (.int (0 : Int32))) ∧ (n0 ≤ lw) ∧ (lw ≠ b224) ∧ (lw ≠ ra_225) ∧ (lw ≠ ja_225) ∧ (lw ≠ bl_225) ∧ (lw ≠ bd_225) ∧ (lh ≠ lu) ∧ (lh ≠ lv) ∧ (lh ≠ lw) ∧ (lu ≠ lv) ∧ (lu ≠ lw) ∧ (lv ≠ lw) := by
    rcases hc4 with ⟨e1, e2, e3, e4⟩ | ⟨e1, e2, e3, e4⟩ | ⟨e1, e2, e3, e4⟩ | ⟨e1, e2, e3, e4⟩
    · rw [e1, e2, e3, e4]; exact ⟨l0_225, l1_225, l2_225, l3_225, rfl, rfl, rfl, rfl, E_l0_225, F_elementData_l0_225, F_size_l0_225, F_modCount_l0_225, g_l0_225, (Ne.symm ne_b224_l0_225), (Ne.symm ne_ra_225_l0_225), (Ne.symm ne_ja_225_l0_225), (Ne.symm ne_bl_225_l0_225), (Ne.symm ne_bd_225_l0_225), E_l1_225, F_elementData_l1_225, F_size_l1_225, F_modCount_l1_225, g_l1_225, (Ne.symm ne_b224_l1_225), (Ne.symm ne_ra_225_l1_225), (Ne.symm ne_ja_225_l1_225), (Ne.symm ne_bl_225_l1_225), (Ne.symm ne_bd_225_l1_225), E_l2_225, F_elementData_l2_225, F_size_l2_225, F_modCount_l2_225, g_l2_225, (Ne.symm ne_b224_l2_225), (Ne.symm ne_ra_225_l2_225), (Ne.symm ne_ja_225_l2_225), (Ne.symm ne_bl_225_l2_225), (Ne.symm ne_bd_225_l2_225), E_l3_225, F_elementData_l3_225, F_size_l3_225, F_modCount_l3_225, g_l3_225, (Ne.symm ne_b224_l3_225), (Ne.symm ne_ra_225_l3_225), (Ne.symm ne_ja_225_l3_225), (Ne.symm ne_bl_225_l3_225), (Ne.symm ne_bd_225_l3_225), ne_l0_225_l1_225, ne_l0_225_l2_225, ne_l0_225_l3_225, ne_l1_225_l2_225, ne_l1_225_l3_225, ne_l2_225_l3_225⟩
    · rw [e1, e2, e3, e4]; exact ⟨l1_225, l2_225, l3_225, l0_225, rfl, rfl, rfl, rfl, E_l1_225, F_elementData_l1_225, F_size_l1_225, F_modCount_l1_225, g_l1_225, (Ne.symm ne_b224_l1_225), (Ne.symm ne_ra_225_l1_225), (Ne.symm ne_ja_225_l1_225), (Ne.symm ne_bl_225_l1_225), (Ne.symm ne_bd_225_l1_225), E_l2_225, F_elementData_l2_225, F_size_l2_225, F_modCount_l2_225, g_l2_225, (Ne.symm ne_b224_l2_225), (Ne.symm ne_ra_225_l2_225), (Ne.symm ne_ja_225_l2_225), (Ne.symm ne_bl_225_l2_225), (Ne.symm ne_bd_225_l2_225), E_l3_225, F_elementData_l3_225, F_size_l3_225, F_modCount_l3_225, g_l3_225, (Ne.symm ne_b224_l3_225), (Ne.symm ne_ra_225_l3_225), (Ne.symm ne_ja_225_l3_225), (Ne.symm ne_bl_225_l3_225), (Ne.symm ne_bd_225_l3_225), E_l0_225, F_elementData_l0_225, F_size_l0_225, F_modCount_l0_225, g_l0_225, (Ne.symm ne_b224_l0_225), (Ne.symm ne_ra_225_l0_225), (Ne.symm ne_ja_225_l0_225), (Ne.symm ne_bl_225_l0_225), (Ne.symm ne_bd_225_l0_225), ne_l1_225_l2_225, ne_l1_225_l3_225, (Ne.symm ne_l0_225_l1_225), ne_l2_225_l3_225, (Ne.symm ne_l0_225_l2_225), (Ne.symm ne_l0_225_l3_225)⟩
    · rw [e1, e2, e3, e4]; exact ⟨l2_225, l3_225, l0_225, l1_225, rfl, rfl, rfl, rfl, E_l2_225, F_elementData_l2_225, F_size_l2_225, F_modCount_l2_225, g_l2_225, (Ne.symm ne_b224_l2_225), (Ne.symm ne_ra_225_l2_225), (Ne.symm ne_ja_225_l2_225), (Ne.symm ne_bl_225_l2_225), (Ne.symm ne_bd_225_l2_225), E_l3_225, F_elementData_l3_225, F_size_l3_225, F_modCount_l3_225, g_l3_225, (Ne.symm ne_b224_l3_225), (Ne.symm ne_ra_225_l3_225), (Ne.symm ne_ja_225_l3_225), (Ne.symm ne_bl_225_l3_225), (Ne.symm ne_bd_225_l3_225), E_l0_225, F_elementData_l0_225, F_size_l0_225, F_modCount_l0_225, g_l0_225, (Ne.symm ne_b224_l0_225), (Ne.symm ne_ra_225_l0_225), (Ne.symm ne_ja_225_l0_225), (Ne.symm ne_bl_225_l0_225), (Ne.symm ne_bd_225_l0_225), E_l1_225, F_elementData_l1_225, F_size_l1_225, F_modCount_l1_225, g_l1_225, (Ne.symm ne_b224_l1_225), (Ne.symm ne_ra_225_l1_225), (Ne.symm ne_ja_225_l1_225), (Ne.symm ne_bl_225_l1_225), (Ne.symm ne_bd_225_l1_225), ne_l2_225_l3_225, (Ne.symm ne_l0_225_l2_225), (Ne.symm ne_l1_225_l2_225), (Ne.symm ne_l0_225_l3_225), (Ne.symm ne_l1_225_l3_225), ne_l0_225_l1_225⟩
    · rw [e1, e2, e3, e4]; exact ⟨l3_225, l0_225, l1_225, l2_225, rfl, rfl, rfl, rfl, E_l3_225, F_elementData_l3_225, F_size_l3_225, F_modCount_l3_225, g_l3_225, (Ne.symm ne_b224_l3_225), (Ne.symm ne_ra_225_l3_225), (Ne.symm ne_ja_225_l3_225), (Ne.symm ne_bl_225_l3_225), (Ne.symm ne_bd_225_l3_225), E_l0_225, F_elementData_l0_225, F_size_l0_225, F_modCount_l0_225, g_l0_225, (Ne.symm ne_b224_l0_225), (Ne.symm ne_ra_225_l0_225), (Ne.symm ne_ja_225_l0_225), (Ne.symm ne_bl_225_l0_225), (Ne.symm ne_bd_225_l0_225), E_l1_225, F_elementData_l1_225, F_size_l1_225, F_modCount_l1_225, g_l1_225, (Ne.symm ne_b224_l1_225), (Ne.symm ne_ra_225_l1_225), (Ne.symm ne_ja_225_l1_225), (Ne.symm ne_bl_225_l1_225), (Ne.symm ne_bd_225_l1_225), E_l2_225, F_elementData_l2_225, F_size_l2_225, F_modCount_l2_225, g_l2_225, (Ne.symm ne_b224_l2_225), (Ne.symm ne_ra_225_l2_225), (Ne.symm ne_ja_225_l2_225), (Ne.symm ne_bl_225_l2_225), (Ne.symm ne_bd_225_l2_225), (Ne.symm ne_l0_225_l3_225), (Ne.symm ne_l1_225_l3_225), (Ne.symm ne_l2_225_l3_225), ne_l0_225_l1_225, ne_l0_225_l2_225, ne_l1_225_l2_225⟩
  obtain ⟨cq226, kq226, q226a, q226b, q226c⟩ := isOf hZ rfl E_b224
  obtain ⟨_, _, ⟨T226, L226, k226, n226⟩, -, X226, ⟨Lc226, hQ226, l226, y226, z226⟩, st226⟩ := X225.virtualBack hx (y := (⟨"com/example/wachter/wachter/sim/QueueOrder", "asked", "(I)V"⟩ : MethodName)) (z := (⟨"com/example/wachter/wachter/sim/QueueOrder", "asked", "(I)V"⟩ : MethodName)) hown (mvT hZ (hw _ (List.mem_of_getElem? (i := 73) rfl))) (mvT hZ (hw _ (List.mem_of_getElem? (i := 74) rfl))) (notFace_of_selects (args := #[]) (mvT hZ (hw _ (List.mem_of_getElem? (i := 76) rfl)))) (mvT hZ (hw _ (List.mem_of_getElem? (i := 76) rfl))) (mvT hZ (hw _ (List.mem_of_getElem? (i := 75) rfl))) (by decide) (backOf (W := 0) (rmAK l Z a0 hw [] b224 v18 ra_225 ja_225 (fun _ => 0) (upd (upd (upd (upd (upd (fun _ => 0) (0 : Int32).toNatClampNeg (-1 : Int64)) (1 : Int32).toNatClampNeg (-1 : Int64)) (2 : Int32).toNatClampNeg (-1 : Int64)) (3 : Int32).toNatClampNeg (-1 : Int64)) v6.toNatClampNeg (0 : Int64)) T225.heap n0 Zs F_requests_b224 F_joinedAs_b224 A_ra_225 A_ja_225 g_ra_225 g_ja_225 ne_b224_ra_225 ne_b224_ja_225 ne_ra_225_ja_225 iv) hZ (hw _ (List.mem_of_getElem? (i := 77) rfl)) (hw _ (List.mem_of_getElem? (i := 3) rfl)) (by decide) (by decide)) q226a q226c (g := (mkF m 47 #[.val (.int p1), .val (.int p2), .val (.int v6), .val (.int v12), .val (.int v18), .val (.int v25), .val (.int v30), .val (.ref b224), .unset, .unset, .unset, .unset, .unset, .unset, .unset, .unset, .unset, .unset, .unset, .unset, .unset, .unset] [(.int v18), (.ref b224)])) rfl (by rw [hml]; rfl) (Steps.refl _) (argsL := [(.int v18)]) (rest := []) (lenOf pd_12 rfl) rfl (by show 2 * 0 + _ ≤ _; exact Nat.le_of_eq rfl) (hb hby at_47) (fun _ _ => ⟨rfl, rfl, (by decide : 9 + 0 ≤ _), (by decide : 31 + 0 ≤ _)⟩)
  dsimp only [Pt.U, Pt.locs, Pt.cells, Pt.slots] at X226 l226 y226 z226 st226 hQ226
  subst l226 y226 z226
  obtain ⟨rfl, N226q, K226, P226_1, P226_2⟩ := hQ226
  have Zs : n0 ≤ T226.heap.size := Nat.le_trans Zs K226.1
  have Ol : Old Z n0 T226.heap := Ol.keep K226 (allS g_ra_225 (allS g_ja_225 all0))
  have E_b224 : Exa Z T226.heap b224 "com/example/wachter/wachter/sim/QueueOrder" := E_b224.keep K226
  have F_requests_b224 : Fld Z T226.heap b224 "com/example/wachter/wachter/sim/QueueOrder" "requests" "[I" (.ref ra_225) := F_requests_b224.keep K226 (ninS ne_b224_ra_225 (ninS ne_b224_ja_225 nin0))
  have F_joinedAs_b224 : Fld Z T226.heap b224 "com/example/wachter/wachter/sim/QueueOrder" "joinedAs" "[J" (.ref ja_225) := F_joinedAs_b224.keep K226 (ninS ne_b224_ra_225 (ninS ne_b224_ja_225 nin0))
  have F_behind_b224 : Fld Z T226.heap b224 "com/example/wachter/wachter/sim/QueueOrder" "behind" "Ljava/util/List;" (.ref bl_225) := F_behind_b224.keep K226 (ninS ne_b224_ra_225 (ninS ne_b224_ja_225 nin0))
  have F_joined_b224 : Fld Z T226.heap b224 "com/example/wachter/wachter/sim/QueueOrder" "joined" "J" (.long (1 : Int64)) := F_joined_b224.keep K226 (ninS ne_b224_ra_225 (ninS ne_b224_ja_225 nin0))
  have E_bl_225 : Exa Z T226.heap bl_225 "java/util/ArrayList" := E_bl_225.keep K226
  have F_elementData_bl_225 : Fld Z T226.heap bl_225 "java/util/ArrayList" "elementData" "[Ljava/lang/Object;" (.ref bd_225) := F_elementData_bl_225.keep K226 (ninS (Ne.symm ne_ra_225_bl_225) (ninS (Ne.symm ne_ja_225_bl_225) nin0))
  have F_size_bl_225 : Fld Z T226.heap bl_225 "java/util/ArrayList" "size" "I" (.int (4 : Int32)) := F_size_bl_225.keep K226 (ninS (Ne.symm ne_ra_225_bl_225) (ninS (Ne.symm ne_ja_225_bl_225) nin0))
  have F_modCount_bl_225 : Fld Z T226.heap bl_225 "java/util/AbstractList" "modCount" "I" (.int (4 : Int32)) := F_modCount_bl_225.keep K226 (ninS (Ne.symm ne_ra_225_bl_225) (ninS (Ne.symm ne_ja_225_bl_225) nin0))
  have A_bd_225 : ArR Z T226.heap bd_225 kb_225 "java/lang/Object" (4 : Int32) (upd (upd (upd (upd (fun _ => .null) (0 : Int32).toNatClampNeg (.ref l0_225)) (1 : Int32).toNatClampNeg (.ref l1_225)) (2 : Int32).toNatClampNeg (.ref l2_225)) (3 : Int32).toNatClampNeg (.ref l3_225)) := A_bd_225.keep K226 (ninS (Ne.symm ne_ra_225_bd_225) (ninS (Ne.symm ne_ja_225_bd_225) nin0))
  have E_lh : Exa Z T226.heap lh "java/util/ArrayList" := E_lh.keep K226
  have F_elementData_lh : Fld Z T226.heap lh "java/util/ArrayList" "elementData" "[Ljava/lang/Object;" (.ref dd) := F_elementData_lh.keep K226 (ninS ne_lh_ra_225 (ninS ne_lh_ja_225 nin0))
  have F_size_lh : Fld Z T226.heap lh "java/util/ArrayList" "size" "I" (.int (0 : Int32)) := F_size_lh.keep K226 (ninS ne_lh_ra_225 (ninS ne_lh_ja_225 nin0))
  have F_modCount_lh : Fld Z T226.heap lh "java/util/AbstractList" "modCount" "I" (.int (0 : Int32)) := F_modCount_lh.keep K226 (ninS ne_lh_ra_225 (ninS ne_lh_ja_225 nin0))
  have E_lu : Exa Z T226.heap lu "java/util/ArrayList" := E_lu.keep K226
  have F_elementData_lu : Fld Z T226.heap lu "java/util/ArrayList" "elementData" "[Ljava/lang/Object;" (.ref dd) := F_elementData_lu.keep K226 (ninS ne_lu_ra_225 (ninS ne_lu_ja_225 nin0))
  have F_size_lu : Fld Z T226.heap lu "java/util/ArrayList" "size" "I" (.int (0 : Int32)) := F_size_lu.keep K226 (ninS ne_lu_ra_225 (ninS ne_lu_ja_225 nin0))
  have F_modCount_lu : Fld Z T226.heap lu "java/util/AbstractList" "modCount" "I" (.int (0 : Int32)) := F_modCount_lu.keep K226 (ninS ne_lu_ra_225 (ninS ne_lu_ja_225 nin0))
  have E_lv : Exa Z T226.heap lv "java/util/ArrayList" := E_lv.keep K226
  have F_elementData_lv : Fld Z T226.heap lv "java/util/ArrayList" "elementData" "[Ljava/lang/Object;" (.ref dd) := F_elementData_lv.keep K226 (ninS ne_lv_ra_225 (ninS ne_lv_ja_225 nin0))
  have F_size_lv : Fld Z T226.heap lv "java/util/ArrayList" "size" "I" (.int (0 : Int32)) := F_size_lv.keep K226 (ninS ne_lv_ra_225 (ninS ne_lv_ja_225 nin0))
  have F_modCount_lv : Fld Z T226.heap lv "java/util/AbstractList" "modCount" "I" (.int (0 : Int32)) := F_modCount_lv.keep K226 (ninS ne_lv_ra_225 (ninS ne_lv_ja_225 nin0))
  have E_lw : Exa Z T226.heap lw "java/util/ArrayList" := E_lw.keep K226
  have F_elementData_lw : Fld Z T226.heap lw "java/util/ArrayList" "elementData" "[Ljava/lang/Object;" (.ref dd) := F_elementData_lw.keep K226 (ninS ne_lw_ra_225 (ninS ne_lw_ja_225 nin0))
  have F_size_lw : Fld Z T226.heap lw "java/util/ArrayList" "size" "I" (.int (0 : Int32)) := F_size_lw.keep K226 (ninS ne_lw_ra_225 (ninS ne_lw_ja_225 nin0))
  have F_modCount_lw : Fld Z T226.heap lw "java/util/AbstractList" "modCount" "I" (.int (0 : Int32)) := F_modCount_lw.keep K226 (ninS ne_lw_ra_225 (ninS ne_lw_ja_225 nin0))
  have A_ra_225 : ArI Z T226.heap ra_225 (4 : Int32) (upd (fun _ => 0) v18.toNatClampNeg (((fun _ => 0) v18.toNatClampNeg) + (1 : Int32))) := P226_1
  have A_ja_225 : ArJ Z T226.heap ja_225 (4 : Int32) (upd (upd (upd (upd (upd (upd (fun _ => 0) (0 : Int32).toNatClampNeg (-1 : Int64)) (1 : Int32).toNatClampNeg (-1 : Int64)) (2 : Int32).toNatClampNeg (-1 : Int64)) (3 : Int32).toNatClampNeg (-1 : Int64)) v6.toNatClampNeg (0 : Int64)) v18.toNatClampNeg (-1 : Int64)) := P226_2
  have N226 := Fr.app N225 N226q
  obtain ⟨cq227, kq227, q227a, q227b, q227c⟩ := isOf hZ rfl E_b224
  obtain ⟨_, _, ⟨T227, L227, k227, n227⟩, -, X227, ⟨Lc227, hQ227, l227, y227, z227⟩, st227⟩ := X226.virtualBack hx (y := (⟨"com/example/wachter/wachter/sim/QueueOrder", "takenOn", "(II)V"⟩ : MethodName)) (z := (⟨"com/example/wachter/wachter/sim/QueueOrder", "takenOn", "(II)V"⟩ : MethodName)) hown (mvT hZ (hw _ (List.mem_of_getElem? (i := 78) rfl))) (mvT hZ (hw _ (List.mem_of_getElem? (i := 79) rfl))) (notFace_of_selects (args := #[]) (mvT hZ (hw _ (List.mem_of_getElem? (i := 81) rfl)))) (mvT hZ (hw _ (List.mem_of_getElem? (i := 81) rfl))) (mvT hZ (hw _ (List.mem_of_getElem? (i := 80) rfl))) (by decide) (backOf (W := 0) (rmTO l Z a0 hw [] b224 v12 v18 ra_225 ja_225 bl_225 bd_225 kb_225 (upd (upd (upd (upd (fun _ => .null) (0 : Int32).toNatClampNeg (.ref l0_225)) (1 : Int32).toNatClampNeg (.ref l1_225)) (2 : Int32).toNatClampNeg (.ref l2_225)) (3 : Int32).toNatClampNeg (.ref l3_225)) (4 : Int32) (upd (fun _ => 0) v18.toNatClampNeg (((fun _ => 0) v18.toNatClampNeg) + (1 : Int32))) (upd (upd (upd (upd (upd (upd (fun _ => 0) (0 : Int32).toNatClampNeg (-1 : Int64)) (1 : Int32).toNatClampNeg (-1 : Int64)) (2 : Int32).toNatClampNeg (-1 : Int64)) (3 : Int32).toNatClampNeg (-1 : Int64)) v6.toNatClampNeg (0 : Int64)) v18.toNatClampNeg (-1 : Int64)) lu (0 : Int32) dd T226.heap n0 Zs F_requests_b224 F_joinedAs_b224 F_behind_b224 A_ra_225 A_ja_225 E_bl_225 F_elementData_bl_225 F_size_bl_225 F_modCount_bl_225 A_bd_225 E_lu F_elementData_lu F_size_lu F_modCount_lu g_lu Ol S_DEFAULTCAPACITY_EMPTY_ELEMENTDATA A_dd ne_lu_b224 ne_lu_ra_225 ne_lu_ja_225 ne_lu_bl_225 ne_lu_bd_225 iu iv (by rcases hc4 with ⟨e1, e2, e3, e4⟩ | ⟨e1, e2, e3, e4⟩ | ⟨e1, e2, e3, e4⟩ | ⟨e1, e2, e3, e4⟩ <;> simp only [e1, e2, e3, e4] <;> decide) (by rcases hc4 with ⟨e1, e2, e3, e4⟩ | ⟨e1, e2, e3, e4⟩ | ⟨e1, e2, e3, e4⟩ | ⟨e1, e2, e3, e4⟩ <;> simp only [e1, e2, e3, e4] <;> decide) hB_lu) hZ (hw _ (List.mem_of_getElem? (i := 82) rfl)) (hw _ (List.mem_of_getElem? (i := 3) rfl)) (by decide) (by decide)) q227a q227c (g := (mkF m 55 #[.val (.int p1), .val (.int p2), .val (.int v6), .val (.int v12), .val (.int v18), .val (.int v25), .val (.int v30), .val (.ref b224), .unset, .unset, .unset, .unset, .unset, .unset, .unset, .unset, .unset, .unset, .unset, .unset, .unset, .unset] [(.int v18), (.int v12), (.ref b224)])) rfl (by rw [hml]; rfl) (Steps.refl _) (argsL := [(.int v12), (.int v18)]) (rest := []) (lenOf pd_14 rfl) rfl (by show 2 * 0 + _ ≤ _; exact Nat.le_of_eq rfl) (hb hby at_55) (fun _ _ => ⟨rfl, rfl, (by decide : 9 + 2 ≤ _), (by decide : 31 + 12 ≤ _)⟩)
  dsimp only [Pt.U, Pt.locs, Pt.cells, Pt.slots] at X227 l227 y227 z227 st227 hQ227
  subst l227 y227 z227
  obtain ⟨wt_227, eb_227, ke_227, rfl, N227q, K227, szc_wt_227, g_wt_227, szc_eb_227, g_eb_227, ne_wt_227_eb_227, P227_6, P227_7, P227_8, P227_9, P227_10, P227_11⟩ := hQ227
  have ne_b224_wt_227 : b224 ≠ wt_227 := Nat.ne_of_lt (Nat.lt_of_lt_of_le E_b224.lt szc_wt_227)
  have ne_bl_225_wt_227 : bl_225 ≠ wt_227 := Nat.ne_of_lt (Nat.lt_of_lt_of_le E_bl_225.lt szc_wt_227)
  have ne_bd_225_wt_227 : bd_225 ≠ wt_227 := Nat.ne_of_lt (Nat.lt_of_lt_of_le A_bd_225.lt szc_wt_227)
  have ne_lh_wt_227 : lh ≠ wt_227 := Nat.ne_of_lt (Nat.lt_of_lt_of_le E_lh.lt szc_wt_227)
  have ne_lu_wt_227 : lu ≠ wt_227 := Nat.ne_of_lt (Nat.lt_of_lt_of_le E_lu.lt szc_wt_227)
  have ne_lv_wt_227 : lv ≠ wt_227 := Nat.ne_of_lt (Nat.lt_of_lt_of_le E_lv.lt szc_wt_227)
  have ne_lw_wt_227 : lw ≠ wt_227 := Nat.ne_of_lt (Nat.lt_of_lt_of_le E_lw.lt szc_wt_227)
  have ne_ra_225_wt_227 : ra_225 ≠ wt_227 := Nat.ne_of_lt (Nat.lt_of_lt_of_le A_ra_225.lt szc_wt_227)
  have ne_ja_225_wt_227 : ja_225 ≠ wt_227 := Nat.ne_of_lt (Nat.lt_of_lt_of_le A_ja_225.lt szc_wt_227)
  have ne_b224_eb_227 : b224 ≠ eb_227 := Nat.ne_of_lt (Nat.lt_of_lt_of_le E_b224.lt szc_eb_227)
  have ne_bl_225_eb_227 : bl_225 ≠ eb_227 := Nat.ne_of_lt (Nat.lt_of_lt_of_le E_bl_225.lt szc_eb_227)
  have ne_bd_225_eb_227 : bd_225 ≠ eb_227 := Nat.ne_of_lt (Nat.lt_of_lt_of_le A_bd_225.lt szc_eb_227)
  have ne_lh_eb_227 : lh ≠ eb_227 := Nat.ne_of_lt (Nat.lt_of_lt_of_le E_lh.lt szc_eb_227)
  have ne_lu_eb_227 : lu ≠ eb_227 := Nat.ne_of_lt (Nat.lt_of_lt_of_le E_lu.lt szc_eb_227)
  have ne_lv_eb_227 : lv ≠ eb_227 := Nat.ne_of_lt (Nat.lt_of_lt_of_le E_lv.lt szc_eb_227)
  have ne_lw_eb_227 : lw ≠ eb_227 := Nat.ne_of_lt (Nat.lt_of_lt_of_le E_lw.lt szc_eb_227)
  have ne_ra_225_eb_227 : ra_225 ≠ eb_227 := Nat.ne_of_lt (Nat.lt_of_lt_of_le A_ra_225.lt szc_eb_227)
  have ne_ja_225_eb_227 : ja_225 ≠ eb_227 := Nat.ne_of_lt (Nat.lt_of_lt_of_le A_ja_225.lt szc_eb_227)
  have Zs : n0 ≤ T227.heap.size := Nat.le_trans Zs K227.1
  have Ol : Old Z n0 T227.heap := Ol.keep K227 (allS g_lu all0)
  have E_b224 : Exa Z T227.heap b224 "com/example/wachter/wachter/sim/QueueOrder" := E_b224.keep K227
  have F_requests_b224 : Fld Z T227.heap b224 "com/example/wachter/wachter/sim/QueueOrder" "requests" "[I" (.ref ra_225) := F_requests_b224.keep K227 (ninS (Ne.symm ne_lu_b224) nin0)
  have F_joinedAs_b224 : Fld Z T227.heap b224 "com/example/wachter/wachter/sim/QueueOrder" "joinedAs" "[J" (.ref ja_225) := F_joinedAs_b224.keep K227 (ninS (Ne.symm ne_lu_b224) nin0)
  have F_behind_b224 : Fld Z T227.heap b224 "com/example/wachter/wachter/sim/QueueOrder" "behind" "Ljava/util/List;" (.ref bl_225) := F_behind_b224.keep K227 (ninS (Ne.symm ne_lu_b224) nin0)
  have F_joined_b224 : Fld Z T227.heap b224 "com/example/wachter/wachter/sim/QueueOrder" "joined" "J" (.long (1 : Int64)) := F_joined_b224.keep K227 (ninS (Ne.symm ne_lu_b224) nin0)
  have E_bl_225 : Exa Z T227.heap bl_225 "java/util/ArrayList" := E_bl_225.keep K227
  have F_elementData_bl_225 : Fld Z T227.heap bl_225 "java/util/ArrayList" "elementData" "[Ljava/lang/Object;" (.ref bd_225) := F_elementData_bl_225.keep K227 (ninS (Ne.symm ne_lu_bl_225) nin0)
  have F_size_bl_225 : Fld Z T227.heap bl_225 "java/util/ArrayList" "size" "I" (.int (4 : Int32)) := F_size_bl_225.keep K227 (ninS (Ne.symm ne_lu_bl_225) nin0)
  have F_modCount_bl_225 : Fld Z T227.heap bl_225 "java/util/AbstractList" "modCount" "I" (.int (4 : Int32)) := F_modCount_bl_225.keep K227 (ninS (Ne.symm ne_lu_bl_225) nin0)
  have A_bd_225 : ArR Z T227.heap bd_225 kb_225 "java/lang/Object" (4 : Int32) (upd (upd (upd (upd (fun _ => .null) (0 : Int32).toNatClampNeg (.ref l0_225)) (1 : Int32).toNatClampNeg (.ref l1_225)) (2 : Int32).toNatClampNeg (.ref l2_225)) (3 : Int32).toNatClampNeg (.ref l3_225)) := A_bd_225.keep K227 (ninS (Ne.symm ne_lu_bd_225) nin0)
  have E_lh : Exa Z T227.heap lh "java/util/ArrayList" := E_lh.keep K227
  have F_elementData_lh : Fld Z T227.heap lh "java/util/ArrayList" "elementData" "[Ljava/lang/Object;" (.ref dd) := F_elementData_lh.keep K227 (ninS ne_lh_lu nin0)
  have F_size_lh : Fld Z T227.heap lh "java/util/ArrayList" "size" "I" (.int (0 : Int32)) := F_size_lh.keep K227 (ninS ne_lh_lu nin0)
  have F_modCount_lh : Fld Z T227.heap lh "java/util/AbstractList" "modCount" "I" (.int (0 : Int32)) := F_modCount_lh.keep K227 (ninS ne_lh_lu nin0)
  have E_lu : Exa Z T227.heap lu "java/util/ArrayList" := E_lu.keep K227
  have E_lv : Exa Z T227.heap lv "java/util/ArrayList" := E_lv.keep K227
  have F_elementData_lv : Fld Z T227.heap lv "java/util/ArrayList" "elementData" "[Ljava/lang/Object;" (.ref dd) := F_elementData_lv.keep K227 (ninS (Ne.symm ne_lu_lv) nin0)
  have F_size_lv : Fld Z T227.heap lv "java/util/ArrayList" "size" "I" (.int (0 : Int32)) := F_size_lv.keep K227 (ninS (Ne.symm ne_lu_lv) nin0)
  have F_modCount_lv : Fld Z T227.heap lv "java/util/AbstractList" "modCount" "I" (.int (0 : Int32)) := F_modCount_lv.keep K227 (ninS (Ne.symm ne_lu_lv) nin0)
  have E_lw : Exa Z T227.heap lw "java/util/ArrayList" := E_lw.keep K227
  have F_elementData_lw : Fld Z T227.heap lw "java/util/ArrayList" "elementData" "[Ljava/lang/Object;" (.ref dd) := F_elementData_lw.keep K227 (ninS (Ne.symm ne_lu_lw) nin0)
  have F_size_lw : Fld Z T227.heap lw "java/util/ArrayList" "size" "I" (.int (0 : Int32)) := F_size_lw.keep K227 (ninS (Ne.symm ne_lu_lw) nin0)
  have F_modCount_lw : Fld Z T227.heap lw "java/util/AbstractList" "modCount" "I" (.int (0 : Int32)) := F_modCount_lw.keep K227 (ninS (Ne.symm ne_lu_lw) nin0)
  have A_ra_225 : ArI Z T227.heap ra_225 (4 : Int32) (upd (fun _ => 0) v18.toNatClampNeg (((fun _ => 0) v18.toNatClampNeg) + (1 : Int32))) := A_ra_225.keep K227 (ninS (Ne.symm ne_lu_ra_225) nin0)
  have A_ja_225 : ArJ Z T227.heap ja_225 (4 : Int32) (upd (upd (upd (upd (upd (upd (fun _ => 0) (0 : Int32).toNatClampNeg (-1 : Int64)) (1 : Int32).toNatClampNeg (-1 : Int64)) (2 : Int32).toNatClampNeg (-1 : Int64)) (3 : Int32).toNatClampNeg (-1 : Int64)) v6.toNatClampNeg (0 : Int64)) v18.toNatClampNeg (-1 : Int64)) := A_ja_225.keep K227 (ninS (Ne.symm ne_lu_ja_225) nin0)
  have E_wt_227 : Exa Z T227.heap wt_227 "[I" := P227_6
  have A_wt_227 : ArI Z T227.heap wt_227 (2 : Int32) (upd (upd (fun _ => 0) (0 : Int32).toNatClampNeg v18) (1 : Int32).toNatClampNeg ((upd (fun _ => 0) v18.toNatClampNeg (((fun _ => 0) v18.toNatClampNeg) + (1 : Int32))) v18.toNatClampNeg)) := P227_7
  have F_elementData_lu : Fld Z T227.heap lu "java/util/ArrayList" "elementData" "[Ljava/lang/Object;" (.ref eb_227) := P227_8
  have F_size_lu : Fld Z T227.heap lu "java/util/ArrayList" "size" "I" (.int (1 : Int32)) := P227_9
  have F_modCount_lu : Fld Z T227.heap lu "java/util/AbstractList" "modCount" "I" (.int (1 : Int32)) := P227_10
  have A_eb_227 : ArR Z T227.heap eb_227 ke_227 "java/lang/Object" (10 : Int32) (upd (fun _ => .null) (0 : Int32).toNatClampNeg (.ref wt_227)) := P227_11
  have N227 := Fr.app N226 N227q
  have pre228 : ∀ t, Steps p.tables e below (T227.setTop (mkF m 58 #[.val (.int p1), .val (.int p2), .val (.int v6), .val (.int v12), .val (.int v18), .val (.int v25), .val (.int v30), .val (.ref b224), .unset, .unset, .unset, .unset, .unset, .unset, .unset, .unset, .unset, .unset, .unset, .unset, .unset, .unset] [])) t → Steps p.tables e below (s₁.setTop (entryFrame m #[(.int p1), (.int p2)] maxLocals)) t := fun t k => pre223 t (by
    show Steps p.tables e below (s₁.setTop (mkF m 32 #[.val (.int p1), .val (.int p2), .val (.int v6), .val (.int v12), .val (.int v18), .val (.int v25), .val (.int v30), .unset, .unset, .unset, .unset, .unset, .unset, .unset, .unset, .unset, .unset, .unset, .unset, .unset, .unset, .unset] [])) _
    refine st224 _ ?_
    show Steps p.tables e below (T224.setTop (mkF m 35 #[.val (.int p1), .val (.int p2), .val (.int v6), .val (.int v12), .val (.int v18), .val (.int v25), .val (.int v30), .unset, .unset, .unset, .unset, .unset, .unset, .unset, .unset, .unset, .unset, .unset, .unset, .unset, .unset, .unset] [(.ref b224)])) _
    refine XS.dup X224.here hx rfl (hb hby at_35) rfl rfl ?_
    show Steps p.tables e below (T224.setTop (mkF m 36 #[.val (.int p1), .val (.int p2), .val (.int v6), .val (.int v12), .val (.int v18), .val (.int v25), .val (.int v30), .unset, .unset, .unset, .unset, .unset, .unset, .unset, .unset, .unset, .unset, .unset, .unset, .unset, .unset, .unset] [(.ref b224), (.ref b224)])) _
    refine XS.iconst X224.here hx rfl (hb hby at_36) ?_
    show Steps p.tables e below (T224.setTop (mkF m 37 #[.val (.int p1), .val (.int p2), .val (.int v6), .val (.int v12), .val (.int v18), .val (.int v25), .val (.int v30), .unset, .unset, .unset, .unset, .unset, .unset, .unset, .unset, .unset, .unset, .unset, .unset, .unset, .unset, .unset] [(.int (4 : Int32)), (.ref b224), (.ref b224)])) _
    refine XS.iloadN X224.here hx rfl (hb hby at_37) rfl ?_
    show Steps p.tables e below (T224.setTop (mkF m 38 #[.val (.int p1), .val (.int p2), .val (.int v6), .val (.int v12), .val (.int v18), .val (.int v25), .val (.int v30), .unset, .unset, .unset, .unset, .unset, .unset, .unset, .unset, .unset, .unset, .unset, .unset, .unset, .unset, .unset] [(.int v6), (.int (4 : Int32)), (.ref b224), (.ref b224)])) _
    refine st225.trans ?_
    show Steps p.tables e below (T225.setTop (mkF m 41 #[.val (.int p1), .val (.int p2), .val (.int v6), .val (.int v12), .val (.int v18), .val (.int v25), .val (.int v30), .unset, .unset, .unset, .unset, .unset, .unset, .unset, .unset, .unset, .unset, .unset, .unset, .unset, .unset, .unset] [(.ref b224)])) _
    refine XS.astore X225.here hx rfl (hb hby at_41) rfl rfl (l' := #[.val (.int p1), .val (.int p2), .val (.int v6), .val (.int v12), .val (.int v18), .val (.int v25), .val (.int v30), .val (.ref b224), .unset, .unset, .unset, .unset, .unset, .unset, .unset, .unset, .unset, .unset, .unset, .unset, .unset, .unset]) rfl ?_
    show Steps p.tables e below (T225.setTop (mkF m 43 #[.val (.int p1), .val (.int p2), .val (.int v6), .val (.int v12), .val (.int v18), .val (.int v25), .val (.int v30), .val (.ref b224), .unset, .unset, .unset, .unset, .unset, .unset, .unset, .unset, .unset, .unset, .unset, .unset, .unset, .unset] [])) _
    refine XS.aload X225.here hx rfl (hb hby at_43) rfl rfl ?_
    show Steps p.tables e below (T225.setTop (mkF m 45 #[.val (.int p1), .val (.int p2), .val (.int v6), .val (.int v12), .val (.int v18), .val (.int v25), .val (.int v30), .val (.ref b224), .unset, .unset, .unset, .unset, .unset, .unset, .unset, .unset, .unset, .unset, .unset, .unset, .unset, .unset] [(.ref b224)])) _
    refine XS.iload X225.here hx rfl (hb hby at_45) rfl ?_
    show Steps p.tables e below (T225.setTop (mkF m 47 #[.val (.int p1), .val (.int p2), .val (.int v6), .val (.int v12), .val (.int v18), .val (.int v25), .val (.int v30), .val (.ref b224), .unset, .unset, .unset, .unset, .unset, .unset, .unset, .unset, .unset, .unset, .unset, .unset, .unset, .unset] [(.int v18), (.ref b224)])) _
    refine st226.trans ?_
    show Steps p.tables e below (T226.setTop (mkF m 50 #[.val (.int p1), .val (.int p2), .val (.int v6), .val (.int v12), .val (.int v18), .val (.int v25), .val (.int v30), .val (.ref b224), .unset, .unset, .unset, .unset, .unset, .unset, .unset, .unset, .unset, .unset, .unset, .unset, .unset, .unset] [])) _
    refine XS.aload X226.here hx rfl (hb hby at_50) rfl rfl ?_
    show Steps p.tables e below (T226.setTop (mkF m 52 #[.val (.int p1), .val (.int p2), .val (.int v6), .val (.int v12), .val (.int v18), .val (.int v25), .val (.int v30), .val (.ref b224), .unset, .unset, .unset, .unset, .unset, .unset, .unset, .unset, .unset, .unset, .unset, .unset, .unset, .unset] [(.ref b224)])) _
    refine XS.iloadN X226.here hx rfl (hb hby at_52) rfl ?_
    show Steps p.tables e below (T226.setTop (mkF m 53 #[.val (.int p1), .val (.int p2), .val (.int v6), .val (.int v12), .val (.int v18), .val (.int v25), .val (.int v30), .val (.ref b224), .unset, .unset, .unset, .unset, .unset, .unset, .unset, .unset, .unset, .unset, .unset, .unset, .unset, .unset] [(.int v12), (.ref b224)])) _
    refine XS.iload X226.here hx rfl (hb hby at_53) rfl ?_
    show Steps p.tables e below (T226.setTop (mkF m 55 #[.val (.int p1), .val (.int p2), .val (.int v6), .val (.int v12), .val (.int v18), .val (.int v25), .val (.int v30), .val (.ref b224), .unset, .unset, .unset, .unset, .unset, .unset, .unset, .unset, .unset, .unset, .unset, .unset, .unset, .unset] [(.int v18), (.int v12), (.ref b224)])) _
    refine st227.trans ?_
    exact k)
  by_cases hmv : v30 = v18
  ·
    obtain ⟨cq229, kq229, q229a, q229b, q229c⟩ := isOf hZ rfl E_b224
    obtain ⟨_, _, ⟨T229, L229, k229, n229⟩, -, X229, ⟨Lc229, hQ229, l229, y229, z229⟩, st229⟩ := X227.virtualBack hx (y := (⟨"com/example/wachter/wachter/sim/QueueOrder", "asked", "(I)V"⟩ : MethodName)) (z := (⟨"com/example/wachter/wachter/sim/QueueOrder", "asked", "(I)V"⟩ : MethodName)) hown (mvT hZ (hw _ (List.mem_of_getElem? (i := 73) rfl))) (mvT hZ (hw _ (List.mem_of_getElem? (i := 74) rfl))) (notFace_of_selects (args := #[]) (mvT hZ (hw _ (List.mem_of_getElem? (i := 76) rfl)))) (mvT hZ (hw _ (List.mem_of_getElem? (i := 76) rfl))) (mvT hZ (hw _ (List.mem_of_getElem? (i := 75) rfl))) (by decide) (backOf (W := 0) (rmAK l Z a0 hw [] b224 v30 ra_225 ja_225 (upd (fun _ => 0) v18.toNatClampNeg (((fun _ => 0) v18.toNatClampNeg) + (1 : Int32))) (upd (upd (upd (upd (upd (upd (fun _ => 0) (0 : Int32).toNatClampNeg (-1 : Int64)) (1 : Int32).toNatClampNeg (-1 : Int64)) (2 : Int32).toNatClampNeg (-1 : Int64)) (3 : Int32).toNatClampNeg (-1 : Int64)) v6.toNatClampNeg (0 : Int64)) v18.toNatClampNeg (-1 : Int64)) T227.heap n0 Zs F_requests_b224 F_joinedAs_b224 A_ra_225 A_ja_225 g_ra_225 g_ja_225 ne_b224_ra_225 ne_b224_ja_225 ne_ra_225_ja_225 im) hZ (hw _ (List.mem_of_getElem? (i := 77) rfl)) (hw _ (List.mem_of_getElem? (i := 3) rfl)) (by decide) (by decide)) q229a q229c (g := (mkF m 62 #[.val (.int p1), .val (.int p2), .val (.int v6), .val (.int v12), .val (.int v18), .val (.int v25), .val (.int v30), .val (.ref b224), .unset, .unset, .unset, .unset, .unset, .unset, .unset, .unset, .unset, .unset, .unset, .unset, .unset, .unset] [(.int v30), (.ref b224)])) rfl (by rw [hml]; rfl) (Steps.refl _) (argsL := [(.int v30)]) (rest := []) (lenOf pd_12 rfl) rfl (by show 2 * 0 + _ ≤ _; exact Nat.le_of_eq rfl) (hb hby at_62) (fun _ _ => ⟨rfl, rfl, (by decide : 11 + 0 ≤ _), (by decide : 43 + 0 ≤ _)⟩)
    dsimp only [Pt.U, Pt.locs, Pt.cells, Pt.slots] at X229 l229 y229 z229 st229 hQ229
    subst l229 y229 z229
    obtain ⟨rfl, N229q, K229, P229_1, P229_2⟩ := hQ229
    have Zs : n0 ≤ T229.heap.size := Nat.le_trans Zs K229.1
    have Ol : Old Z n0 T229.heap := Ol.keep K229 (allS g_ra_225 (allS g_ja_225 all0))
    have E_b224 : Exa Z T229.heap b224 "com/example/wachter/wachter/sim/QueueOrder" := E_b224.keep K229
    have F_requests_b224 : Fld Z T229.heap b224 "com/example/wachter/wachter/sim/QueueOrder" "requests" "[I" (.ref ra_225) := F_requests_b224.keep K229 (ninS ne_b224_ra_225 (ninS ne_b224_ja_225 nin0))
    have F_joinedAs_b224 : Fld Z T229.heap b224 "com/example/wachter/wachter/sim/QueueOrder" "joinedAs" "[J" (.ref ja_225) := F_joinedAs_b224.keep K229 (ninS ne_b224_ra_225 (ninS ne_b224_ja_225 nin0))
    have F_behind_b224 : Fld Z T229.heap b224 "com/example/wachter/wachter/sim/QueueOrder" "behind" "Ljava/util/List;" (.ref bl_225) := F_behind_b224.keep K229 (ninS ne_b224_ra_225 (ninS ne_b224_ja_225 nin0))
    have F_joined_b224 : Fld Z T229.heap b224 "com/example/wachter/wachter/sim/QueueOrder" "joined" "J" (.long (1 : Int64)) := F_joined_b224.keep K229 (ninS ne_b224_ra_225 (ninS ne_b224_ja_225 nin0))
    have E_bl_225 : Exa Z T229.heap bl_225 "java/util/ArrayList" := E_bl_225.keep K229
    have F_elementData_bl_225 : Fld Z T229.heap bl_225 "java/util/ArrayList" "elementData" "[Ljava/lang/Object;" (.ref bd_225) := F_elementData_bl_225.keep K229 (ninS (Ne.symm ne_ra_225_bl_225) (ninS (Ne.symm ne_ja_225_bl_225) nin0))
    have F_size_bl_225 : Fld Z T229.heap bl_225 "java/util/ArrayList" "size" "I" (.int (4 : Int32)) := F_size_bl_225.keep K229 (ninS (Ne.symm ne_ra_225_bl_225) (ninS (Ne.symm ne_ja_225_bl_225) nin0))
    have F_modCount_bl_225 : Fld Z T229.heap bl_225 "java/util/AbstractList" "modCount" "I" (.int (4 : Int32)) := F_modCount_bl_225.keep K229 (ninS (Ne.symm ne_ra_225_bl_225) (ninS (Ne.symm ne_ja_225_bl_225) nin0))
    have A_bd_225 : ArR Z T229.heap bd_225 kb_225 "java/lang/Object" (4 : Int32) (upd (upd (upd (upd (fun _ => .null) (0 : Int32).toNatClampNeg (.ref l0_225)) (1 : Int32).toNatClampNeg (.ref l1_225)) (2 : Int32).toNatClampNeg (.ref l2_225)) (3 : Int32).toNatClampNeg (.ref l3_225)) := A_bd_225.keep K229 (ninS (Ne.symm ne_ra_225_bd_225) (ninS (Ne.symm ne_ja_225_bd_225) nin0))
    have E_lh : Exa Z T229.heap lh "java/util/ArrayList" := E_lh.keep K229
    have F_elementData_lh : Fld Z T229.heap lh "java/util/ArrayList" "elementData" "[Ljava/lang/Object;" (.ref dd) := F_elementData_lh.keep K229 (ninS ne_lh_ra_225 (ninS ne_lh_ja_225 nin0))
    have F_size_lh : Fld Z T229.heap lh "java/util/ArrayList" "size" "I" (.int (0 : Int32)) := F_size_lh.keep K229 (ninS ne_lh_ra_225 (ninS ne_lh_ja_225 nin0))
    have F_modCount_lh : Fld Z T229.heap lh "java/util/AbstractList" "modCount" "I" (.int (0 : Int32)) := F_modCount_lh.keep K229 (ninS ne_lh_ra_225 (ninS ne_lh_ja_225 nin0))
    have E_lu : Exa Z T229.heap lu "java/util/ArrayList" := E_lu.keep K229
    have E_lv : Exa Z T229.heap lv "java/util/ArrayList" := E_lv.keep K229
    have F_elementData_lv : Fld Z T229.heap lv "java/util/ArrayList" "elementData" "[Ljava/lang/Object;" (.ref dd) := F_elementData_lv.keep K229 (ninS ne_lv_ra_225 (ninS ne_lv_ja_225 nin0))
    have F_size_lv : Fld Z T229.heap lv "java/util/ArrayList" "size" "I" (.int (0 : Int32)) := F_size_lv.keep K229 (ninS ne_lv_ra_225 (ninS ne_lv_ja_225 nin0))
    have F_modCount_lv : Fld Z T229.heap lv "java/util/AbstractList" "modCount" "I" (.int (0 : Int32)) := F_modCount_lv.keep K229 (ninS ne_lv_ra_225 (ninS ne_lv_ja_225 nin0))
    have E_lw : Exa Z T229.heap lw "java/util/ArrayList" := E_lw.keep K229
    have F_elementData_lw : Fld Z T229.heap lw "java/util/ArrayList" "elementData" "[Ljava/lang/Object;" (.ref dd) := F_elementData_lw.keep K229 (ninS ne_lw_ra_225 (ninS ne_lw_ja_225 nin0))
    have F_size_lw : Fld Z T229.heap lw "java/util/ArrayList" "size" "I" (.int (0 : Int32)) := F_size_lw.keep K229 (ninS ne_lw_ra_225 (ninS ne_lw_ja_225 nin0))
    have F_modCount_lw : Fld Z T229.heap lw "java/util/AbstractList" "modCount" "I" (.int (0 : Int32)) := F_modCount_lw.keep K229 (ninS ne_lw_ra_225 (ninS ne_lw_ja_225 nin0))
    have E_wt_227 : Exa Z T229.heap wt_227 "[I" := E_wt_227.keep K229
    have A_wt_227 : ArI Z T229.heap wt_227 (2 : Int32) (upd (upd (fun _ => 0) (0 : Int32).toNatClampNeg v18) (1 : Int32).toNatClampNeg ((upd (fun _ => 0) v18.toNatClampNeg (((fun _ => 0) v18.toNatClampNeg) + (1 : Int32))) v18.toNatClampNeg)) := A_wt_227.keep K229 (ninS (Ne.symm ne_ra_225_wt_227) (ninS (Ne.symm ne_ja_225_wt_227) nin0))
    have F_elementData_lu : Fld Z T229.heap lu "java/util/ArrayList" "elementData" "[Ljava/lang/Object;" (.ref eb_227) := F_elementData_lu.keep K229 (ninS ne_lu_ra_225 (ninS ne_lu_ja_225 nin0))
    have F_size_lu : Fld Z T229.heap lu "java/util/ArrayList" "size" "I" (.int (1 : Int32)) := F_size_lu.keep K229 (ninS ne_lu_ra_225 (ninS ne_lu_ja_225 nin0))
    have F_modCount_lu : Fld Z T229.heap lu "java/util/AbstractList" "modCount" "I" (.int (1 : Int32)) := F_modCount_lu.keep K229 (ninS ne_lu_ra_225 (ninS ne_lu_ja_225 nin0))
    have A_eb_227 : ArR Z T229.heap eb_227 ke_227 "java/lang/Object" (10 : Int32) (upd (fun _ => .null) (0 : Int32).toNatClampNeg (.ref wt_227)) := A_eb_227.keep K229 (ninS (Ne.symm ne_ra_225_eb_227) (ninS (Ne.symm ne_ja_225_eb_227) nin0))
    have A_ra_225 : ArI Z T229.heap ra_225 (4 : Int32) (upd (upd (fun _ => 0) v18.toNatClampNeg (((fun _ => 0) v18.toNatClampNeg) + (1 : Int32))) v30.toNatClampNeg (((upd (fun _ => 0) v18.toNatClampNeg (((fun _ => 0) v18.toNatClampNeg) + (1 : Int32))) v30.toNatClampNeg) + (1 : Int32))) := P229_1
    have A_ja_225 : ArJ Z T229.heap ja_225 (4 : Int32) (upd (upd (upd (upd (upd (upd (upd (fun _ => 0) (0 : Int32).toNatClampNeg (-1 : Int64)) (1 : Int32).toNatClampNeg (-1 : Int64)) (2 : Int32).toNatClampNeg (-1 : Int64)) (3 : Int32).toNatClampNeg (-1 : Int64)) v6.toNatClampNeg (0 : Int64)) v18.toNatClampNeg (-1 : Int64)) v30.toNatClampNeg (-1 : Int64)) := P229_2
    have N229 := Fr.app N227 N229q
    obtain ⟨cq230, kq230, q230a, q230b, q230c⟩ := isOf hZ rfl E_b224
    obtain ⟨_, _, ⟨T230, L230, k230, n230⟩, -, X230, ⟨Lc230, hQ230, l230, y230, z230⟩, st230⟩ := X229.virtualBack hx (y := (⟨"com/example/wachter/wachter/sim/QueueOrder", "granted", "(I)J"⟩ : MethodName)) (z := (⟨"com/example/wachter/wachter/sim/QueueOrder", "granted", "(I)J"⟩ : MethodName)) hown (mvT hZ (hw _ (List.mem_of_getElem? (i := 120) rfl))) (mvT hZ (hw _ (List.mem_of_getElem? (i := 121) rfl))) (notFace_of_selects (args := #[]) (mvT hZ (hw _ (List.mem_of_getElem? (i := 123) rfl)))) (mvT hZ (hw _ (List.mem_of_getElem? (i := 123) rfl))) (mvT hZ (hw _ (List.mem_of_getElem? (i := 122) rfl))) (by decide) (backOf (W := 0) (rmGs l Z a0 hw [] b224 v12 ra_225 ja_225 bl_225 bd_225 kb_225 (upd (upd (upd (upd (fun _ => .null) (0 : Int32).toNatClampNeg (.ref l0_225)) (1 : Int32).toNatClampNeg (.ref l1_225)) (2 : Int32).toNatClampNeg (.ref l2_225)) (3 : Int32).toNatClampNeg (.ref l3_225)) (4 : Int32) (1 : Int64) (upd (upd (upd (upd (upd (upd (upd (fun _ => 0) (0 : Int32).toNatClampNeg (-1 : Int64)) (1 : Int32).toNatClampNeg (-1 : Int64)) (2 : Int32).toNatClampNeg (-1 : Int64)) (3 : Int32).toNatClampNeg (-1 : Int64)) v6.toNatClampNeg (0 : Int64)) v18.toNatClampNeg (-1 : Int64)) v30.toNatClampNeg (-1 : Int64)) (upd (upd (fun _ => 0) v18.toNatClampNeg (((fun _ => 0) v18.toNatClampNeg) + (1 : Int32))) v30.toNatClampNeg (((upd (fun _ => 0) v18.toNatClampNeg (((fun _ => 0) v18.toNatClampNeg) + (1 : Int32))) v30.toNatClampNeg) + (1 : Int32))) lu eb_227 (1 : Int32) ke_227 (upd (fun _ => .null) (0 : Int32).toNatClampNeg (.ref wt_227)) wt_227 (upd (upd (fun _ => 0) (0 : Int32).toNatClampNeg v18) (1 : Int32).toNatClampNeg ((upd (fun _ => 0) v18.toNatClampNeg (((fun _ => 0) v18.toNatClampNeg) + (1 : Int32))) v18.toNatClampNeg)) v18 T229.heap n0 Zs E_b224 F_requests_b224 F_joinedAs_b224 F_behind_b224 F_joined_b224 A_ja_225 A_ra_225 g_b224 g_ja_225 g_lu g_eb_227 E_bl_225 F_elementData_bl_225 F_size_bl_225 F_modCount_bl_225 A_bd_225 E_lu F_elementData_lu F_size_lu F_modCount_lu A_eb_227 E_wt_227 A_wt_227 ne_b224_ja_225 ne_b224_ra_225 ne_b224_bl_225 ne_b224_bd_225 (Ne.symm ne_lu_b224) ne_b224_eb_227 ne_b224_wt_227 (Ne.symm ne_ra_225_ja_225) ne_ja_225_bl_225 ne_ja_225_bd_225 (Ne.symm ne_lu_ja_225) ne_ja_225_eb_227 ne_ja_225_wt_227 ne_ra_225_bl_225 ne_ra_225_bd_225 (Ne.symm ne_lu_ra_225) ne_ra_225_eb_227 ne_ra_225_wt_227 ne_bl_225_bd_225 (Ne.symm ne_lu_bl_225) ne_bl_225_eb_227 ne_bl_225_wt_227 (Ne.symm ne_lu_bd_225) ne_bd_225_eb_227 ne_bd_225_wt_227 ne_lu_eb_227 ne_lu_wt_227 (Ne.symm ne_wt_227_eb_227) iu hB_lu rfl rfl iv (by rcases hc4 with ⟨e1, e2, e3, e4⟩ | ⟨e1, e2, e3, e4⟩ | ⟨e1, e2, e3, e4⟩ | ⟨e1, e2, e3, e4⟩ <;> rcases im4 with e5 | e5 | e5 | e5 <;> (try simp only [e1, e2, e3, e4, e5] at hmv ⊢) <;> first | decide | (revert hmv; decide)) (by rcases hc4 with ⟨e1, e2, e3, e4⟩ | ⟨e1, e2, e3, e4⟩ | ⟨e1, e2, e3, e4⟩ | ⟨e1, e2, e3, e4⟩ <;> rcases im4 with e5 | e5 | e5 | e5 <;> (try simp only [e1, e2, e3, e4, e5] at hmv ⊢) <;> first | decide | (revert hmv; decide))) hZ (hw _ (List.mem_of_getElem? (i := 124) rfl)) (hw _ (List.mem_of_getElem? (i := 3) rfl)) (by decide) (by decide)) q230a q230c (g := (mkF m 68 #[.val (.int p1), .val (.int p2), .val (.int v6), .val (.int v12), .val (.int v18), .val (.int v25), .val (.int v30), .val (.ref b224), .unset, .unset, .unset, .unset, .unset, .unset, .unset, .unset, .unset, .unset, .unset, .unset, .unset, .unset] [(.int v12), (.ref b224)])) rfl (by rw [hml]; rfl) (Steps.refl _) (argsL := [(.int v12)]) (rest := []) (lenOf pd_15 rfl) rfl (by show 2 * 0 + _ ≤ _; exact Nat.le_of_eq rfl) (hb hby at_68) (fun _ _ => ⟨rfl, rfl, (by decide : 11 + 1 ≤ _), (by decide : 43 + 4 ≤ _)⟩)
    dsimp only [Pt.U, Pt.locs, Pt.cells, Pt.slots] at X230 l230 y230 z230 st230 hQ230
    subst l230 y230 z230
    obtain ⟨rfl, N230q, K230, P230_1, P230_2, P230_3, P230_4, P230_5, P230_6, P230_7, P230_8, P230_9⟩ := hQ230
    have Zs : n0 ≤ T230.heap.size := Nat.le_trans Zs K230.1
    have Ol : Old Z n0 T230.heap := Ol.keep K230 (allS g_b224 (allS g_ja_225 (allS g_lu (allS g_eb_227 all0))))
    have E_b224 : Exa Z T230.heap b224 "com/example/wachter/wachter/sim/QueueOrder" := E_b224.keep K230
    have E_bl_225 : Exa Z T230.heap bl_225 "java/util/ArrayList" := E_bl_225.keep K230
    have F_elementData_bl_225 : Fld Z T230.heap bl_225 "java/util/ArrayList" "elementData" "[Ljava/lang/Object;" (.ref bd_225) := F_elementData_bl_225.keep K230 (ninS (Ne.symm ne_b224_bl_225) (ninS (Ne.symm ne_ja_225_bl_225) (ninS (Ne.symm ne_lu_bl_225) (ninS ne_bl_225_eb_227 nin0))))
    have F_size_bl_225 : Fld Z T230.heap bl_225 "java/util/ArrayList" "size" "I" (.int (4 : Int32)) := F_size_bl_225.keep K230 (ninS (Ne.symm ne_b224_bl_225) (ninS (Ne.symm ne_ja_225_bl_225) (ninS (Ne.symm ne_lu_bl_225) (ninS ne_bl_225_eb_227 nin0))))
    have F_modCount_bl_225 : Fld Z T230.heap bl_225 "java/util/AbstractList" "modCount" "I" (.int (4 : Int32)) := F_modCount_bl_225.keep K230 (ninS (Ne.symm ne_b224_bl_225) (ninS (Ne.symm ne_ja_225_bl_225) (ninS (Ne.symm ne_lu_bl_225) (ninS ne_bl_225_eb_227 nin0))))
    have A_bd_225 : ArR Z T230.heap bd_225 kb_225 "java/lang/Object" (4 : Int32) (upd (upd (upd (upd (fun _ => .null) (0 : Int32).toNatClampNeg (.ref l0_225)) (1 : Int32).toNatClampNeg (.ref l1_225)) (2 : Int32).toNatClampNeg (.ref l2_225)) (3 : Int32).toNatClampNeg (.ref l3_225)) := A_bd_225.keep K230 (ninS (Ne.symm ne_b224_bd_225) (ninS (Ne.symm ne_ja_225_bd_225) (ninS (Ne.symm ne_lu_bd_225) (ninS ne_bd_225_eb_227 nin0))))
    have E_lh : Exa Z T230.heap lh "java/util/ArrayList" := E_lh.keep K230
    have F_elementData_lh : Fld Z T230.heap lh "java/util/ArrayList" "elementData" "[Ljava/lang/Object;" (.ref dd) := F_elementData_lh.keep K230 (ninS ne_lh_b224 (ninS ne_lh_ja_225 (ninS ne_lh_lu (ninS ne_lh_eb_227 nin0))))
    have F_size_lh : Fld Z T230.heap lh "java/util/ArrayList" "size" "I" (.int (0 : Int32)) := F_size_lh.keep K230 (ninS ne_lh_b224 (ninS ne_lh_ja_225 (ninS ne_lh_lu (ninS ne_lh_eb_227 nin0))))
    have F_modCount_lh : Fld Z T230.heap lh "java/util/AbstractList" "modCount" "I" (.int (0 : Int32)) := F_modCount_lh.keep K230 (ninS ne_lh_b224 (ninS ne_lh_ja_225 (ninS ne_lh_lu (ninS ne_lh_eb_227 nin0))))
    have E_lu : Exa Z T230.heap lu "java/util/ArrayList" := E_lu.keep K230
    have E_lv : Exa Z T230.heap lv "java/util/ArrayList" := E_lv.keep K230
    have F_elementData_lv : Fld Z T230.heap lv "java/util/ArrayList" "elementData" "[Ljava/lang/Object;" (.ref dd) := F_elementData_lv.keep K230 (ninS ne_lv_b224 (ninS ne_lv_ja_225 (ninS (Ne.symm ne_lu_lv) (ninS ne_lv_eb_227 nin0))))
    have F_size_lv : Fld Z T230.heap lv "java/util/ArrayList" "size" "I" (.int (0 : Int32)) := F_size_lv.keep K230 (ninS ne_lv_b224 (ninS ne_lv_ja_225 (ninS (Ne.symm ne_lu_lv) (ninS ne_lv_eb_227 nin0))))
    have F_modCount_lv : Fld Z T230.heap lv "java/util/AbstractList" "modCount" "I" (.int (0 : Int32)) := F_modCount_lv.keep K230 (ninS ne_lv_b224 (ninS ne_lv_ja_225 (ninS (Ne.symm ne_lu_lv) (ninS ne_lv_eb_227 nin0))))
    have E_lw : Exa Z T230.heap lw "java/util/ArrayList" := E_lw.keep K230
    have F_elementData_lw : Fld Z T230.heap lw "java/util/ArrayList" "elementData" "[Ljava/lang/Object;" (.ref dd) := F_elementData_lw.keep K230 (ninS ne_lw_b224 (ninS ne_lw_ja_225 (ninS (Ne.symm ne_lu_lw) (ninS ne_lw_eb_227 nin0))))
    have F_size_lw : Fld Z T230.heap lw "java/util/ArrayList" "size" "I" (.int (0 : Int32)) := F_size_lw.keep K230 (ninS ne_lw_b224 (ninS ne_lw_ja_225 (ninS (Ne.symm ne_lu_lw) (ninS ne_lw_eb_227 nin0))))
    have F_modCount_lw : Fld Z T230.heap lw "java/util/AbstractList" "modCount" "I" (.int (0 : Int32)) := F_modCount_lw.keep K230 (ninS ne_lw_b224 (ninS ne_lw_ja_225 (ninS (Ne.symm ne_lu_lw) (ninS ne_lw_eb_227 nin0))))
    have E_wt_227 : Exa Z T230.heap wt_227 "[I" := E_wt_227.keep K230
    have A_wt_227 : ArI Z T230.heap wt_227 (2 : Int32) (upd (upd (fun _ => 0) (0 : Int32).toNatClampNeg v18) (1 : Int32).toNatClampNeg ((upd (fun _ => 0) v18.toNatClampNeg (((fun _ => 0) v18.toNatClampNeg) + (1 : Int32))) v18.toNatClampNeg)) := A_wt_227.keep K230 (ninS (Ne.symm ne_b224_wt_227) (ninS (Ne.symm ne_ja_225_wt_227) (ninS (Ne.symm ne_lu_wt_227) (ninS ne_wt_227_eb_227 nin0))))
    have A_ra_225 : ArI Z T230.heap ra_225 (4 : Int32) (upd (upd (fun _ => 0) v18.toNatClampNeg (((fun _ => 0) v18.toNatClampNeg) + (1 : Int32))) v30.toNatClampNeg (((upd (fun _ => 0) v18.toNatClampNeg (((fun _ => 0) v18.toNatClampNeg) + (1 : Int32))) v30.toNatClampNeg) + (1 : Int32))) := A_ra_225.keep K230 (ninS (Ne.symm ne_b224_ra_225) (ninS ne_ra_225_ja_225 (ninS (Ne.symm ne_lu_ra_225) (ninS ne_ra_225_eb_227 nin0))))
    have F_requests_b224 : Fld Z T230.heap b224 "com/example/wachter/wachter/sim/QueueOrder" "requests" "[I" (.ref ra_225) := P230_1
    have F_joinedAs_b224 : Fld Z T230.heap b224 "com/example/wachter/wachter/sim/QueueOrder" "joinedAs" "[J" (.ref ja_225) := P230_2
    have F_behind_b224 : Fld Z T230.heap b224 "com/example/wachter/wachter/sim/QueueOrder" "behind" "Ljava/util/List;" (.ref bl_225) := P230_3
    have F_joined_b224 : Fld Z T230.heap b224 "com/example/wachter/wachter/sim/QueueOrder" "joined" "J" (.long (2 : Int64)) := P230_4
    have A_ja_225 : ArJ Z T230.heap ja_225 (4 : Int32) (upd (upd (upd (upd (upd (upd (upd (upd (fun _ => 0) (0 : Int32).toNatClampNeg (-1 : Int64)) (1 : Int32).toNatClampNeg (-1 : Int64)) (2 : Int32).toNatClampNeg (-1 : Int64)) (3 : Int32).toNatClampNeg (-1 : Int64)) v6.toNatClampNeg (0 : Int64)) v18.toNatClampNeg (-1 : Int64)) v30.toNatClampNeg (-1 : Int64)) v12.toNatClampNeg (1 : Int64)) := P230_5
    have F_elementData_lu : Fld Z T230.heap lu "java/util/ArrayList" "elementData" "[Ljava/lang/Object;" (.ref eb_227) := P230_6
    have F_size_lu : Fld Z T230.heap lu "java/util/ArrayList" "size" "I" (.int (0 : Int32)) := P230_7
    have F_modCount_lu : Fld Z T230.heap lu "java/util/AbstractList" "modCount" "I" (.int (2 : Int32)) := P230_8
    have A_eb_227 : ArR Z T230.heap eb_227 ke_227 "java/lang/Object" (10 : Int32) (upd (upd (fun _ => .null) (0 : Int32).toNatClampNeg (.ref wt_227)) (0 : Int32).toNatClampNeg .null) := P230_9
    have N230 := Fr.app N229 N230q
    obtain ⟨v71, hv71⟩ : ∃ z : Int64, z = ((upd (upd (upd (upd (upd (upd (upd (upd (fun _ => 0) (0 : Int32).toNatClampNeg (-1 : Int64)) (1 : Int32).toNatClampNeg (-1 : Int64)) (2 : Int32).toNatClampNeg (-1 : Int64)) (3 : Int32).toNatClampNeg (-1 : Int64)) v6.toNatClampNeg (0 : Int64)) v18.toNatClampNeg (-1 : Int64)) v30.toNatClampNeg (-1 : Int64)) v12.toNatClampNeg (1 : Int64)) v12.toNatClampNeg) := ⟨_, rfl⟩
    have pre231 : ∀ t, Steps p.tables e below (T230.setTop (mkF m 73 #[.val (.int p1), .val (.int p2), .val (.int v6), .val (.int v12), .val (.int v18), .val (.int v25), .val (.int v30), .val (.ref b224), .val (.long v71), .second, .unset, .unset, .unset, .unset, .unset, .unset, .unset, .unset, .unset, .unset, .unset, .unset] [])) t → Steps p.tables e below (s₁.setTop (entryFrame m #[(.int p1), (.int p2)] maxLocals)) t := fun t k => pre228 t (by
      show Steps p.tables e below (T227.setTop (mkF m 58 #[.val (.int p1), .val (.int p2), .val (.int v6), .val (.int v12), .val (.int v18), .val (.int v25), .val (.int v30), .val (.ref b224), .unset, .unset, .unset, .unset, .unset, .unset, .unset, .unset, .unset, .unset, .unset, .unset, .unset, .unset] [])) _
      refine XS.aload X227.here hx rfl (hb hby at_58) rfl rfl ?_
      show Steps p.tables e below (T227.setTop (mkF m 60 #[.val (.int p1), .val (.int p2), .val (.int v6), .val (.int v12), .val (.int v18), .val (.int v25), .val (.int v30), .val (.ref b224), .unset, .unset, .unset, .unset, .unset, .unset, .unset, .unset, .unset, .unset, .unset, .unset, .unset, .unset] [(.ref b224)])) _
      refine XS.iload X227.here hx rfl (hb hby at_60) rfl ?_
      show Steps p.tables e below (T227.setTop (mkF m 62 #[.val (.int p1), .val (.int p2), .val (.int v6), .val (.int v12), .val (.int v18), .val (.int v25), .val (.int v30), .val (.ref b224), .unset, .unset, .unset, .unset, .unset, .unset, .unset, .unset, .unset, .unset, .unset, .unset, .unset, .unset] [(.int v30), (.ref b224)])) _
      refine st229.trans ?_
      show Steps p.tables e below (T229.setTop (mkF m 65 #[.val (.int p1), .val (.int p2), .val (.int v6), .val (.int v12), .val (.int v18), .val (.int v25), .val (.int v30), .val (.ref b224), .unset, .unset, .unset, .unset, .unset, .unset, .unset, .unset, .unset, .unset, .unset, .unset, .unset, .unset] [])) _
      refine XS.aload X229.here hx rfl (hb hby at_65) rfl rfl ?_
      show Steps p.tables e below (T229.setTop (mkF m 67 #[.val (.int p1), .val (.int p2), .val (.int v6), .val (.int v12), .val (.int v18), .val (.int v25), .val (.int v30), .val (.ref b224), .unset, .unset, .unset, .unset, .unset, .unset, .unset, .unset, .unset, .unset, .unset, .unset, .unset, .unset] [(.ref b224)])) _
      refine XS.iloadN X229.here hx rfl (hb hby at_67) rfl ?_
      show Steps p.tables e below (T229.setTop (mkF m 68 #[.val (.int p1), .val (.int p2), .val (.int v6), .val (.int v12), .val (.int v18), .val (.int v25), .val (.int v30), .val (.ref b224), .unset, .unset, .unset, .unset, .unset, .unset, .unset, .unset, .unset, .unset, .unset, .unset, .unset, .unset] [(.int v12), (.ref b224)])) _
      refine st230.trans ?_
      show Steps p.tables e below (T230.setTop (mkF m 71 #[.val (.int p1), .val (.int p2), .val (.int v6), .val (.int v12), .val (.int v18), .val (.int v25), .val (.int v30), .val (.ref b224), .unset, .unset, .unset, .unset, .unset, .unset, .unset, .unset, .unset, .unset, .unset, .unset, .unset, .unset] [(.long ((upd (upd (upd (upd (upd (upd (upd (upd (fun _ => 0) (0 : Int32).toNatClampNeg (-1 : Int64)) (1 : Int32).toNatClampNeg (-1 : Int64)) (2 : Int32).toNatClampNeg (-1 : Int64)) (3 : Int32).toNatClampNeg (-1 : Int64)) v6.toNatClampNeg (0 : Int64)) v18.toNatClampNeg (-1 : Int64)) v30.toNatClampNeg (-1 : Int64)) v12.toNatClampNeg (1 : Int64)) v12.toNatClampNeg))])) _
      refine XS.lstore X230.here hx rfl (hb hby at_71) rfl (l' := #[.val (.int p1), .val (.int p2), .val (.int v6), .val (.int v12), .val (.int v18), .val (.int v25), .val (.int v30), .val (.ref b224), .val (.long ((upd (upd (upd (upd (upd (upd (upd (upd (fun _ => 0) (0 : Int32).toNatClampNeg (-1 : Int64)) (1 : Int32).toNatClampNeg (-1 : Int64)) (2 : Int32).toNatClampNeg (-1 : Int64)) (3 : Int32).toNatClampNeg (-1 : Int64)) v6.toNatClampNeg (0 : Int64)) v18.toNatClampNeg (-1 : Int64)) v30.toNatClampNeg (-1 : Int64)) v12.toNatClampNeg (1 : Int64)) v12.toNatClampNeg)), .second, .unset, .unset, .unset, .unset, .unset, .unset, .unset, .unset, .unset, .unset, .unset, .unset]) rfl ?_
      rw [hv71] at k
      exact k)
    obtain ⟨cq232, kq232, q232a, q232b, q232c⟩ := isOf hZ rfl E_b224
    obtain ⟨_, _, ⟨T232, L232, k232, n232⟩, -, X232, ⟨Lc232, hQ232, l232, y232, z232⟩, st232⟩ := X230.virtualBack hx (y := (⟨"com/example/wachter/wachter/sim/QueueOrder", "granted", "(I)J"⟩ : MethodName)) (z := (⟨"com/example/wachter/wachter/sim/QueueOrder", "granted", "(I)J"⟩ : MethodName)) hown (mvT hZ (hw _ (List.mem_of_getElem? (i := 120) rfl))) (mvT hZ (hw _ (List.mem_of_getElem? (i := 121) rfl))) (notFace_of_selects (args := #[]) (mvT hZ (hw _ (List.mem_of_getElem? (i := 123) rfl)))) (mvT hZ (hw _ (List.mem_of_getElem? (i := 123) rfl))) (mvT hZ (hw _ (List.mem_of_getElem? (i := 122) rfl))) (by decide) (backOf (W := 0) (rmG0 l Z a0 hw [] b224 v25 ra_225 ja_225 bl_225 bd_225 kb_225 (upd (upd (upd (upd (fun _ => .null) (0 : Int32).toNatClampNeg (.ref l0_225)) (1 : Int32).toNatClampNeg (.ref l1_225)) (2 : Int32).toNatClampNeg (.ref l2_225)) (3 : Int32).toNatClampNeg (.ref l3_225)) (4 : Int32) (2 : Int64) (upd (upd (upd (upd (upd (upd (upd (upd (fun _ => 0) (0 : Int32).toNatClampNeg (-1 : Int64)) (1 : Int32).toNatClampNeg (-1 : Int64)) (2 : Int32).toNatClampNeg (-1 : Int64)) (3 : Int32).toNatClampNeg (-1 : Int64)) v6.toNatClampNeg (0 : Int64)) v18.toNatClampNeg (-1 : Int64)) v30.toNatClampNeg (-1 : Int64)) v12.toNatClampNeg (1 : Int64)) lw dd (0 : Int32) T230.heap n0 Zs E_b224 F_requests_b224 F_joinedAs_b224 F_behind_b224 F_joined_b224 A_ja_225 g_b224 g_ja_225 g_lw E_bl_225 F_elementData_bl_225 F_size_bl_225 F_modCount_bl_225 A_bd_225 E_lw F_elementData_lw F_size_lw F_modCount_lw ne_b224_ja_225 ne_b224_bl_225 ne_b224_bd_225 (Ne.symm ne_lw_b224) ne_ja_225_bl_225 ne_ja_225_bd_225 (Ne.symm ne_lw_ja_225) ne_bl_225_bd_225 (Ne.symm ne_lw_bl_225) (Ne.symm ne_lw_bd_225) iw hB_lw (by rcases hc4 with ⟨e1, e2, e3, e4⟩ | ⟨e1, e2, e3, e4⟩ | ⟨e1, e2, e3, e4⟩ | ⟨e1, e2, e3, e4⟩ <;> rcases im4 with e5 | e5 | e5 | e5 <;> (try simp only [e1, e2, e3, e4, e5] at hmv ⊢) <;> first | decide | (revert hmv; decide))) hZ (hw _ (List.mem_of_getElem? (i := 124) rfl)) (hw _ (List.mem_of_getElem? (i := 3) rfl)) (by decide) (by decide)) q232a q232c (g := (mkF m 77 #[.val (.int p1), .val (.int p2), .val (.int v6), .val (.int v12), .val (.int v18), .val (.int v25), .val (.int v30), .val (.ref b224), .val (.long v71), .second, .unset, .unset, .unset, .unset, .unset, .unset, .unset, .unset, .unset, .unset, .unset, .unset] [(.int v25), (.ref b224)])) rfl (by rw [hml]; rfl) (Steps.refl _) (argsL := [(.int v25)]) (rest := []) (lenOf pd_15 rfl) rfl (by show 2 * 0 + _ ≤ _; exact Nat.le_of_eq rfl) (hb hby at_77) (fun _ _ => ⟨rfl, rfl, (by decide : 12 + 1 ≤ _), (by decide : 47 + 4 ≤ _)⟩)
    dsimp only [Pt.U, Pt.locs, Pt.cells, Pt.slots] at X232 l232 y232 z232 st232 hQ232
    subst l232 y232 z232
    obtain ⟨rfl, N232q, K232, P232_1, P232_2, P232_3, P232_4, P232_5, P232_6, P232_7, P232_8⟩ := hQ232
    have Zs : n0 ≤ T232.heap.size := Nat.le_trans Zs K232.1
    have Ol : Old Z n0 T232.heap := Ol.keep K232 (allS g_b224 (allS g_ja_225 (allS g_lw all0)))
    have E_b224 : Exa Z T232.heap b224 "com/example/wachter/wachter/sim/QueueOrder" := E_b224.keep K232
    have E_bl_225 : Exa Z T232.heap bl_225 "java/util/ArrayList" := E_bl_225.keep K232
    have F_elementData_bl_225 : Fld Z T232.heap bl_225 "java/util/ArrayList" "elementData" "[Ljava/lang/Object;" (.ref bd_225) := F_elementData_bl_225.keep K232 (ninS (Ne.symm ne_b224_bl_225) (ninS (Ne.symm ne_ja_225_bl_225) (ninS (Ne.symm ne_lw_bl_225) nin0)))
    have F_size_bl_225 : Fld Z T232.heap bl_225 "java/util/ArrayList" "size" "I" (.int (4 : Int32)) := F_size_bl_225.keep K232 (ninS (Ne.symm ne_b224_bl_225) (ninS (Ne.symm ne_ja_225_bl_225) (ninS (Ne.symm ne_lw_bl_225) nin0)))
    have F_modCount_bl_225 : Fld Z T232.heap bl_225 "java/util/AbstractList" "modCount" "I" (.int (4 : Int32)) := F_modCount_bl_225.keep K232 (ninS (Ne.symm ne_b224_bl_225) (ninS (Ne.symm ne_ja_225_bl_225) (ninS (Ne.symm ne_lw_bl_225) nin0)))
    have A_bd_225 : ArR Z T232.heap bd_225 kb_225 "java/lang/Object" (4 : Int32) (upd (upd (upd (upd (fun _ => .null) (0 : Int32).toNatClampNeg (.ref l0_225)) (1 : Int32).toNatClampNeg (.ref l1_225)) (2 : Int32).toNatClampNeg (.ref l2_225)) (3 : Int32).toNatClampNeg (.ref l3_225)) := A_bd_225.keep K232 (ninS (Ne.symm ne_b224_bd_225) (ninS (Ne.symm ne_ja_225_bd_225) (ninS (Ne.symm ne_lw_bd_225) nin0)))
    have E_lh : Exa Z T232.heap lh "java/util/ArrayList" := E_lh.keep K232
    have F_elementData_lh : Fld Z T232.heap lh "java/util/ArrayList" "elementData" "[Ljava/lang/Object;" (.ref dd) := F_elementData_lh.keep K232 (ninS ne_lh_b224 (ninS ne_lh_ja_225 (ninS ne_lh_lw nin0)))
    have F_size_lh : Fld Z T232.heap lh "java/util/ArrayList" "size" "I" (.int (0 : Int32)) := F_size_lh.keep K232 (ninS ne_lh_b224 (ninS ne_lh_ja_225 (ninS ne_lh_lw nin0)))
    have F_modCount_lh : Fld Z T232.heap lh "java/util/AbstractList" "modCount" "I" (.int (0 : Int32)) := F_modCount_lh.keep K232 (ninS ne_lh_b224 (ninS ne_lh_ja_225 (ninS ne_lh_lw nin0)))
    have E_lu : Exa Z T232.heap lu "java/util/ArrayList" := E_lu.keep K232
    have E_lv : Exa Z T232.heap lv "java/util/ArrayList" := E_lv.keep K232
    have F_elementData_lv : Fld Z T232.heap lv "java/util/ArrayList" "elementData" "[Ljava/lang/Object;" (.ref dd) := F_elementData_lv.keep K232 (ninS ne_lv_b224 (ninS ne_lv_ja_225 (ninS ne_lv_lw nin0)))
    have F_size_lv : Fld Z T232.heap lv "java/util/ArrayList" "size" "I" (.int (0 : Int32)) := F_size_lv.keep K232 (ninS ne_lv_b224 (ninS ne_lv_ja_225 (ninS ne_lv_lw nin0)))
    have F_modCount_lv : Fld Z T232.heap lv "java/util/AbstractList" "modCount" "I" (.int (0 : Int32)) := F_modCount_lv.keep K232 (ninS ne_lv_b224 (ninS ne_lv_ja_225 (ninS ne_lv_lw nin0)))
    have E_lw : Exa Z T232.heap lw "java/util/ArrayList" := E_lw.keep K232
    have E_wt_227 : Exa Z T232.heap wt_227 "[I" := E_wt_227.keep K232
    have A_wt_227 : ArI Z T232.heap wt_227 (2 : Int32) (upd (upd (fun _ => 0) (0 : Int32).toNatClampNeg v18) (1 : Int32).toNatClampNeg ((upd (fun _ => 0) v18.toNatClampNeg (((fun _ => 0) v18.toNatClampNeg) + (1 : Int32))) v18.toNatClampNeg)) := A_wt_227.keep K232 (ninS (Ne.symm ne_b224_wt_227) (ninS (Ne.symm ne_ja_225_wt_227) (ninS (Ne.symm ne_lw_wt_227) nin0)))
    have A_ra_225 : ArI Z T232.heap ra_225 (4 : Int32) (upd (upd (fun _ => 0) v18.toNatClampNeg (((fun _ => 0) v18.toNatClampNeg) + (1 : Int32))) v30.toNatClampNeg (((upd (fun _ => 0) v18.toNatClampNeg (((fun _ => 0) v18.toNatClampNeg) + (1 : Int32))) v30.toNatClampNeg) + (1 : Int32))) := A_ra_225.keep K232 (ninS (Ne.symm ne_b224_ra_225) (ninS ne_ra_225_ja_225 (ninS (Ne.symm ne_lw_ra_225) nin0)))
    have F_elementData_lu : Fld Z T232.heap lu "java/util/ArrayList" "elementData" "[Ljava/lang/Object;" (.ref eb_227) := F_elementData_lu.keep K232 (ninS ne_lu_b224 (ninS ne_lu_ja_225 (ninS ne_lu_lw nin0)))
    have F_size_lu : Fld Z T232.heap lu "java/util/ArrayList" "size" "I" (.int (0 : Int32)) := F_size_lu.keep K232 (ninS ne_lu_b224 (ninS ne_lu_ja_225 (ninS ne_lu_lw nin0)))
    have F_modCount_lu : Fld Z T232.heap lu "java/util/AbstractList" "modCount" "I" (.int (2 : Int32)) := F_modCount_lu.keep K232 (ninS ne_lu_b224 (ninS ne_lu_ja_225 (ninS ne_lu_lw nin0)))
    have A_eb_227 : ArR Z T232.heap eb_227 ke_227 "java/lang/Object" (10 : Int32) (upd (upd (fun _ => .null) (0 : Int32).toNatClampNeg (.ref wt_227)) (0 : Int32).toNatClampNeg .null) := A_eb_227.keep K232 (ninS (Ne.symm ne_b224_eb_227) (ninS (Ne.symm ne_ja_225_eb_227) (ninS (Ne.symm ne_lw_eb_227) nin0)))
    have F_requests_b224 : Fld Z T232.heap b224 "com/example/wachter/wachter/sim/QueueOrder" "requests" "[I" (.ref ra_225) := P232_1
    have F_joinedAs_b224 : Fld Z T232.heap b224 "com/example/wachter/wachter/sim/QueueOrder" "joinedAs" "[J" (.ref ja_225) := P232_2
    have F_behind_b224 : Fld Z T232.heap b224 "com/example/wachter/wachter/sim/QueueOrder" "behind" "Ljava/util/List;" (.ref bl_225) := P232_3
    have F_joined_b224 : Fld Z T232.heap b224 "com/example/wachter/wachter/sim/QueueOrder" "joined" "J" (.long (3 : Int64)) := P232_4
    have A_ja_225 : ArJ Z T232.heap ja_225 (4 : Int32) (upd (upd (upd (upd (upd (upd (upd (upd (upd (fun _ => 0) (0 : Int32).toNatClampNeg (-1 : Int64)) (1 : Int32).toNatClampNeg (-1 : Int64)) (2 : Int32).toNatClampNeg (-1 : Int64)) (3 : Int32).toNatClampNeg (-1 : Int64)) v6.toNatClampNeg (0 : Int64)) v18.toNatClampNeg (-1 : Int64)) v30.toNatClampNeg (-1 : Int64)) v12.toNatClampNeg (1 : Int64)) v25.toNatClampNeg (2 : Int64)) := P232_5
    have F_elementData_lw : Fld Z T232.heap lw "java/util/ArrayList" "elementData" "[Ljava/lang/Object;" (.ref dd) := P232_6
    have F_size_lw : Fld Z T232.heap lw "java/util/ArrayList" "size" "I" (.int (0 : Int32)) := P232_7
    have F_modCount_lw : Fld Z T232.heap lw "java/util/AbstractList" "modCount" "I" (.int (1 : Int32)) := P232_8
    have N232 := Fr.app N230 N232q
    obtain ⟨v80, hv80⟩ : ∃ z : Int64, z = ((upd (upd (upd (upd (upd (upd (upd (upd (upd (fun _ => 0) (0 : Int32).toNatClampNeg (-1 : Int64)) (1 : Int32).toNatClampNeg (-1 : Int64)) (2 : Int32).toNatClampNeg (-1 : Int64)) (3 : Int32).toNatClampNeg (-1 : Int64)) v6.toNatClampNeg (0 : Int64)) v18.toNatClampNeg (-1 : Int64)) v30.toNatClampNeg (-1 : Int64)) v12.toNatClampNeg (1 : Int64)) v25.toNatClampNeg (2 : Int64)) v25.toNatClampNeg) := ⟨_, rfl⟩
    have pre233 : ∀ t, Steps p.tables e below (T232.setTop (mkF m 82 #[.val (.int p1), .val (.int p2), .val (.int v6), .val (.int v12), .val (.int v18), .val (.int v25), .val (.int v30), .val (.ref b224), .val (.long v71), .second, .val (.long v80), .second, .unset, .unset, .unset, .unset, .unset, .unset, .unset, .unset, .unset, .unset] [])) t → Steps p.tables e below (s₁.setTop (entryFrame m #[(.int p1), (.int p2)] maxLocals)) t := fun t k => pre231 t (by
      show Steps p.tables e below (T230.setTop (mkF m 73 #[.val (.int p1), .val (.int p2), .val (.int v6), .val (.int v12), .val (.int v18), .val (.int v25), .val (.int v30), .val (.ref b224), .val (.long v71), .second, .unset, .unset, .unset, .unset, .unset, .unset, .unset, .unset, .unset, .unset, .unset, .unset] [])) _
      refine XS.aload X230.here hx rfl (hb hby at_73) rfl rfl ?_
      show Steps p.tables e below (T230.setTop (mkF m 75 #[.val (.int p1), .val (.int p2), .val (.int v6), .val (.int v12), .val (.int v18), .val (.int v25), .val (.int v30), .val (.ref b224), .val (.long v71), .second, .unset, .unset, .unset, .unset, .unset, .unset, .unset, .unset, .unset, .unset, .unset, .unset] [(.ref b224)])) _
      refine XS.iload X230.here hx rfl (hb hby at_75) rfl ?_
      show Steps p.tables e below (T230.setTop (mkF m 77 #[.val (.int p1), .val (.int p2), .val (.int v6), .val (.int v12), .val (.int v18), .val (.int v25), .val (.int v30), .val (.ref b224), .val (.long v71), .second, .unset, .unset, .unset, .unset, .unset, .unset, .unset, .unset, .unset, .unset, .unset, .unset] [(.int v25), (.ref b224)])) _
      refine st232.trans ?_
      show Steps p.tables e below (T232.setTop (mkF m 80 #[.val (.int p1), .val (.int p2), .val (.int v6), .val (.int v12), .val (.int v18), .val (.int v25), .val (.int v30), .val (.ref b224), .val (.long v71), .second, .unset, .unset, .unset, .unset, .unset, .unset, .unset, .unset, .unset, .unset, .unset, .unset] [(.long ((upd (upd (upd (upd (upd (upd (upd (upd (upd (fun _ => 0) (0 : Int32).toNatClampNeg (-1 : Int64)) (1 : Int32).toNatClampNeg (-1 : Int64)) (2 : Int32).toNatClampNeg (-1 : Int64)) (3 : Int32).toNatClampNeg (-1 : Int64)) v6.toNatClampNeg (0 : Int64)) v18.toNatClampNeg (-1 : Int64)) v30.toNatClampNeg (-1 : Int64)) v12.toNatClampNeg (1 : Int64)) v25.toNatClampNeg (2 : Int64)) v25.toNatClampNeg))])) _
      refine XS.lstore X232.here hx rfl (hb hby at_80) rfl (l' := #[.val (.int p1), .val (.int p2), .val (.int v6), .val (.int v12), .val (.int v18), .val (.int v25), .val (.int v30), .val (.ref b224), .val (.long v71), .second, .val (.long ((upd (upd (upd (upd (upd (upd (upd (upd (upd (fun _ => 0) (0 : Int32).toNatClampNeg (-1 : Int64)) (1 : Int32).toNatClampNeg (-1 : Int64)) (2 : Int32).toNatClampNeg (-1 : Int64)) (3 : Int32).toNatClampNeg (-1 : Int64)) v6.toNatClampNeg (0 : Int64)) v18.toNatClampNeg (-1 : Int64)) v30.toNatClampNeg (-1 : Int64)) v12.toNatClampNeg (1 : Int64)) v25.toNatClampNeg (2 : Int64)) v25.toNatClampNeg)), .second, .unset, .unset, .unset, .unset, .unset, .unset, .unset, .unset, .unset, .unset]) rfl ?_
      rw [hv80] at k
      exact k)
    obtain ⟨cq234, kq234, q234a, q234b, q234c⟩ := isOf hZ rfl E_b224
    obtain ⟨_, _, ⟨T234, L234, k234, n234⟩, -, X234, ⟨Lc234, hQ234, l234, y234, z234⟩, st234⟩ := X232.virtualBack hx (y := (⟨"com/example/wachter/wachter/sim/QueueOrder", "granted", "(I)J"⟩ : MethodName)) (z := (⟨"com/example/wachter/wachter/sim/QueueOrder", "granted", "(I)J"⟩ : MethodName)) hown (mvT hZ (hw _ (List.mem_of_getElem? (i := 120) rfl))) (mvT hZ (hw _ (List.mem_of_getElem? (i := 121) rfl))) (notFace_of_selects (args := #[]) (mvT hZ (hw _ (List.mem_of_getElem? (i := 123) rfl)))) (mvT hZ (hw _ (List.mem_of_getElem? (i := 123) rfl))) (mvT hZ (hw _ (List.mem_of_getElem? (i := 122) rfl))) (by decide) (backOf (W := 0) (rmGN l Z a0 hw [] b224 v6 ja_225 (upd (upd (upd (upd (upd (upd (upd (upd (upd (fun _ => 0) (0 : Int32).toNatClampNeg (-1 : Int64)) (1 : Int32).toNatClampNeg (-1 : Int64)) (2 : Int32).toNatClampNeg (-1 : Int64)) (3 : Int32).toNatClampNeg (-1 : Int64)) v6.toNatClampNeg (0 : Int64)) v18.toNatClampNeg (-1 : Int64)) v30.toNatClampNeg (-1 : Int64)) v12.toNatClampNeg (1 : Int64)) v25.toNatClampNeg (2 : Int64)) T232.heap n0 Zs F_joinedAs_b224 A_ja_225 ih (by rcases hc4 with ⟨e1, e2, e3, e4⟩ | ⟨e1, e2, e3, e4⟩ | ⟨e1, e2, e3, e4⟩ | ⟨e1, e2, e3, e4⟩ <;> rcases im4 with e5 | e5 | e5 | e5 <;> (try simp only [e1, e2, e3, e4, e5] at hmv ⊢) <;> first | decide | (revert hmv; decide))) hZ (hw _ (List.mem_of_getElem? (i := 124) rfl)) (hw _ (List.mem_of_getElem? (i := 3) rfl)) (by decide) (by decide)) q234a q234c (g := (mkF m 85 #[.val (.int p1), .val (.int p2), .val (.int v6), .val (.int v12), .val (.int v18), .val (.int v25), .val (.int v30), .val (.ref b224), .val (.long v71), .second, .val (.long v80), .second, .unset, .unset, .unset, .unset, .unset, .unset, .unset, .unset, .unset, .unset] [(.int v6), (.ref b224)])) rfl (by rw [hml]; rfl) (Steps.refl _) (argsL := [(.int v6)]) (rest := []) (lenOf pd_15 rfl) rfl (by show 2 * 0 + _ ≤ _; exact Nat.le_of_eq rfl) (hb hby at_85) (fun _ _ => ⟨rfl, rfl, (by decide : 13 + 0 ≤ _), (by decide : 51 + 0 ≤ _)⟩)
    dsimp only [Pt.U, Pt.locs, Pt.cells, Pt.slots] at X234 l234 y234 z234 st234 hQ234
    subst l234 y234 z234
    obtain ⟨rfl, N234q, e234⟩ := hQ234
    have N234 := Fr.app N232 N234q
    obtain ⟨v88, hv88⟩ : ∃ z : Int64, z = ((upd (upd (upd (upd (upd (upd (upd (upd (upd (fun _ => 0) (0 : Int32).toNatClampNeg (-1 : Int64)) (1 : Int32).toNatClampNeg (-1 : Int64)) (2 : Int32).toNatClampNeg (-1 : Int64)) (3 : Int32).toNatClampNeg (-1 : Int64)) v6.toNatClampNeg (0 : Int64)) v18.toNatClampNeg (-1 : Int64)) v30.toNatClampNeg (-1 : Int64)) v12.toNatClampNeg (1 : Int64)) v25.toNatClampNeg (2 : Int64)) v6.toNatClampNeg) := ⟨_, rfl⟩
    have pre235 : ∀ t, Steps p.tables e below (T234.setTop (mkF m 90 #[.val (.int p1), .val (.int p2), .val (.int v6), .val (.int v12), .val (.int v18), .val (.int v25), .val (.int v30), .val (.ref b224), .val (.long v71), .second, .val (.long v80), .second, .val (.long v88), .second, .unset, .unset, .unset, .unset, .unset, .unset, .unset, .unset] [])) t → Steps p.tables e below (s₁.setTop (entryFrame m #[(.int p1), (.int p2)] maxLocals)) t := fun t k => pre233 t (by
      show Steps p.tables e below (T232.setTop (mkF m 82 #[.val (.int p1), .val (.int p2), .val (.int v6), .val (.int v12), .val (.int v18), .val (.int v25), .val (.int v30), .val (.ref b224), .val (.long v71), .second, .val (.long v80), .second, .unset, .unset, .unset, .unset, .unset, .unset, .unset, .unset, .unset, .unset] [])) _
      refine XS.aload X232.here hx rfl (hb hby at_82) rfl rfl ?_
      show Steps p.tables e below (T232.setTop (mkF m 84 #[.val (.int p1), .val (.int p2), .val (.int v6), .val (.int v12), .val (.int v18), .val (.int v25), .val (.int v30), .val (.ref b224), .val (.long v71), .second, .val (.long v80), .second, .unset, .unset, .unset, .unset, .unset, .unset, .unset, .unset, .unset, .unset] [(.ref b224)])) _
      refine XS.iloadN X232.here hx rfl (hb hby at_84) rfl ?_
      show Steps p.tables e below (T232.setTop (mkF m 85 #[.val (.int p1), .val (.int p2), .val (.int v6), .val (.int v12), .val (.int v18), .val (.int v25), .val (.int v30), .val (.ref b224), .val (.long v71), .second, .val (.long v80), .second, .unset, .unset, .unset, .unset, .unset, .unset, .unset, .unset, .unset, .unset] [(.int v6), (.ref b224)])) _
      refine st234.trans ?_
      show Steps p.tables e below (T234.setTop (mkF m 88 #[.val (.int p1), .val (.int p2), .val (.int v6), .val (.int v12), .val (.int v18), .val (.int v25), .val (.int v30), .val (.ref b224), .val (.long v71), .second, .val (.long v80), .second, .unset, .unset, .unset, .unset, .unset, .unset, .unset, .unset, .unset, .unset] [(.long ((upd (upd (upd (upd (upd (upd (upd (upd (upd (fun _ => 0) (0 : Int32).toNatClampNeg (-1 : Int64)) (1 : Int32).toNatClampNeg (-1 : Int64)) (2 : Int32).toNatClampNeg (-1 : Int64)) (3 : Int32).toNatClampNeg (-1 : Int64)) v6.toNatClampNeg (0 : Int64)) v18.toNatClampNeg (-1 : Int64)) v30.toNatClampNeg (-1 : Int64)) v12.toNatClampNeg (1 : Int64)) v25.toNatClampNeg (2 : Int64)) v6.toNatClampNeg))])) _
      refine XS.lstore X234.here hx rfl (hb hby at_88) rfl (l' := #[.val (.int p1), .val (.int p2), .val (.int v6), .val (.int v12), .val (.int v18), .val (.int v25), .val (.int v30), .val (.ref b224), .val (.long v71), .second, .val (.long v80), .second, .val (.long ((upd (upd (upd (upd (upd (upd (upd (upd (upd (fun _ => 0) (0 : Int32).toNatClampNeg (-1 : Int64)) (1 : Int32).toNatClampNeg (-1 : Int64)) (2 : Int32).toNatClampNeg (-1 : Int64)) (3 : Int32).toNatClampNeg (-1 : Int64)) v6.toNatClampNeg (0 : Int64)) v18.toNatClampNeg (-1 : Int64)) v30.toNatClampNeg (-1 : Int64)) v12.toNatClampNeg (1 : Int64)) v25.toNatClampNeg (2 : Int64)) v6.toNatClampNeg)), .second, .unset, .unset, .unset, .unset, .unset, .unset, .unset, .unset]) rfl ?_
      rw [hv88] at k
      exact k)
    obtain ⟨cq236, kq236, q236a, q236b, q236c⟩ := isOf hZ e234 E_b224
    obtain ⟨_, _, ⟨T236, L236, k236, n236⟩, -, X236, ⟨Lc236, hQ236, l236, y236, z236⟩, st236⟩ := X234.virtualBack hx (y := (⟨"com/example/wachter/wachter/sim/QueueOrder", "granted", "(I)J"⟩ : MethodName)) (z := (⟨"com/example/wachter/wachter/sim/QueueOrder", "granted", "(I)J"⟩ : MethodName)) hown (mvT hZ (hw _ (List.mem_of_getElem? (i := 120) rfl))) (mvT hZ (hw _ (List.mem_of_getElem? (i := 121) rfl))) (notFace_of_selects (args := #[]) (mvT hZ (hw _ (List.mem_of_getElem? (i := 123) rfl)))) (mvT hZ (hw _ (List.mem_of_getElem? (i := 123) rfl))) (mvT hZ (hw _ (List.mem_of_getElem? (i := 122) rfl))) (by decide) (backOf (W := 0) (rmG0 l Z a0 hw [] b224 v18 ra_225 ja_225 bl_225 bd_225 kb_225 (upd (upd (upd (upd (fun _ => .null) (0 : Int32).toNatClampNeg (.ref l0_225)) (1 : Int32).toNatClampNeg (.ref l1_225)) (2 : Int32).toNatClampNeg (.ref l2_225)) (3 : Int32).toNatClampNeg (.ref l3_225)) (4 : Int32) (3 : Int64) (upd (upd (upd (upd (upd (upd (upd (upd (upd (fun _ => 0) (0 : Int32).toNatClampNeg (-1 : Int64)) (1 : Int32).toNatClampNeg (-1 : Int64)) (2 : Int32).toNatClampNeg (-1 : Int64)) (3 : Int32).toNatClampNeg (-1 : Int64)) v6.toNatClampNeg (0 : Int64)) v18.toNatClampNeg (-1 : Int64)) v30.toNatClampNeg (-1 : Int64)) v12.toNatClampNeg (1 : Int64)) v25.toNatClampNeg (2 : Int64)) lv dd (0 : Int32) T232.heap n0 Zs E_b224 F_requests_b224 F_joinedAs_b224 F_behind_b224 F_joined_b224 A_ja_225 g_b224 g_ja_225 g_lv E_bl_225 F_elementData_bl_225 F_size_bl_225 F_modCount_bl_225 A_bd_225 E_lv F_elementData_lv F_size_lv F_modCount_lv ne_b224_ja_225 ne_b224_bl_225 ne_b224_bd_225 (Ne.symm ne_lv_b224) ne_ja_225_bl_225 ne_ja_225_bd_225 (Ne.symm ne_lv_ja_225) ne_bl_225_bd_225 (Ne.symm ne_lv_bl_225) (Ne.symm ne_lv_bd_225) iv hB_lv (by rcases hc4 with ⟨e1, e2, e3, e4⟩ | ⟨e1, e2, e3, e4⟩ | ⟨e1, e2, e3, e4⟩ | ⟨e1, e2, e3, e4⟩ <;> rcases im4 with e5 | e5 | e5 | e5 <;> (try simp only [e1, e2, e3, e4, e5] at hmv ⊢) <;> first | decide | (revert hmv; decide))) hZ (hw _ (List.mem_of_getElem? (i := 124) rfl)) (hw _ (List.mem_of_getElem? (i := 3) rfl)) (by decide) (by decide)) q236a q236c (g := (mkF m 94 #[.val (.int p1), .val (.int p2), .val (.int v6), .val (.int v12), .val (.int v18), .val (.int v25), .val (.int v30), .val (.ref b224), .val (.long v71), .second, .val (.long v80), .second, .val (.long v88), .second, .unset, .unset, .unset, .unset, .unset, .unset, .unset, .unset] [(.int v18), (.ref b224)])) rfl (by rw [hml]; rfl) (Steps.refl _) (argsL := [(.int v18)]) (rest := []) (lenOf pd_15 rfl) rfl (by show 2 * 0 + _ ≤ _; exact Nat.le_of_eq rfl) (hb hby at_94) (fun _ _ => ⟨rfl, e234, (by decide : 13 + 1 ≤ _), (by decide : 51 + 4 ≤ _)⟩)
    dsimp only [Pt.U, Pt.locs, Pt.cells, Pt.slots] at X236 l236 y236 z236 st236 hQ236
    subst l236 y236 z236
    obtain ⟨rfl, N236q, K236, P236_1, P236_2, P236_3, P236_4, P236_5, P236_6, P236_7, P236_8⟩ := hQ236
    have Zs : n0 ≤ T236.heap.size := Nat.le_trans Zs K236.1
    have Ol : Old Z n0 T236.heap := Ol.keep K236 (allS g_b224 (allS g_ja_225 (allS g_lv all0)))
    have E_b224 : Exa Z T236.heap b224 "com/example/wachter/wachter/sim/QueueOrder" := E_b224.keep K236
    have E_bl_225 : Exa Z T236.heap bl_225 "java/util/ArrayList" := E_bl_225.keep K236
    have F_elementData_bl_225 : Fld Z T236.heap bl_225 "java/util/ArrayList" "elementData" "[Ljava/lang/Object;" (.ref bd_225) := F_elementData_bl_225.keep K236 (ninS (Ne.symm ne_b224_bl_225) (ninS (Ne.symm ne_ja_225_bl_225) (ninS (Ne.symm ne_lv_bl_225) nin0)))
    have F_size_bl_225 : Fld Z T236.heap bl_225 "java/util/ArrayList" "size" "I" (.int (4 : Int32)) := F_size_bl_225.keep K236 (ninS (Ne.symm ne_b224_bl_225) (ninS (Ne.symm ne_ja_225_bl_225) (ninS (Ne.symm ne_lv_bl_225) nin0)))
    have F_modCount_bl_225 : Fld Z T236.heap bl_225 "java/util/AbstractList" "modCount" "I" (.int (4 : Int32)) := F_modCount_bl_225.keep K236 (ninS (Ne.symm ne_b224_bl_225) (ninS (Ne.symm ne_ja_225_bl_225) (ninS (Ne.symm ne_lv_bl_225) nin0)))
    have A_bd_225 : ArR Z T236.heap bd_225 kb_225 "java/lang/Object" (4 : Int32) (upd (upd (upd (upd (fun _ => .null) (0 : Int32).toNatClampNeg (.ref l0_225)) (1 : Int32).toNatClampNeg (.ref l1_225)) (2 : Int32).toNatClampNeg (.ref l2_225)) (3 : Int32).toNatClampNeg (.ref l3_225)) := A_bd_225.keep K236 (ninS (Ne.symm ne_b224_bd_225) (ninS (Ne.symm ne_ja_225_bd_225) (ninS (Ne.symm ne_lv_bd_225) nin0)))
    have E_lh : Exa Z T236.heap lh "java/util/ArrayList" := E_lh.keep K236
    have F_elementData_lh : Fld Z T236.heap lh "java/util/ArrayList" "elementData" "[Ljava/lang/Object;" (.ref dd) := F_elementData_lh.keep K236 (ninS ne_lh_b224 (ninS ne_lh_ja_225 (ninS ne_lh_lv nin0)))
    have F_size_lh : Fld Z T236.heap lh "java/util/ArrayList" "size" "I" (.int (0 : Int32)) := F_size_lh.keep K236 (ninS ne_lh_b224 (ninS ne_lh_ja_225 (ninS ne_lh_lv nin0)))
    have F_modCount_lh : Fld Z T236.heap lh "java/util/AbstractList" "modCount" "I" (.int (0 : Int32)) := F_modCount_lh.keep K236 (ninS ne_lh_b224 (ninS ne_lh_ja_225 (ninS ne_lh_lv nin0)))
    have E_lu : Exa Z T236.heap lu "java/util/ArrayList" := E_lu.keep K236
    have E_lv : Exa Z T236.heap lv "java/util/ArrayList" := E_lv.keep K236
    have E_lw : Exa Z T236.heap lw "java/util/ArrayList" := E_lw.keep K236
    have E_wt_227 : Exa Z T236.heap wt_227 "[I" := E_wt_227.keep K236
    have A_wt_227 : ArI Z T236.heap wt_227 (2 : Int32) (upd (upd (fun _ => 0) (0 : Int32).toNatClampNeg v18) (1 : Int32).toNatClampNeg ((upd (fun _ => 0) v18.toNatClampNeg (((fun _ => 0) v18.toNatClampNeg) + (1 : Int32))) v18.toNatClampNeg)) := A_wt_227.keep K236 (ninS (Ne.symm ne_b224_wt_227) (ninS (Ne.symm ne_ja_225_wt_227) (ninS (Ne.symm ne_lv_wt_227) nin0)))
    have A_ra_225 : ArI Z T236.heap ra_225 (4 : Int32) (upd (upd (fun _ => 0) v18.toNatClampNeg (((fun _ => 0) v18.toNatClampNeg) + (1 : Int32))) v30.toNatClampNeg (((upd (fun _ => 0) v18.toNatClampNeg (((fun _ => 0) v18.toNatClampNeg) + (1 : Int32))) v30.toNatClampNeg) + (1 : Int32))) := A_ra_225.keep K236 (ninS (Ne.symm ne_b224_ra_225) (ninS ne_ra_225_ja_225 (ninS (Ne.symm ne_lv_ra_225) nin0)))
    have F_elementData_lu : Fld Z T236.heap lu "java/util/ArrayList" "elementData" "[Ljava/lang/Object;" (.ref eb_227) := F_elementData_lu.keep K236 (ninS ne_lu_b224 (ninS ne_lu_ja_225 (ninS ne_lu_lv nin0)))
    have F_size_lu : Fld Z T236.heap lu "java/util/ArrayList" "size" "I" (.int (0 : Int32)) := F_size_lu.keep K236 (ninS ne_lu_b224 (ninS ne_lu_ja_225 (ninS ne_lu_lv nin0)))
    have F_modCount_lu : Fld Z T236.heap lu "java/util/AbstractList" "modCount" "I" (.int (2 : Int32)) := F_modCount_lu.keep K236 (ninS ne_lu_b224 (ninS ne_lu_ja_225 (ninS ne_lu_lv nin0)))
    have A_eb_227 : ArR Z T236.heap eb_227 ke_227 "java/lang/Object" (10 : Int32) (upd (upd (fun _ => .null) (0 : Int32).toNatClampNeg (.ref wt_227)) (0 : Int32).toNatClampNeg .null) := A_eb_227.keep K236 (ninS (Ne.symm ne_b224_eb_227) (ninS (Ne.symm ne_ja_225_eb_227) (ninS (Ne.symm ne_lv_eb_227) nin0)))
    have F_elementData_lw : Fld Z T236.heap lw "java/util/ArrayList" "elementData" "[Ljava/lang/Object;" (.ref dd) := F_elementData_lw.keep K236 (ninS ne_lw_b224 (ninS ne_lw_ja_225 (ninS (Ne.symm ne_lv_lw) nin0)))
    have F_size_lw : Fld Z T236.heap lw "java/util/ArrayList" "size" "I" (.int (0 : Int32)) := F_size_lw.keep K236 (ninS ne_lw_b224 (ninS ne_lw_ja_225 (ninS (Ne.symm ne_lv_lw) nin0)))
    have F_modCount_lw : Fld Z T236.heap lw "java/util/AbstractList" "modCount" "I" (.int (1 : Int32)) := F_modCount_lw.keep K236 (ninS ne_lw_b224 (ninS ne_lw_ja_225 (ninS (Ne.symm ne_lv_lw) nin0)))
    have F_requests_b224 : Fld Z T236.heap b224 "com/example/wachter/wachter/sim/QueueOrder" "requests" "[I" (.ref ra_225) := P236_1
    have F_joinedAs_b224 : Fld Z T236.heap b224 "com/example/wachter/wachter/sim/QueueOrder" "joinedAs" "[J" (.ref ja_225) := P236_2
    have F_behind_b224 : Fld Z T236.heap b224 "com/example/wachter/wachter/sim/QueueOrder" "behind" "Ljava/util/List;" (.ref bl_225) := P236_3
    have F_joined_b224 : Fld Z T236.heap b224 "com/example/wachter/wachter/sim/QueueOrder" "joined" "J" (.long (4 : Int64)) := P236_4
    have A_ja_225 : ArJ Z T236.heap ja_225 (4 : Int32) (upd (upd (upd (upd (upd (upd (upd (upd (upd (upd (fun _ => 0) (0 : Int32).toNatClampNeg (-1 : Int64)) (1 : Int32).toNatClampNeg (-1 : Int64)) (2 : Int32).toNatClampNeg (-1 : Int64)) (3 : Int32).toNatClampNeg (-1 : Int64)) v6.toNatClampNeg (0 : Int64)) v18.toNatClampNeg (-1 : Int64)) v30.toNatClampNeg (-1 : Int64)) v12.toNatClampNeg (1 : Int64)) v25.toNatClampNeg (2 : Int64)) v18.toNatClampNeg (3 : Int64)) := P236_5
    have F_elementData_lv : Fld Z T236.heap lv "java/util/ArrayList" "elementData" "[Ljava/lang/Object;" (.ref dd) := P236_6
    have F_size_lv : Fld Z T236.heap lv "java/util/ArrayList" "size" "I" (.int (0 : Int32)) := P236_7
    have F_modCount_lv : Fld Z T236.heap lv "java/util/AbstractList" "modCount" "I" (.int (1 : Int32)) := P236_8
    have N236 := Fr.app N234 N236q
    obtain ⟨v97, hv97⟩ : ∃ z : Int64, z = ((upd (upd (upd (upd (upd (upd (upd (upd (upd (upd (fun _ => 0) (0 : Int32).toNatClampNeg (-1 : Int64)) (1 : Int32).toNatClampNeg (-1 : Int64)) (2 : Int32).toNatClampNeg (-1 : Int64)) (3 : Int32).toNatClampNeg (-1 : Int64)) v6.toNatClampNeg (0 : Int64)) v18.toNatClampNeg (-1 : Int64)) v30.toNatClampNeg (-1 : Int64)) v12.toNatClampNeg (1 : Int64)) v25.toNatClampNeg (2 : Int64)) v18.toNatClampNeg (3 : Int64)) v18.toNatClampNeg) := ⟨_, rfl⟩
    have pre237 : ∀ t, Steps p.tables e below (T236.setTop (mkF m 99 #[.val (.int p1), .val (.int p2), .val (.int v6), .val (.int v12), .val (.int v18), .val (.int v25), .val (.int v30), .val (.ref b224), .val (.long v71), .second, .val (.long v80), .second, .val (.long v88), .second, .val (.long v97), .second, .unset, .unset, .unset, .unset, .unset, .unset] [])) t → Steps p.tables e below (s₁.setTop (entryFrame m #[(.int p1), (.int p2)] maxLocals)) t := fun t k => pre235 t (by
      show Steps p.tables e below (T234.setTop (mkF m 90 #[.val (.int p1), .val (.int p2), .val (.int v6), .val (.int v12), .val (.int v18), .val (.int v25), .val (.int v30), .val (.ref b224), .val (.long v71), .second, .val (.long v80), .second, .val (.long v88), .second, .unset, .unset, .unset, .unset, .unset, .unset, .unset, .unset] [])) _
      refine XS.aload X234.here hx rfl (hb hby at_90) rfl rfl ?_
      show Steps p.tables e below (T234.setTop (mkF m 92 #[.val (.int p1), .val (.int p2), .val (.int v6), .val (.int v12), .val (.int v18), .val (.int v25), .val (.int v30), .val (.ref b224), .val (.long v71), .second, .val (.long v80), .second, .val (.long v88), .second, .unset, .unset, .unset, .unset, .unset, .unset, .unset, .unset] [(.ref b224)])) _
      refine XS.iload X234.here hx rfl (hb hby at_92) rfl ?_
      show Steps p.tables e below (T234.setTop (mkF m 94 #[.val (.int p1), .val (.int p2), .val (.int v6), .val (.int v12), .val (.int v18), .val (.int v25), .val (.int v30), .val (.ref b224), .val (.long v71), .second, .val (.long v80), .second, .val (.long v88), .second, .unset, .unset, .unset, .unset, .unset, .unset, .unset, .unset] [(.int v18), (.ref b224)])) _
      refine st236.trans ?_
      show Steps p.tables e below (T236.setTop (mkF m 97 #[.val (.int p1), .val (.int p2), .val (.int v6), .val (.int v12), .val (.int v18), .val (.int v25), .val (.int v30), .val (.ref b224), .val (.long v71), .second, .val (.long v80), .second, .val (.long v88), .second, .unset, .unset, .unset, .unset, .unset, .unset, .unset, .unset] [(.long ((upd (upd (upd (upd (upd (upd (upd (upd (upd (upd (fun _ => 0) (0 : Int32).toNatClampNeg (-1 : Int64)) (1 : Int32).toNatClampNeg (-1 : Int64)) (2 : Int32).toNatClampNeg (-1 : Int64)) (3 : Int32).toNatClampNeg (-1 : Int64)) v6.toNatClampNeg (0 : Int64)) v18.toNatClampNeg (-1 : Int64)) v30.toNatClampNeg (-1 : Int64)) v12.toNatClampNeg (1 : Int64)) v25.toNatClampNeg (2 : Int64)) v18.toNatClampNeg (3 : Int64)) v18.toNatClampNeg))])) _
      refine XS.lstore X236.here hx rfl (hb hby at_97) rfl (l' := #[.val (.int p1), .val (.int p2), .val (.int v6), .val (.int v12), .val (.int v18), .val (.int v25), .val (.int v30), .val (.ref b224), .val (.long v71), .second, .val (.long v80), .second, .val (.long v88), .second, .val (.long ((upd (upd (upd (upd (upd (upd (upd (upd (upd (upd (fun _ => 0) (0 : Int32).toNatClampNeg (-1 : Int64)) (1 : Int32).toNatClampNeg (-1 : Int64)) (2 : Int32).toNatClampNeg (-1 : Int64)) (3 : Int32).toNatClampNeg (-1 : Int64)) v6.toNatClampNeg (0 : Int64)) v18.toNatClampNeg (-1 : Int64)) v30.toNatClampNeg (-1 : Int64)) v12.toNatClampNeg (1 : Int64)) v25.toNatClampNeg (2 : Int64)) v18.toNatClampNeg (3 : Int64)) v18.toNatClampNeg)), .second, .unset, .unset, .unset, .unset, .unset, .unset]) rfl ?_
      rw [hv97] at k
      exact k)
    have pre238 : ∀ t, Steps p.tables e below (T236.setTop (mkF m 151 #[.val (.int p1), .val (.int p2), .val (.int v6), .val (.int v12), .val (.int v18), .val (.int v25), .val (.int v30), .val (.ref b224), .val (.long v71), .second, .val (.long v80), .second, .val (.long v88), .second, .val (.long v97), .second, .val (.long (2 : Int64)), .second, .val (.long (0 : Int64)), .second, .val (.long (3 : Int64)), .second] [(.int (lcmpW v71 (1 : Int64)))])) t → Steps p.tables e below (s₁.setTop (entryFrame m #[(.int p1), (.int p2)] maxLocals)) t := fun t k => pre237 t (by
      show Steps p.tables e below (T236.setTop (mkF m 99 #[.val (.int p1), .val (.int p2), .val (.int v6), .val (.int v12), .val (.int v18), .val (.int v25), .val (.int v30), .val (.ref b224), .val (.long v71), .second, .val (.long v80), .second, .val (.long v88), .second, .val (.long v97), .second, .unset, .unset, .unset, .unset, .unset, .unset] [])) _
      refine XS.iload X236.here hx rfl (hb hby at_99) rfl ?_
      show Steps p.tables e below (T236.setTop (mkF m 101 #[.val (.int p1), .val (.int p2), .val (.int v6), .val (.int v12), .val (.int v18), .val (.int v25), .val (.int v30), .val (.ref b224), .val (.long v71), .second, .val (.long v80), .second, .val (.long v88), .second, .val (.long v97), .second, .unset, .unset, .unset, .unset, .unset, .unset] [(.int v30)])) _
      refine XS.iload X236.here hx rfl (hb hby at_101) rfl ?_
      show Steps p.tables e below (T236.setTop (mkF m 103 #[.val (.int p1), .val (.int p2), .val (.int v6), .val (.int v12), .val (.int v18), .val (.int v25), .val (.int v30), .val (.ref b224), .val (.long v71), .second, .val (.long v80), .second, .val (.long v88), .second, .val (.long v97), .second, .unset, .unset, .unset, .unset, .unset, .unset] [(.int v18), (.int v30)])) _
      refine XS.icmpNo X236.here hx rfl (hb hby at_103) rfl (teq hmv).2 ?_
      show Steps p.tables e below (T236.setTop (mkF m 106 #[.val (.int p1), .val (.int p2), .val (.int v6), .val (.int v12), .val (.int v18), .val (.int v25), .val (.int v30), .val (.ref b224), .val (.long v71), .second, .val (.long v80), .second, .val (.long v88), .second, .val (.long v97), .second, .unset, .unset, .unset, .unset, .unset, .unset] [])) _
      refine X236.ldc2Long hx hown (mvT hZ (hw _ (List.mem_of_getElem? (i := 189) rfl))) (g := (mkF m 106 #[.val (.int p1), .val (.int p2), .val (.int v6), .val (.int v12), .val (.int v18), .val (.int v25), .val (.int v30), .val (.ref b224), .val (.long v71), .second, .val (.long v80), .second, .val (.long v88), .second, .val (.long v97), .second, .unset, .unset, .unset, .unset, .unset, .unset] [])) rfl (hb hby at_106) _ ?_
      show Steps p.tables e below (T236.setTop (mkF m 109 #[.val (.int p1), .val (.int p2), .val (.int v6), .val (.int v12), .val (.int v18), .val (.int v25), .val (.int v30), .val (.ref b224), .val (.long v71), .second, .val (.long v80), .second, .val (.long v88), .second, .val (.long v97), .second, .unset, .unset, .unset, .unset, .unset, .unset] [(.long (2 : Int64))])) _
      refine XS.lstore X236.here hx rfl (hb hby at_109) rfl (l' := #[.val (.int p1), .val (.int p2), .val (.int v6), .val (.int v12), .val (.int v18), .val (.int v25), .val (.int v30), .val (.ref b224), .val (.long v71), .second, .val (.long v80), .second, .val (.long v88), .second, .val (.long v97), .second, .val (.long (2 : Int64)), .second, .unset, .unset, .unset, .unset]) rfl ?_
      show Steps p.tables e below (T236.setTop (mkF m 111 #[.val (.int p1), .val (.int p2), .val (.int v6), .val (.int v12), .val (.int v18), .val (.int v25), .val (.int v30), .val (.ref b224), .val (.long v71), .second, .val (.long v80), .second, .val (.long v88), .second, .val (.long v97), .second, .val (.long (2 : Int64)), .second, .unset, .unset, .unset, .unset] [])) _
      refine XS.lconst X236.here hx rfl (hb hby at_111) ?_
      show Steps p.tables e below (T236.setTop (mkF m 112 #[.val (.int p1), .val (.int p2), .val (.int v6), .val (.int v12), .val (.int v18), .val (.int v25), .val (.int v30), .val (.ref b224), .val (.long v71), .second, .val (.long v80), .second, .val (.long v88), .second, .val (.long v97), .second, .val (.long (2 : Int64)), .second, .unset, .unset, .unset, .unset] [(.long (0 : Int64))])) _
      refine XS.lstore X236.here hx rfl (hb hby at_112) rfl (l' := #[.val (.int p1), .val (.int p2), .val (.int v6), .val (.int v12), .val (.int v18), .val (.int v25), .val (.int v30), .val (.ref b224), .val (.long v71), .second, .val (.long v80), .second, .val (.long v88), .second, .val (.long v97), .second, .val (.long (2 : Int64)), .second, .val (.long (0 : Int64)), .second, .unset, .unset]) rfl ?_
      show Steps p.tables e below (T236.setTop (mkF m 114 #[.val (.int p1), .val (.int p2), .val (.int v6), .val (.int v12), .val (.int v18), .val (.int v25), .val (.int v30), .val (.ref b224), .val (.long v71), .second, .val (.long v80), .second, .val (.long v88), .second, .val (.long v97), .second, .val (.long (2 : Int64)), .second, .val (.long (0 : Int64)), .second, .unset, .unset] [])) _
      refine X236.ldc2Long hx hown (mvT hZ (hw _ (List.mem_of_getElem? (i := 188) rfl))) (g := (mkF m 114 #[.val (.int p1), .val (.int p2), .val (.int v6), .val (.int v12), .val (.int v18), .val (.int v25), .val (.int v30), .val (.ref b224), .val (.long v71), .second, .val (.long v80), .second, .val (.long v88), .second, .val (.long v97), .second, .val (.long (2 : Int64)), .second, .val (.long (0 : Int64)), .second, .unset, .unset] [])) rfl (hb hby at_114) _ ?_
      show Steps p.tables e below (T236.setTop (mkF m 117 #[.val (.int p1), .val (.int p2), .val (.int v6), .val (.int v12), .val (.int v18), .val (.int v25), .val (.int v30), .val (.ref b224), .val (.long v71), .second, .val (.long v80), .second, .val (.long v88), .second, .val (.long v97), .second, .val (.long (2 : Int64)), .second, .val (.long (0 : Int64)), .second, .unset, .unset] [(.long (3 : Int64))])) _
      refine XS.lstore X236.here hx rfl (hb hby at_117) rfl (l' := #[.val (.int p1), .val (.int p2), .val (.int v6), .val (.int v12), .val (.int v18), .val (.int v25), .val (.int v30), .val (.ref b224), .val (.long v71), .second, .val (.long v80), .second, .val (.long v88), .second, .val (.long v97), .second, .val (.long (2 : Int64)), .second, .val (.long (0 : Int64)), .second, .val (.long (3 : Int64)), .second]) rfl ?_
      show Steps p.tables e below (T236.setTop (mkF m 119 #[.val (.int p1), .val (.int p2), .val (.int v6), .val (.int v12), .val (.int v18), .val (.int v25), .val (.int v30), .val (.ref b224), .val (.long v71), .second, .val (.long v80), .second, .val (.long v88), .second, .val (.long v97), .second, .val (.long (2 : Int64)), .second, .val (.long (0 : Int64)), .second, .val (.long (3 : Int64)), .second] [])) _
      refine XS.goto X236.here hx rfl (pc0 := 119) (pc' := 147) rfl (hb hby at_119) (by decide) (by decide) ?_
      show Steps p.tables e below (T236.setTop (mkF m 147 #[.val (.int p1), .val (.int p2), .val (.int v6), .val (.int v12), .val (.int v18), .val (.int v25), .val (.int v30), .val (.ref b224), .val (.long v71), .second, .val (.long v80), .second, .val (.long v88), .second, .val (.long v97), .second, .val (.long (2 : Int64)), .second, .val (.long (0 : Int64)), .second, .val (.long (3 : Int64)), .second] [])) _
      refine XS.lload X236.here hx rfl (hb hby at_147) rfl ?_
      show Steps p.tables e below (T236.setTop (mkF m 149 #[.val (.int p1), .val (.int p2), .val (.int v6), .val (.int v12), .val (.int v18), .val (.int v25), .val (.int v30), .val (.ref b224), .val (.long v71), .second, .val (.long v80), .second, .val (.long v88), .second, .val (.long v97), .second, .val (.long (2 : Int64)), .second, .val (.long (0 : Int64)), .second, .val (.long (3 : Int64)), .second] [(.long v71)])) _
      refine XS.lconst X236.here hx rfl (hb hby at_149) ?_
      show Steps p.tables e below (T236.setTop (mkF m 150 #[.val (.int p1), .val (.int p2), .val (.int v6), .val (.int v12), .val (.int v18), .val (.int v25), .val (.int v30), .val (.ref b224), .val (.long v71), .second, .val (.long v80), .second, .val (.long v88), .second, .val (.long v97), .second, .val (.long (2 : Int64)), .second, .val (.long (0 : Int64)), .second, .val (.long (3 : Int64)), .second] [(.long (1 : Int64)), (.long v71)])) _
      refine XS.lcmp X236.here hx rfl (hb hby at_150) rfl ?_
      exact k)
    obtain ⟨z183_s0, hz183_s0⟩ : ∃ z : Int32, z = (if v71 = (1 : Int64) then (if v80 = (2 : Int64) then (if v88 = (0 : Int64) then (if v97 = (3 : Int64) then (1 : Int32) else (0 : Int32)) else (0 : Int32)) else (0 : Int32)) else (0 : Int32)) := ⟨_, rfl⟩
    obtain ⟨T247, Lc247, X247, e247, N247, pre247⟩ : ∃ (T' : State) (locs' : List Loc), Stand p l e room_1 s m #[(.int p1), (.int p2)] below meth c T' locs' 14 55 ∧ T'.heap = T236.heap ∧ Fr n0 locs' ∧ ∀ t, Steps p.tables e below (T'.setTop (mkF m 183 #[.val (.int p1), .val (.int p2), .val (.int v6), .val (.int v12), .val (.int v18), .val (.int v25), .val (.int v30), .val (.ref b224), .val (.long v71), .second, .val (.long v80), .second, .val (.long v88), .second, .val (.long v97), .second, .val (.long (2 : Int64)), .second, .val (.long (0 : Int64)), .second, .val (.long (3 : Int64)), .second] [(.int z183_s0)])) t → Steps p.tables e below (s₁.setTop (entryFrame m #[(.int p1), (.int p2)] maxLocals)) t := by
      by_cases hc151 : v71 = (1 : Int64)
      ·
        have pre239 : ∀ t, Steps p.tables e below (T236.setTop (mkF m 159 #[.val (.int p1), .val (.int p2), .val (.int v6), .val (.int v12), .val (.int v18), .val (.int v25), .val (.int v30), .val (.ref b224), .val (.long v71), .second, .val (.long v80), .second, .val (.long v88), .second, .val (.long v97), .second, .val (.long (2 : Int64)), .second, .val (.long (0 : Int64)), .second, .val (.long (3 : Int64)), .second] [(.int (lcmpW v80 (2 : Int64)))])) t → Steps p.tables e below (s₁.setTop (entryFrame m #[(.int p1), (.int p2)] maxLocals)) t := fun t k => pre238 t (by
          show Steps p.tables e below (T236.setTop (mkF m 151 #[.val (.int p1), .val (.int p2), .val (.int v6), .val (.int v12), .val (.int v18), .val (.int v25), .val (.int v30), .val (.ref b224), .val (.long v71), .second, .val (.long v80), .second, .val (.long v88), .second, .val (.long v97), .second, .val (.long (2 : Int64)), .second, .val (.long (0 : Int64)), .second, .val (.long (3 : Int64)), .second] [(.int (lcmpW v71 (1 : Int64)))])) _
          refine XS.ifNo X236.here hx rfl (hb hby at_151) rfl ((if0 _ _).trans (teq ((lw_eq v71 (1 : Int64)).mpr hc151)).2) ?_
          show Steps p.tables e below (T236.setTop (mkF m 154 #[.val (.int p1), .val (.int p2), .val (.int v6), .val (.int v12), .val (.int v18), .val (.int v25), .val (.int v30), .val (.ref b224), .val (.long v71), .second, .val (.long v80), .second, .val (.long v88), .second, .val (.long v97), .second, .val (.long (2 : Int64)), .second, .val (.long (0 : Int64)), .second, .val (.long (3 : Int64)), .second] [])) _
          refine XS.lload X236.here hx rfl (hb hby at_154) rfl ?_
          show Steps p.tables e below (T236.setTop (mkF m 156 #[.val (.int p1), .val (.int p2), .val (.int v6), .val (.int v12), .val (.int v18), .val (.int v25), .val (.int v30), .val (.ref b224), .val (.long v71), .second, .val (.long v80), .second, .val (.long v88), .second, .val (.long v97), .second, .val (.long (2 : Int64)), .second, .val (.long (0 : Int64)), .second, .val (.long (3 : Int64)), .second] [(.long v80)])) _
          refine XS.lload X236.here hx rfl (hb hby at_156) rfl ?_
          show Steps p.tables e below (T236.setTop (mkF m 158 #[.val (.int p1), .val (.int p2), .val (.int v6), .val (.int v12), .val (.int v18), .val (.int v25), .val (.int v30), .val (.ref b224), .val (.long v71), .second, .val (.long v80), .second, .val (.long v88), .second, .val (.long v97), .second, .val (.long (2 : Int64)), .second, .val (.long (0 : Int64)), .second, .val (.long (3 : Int64)), .second] [(.long (2 : Int64)), (.long v80)])) _
          refine XS.lcmp X236.here hx rfl (hb hby at_158) rfl ?_
          exact k)
        by_cases hc159 : v80 = (2 : Int64)
        ·
          have pre240 : ∀ t, Steps p.tables e below (T236.setTop (mkF m 167 #[.val (.int p1), .val (.int p2), .val (.int v6), .val (.int v12), .val (.int v18), .val (.int v25), .val (.int v30), .val (.ref b224), .val (.long v71), .second, .val (.long v80), .second, .val (.long v88), .second, .val (.long v97), .second, .val (.long (2 : Int64)), .second, .val (.long (0 : Int64)), .second, .val (.long (3 : Int64)), .second] [(.int (lcmpW v88 (0 : Int64)))])) t → Steps p.tables e below (s₁.setTop (entryFrame m #[(.int p1), (.int p2)] maxLocals)) t := fun t k => pre239 t (by
            show Steps p.tables e below (T236.setTop (mkF m 159 #[.val (.int p1), .val (.int p2), .val (.int v6), .val (.int v12), .val (.int v18), .val (.int v25), .val (.int v30), .val (.ref b224), .val (.long v71), .second, .val (.long v80), .second, .val (.long v88), .second, .val (.long v97), .second, .val (.long (2 : Int64)), .second, .val (.long (0 : Int64)), .second, .val (.long (3 : Int64)), .second] [(.int (lcmpW v80 (2 : Int64)))])) _
            refine XS.ifNo X236.here hx rfl (hb hby at_159) rfl ((if0 _ _).trans (teq ((lw_eq v80 (2 : Int64)).mpr hc159)).2) ?_
            show Steps p.tables e below (T236.setTop (mkF m 162 #[.val (.int p1), .val (.int p2), .val (.int v6), .val (.int v12), .val (.int v18), .val (.int v25), .val (.int v30), .val (.ref b224), .val (.long v71), .second, .val (.long v80), .second, .val (.long v88), .second, .val (.long v97), .second, .val (.long (2 : Int64)), .second, .val (.long (0 : Int64)), .second, .val (.long (3 : Int64)), .second] [])) _
            refine XS.lload X236.here hx rfl (hb hby at_162) rfl ?_
            show Steps p.tables e below (T236.setTop (mkF m 164 #[.val (.int p1), .val (.int p2), .val (.int v6), .val (.int v12), .val (.int v18), .val (.int v25), .val (.int v30), .val (.ref b224), .val (.long v71), .second, .val (.long v80), .second, .val (.long v88), .second, .val (.long v97), .second, .val (.long (2 : Int64)), .second, .val (.long (0 : Int64)), .second, .val (.long (3 : Int64)), .second] [(.long v88)])) _
            refine XS.lload X236.here hx rfl (hb hby at_164) rfl ?_
            show Steps p.tables e below (T236.setTop (mkF m 166 #[.val (.int p1), .val (.int p2), .val (.int v6), .val (.int v12), .val (.int v18), .val (.int v25), .val (.int v30), .val (.ref b224), .val (.long v71), .second, .val (.long v80), .second, .val (.long v88), .second, .val (.long v97), .second, .val (.long (2 : Int64)), .second, .val (.long (0 : Int64)), .second, .val (.long (3 : Int64)), .second] [(.long (0 : Int64)), (.long v88)])) _
            refine XS.lcmp X236.here hx rfl (hb hby at_166) rfl ?_
            exact k)
          by_cases hc167 : v88 = (0 : Int64)
          ·
            have pre241 : ∀ t, Steps p.tables e below (T236.setTop (mkF m 175 #[.val (.int p1), .val (.int p2), .val (.int v6), .val (.int v12), .val (.int v18), .val (.int v25), .val (.int v30), .val (.ref b224), .val (.long v71), .second, .val (.long v80), .second, .val (.long v88), .second, .val (.long v97), .second, .val (.long (2 : Int64)), .second, .val (.long (0 : Int64)), .second, .val (.long (3 : Int64)), .second] [(.int (lcmpW v97 (3 : Int64)))])) t → Steps p.tables e below (s₁.setTop (entryFrame m #[(.int p1), (.int p2)] maxLocals)) t := fun t k => pre240 t (by
              show Steps p.tables e below (T236.setTop (mkF m 167 #[.val (.int p1), .val (.int p2), .val (.int v6), .val (.int v12), .val (.int v18), .val (.int v25), .val (.int v30), .val (.ref b224), .val (.long v71), .second, .val (.long v80), .second, .val (.long v88), .second, .val (.long v97), .second, .val (.long (2 : Int64)), .second, .val (.long (0 : Int64)), .second, .val (.long (3 : Int64)), .second] [(.int (lcmpW v88 (0 : Int64)))])) _
              refine XS.ifNo X236.here hx rfl (hb hby at_167) rfl ((if0 _ _).trans (teq ((lw_eq v88 (0 : Int64)).mpr hc167)).2) ?_
              show Steps p.tables e below (T236.setTop (mkF m 170 #[.val (.int p1), .val (.int p2), .val (.int v6), .val (.int v12), .val (.int v18), .val (.int v25), .val (.int v30), .val (.ref b224), .val (.long v71), .second, .val (.long v80), .second, .val (.long v88), .second, .val (.long v97), .second, .val (.long (2 : Int64)), .second, .val (.long (0 : Int64)), .second, .val (.long (3 : Int64)), .second] [])) _
              refine XS.lload X236.here hx rfl (hb hby at_170) rfl ?_
              show Steps p.tables e below (T236.setTop (mkF m 172 #[.val (.int p1), .val (.int p2), .val (.int v6), .val (.int v12), .val (.int v18), .val (.int v25), .val (.int v30), .val (.ref b224), .val (.long v71), .second, .val (.long v80), .second, .val (.long v88), .second, .val (.long v97), .second, .val (.long (2 : Int64)), .second, .val (.long (0 : Int64)), .second, .val (.long (3 : Int64)), .second] [(.long v97)])) _
              refine XS.lload X236.here hx rfl (hb hby at_172) rfl ?_
              show Steps p.tables e below (T236.setTop (mkF m 174 #[.val (.int p1), .val (.int p2), .val (.int v6), .val (.int v12), .val (.int v18), .val (.int v25), .val (.int v30), .val (.ref b224), .val (.long v71), .second, .val (.long v80), .second, .val (.long v88), .second, .val (.long v97), .second, .val (.long (2 : Int64)), .second, .val (.long (0 : Int64)), .second, .val (.long (3 : Int64)), .second] [(.long (3 : Int64)), (.long v97)])) _
              refine XS.lcmp X236.here hx rfl (hb hby at_174) rfl ?_
              exact k)
            by_cases hc175 : v97 = (3 : Int64)
            ·
              have pre242 : ∀ t, Steps p.tables e below (T236.setTop (mkF m 183 #[.val (.int p1), .val (.int p2), .val (.int v6), .val (.int v12), .val (.int v18), .val (.int v25), .val (.int v30), .val (.ref b224), .val (.long v71), .second, .val (.long v80), .second, .val (.long v88), .second, .val (.long v97), .second, .val (.long (2 : Int64)), .second, .val (.long (0 : Int64)), .second, .val (.long (3 : Int64)), .second] [(.int (1 : Int32))])) t → Steps p.tables e below (s₁.setTop (entryFrame m #[(.int p1), (.int p2)] maxLocals)) t := fun t k => pre241 t (by
                show Steps p.tables e below (T236.setTop (mkF m 175 #[.val (.int p1), .val (.int p2), .val (.int v6), .val (.int v12), .val (.int v18), .val (.int v25), .val (.int v30), .val (.ref b224), .val (.long v71), .second, .val (.long v80), .second, .val (.long v88), .second, .val (.long v97), .second, .val (.long (2 : Int64)), .second, .val (.long (0 : Int64)), .second, .val (.long (3 : Int64)), .second] [(.int (lcmpW v97 (3 : Int64)))])) _
                refine XS.ifNo X236.here hx rfl (hb hby at_175) rfl ((if0 _ _).trans (teq ((lw_eq v97 (3 : Int64)).mpr hc175)).2) ?_
                show Steps p.tables e below (T236.setTop (mkF m 178 #[.val (.int p1), .val (.int p2), .val (.int v6), .val (.int v12), .val (.int v18), .val (.int v25), .val (.int v30), .val (.ref b224), .val (.long v71), .second, .val (.long v80), .second, .val (.long v88), .second, .val (.long v97), .second, .val (.long (2 : Int64)), .second, .val (.long (0 : Int64)), .second, .val (.long (3 : Int64)), .second] [])) _
                refine XS.iconst X236.here hx rfl (hb hby at_178) ?_
                show Steps p.tables e below (T236.setTop (mkF m 179 #[.val (.int p1), .val (.int p2), .val (.int v6), .val (.int v12), .val (.int v18), .val (.int v25), .val (.int v30), .val (.ref b224), .val (.long v71), .second, .val (.long v80), .second, .val (.long v88), .second, .val (.long v97), .second, .val (.long (2 : Int64)), .second, .val (.long (0 : Int64)), .second, .val (.long (3 : Int64)), .second] [(.int (1 : Int32))])) _
                refine XS.goto X236.here hx rfl (pc0 := 179) (pc' := 183) rfl (hb hby at_179) (by decide) (by decide) ?_
                exact k)
              have q_z183_s0 : z183_s0 = (1 : Int32) := by rw [hz183_s0, if_pos hc151, if_pos hc159, if_pos hc167, if_pos hc175]
              refine ⟨_, _, X236, rfl, N236, fun t k => ?_⟩
              rw [q_z183_s0] at k
              exact pre242 t k
            ·
              have pre243 : ∀ t, Steps p.tables e below (T236.setTop (mkF m 183 #[.val (.int p1), .val (.int p2), .val (.int v6), .val (.int v12), .val (.int v18), .val (.int v25), .val (.int v30), .val (.ref b224), .val (.long v71), .second, .val (.long v80), .second, .val (.long v88), .second, .val (.long v97), .second, .val (.long (2 : Int64)), .second, .val (.long (0 : Int64)), .second, .val (.long (3 : Int64)), .second] [(.int (0 : Int32))])) t → Steps p.tables e below (s₁.setTop (entryFrame m #[(.int p1), (.int p2)] maxLocals)) t := fun t k => pre241 t (by
                show Steps p.tables e below (T236.setTop (mkF m 175 #[.val (.int p1), .val (.int p2), .val (.int v6), .val (.int v12), .val (.int v18), .val (.int v25), .val (.int v30), .val (.ref b224), .val (.long v71), .second, .val (.long v80), .second, .val (.long v88), .second, .val (.long v97), .second, .val (.long (2 : Int64)), .second, .val (.long (0 : Int64)), .second, .val (.long (3 : Int64)), .second] [(.int (lcmpW v97 (3 : Int64)))])) _
                refine XS.ifYes X236.here hx rfl (pc0 := 175) (pc' := 182) rfl (hb hby at_175) rfl ((if0 _ _).trans (feq (fun q => hc175 ((lw_eq v97 (3 : Int64)).mp q))).2) (by decide) (by decide) ?_
                show Steps p.tables e below (T236.setTop (mkF m 182 #[.val (.int p1), .val (.int p2), .val (.int v6), .val (.int v12), .val (.int v18), .val (.int v25), .val (.int v30), .val (.ref b224), .val (.long v71), .second, .val (.long v80), .second, .val (.long v88), .second, .val (.long v97), .second, .val (.long (2 : Int64)), .second, .val (.long (0 : Int64)), .second, .val (.long (3 : Int64)), .second] [])) _
                refine XS.iconst X236.here hx rfl (hb hby at_182) ?_
                exact k)
              have q_z183_s0 : z183_s0 = (0 : Int32) := by rw [hz183_s0, if_pos hc151, if_pos hc159, if_pos hc167, if_neg hc175]
              refine ⟨_, _, X236, rfl, N236, fun t k => ?_⟩
              rw [q_z183_s0] at k
              exact pre243 t k
          ·
            have pre244 : ∀ t, Steps p.tables e below (T236.setTop (mkF m 183 #[.val (.int p1), .val (.int p2), .val (.int v6), .val (.int v12), .val (.int v18), .val (.int v25), .val (.int v30), .val (.ref b224), .val (.long v71), .second, .val (.long v80), .second, .val (.long v88), .second, .val (.long v97), .second, .val (.long (2 : Int64)), .second, .val (.long (0 : Int64)), .second, .val (.long (3 : Int64)), .second] [(.int (0 : Int32))])) t → Steps p.tables e below (s₁.setTop (entryFrame m #[(.int p1), (.int p2)] maxLocals)) t := fun t k => pre240 t (by
              show Steps p.tables e below (T236.setTop (mkF m 167 #[.val (.int p1), .val (.int p2), .val (.int v6), .val (.int v12), .val (.int v18), .val (.int v25), .val (.int v30), .val (.ref b224), .val (.long v71), .second, .val (.long v80), .second, .val (.long v88), .second, .val (.long v97), .second, .val (.long (2 : Int64)), .second, .val (.long (0 : Int64)), .second, .val (.long (3 : Int64)), .second] [(.int (lcmpW v88 (0 : Int64)))])) _
              refine XS.ifYes X236.here hx rfl (pc0 := 167) (pc' := 182) rfl (hb hby at_167) rfl ((if0 _ _).trans (feq (fun q => hc167 ((lw_eq v88 (0 : Int64)).mp q))).2) (by decide) (by decide) ?_
              show Steps p.tables e below (T236.setTop (mkF m 182 #[.val (.int p1), .val (.int p2), .val (.int v6), .val (.int v12), .val (.int v18), .val (.int v25), .val (.int v30), .val (.ref b224), .val (.long v71), .second, .val (.long v80), .second, .val (.long v88), .second, .val (.long v97), .second, .val (.long (2 : Int64)), .second, .val (.long (0 : Int64)), .second, .val (.long (3 : Int64)), .second] [])) _
              refine XS.iconst X236.here hx rfl (hb hby at_182) ?_
              exact k)
            have q_z183_s0 : z183_s0 = (0 : Int32) := by rw [hz183_s0, if_pos hc151, if_pos hc159, if_neg hc167]
            refine ⟨_, _, X236, rfl, N236, fun t k => ?_⟩
            rw [q_z183_s0] at k
            exact pre244 t k
        ·
          have pre245 : ∀ t, Steps p.tables e below (T236.setTop (mkF m 183 #[.val (.int p1), .val (.int p2), .val (.int v6), .val (.int v12), .val (.int v18), .val (.int v25), .val (.int v30), .val (.ref b224), .val (.long v71), .second, .val (.long v80), .second, .val (.long v88), .second, .val (.long v97), .second, .val (.long (2 : Int64)), .second, .val (.long (0 : Int64)), .second, .val (.long (3 : Int64)), .second] [(.int (0 : Int32))])) t → Steps p.tables e below (s₁.setTop (entryFrame m #[(.int p1), (.int p2)] maxLocals)) t := fun t k => pre239 t (by
            show Steps p.tables e below (T236.setTop (mkF m 159 #[.val (.int p1), .val (.int p2), .val (.int v6), .val (.int v12), .val (.int v18), .val (.int v25), .val (.int v30), .val (.ref b224), .val (.long v71), .second, .val (.long v80), .second, .val (.long v88), .second, .val (.long v97), .second, .val (.long (2 : Int64)), .second, .val (.long (0 : Int64)), .second, .val (.long (3 : Int64)), .second] [(.int (lcmpW v80 (2 : Int64)))])) _
            refine XS.ifYes X236.here hx rfl (pc0 := 159) (pc' := 182) rfl (hb hby at_159) rfl ((if0 _ _).trans (feq (fun q => hc159 ((lw_eq v80 (2 : Int64)).mp q))).2) (by decide) (by decide) ?_
            show Steps p.tables e below (T236.setTop (mkF m 182 #[.val (.int p1), .val (.int p2), .val (.int v6), .val (.int v12), .val (.int v18), .val (.int v25), .val (.int v30), .val (.ref b224), .val (.long v71), .second, .val (.long v80), .second, .val (.long v88), .second, .val (.long v97), .second, .val (.long (2 : Int64)), .second, .val (.long (0 : Int64)), .second, .val (.long (3 : Int64)), .second] [])) _
            refine XS.iconst X236.here hx rfl (hb hby at_182) ?_
            exact k)
          have q_z183_s0 : z183_s0 = (0 : Int32) := by rw [hz183_s0, if_pos hc151, if_neg hc159]
          refine ⟨_, _, X236, rfl, N236, fun t k => ?_⟩
          rw [q_z183_s0] at k
          exact pre245 t k
      ·
        have pre246 : ∀ t, Steps p.tables e below (T236.setTop (mkF m 183 #[.val (.int p1), .val (.int p2), .val (.int v6), .val (.int v12), .val (.int v18), .val (.int v25), .val (.int v30), .val (.ref b224), .val (.long v71), .second, .val (.long v80), .second, .val (.long v88), .second, .val (.long v97), .second, .val (.long (2 : Int64)), .second, .val (.long (0 : Int64)), .second, .val (.long (3 : Int64)), .second] [(.int (0 : Int32))])) t → Steps p.tables e below (s₁.setTop (entryFrame m #[(.int p1), (.int p2)] maxLocals)) t := fun t k => pre238 t (by
          show Steps p.tables e below (T236.setTop (mkF m 151 #[.val (.int p1), .val (.int p2), .val (.int v6), .val (.int v12), .val (.int v18), .val (.int v25), .val (.int v30), .val (.ref b224), .val (.long v71), .second, .val (.long v80), .second, .val (.long v88), .second, .val (.long v97), .second, .val (.long (2 : Int64)), .second, .val (.long (0 : Int64)), .second, .val (.long (3 : Int64)), .second] [(.int (lcmpW v71 (1 : Int64)))])) _
          refine XS.ifYes X236.here hx rfl (pc0 := 151) (pc' := 182) rfl (hb hby at_151) rfl ((if0 _ _).trans (feq (fun q => hc151 ((lw_eq v71 (1 : Int64)).mp q))).2) (by decide) (by decide) ?_
          show Steps p.tables e below (T236.setTop (mkF m 182 #[.val (.int p1), .val (.int p2), .val (.int v6), .val (.int v12), .val (.int v18), .val (.int v25), .val (.int v30), .val (.ref b224), .val (.long v71), .second, .val (.long v80), .second, .val (.long v88), .second, .val (.long v97), .second, .val (.long (2 : Int64)), .second, .val (.long (0 : Int64)), .second, .val (.long (3 : Int64)), .second] [])) _
          refine XS.iconst X236.here hx rfl (hb hby at_182) ?_
          exact k)
        have q_z183_s0 : z183_s0 = (0 : Int32) := by rw [hz183_s0, if_neg hc151]
        refine ⟨_, _, X236, rfl, N236, fun t k => ?_⟩
        rw [q_z183_s0] at k
        exact pre246 t k
    have q_v71 : v71 = (1 : Int64) := hv71.trans (by rcases hc4 with ⟨e1, e2, e3, e4⟩ | ⟨e1, e2, e3, e4⟩ | ⟨e1, e2, e3, e4⟩ | ⟨e1, e2, e3, e4⟩ <;> rcases im4 with e5 | e5 | e5 | e5 <;> (try simp only [e1, e2, e3, e4, e5] at hmv ⊢) <;> first | decide | (revert hmv; decide))
    have q_v80 : v80 = (2 : Int64) := hv80.trans (by rcases hc4 with ⟨e1, e2, e3, e4⟩ | ⟨e1, e2, e3, e4⟩ | ⟨e1, e2, e3, e4⟩ | ⟨e1, e2, e3, e4⟩ <;> rcases im4 with e5 | e5 | e5 | e5 <;> (try simp only [e1, e2, e3, e4, e5] at hmv ⊢) <;> first | decide | (revert hmv; decide))
    have q_v88 : v88 = (0 : Int64) := hv88.trans (by rcases hc4 with ⟨e1, e2, e3, e4⟩ | ⟨e1, e2, e3, e4⟩ | ⟨e1, e2, e3, e4⟩ | ⟨e1, e2, e3, e4⟩ <;> rcases im4 with e5 | e5 | e5 | e5 <;> (try simp only [e1, e2, e3, e4, e5] at hmv ⊢) <;> first | decide | (revert hmv; decide))
    have q_v97 : v97 = (3 : Int64) := hv97.trans (by rcases hc4 with ⟨e1, e2, e3, e4⟩ | ⟨e1, e2, e3, e4⟩ | ⟨e1, e2, e3, e4⟩ | ⟨e1, e2, e3, e4⟩ <;> rcases im4 with e5 | e5 | e5 | e5 <;> (try simp only [e1, e2, e3, e4, e5] at hmv ⊢) <;> first | decide | (revert hmv; decide))
    obtain rfl : z183_s0 = (1 : Int32) := by rw [hz183_s0, if_pos q_v71, if_pos q_v80, if_pos q_v88, if_pos q_v97]
    obtain ⟨fs, hr, hrun, hended, hW, hsame⟩ := X247.leave (v := some (.int (1 : Int32))) (fun h => by rw [Bd.returns] at h; cases h)
    refine ⟨_, _, pre247 _ ?_, hrun, hended, _, _, rfl, ?_, ⟨_, rfl⟩, hW, hsame.mono (by decide) (by decide)⟩
    · show Steps p.tables e below (T247.setTop (mkF m 183 #[.val (.int p1), .val (.int p2), .val (.int v6), .val (.int v12), .val (.int v18), .val (.int v25), .val (.int v30), .val (.ref b224), .val (.long v71), .second, .val (.long v80), .second, .val (.long v88), .second, .val (.long v97), .second, .val (.long (2 : Int64)), .second, .val (.long (0 : Int64)), .second, .val (.long (3 : Int64)), .second] [(.int (1 : Int32))])) _
      exact retN X247 hx (t := .boolean) Bd.returns (by simp) (hb hby at_183) hr
    · show Q0 Z p1 p2 dd h0 n0 _ T247.heap _
      rw [e247]
      exact ⟨rfl, N247⟩
  ·
    by_cases hmh : v30 = v6
    ·
      obtain ⟨cq248, kq248, q248a, q248b, q248c⟩ := isOf hZ rfl E_b224
      obtain ⟨_, _, ⟨T248, L248, k248, n248⟩, -, X248, ⟨Lc248, hQ248, l248, y248, z248⟩, st248⟩ := X227.virtualBack hx (y := (⟨"com/example/wachter/wachter/sim/QueueOrder", "asked", "(I)V"⟩ : MethodName)) (z := (⟨"com/example/wachter/wachter/sim/QueueOrder", "asked", "(I)V"⟩ : MethodName)) hown (mvT hZ (hw _ (List.mem_of_getElem? (i := 73) rfl))) (mvT hZ (hw _ (List.mem_of_getElem? (i := 74) rfl))) (notFace_of_selects (args := #[]) (mvT hZ (hw _ (List.mem_of_getElem? (i := 76) rfl)))) (mvT hZ (hw _ (List.mem_of_getElem? (i := 76) rfl))) (mvT hZ (hw _ (List.mem_of_getElem? (i := 75) rfl))) (by decide) (backOf (W := 0) (rmAK l Z a0 hw [] b224 v30 ra_225 ja_225 (upd (fun _ => 0) v18.toNatClampNeg (((fun _ => 0) v18.toNatClampNeg) + (1 : Int32))) (upd (upd (upd (upd (upd (upd (fun _ => 0) (0 : Int32).toNatClampNeg (-1 : Int64)) (1 : Int32).toNatClampNeg (-1 : Int64)) (2 : Int32).toNatClampNeg (-1 : Int64)) (3 : Int32).toNatClampNeg (-1 : Int64)) v6.toNatClampNeg (0 : Int64)) v18.toNatClampNeg (-1 : Int64)) T227.heap n0 Zs F_requests_b224 F_joinedAs_b224 A_ra_225 A_ja_225 g_ra_225 g_ja_225 ne_b224_ra_225 ne_b224_ja_225 ne_ra_225_ja_225 im) hZ (hw _ (List.mem_of_getElem? (i := 77) rfl)) (hw _ (List.mem_of_getElem? (i := 3) rfl)) (by decide) (by decide)) q248a q248c (g := (mkF m 62 #[.val (.int p1), .val (.int p2), .val (.int v6), .val (.int v12), .val (.int v18), .val (.int v25), .val (.int v30), .val (.ref b224), .unset, .unset, .unset, .unset, .unset, .unset, .unset, .unset, .unset, .unset, .unset, .unset, .unset, .unset] [(.int v30), (.ref b224)])) rfl (by rw [hml]; rfl) (Steps.refl _) (argsL := [(.int v30)]) (rest := []) (lenOf pd_12 rfl) rfl (by show 2 * 0 + _ ≤ _; exact Nat.le_of_eq rfl) (hb hby at_62) (fun _ _ => ⟨rfl, rfl, (by decide : 11 + 0 ≤ _), (by decide : 43 + 0 ≤ _)⟩)
      dsimp only [Pt.U, Pt.locs, Pt.cells, Pt.slots] at X248 l248 y248 z248 st248 hQ248
      subst l248 y248 z248
      obtain ⟨rfl, N248q, K248, P248_1, P248_2⟩ := hQ248
      have Zs : n0 ≤ T248.heap.size := Nat.le_trans Zs K248.1
      have Ol : Old Z n0 T248.heap := Ol.keep K248 (allS g_ra_225 (allS g_ja_225 all0))
      have E_b224 : Exa Z T248.heap b224 "com/example/wachter/wachter/sim/QueueOrder" := E_b224.keep K248
      have F_requests_b224 : Fld Z T248.heap b224 "com/example/wachter/wachter/sim/QueueOrder" "requests" "[I" (.ref ra_225) := F_requests_b224.keep K248 (ninS ne_b224_ra_225 (ninS ne_b224_ja_225 nin0))
      have F_joinedAs_b224 : Fld Z T248.heap b224 "com/example/wachter/wachter/sim/QueueOrder" "joinedAs" "[J" (.ref ja_225) := F_joinedAs_b224.keep K248 (ninS ne_b224_ra_225 (ninS ne_b224_ja_225 nin0))
      have F_behind_b224 : Fld Z T248.heap b224 "com/example/wachter/wachter/sim/QueueOrder" "behind" "Ljava/util/List;" (.ref bl_225) := F_behind_b224.keep K248 (ninS ne_b224_ra_225 (ninS ne_b224_ja_225 nin0))
      have F_joined_b224 : Fld Z T248.heap b224 "com/example/wachter/wachter/sim/QueueOrder" "joined" "J" (.long (1 : Int64)) := F_joined_b224.keep K248 (ninS ne_b224_ra_225 (ninS ne_b224_ja_225 nin0))
      have E_bl_225 : Exa Z T248.heap bl_225 "java/util/ArrayList" := E_bl_225.keep K248
      have F_elementData_bl_225 : Fld Z T248.heap bl_225 "java/util/ArrayList" "elementData" "[Ljava/lang/Object;" (.ref bd_225) := F_elementData_bl_225.keep K248 (ninS (Ne.symm ne_ra_225_bl_225) (ninS (Ne.symm ne_ja_225_bl_225) nin0))
      have F_size_bl_225 : Fld Z T248.heap bl_225 "java/util/ArrayList" "size" "I" (.int (4 : Int32)) := F_size_bl_225.keep K248 (ninS (Ne.symm ne_ra_225_bl_225) (ninS (Ne.symm ne_ja_225_bl_225) nin0))
      have F_modCount_bl_225 : Fld Z T248.heap bl_225 "java/util/AbstractList" "modCount" "I" (.int (4 : Int32)) := F_modCount_bl_225.keep K248 (ninS (Ne.symm ne_ra_225_bl_225) (ninS (Ne.symm ne_ja_225_bl_225) nin0))
      have A_bd_225 : ArR Z T248.heap bd_225 kb_225 "java/lang/Object" (4 : Int32) (upd (upd (upd (upd (fun _ => .null) (0 : Int32).toNatClampNeg (.ref l0_225)) (1 : Int32).toNatClampNeg (.ref l1_225)) (2 : Int32).toNatClampNeg (.ref l2_225)) (3 : Int32).toNatClampNeg (.ref l3_225)) := A_bd_225.keep K248 (ninS (Ne.symm ne_ra_225_bd_225) (ninS (Ne.symm ne_ja_225_bd_225) nin0))
      have E_lh : Exa Z T248.heap lh "java/util/ArrayList" := E_lh.keep K248
      have F_elementData_lh : Fld Z T248.heap lh "java/util/ArrayList" "elementData" "[Ljava/lang/Object;" (.ref dd) := F_elementData_lh.keep K248 (ninS ne_lh_ra_225 (ninS ne_lh_ja_225 nin0))
      have F_size_lh : Fld Z T248.heap lh "java/util/ArrayList" "size" "I" (.int (0 : Int32)) := F_size_lh.keep K248 (ninS ne_lh_ra_225 (ninS ne_lh_ja_225 nin0))
      have F_modCount_lh : Fld Z T248.heap lh "java/util/AbstractList" "modCount" "I" (.int (0 : Int32)) := F_modCount_lh.keep K248 (ninS ne_lh_ra_225 (ninS ne_lh_ja_225 nin0))
      have E_lu : Exa Z T248.heap lu "java/util/ArrayList" := E_lu.keep K248
      have E_lv : Exa Z T248.heap lv "java/util/ArrayList" := E_lv.keep K248
      have F_elementData_lv : Fld Z T248.heap lv "java/util/ArrayList" "elementData" "[Ljava/lang/Object;" (.ref dd) := F_elementData_lv.keep K248 (ninS ne_lv_ra_225 (ninS ne_lv_ja_225 nin0))
      have F_size_lv : Fld Z T248.heap lv "java/util/ArrayList" "size" "I" (.int (0 : Int32)) := F_size_lv.keep K248 (ninS ne_lv_ra_225 (ninS ne_lv_ja_225 nin0))
      have F_modCount_lv : Fld Z T248.heap lv "java/util/AbstractList" "modCount" "I" (.int (0 : Int32)) := F_modCount_lv.keep K248 (ninS ne_lv_ra_225 (ninS ne_lv_ja_225 nin0))
      have E_lw : Exa Z T248.heap lw "java/util/ArrayList" := E_lw.keep K248
      have F_elementData_lw : Fld Z T248.heap lw "java/util/ArrayList" "elementData" "[Ljava/lang/Object;" (.ref dd) := F_elementData_lw.keep K248 (ninS ne_lw_ra_225 (ninS ne_lw_ja_225 nin0))
      have F_size_lw : Fld Z T248.heap lw "java/util/ArrayList" "size" "I" (.int (0 : Int32)) := F_size_lw.keep K248 (ninS ne_lw_ra_225 (ninS ne_lw_ja_225 nin0))
      have F_modCount_lw : Fld Z T248.heap lw "java/util/AbstractList" "modCount" "I" (.int (0 : Int32)) := F_modCount_lw.keep K248 (ninS ne_lw_ra_225 (ninS ne_lw_ja_225 nin0))
      have E_wt_227 : Exa Z T248.heap wt_227 "[I" := E_wt_227.keep K248
      have A_wt_227 : ArI Z T248.heap wt_227 (2 : Int32) (upd (upd (fun _ => 0) (0 : Int32).toNatClampNeg v18) (1 : Int32).toNatClampNeg ((upd (fun _ => 0) v18.toNatClampNeg (((fun _ => 0) v18.toNatClampNeg) + (1 : Int32))) v18.toNatClampNeg)) := A_wt_227.keep K248 (ninS (Ne.symm ne_ra_225_wt_227) (ninS (Ne.symm ne_ja_225_wt_227) nin0))
      have F_elementData_lu : Fld Z T248.heap lu "java/util/ArrayList" "elementData" "[Ljava/lang/Object;" (.ref eb_227) := F_elementData_lu.keep K248 (ninS ne_lu_ra_225 (ninS ne_lu_ja_225 nin0))
      have F_size_lu : Fld Z T248.heap lu "java/util/ArrayList" "size" "I" (.int (1 : Int32)) := F_size_lu.keep K248 (ninS ne_lu_ra_225 (ninS ne_lu_ja_225 nin0))
      have F_modCount_lu : Fld Z T248.heap lu "java/util/AbstractList" "modCount" "I" (.int (1 : Int32)) := F_modCount_lu.keep K248 (ninS ne_lu_ra_225 (ninS ne_lu_ja_225 nin0))
      have A_eb_227 : ArR Z T248.heap eb_227 ke_227 "java/lang/Object" (10 : Int32) (upd (fun _ => .null) (0 : Int32).toNatClampNeg (.ref wt_227)) := A_eb_227.keep K248 (ninS (Ne.symm ne_ra_225_eb_227) (ninS (Ne.symm ne_ja_225_eb_227) nin0))
      have A_ra_225 : ArI Z T248.heap ra_225 (4 : Int32) (upd (upd (fun _ => 0) v18.toNatClampNeg (((fun _ => 0) v18.toNatClampNeg) + (1 : Int32))) v30.toNatClampNeg (((upd (fun _ => 0) v18.toNatClampNeg (((fun _ => 0) v18.toNatClampNeg) + (1 : Int32))) v30.toNatClampNeg) + (1 : Int32))) := P248_1
      have A_ja_225 : ArJ Z T248.heap ja_225 (4 : Int32) (upd (upd (upd (upd (upd (upd (upd (fun _ => 0) (0 : Int32).toNatClampNeg (-1 : Int64)) (1 : Int32).toNatClampNeg (-1 : Int64)) (2 : Int32).toNatClampNeg (-1 : Int64)) (3 : Int32).toNatClampNeg (-1 : Int64)) v6.toNatClampNeg (0 : Int64)) v18.toNatClampNeg (-1 : Int64)) v30.toNatClampNeg (-1 : Int64)) := P248_2
      have N248 := Fr.app N227 N248q
      obtain ⟨cq249, kq249, q249a, q249b, q249c⟩ := isOf hZ rfl E_b224
      obtain ⟨_, _, ⟨T249, L249, k249, n249⟩, -, X249, ⟨Lc249, hQ249, l249, y249, z249⟩, st249⟩ := X248.virtualBack hx (y := (⟨"com/example/wachter/wachter/sim/QueueOrder", "granted", "(I)J"⟩ : MethodName)) (z := (⟨"com/example/wachter/wachter/sim/QueueOrder", "granted", "(I)J"⟩ : MethodName)) hown (mvT hZ (hw _ (List.mem_of_getElem? (i := 120) rfl))) (mvT hZ (hw _ (List.mem_of_getElem? (i := 121) rfl))) (notFace_of_selects (args := #[]) (mvT hZ (hw _ (List.mem_of_getElem? (i := 123) rfl)))) (mvT hZ (hw _ (List.mem_of_getElem? (i := 123) rfl))) (mvT hZ (hw _ (List.mem_of_getElem? (i := 122) rfl))) (by decide) (backOf (W := 0) (rmG1 l Z a0 hw [] b224 v12 ra_225 ja_225 bl_225 bd_225 kb_225 (upd (upd (upd (upd (fun _ => .null) (0 : Int32).toNatClampNeg (.ref l0_225)) (1 : Int32).toNatClampNeg (.ref l1_225)) (2 : Int32).toNatClampNeg (.ref l2_225)) (3 : Int32).toNatClampNeg (.ref l3_225)) (4 : Int32) (1 : Int64) (upd (upd (upd (upd (upd (upd (upd (fun _ => 0) (0 : Int32).toNatClampNeg (-1 : Int64)) (1 : Int32).toNatClampNeg (-1 : Int64)) (2 : Int32).toNatClampNeg (-1 : Int64)) (3 : Int32).toNatClampNeg (-1 : Int64)) v6.toNatClampNeg (0 : Int64)) v18.toNatClampNeg (-1 : Int64)) v30.toNatClampNeg (-1 : Int64)) (upd (upd (fun _ => 0) v18.toNatClampNeg (((fun _ => 0) v18.toNatClampNeg) + (1 : Int32))) v30.toNatClampNeg (((upd (fun _ => 0) v18.toNatClampNeg (((fun _ => 0) v18.toNatClampNeg) + (1 : Int32))) v30.toNatClampNeg) + (1 : Int32))) lu eb_227 (1 : Int32) ke_227 (upd (fun _ => .null) (0 : Int32).toNatClampNeg (.ref wt_227)) wt_227 (upd (upd (fun _ => 0) (0 : Int32).toNatClampNeg v18) (1 : Int32).toNatClampNeg ((upd (fun _ => 0) v18.toNatClampNeg (((fun _ => 0) v18.toNatClampNeg) + (1 : Int32))) v18.toNatClampNeg)) v18 lv dd (0 : Int32) T248.heap n0 Zs E_b224 F_requests_b224 F_joinedAs_b224 F_behind_b224 F_joined_b224 A_ja_225 A_ra_225 g_b224 g_ja_225 g_lu g_eb_227 g_lv E_bl_225 F_elementData_bl_225 F_size_bl_225 F_modCount_bl_225 A_bd_225 E_lu F_elementData_lu F_size_lu F_modCount_lu A_eb_227 E_wt_227 A_wt_227 E_lv F_elementData_lv F_size_lv F_modCount_lv ne_b224_ja_225 ne_b224_ra_225 ne_b224_bl_225 ne_b224_bd_225 (Ne.symm ne_lu_b224) ne_b224_eb_227 ne_b224_wt_227 (Ne.symm ne_lv_b224) (Ne.symm ne_ra_225_ja_225) ne_ja_225_bl_225 ne_ja_225_bd_225 (Ne.symm ne_lu_ja_225) ne_ja_225_eb_227 ne_ja_225_wt_227 (Ne.symm ne_lv_ja_225) ne_ra_225_bl_225 ne_ra_225_bd_225 (Ne.symm ne_lu_ra_225) ne_ra_225_eb_227 ne_ra_225_wt_227 (Ne.symm ne_lv_ra_225) ne_bl_225_bd_225 (Ne.symm ne_lu_bl_225) ne_bl_225_eb_227 ne_bl_225_wt_227 (Ne.symm ne_lv_bl_225) (Ne.symm ne_lu_bd_225) ne_bd_225_eb_227 ne_bd_225_wt_227 (Ne.symm ne_lv_bd_225) ne_lu_eb_227 ne_lu_wt_227 ne_lu_lv (Ne.symm ne_wt_227_eb_227) (Ne.symm ne_lv_eb_227) (Ne.symm ne_lv_wt_227) iu hB_lu rfl rfl iv (by rcases hc4 with ⟨e1, e2, e3, e4⟩ | ⟨e1, e2, e3, e4⟩ | ⟨e1, e2, e3, e4⟩ | ⟨e1, e2, e3, e4⟩ <;> rcases im4 with e5 | e5 | e5 | e5 <;> (try simp only [e1, e2, e3, e4, e5] at hmv hmh ⊢) <;> first | decide | (revert hmv hmh; decide)) (by rcases hc4 with ⟨e1, e2, e3, e4⟩ | ⟨e1, e2, e3, e4⟩ | ⟨e1, e2, e3, e4⟩ | ⟨e1, e2, e3, e4⟩ <;> rcases im4 with e5 | e5 | e5 | e5 <;> (try simp only [e1, e2, e3, e4, e5] at hmv hmh ⊢) <;> first | decide | (revert hmv hmh; decide)) hB_lv (by rcases hc4 with ⟨e1, e2, e3, e4⟩ | ⟨e1, e2, e3, e4⟩ | ⟨e1, e2, e3, e4⟩ | ⟨e1, e2, e3, e4⟩ <;> rcases im4 with e5 | e5 | e5 | e5 <;> (try simp only [e1, e2, e3, e4, e5] at hmv hmh ⊢) <;> first | decide | (revert hmv hmh; decide))) hZ (hw _ (List.mem_of_getElem? (i := 124) rfl)) (hw _ (List.mem_of_getElem? (i := 3) rfl)) (by decide) (by decide)) q249a q249c (g := (mkF m 68 #[.val (.int p1), .val (.int p2), .val (.int v6), .val (.int v12), .val (.int v18), .val (.int v25), .val (.int v30), .val (.ref b224), .unset, .unset, .unset, .unset, .unset, .unset, .unset, .unset, .unset, .unset, .unset, .unset, .unset, .unset] [(.int v12), (.ref b224)])) rfl (by rw [hml]; rfl) (Steps.refl _) (argsL := [(.int v12)]) (rest := []) (lenOf pd_15 rfl) rfl (by show 2 * 0 + _ ≤ _; exact Nat.le_of_eq rfl) (hb hby at_68) (fun _ _ => ⟨rfl, rfl, (by decide : 11 + 2 ≤ _), (by decide : 43 + 8 ≤ _)⟩)
      dsimp only [Pt.U, Pt.locs, Pt.cells, Pt.slots] at X249 l249 y249 z249 st249 hQ249
      subst l249 y249 z249
      obtain ⟨rfl, N249q, K249, P249_1, P249_2, P249_3, P249_4, P249_5, P249_6, P249_7, P249_8, P249_9, P249_10, P249_11, P249_12⟩ := hQ249
      have Zs : n0 ≤ T249.heap.size := Nat.le_trans Zs K249.1
      have Ol : Old Z n0 T249.heap := Ol.keep K249 (allS g_b224 (allS g_ja_225 (allS g_lu (allS g_eb_227 (allS g_lv all0)))))
      have E_b224 : Exa Z T249.heap b224 "com/example/wachter/wachter/sim/QueueOrder" := E_b224.keep K249
      have E_bl_225 : Exa Z T249.heap bl_225 "java/util/ArrayList" := E_bl_225.keep K249
      have F_elementData_bl_225 : Fld Z T249.heap bl_225 "java/util/ArrayList" "elementData" "[Ljava/lang/Object;" (.ref bd_225) := F_elementData_bl_225.keep K249 (ninS (Ne.symm ne_b224_bl_225) (ninS (Ne.symm ne_ja_225_bl_225) (ninS (Ne.symm ne_lu_bl_225) (ninS ne_bl_225_eb_227 (ninS (Ne.symm ne_lv_bl_225) nin0)))))
      have F_size_bl_225 : Fld Z T249.heap bl_225 "java/util/ArrayList" "size" "I" (.int (4 : Int32)) := F_size_bl_225.keep K249 (ninS (Ne.symm ne_b224_bl_225) (ninS (Ne.symm ne_ja_225_bl_225) (ninS (Ne.symm ne_lu_bl_225) (ninS ne_bl_225_eb_227 (ninS (Ne.symm ne_lv_bl_225) nin0)))))
      have F_modCount_bl_225 : Fld Z T249.heap bl_225 "java/util/AbstractList" "modCount" "I" (.int (4 : Int32)) := F_modCount_bl_225.keep K249 (ninS (Ne.symm ne_b224_bl_225) (ninS (Ne.symm ne_ja_225_bl_225) (ninS (Ne.symm ne_lu_bl_225) (ninS ne_bl_225_eb_227 (ninS (Ne.symm ne_lv_bl_225) nin0)))))
      have A_bd_225 : ArR Z T249.heap bd_225 kb_225 "java/lang/Object" (4 : Int32) (upd (upd (upd (upd (fun _ => .null) (0 : Int32).toNatClampNeg (.ref l0_225)) (1 : Int32).toNatClampNeg (.ref l1_225)) (2 : Int32).toNatClampNeg (.ref l2_225)) (3 : Int32).toNatClampNeg (.ref l3_225)) := A_bd_225.keep K249 (ninS (Ne.symm ne_b224_bd_225) (ninS (Ne.symm ne_ja_225_bd_225) (ninS (Ne.symm ne_lu_bd_225) (ninS ne_bd_225_eb_227 (ninS (Ne.symm ne_lv_bd_225) nin0)))))
      have E_lh : Exa Z T249.heap lh "java/util/ArrayList" := E_lh.keep K249
      have F_elementData_lh : Fld Z T249.heap lh "java/util/ArrayList" "elementData" "[Ljava/lang/Object;" (.ref dd) := F_elementData_lh.keep K249 (ninS ne_lh_b224 (ninS ne_lh_ja_225 (ninS ne_lh_lu (ninS ne_lh_eb_227 (ninS ne_lh_lv nin0)))))
      have F_size_lh : Fld Z T249.heap lh "java/util/ArrayList" "size" "I" (.int (0 : Int32)) := F_size_lh.keep K249 (ninS ne_lh_b224 (ninS ne_lh_ja_225 (ninS ne_lh_lu (ninS ne_lh_eb_227 (ninS ne_lh_lv nin0)))))
      have F_modCount_lh : Fld Z T249.heap lh "java/util/AbstractList" "modCount" "I" (.int (0 : Int32)) := F_modCount_lh.keep K249 (ninS ne_lh_b224 (ninS ne_lh_ja_225 (ninS ne_lh_lu (ninS ne_lh_eb_227 (ninS ne_lh_lv nin0)))))
      have E_lu : Exa Z T249.heap lu "java/util/ArrayList" := E_lu.keep K249
      have E_lv : Exa Z T249.heap lv "java/util/ArrayList" := E_lv.keep K249
      have E_lw : Exa Z T249.heap lw "java/util/ArrayList" := E_lw.keep K249
      have F_elementData_lw : Fld Z T249.heap lw "java/util/ArrayList" "elementData" "[Ljava/lang/Object;" (.ref dd) := F_elementData_lw.keep K249 (ninS ne_lw_b224 (ninS ne_lw_ja_225 (ninS (Ne.symm ne_lu_lw) (ninS ne_lw_eb_227 (ninS (Ne.symm ne_lv_lw) nin0)))))
      have F_size_lw : Fld Z T249.heap lw "java/util/ArrayList" "size" "I" (.int (0 : Int32)) := F_size_lw.keep K249 (ninS ne_lw_b224 (ninS ne_lw_ja_225 (ninS (Ne.symm ne_lu_lw) (ninS ne_lw_eb_227 (ninS (Ne.symm ne_lv_lw) nin0)))))
      have F_modCount_lw : Fld Z T249.heap lw "java/util/AbstractList" "modCount" "I" (.int (0 : Int32)) := F_modCount_lw.keep K249 (ninS ne_lw_b224 (ninS ne_lw_ja_225 (ninS (Ne.symm ne_lu_lw) (ninS ne_lw_eb_227 (ninS (Ne.symm ne_lv_lw) nin0)))))
      have E_wt_227 : Exa Z T249.heap wt_227 "[I" := E_wt_227.keep K249
      have A_wt_227 : ArI Z T249.heap wt_227 (2 : Int32) (upd (upd (fun _ => 0) (0 : Int32).toNatClampNeg v18) (1 : Int32).toNatClampNeg ((upd (fun _ => 0) v18.toNatClampNeg (((fun _ => 0) v18.toNatClampNeg) + (1 : Int32))) v18.toNatClampNeg)) := A_wt_227.keep K249 (ninS (Ne.symm ne_b224_wt_227) (ninS (Ne.symm ne_ja_225_wt_227) (ninS (Ne.symm ne_lu_wt_227) (ninS ne_wt_227_eb_227 (ninS (Ne.symm ne_lv_wt_227) nin0)))))
      have A_ra_225 : ArI Z T249.heap ra_225 (4 : Int32) (upd (upd (fun _ => 0) v18.toNatClampNeg (((fun _ => 0) v18.toNatClampNeg) + (1 : Int32))) v30.toNatClampNeg (((upd (fun _ => 0) v18.toNatClampNeg (((fun _ => 0) v18.toNatClampNeg) + (1 : Int32))) v30.toNatClampNeg) + (1 : Int32))) := A_ra_225.keep K249 (ninS (Ne.symm ne_b224_ra_225) (ninS ne_ra_225_ja_225 (ninS (Ne.symm ne_lu_ra_225) (ninS ne_ra_225_eb_227 (ninS (Ne.symm ne_lv_ra_225) nin0)))))
      have F_requests_b224 : Fld Z T249.heap b224 "com/example/wachter/wachter/sim/QueueOrder" "requests" "[I" (.ref ra_225) := P249_1
      have F_joinedAs_b224 : Fld Z T249.heap b224 "com/example/wachter/wachter/sim/QueueOrder" "joinedAs" "[J" (.ref ja_225) := P249_2
      have F_behind_b224 : Fld Z T249.heap b224 "com/example/wachter/wachter/sim/QueueOrder" "behind" "Ljava/util/List;" (.ref bl_225) := P249_3
      have F_joined_b224 : Fld Z T249.heap b224 "com/example/wachter/wachter/sim/QueueOrder" "joined" "J" (.long (((1 : Int64) + (1 : Int64)) + (1 : Int64))) := P249_4
      have A_ja_225 : ArJ Z T249.heap ja_225 (4 : Int32) (upd (upd (upd (upd (upd (upd (upd (upd (upd (fun _ => 0) (0 : Int32).toNatClampNeg (-1 : Int64)) (1 : Int32).toNatClampNeg (-1 : Int64)) (2 : Int32).toNatClampNeg (-1 : Int64)) (3 : Int32).toNatClampNeg (-1 : Int64)) v6.toNatClampNeg (0 : Int64)) v18.toNatClampNeg (-1 : Int64)) v30.toNatClampNeg (-1 : Int64)) v12.toNatClampNeg (1 : Int64)) v18.toNatClampNeg ((1 : Int64) + (1 : Int64))) := P249_5
      have F_elementData_lu : Fld Z T249.heap lu "java/util/ArrayList" "elementData" "[Ljava/lang/Object;" (.ref eb_227) := P249_6
      have F_size_lu : Fld Z T249.heap lu "java/util/ArrayList" "size" "I" (.int (0 : Int32)) := P249_7
      have F_modCount_lu : Fld Z T249.heap lu "java/util/AbstractList" "modCount" "I" (.int (2 : Int32)) := P249_8
      have A_eb_227 : ArR Z T249.heap eb_227 ke_227 "java/lang/Object" (10 : Int32) (upd (upd (fun _ => .null) (0 : Int32).toNatClampNeg (.ref wt_227)) (0 : Int32).toNatClampNeg .null) := P249_9
      have F_elementData_lv : Fld Z T249.heap lv "java/util/ArrayList" "elementData" "[Ljava/lang/Object;" (.ref dd) := P249_10
      have F_size_lv : Fld Z T249.heap lv "java/util/ArrayList" "size" "I" (.int (0 : Int32)) := P249_11
      have F_modCount_lv : Fld Z T249.heap lv "java/util/AbstractList" "modCount" "I" (.int (1 : Int32)) := P249_12
      have N249 := Fr.app N248 N249q
      obtain ⟨v71, hv71⟩ : ∃ z : Int64, z = ((upd (upd (upd (upd (upd (upd (upd (upd (upd (fun _ => 0) (0 : Int32).toNatClampNeg (-1 : Int64)) (1 : Int32).toNatClampNeg (-1 : Int64)) (2 : Int32).toNatClampNeg (-1 : Int64)) (3 : Int32).toNatClampNeg (-1 : Int64)) v6.toNatClampNeg (0 : Int64)) v18.toNatClampNeg (-1 : Int64)) v30.toNatClampNeg (-1 : Int64)) v12.toNatClampNeg (1 : Int64)) v18.toNatClampNeg ((1 : Int64) + (1 : Int64))) v12.toNatClampNeg) := ⟨_, rfl⟩
      have pre250 : ∀ t, Steps p.tables e below (T249.setTop (mkF m 73 #[.val (.int p1), .val (.int p2), .val (.int v6), .val (.int v12), .val (.int v18), .val (.int v25), .val (.int v30), .val (.ref b224), .val (.long v71), .second, .unset, .unset, .unset, .unset, .unset, .unset, .unset, .unset, .unset, .unset, .unset, .unset] [])) t → Steps p.tables e below (s₁.setTop (entryFrame m #[(.int p1), (.int p2)] maxLocals)) t := fun t k => pre228 t (by
        show Steps p.tables e below (T227.setTop (mkF m 58 #[.val (.int p1), .val (.int p2), .val (.int v6), .val (.int v12), .val (.int v18), .val (.int v25), .val (.int v30), .val (.ref b224), .unset, .unset, .unset, .unset, .unset, .unset, .unset, .unset, .unset, .unset, .unset, .unset, .unset, .unset] [])) _
        refine XS.aload X227.here hx rfl (hb hby at_58) rfl rfl ?_
        show Steps p.tables e below (T227.setTop (mkF m 60 #[.val (.int p1), .val (.int p2), .val (.int v6), .val (.int v12), .val (.int v18), .val (.int v25), .val (.int v30), .val (.ref b224), .unset, .unset, .unset, .unset, .unset, .unset, .unset, .unset, .unset, .unset, .unset, .unset, .unset, .unset] [(.ref b224)])) _
        refine XS.iload X227.here hx rfl (hb hby at_60) rfl ?_
        show Steps p.tables e below (T227.setTop (mkF m 62 #[.val (.int p1), .val (.int p2), .val (.int v6), .val (.int v12), .val (.int v18), .val (.int v25), .val (.int v30), .val (.ref b224), .unset, .unset, .unset, .unset, .unset, .unset, .unset, .unset, .unset, .unset, .unset, .unset, .unset, .unset] [(.int v30), (.ref b224)])) _
        refine st248.trans ?_
        show Steps p.tables e below (T248.setTop (mkF m 65 #[.val (.int p1), .val (.int p2), .val (.int v6), .val (.int v12), .val (.int v18), .val (.int v25), .val (.int v30), .val (.ref b224), .unset, .unset, .unset, .unset, .unset, .unset, .unset, .unset, .unset, .unset, .unset, .unset, .unset, .unset] [])) _
        refine XS.aload X248.here hx rfl (hb hby at_65) rfl rfl ?_
        show Steps p.tables e below (T248.setTop (mkF m 67 #[.val (.int p1), .val (.int p2), .val (.int v6), .val (.int v12), .val (.int v18), .val (.int v25), .val (.int v30), .val (.ref b224), .unset, .unset, .unset, .unset, .unset, .unset, .unset, .unset, .unset, .unset, .unset, .unset, .unset, .unset] [(.ref b224)])) _
        refine XS.iloadN X248.here hx rfl (hb hby at_67) rfl ?_
        show Steps p.tables e below (T248.setTop (mkF m 68 #[.val (.int p1), .val (.int p2), .val (.int v6), .val (.int v12), .val (.int v18), .val (.int v25), .val (.int v30), .val (.ref b224), .unset, .unset, .unset, .unset, .unset, .unset, .unset, .unset, .unset, .unset, .unset, .unset, .unset, .unset] [(.int v12), (.ref b224)])) _
        refine st249.trans ?_
        show Steps p.tables e below (T249.setTop (mkF m 71 #[.val (.int p1), .val (.int p2), .val (.int v6), .val (.int v12), .val (.int v18), .val (.int v25), .val (.int v30), .val (.ref b224), .unset, .unset, .unset, .unset, .unset, .unset, .unset, .unset, .unset, .unset, .unset, .unset, .unset, .unset] [(.long ((upd (upd (upd (upd (upd (upd (upd (upd (upd (fun _ => 0) (0 : Int32).toNatClampNeg (-1 : Int64)) (1 : Int32).toNatClampNeg (-1 : Int64)) (2 : Int32).toNatClampNeg (-1 : Int64)) (3 : Int32).toNatClampNeg (-1 : Int64)) v6.toNatClampNeg (0 : Int64)) v18.toNatClampNeg (-1 : Int64)) v30.toNatClampNeg (-1 : Int64)) v12.toNatClampNeg (1 : Int64)) v18.toNatClampNeg ((1 : Int64) + (1 : Int64))) v12.toNatClampNeg))])) _
        refine XS.lstore X249.here hx rfl (hb hby at_71) rfl (l' := #[.val (.int p1), .val (.int p2), .val (.int v6), .val (.int v12), .val (.int v18), .val (.int v25), .val (.int v30), .val (.ref b224), .val (.long ((upd (upd (upd (upd (upd (upd (upd (upd (upd (fun _ => 0) (0 : Int32).toNatClampNeg (-1 : Int64)) (1 : Int32).toNatClampNeg (-1 : Int64)) (2 : Int32).toNatClampNeg (-1 : Int64)) (3 : Int32).toNatClampNeg (-1 : Int64)) v6.toNatClampNeg (0 : Int64)) v18.toNatClampNeg (-1 : Int64)) v30.toNatClampNeg (-1 : Int64)) v12.toNatClampNeg (1 : Int64)) v18.toNatClampNeg ((1 : Int64) + (1 : Int64))) v12.toNatClampNeg)), .second, .unset, .unset, .unset, .unset, .unset, .unset, .unset, .unset, .unset, .unset, .unset, .unset]) rfl ?_
        rw [hv71] at k
        exact k)
      obtain ⟨cq251, kq251, q251a, q251b, q251c⟩ := isOf hZ rfl E_b224
      obtain ⟨_, _, ⟨T251, L251, k251, n251⟩, -, X251, ⟨Lc251, hQ251, l251, y251, z251⟩, st251⟩ := X249.virtualBack hx (y := (⟨"com/example/wachter/wachter/sim/QueueOrder", "granted", "(I)J"⟩ : MethodName)) (z := (⟨"com/example/wachter/wachter/sim/QueueOrder", "granted", "(I)J"⟩ : MethodName)) hown (mvT hZ (hw _ (List.mem_of_getElem? (i := 120) rfl))) (mvT hZ (hw _ (List.mem_of_getElem? (i := 121) rfl))) (notFace_of_selects (args := #[]) (mvT hZ (hw _ (List.mem_of_getElem? (i := 123) rfl)))) (mvT hZ (hw _ (List.mem_of_getElem? (i := 123) rfl))) (mvT hZ (hw _ (List.mem_of_getElem? (i := 122) rfl))) (by decide) (backOf (W := 0) (rmG0 l Z a0 hw [] b224 v25 ra_225 ja_225 bl_225 bd_225 kb_225 (upd (upd (upd (upd (fun _ => .null) (0 : Int32).toNatClampNeg (.ref l0_225)) (1 : Int32).toNatClampNeg (.ref l1_225)) (2 : Int32).toNatClampNeg (.ref l2_225)) (3 : Int32).toNatClampNeg (.ref l3_225)) (4 : Int32) (((1 : Int64) + (1 : Int64)) + (1 : Int64)) (upd (upd (upd (upd (upd (upd (upd (upd (upd (fun _ => 0) (0 : Int32).toNatClampNeg (-1 : Int64)) (1 : Int32).toNatClampNeg (-1 : Int64)) (2 : Int32).toNatClampNeg (-1 : Int64)) (3 : Int32).toNatClampNeg (-1 : Int64)) v6.toNatClampNeg (0 : Int64)) v18.toNatClampNeg (-1 : Int64)) v30.toNatClampNeg (-1 : Int64)) v12.toNatClampNeg (1 : Int64)) v18.toNatClampNeg ((1 : Int64) + (1 : Int64))) lw dd (0 : Int32) T249.heap n0 Zs E_b224 F_requests_b224 F_joinedAs_b224 F_behind_b224 F_joined_b224 A_ja_225 g_b224 g_ja_225 g_lw E_bl_225 F_elementData_bl_225 F_size_bl_225 F_modCount_bl_225 A_bd_225 E_lw F_elementData_lw F_size_lw F_modCount_lw ne_b224_ja_225 ne_b224_bl_225 ne_b224_bd_225 (Ne.symm ne_lw_b224) ne_ja_225_bl_225 ne_ja_225_bd_225 (Ne.symm ne_lw_ja_225) ne_bl_225_bd_225 (Ne.symm ne_lw_bl_225) (Ne.symm ne_lw_bd_225) iw hB_lw (by rcases hc4 with ⟨e1, e2, e3, e4⟩ | ⟨e1, e2, e3, e4⟩ | ⟨e1, e2, e3, e4⟩ | ⟨e1, e2, e3, e4⟩ <;> rcases im4 with e5 | e5 | e5 | e5 <;> (try simp only [e1, e2, e3, e4, e5] at hmv hmh ⊢) <;> first | decide | (revert hmv hmh; decide))) hZ (hw _ (List.mem_of_getElem? (i := 124) rfl)) (hw _ (List.mem_of_getElem? (i := 3) rfl)) (by decide) (by decide)) q251a q251c (g := (mkF m 77 #[.val (.int p1), .val (.int p2), .val (.int v6), .val (.int v12), .val (.int v18), .val (.int v25), .val (.int v30), .val (.ref b224), .val (.long v71), .second, .unset, .unset, .unset, .unset, .unset, .unset, .unset, .unset, .unset, .unset, .unset, .unset] [(.int v25), (.ref b224)])) rfl (by rw [hml]; rfl) (Steps.refl _) (argsL := [(.int v25)]) (rest := []) (lenOf pd_15 rfl) rfl (by show 2 * 0 + _ ≤ _; exact Nat.le_of_eq rfl) (hb hby at_77) (fun _ _ => ⟨rfl, rfl, (by decide : 13 + 1 ≤ _), (by decide : 51 + 4 ≤ _)⟩)
      dsimp only [Pt.U, Pt.locs, Pt.cells, Pt.slots] at X251 l251 y251 z251 st251 hQ251
      subst l251 y251 z251
      obtain ⟨rfl, N251q, K251, P251_1, P251_2, P251_3, P251_4, P251_5, P251_6, P251_7, P251_8⟩ := hQ251
      have Zs : n0 ≤ T251.heap.size := Nat.le_trans Zs K251.1
      have Ol : Old Z n0 T251.heap := Ol.keep K251 (allS g_b224 (allS g_ja_225 (allS g_lw all0)))
      have E_b224 : Exa Z T251.heap b224 "com/example/wachter/wachter/sim/QueueOrder" := E_b224.keep K251
      have E_bl_225 : Exa Z T251.heap bl_225 "java/util/ArrayList" := E_bl_225.keep K251
      have F_elementData_bl_225 : Fld Z T251.heap bl_225 "java/util/ArrayList" "elementData" "[Ljava/lang/Object;" (.ref bd_225) := F_elementData_bl_225.keep K251 (ninS (Ne.symm ne_b224_bl_225) (ninS (Ne.symm ne_ja_225_bl_225) (ninS (Ne.symm ne_lw_bl_225) nin0)))
      have F_size_bl_225 : Fld Z T251.heap bl_225 "java/util/ArrayList" "size" "I" (.int (4 : Int32)) := F_size_bl_225.keep K251 (ninS (Ne.symm ne_b224_bl_225) (ninS (Ne.symm ne_ja_225_bl_225) (ninS (Ne.symm ne_lw_bl_225) nin0)))
      have F_modCount_bl_225 : Fld Z T251.heap bl_225 "java/util/AbstractList" "modCount" "I" (.int (4 : Int32)) := F_modCount_bl_225.keep K251 (ninS (Ne.symm ne_b224_bl_225) (ninS (Ne.symm ne_ja_225_bl_225) (ninS (Ne.symm ne_lw_bl_225) nin0)))
      have A_bd_225 : ArR Z T251.heap bd_225 kb_225 "java/lang/Object" (4 : Int32) (upd (upd (upd (upd (fun _ => .null) (0 : Int32).toNatClampNeg (.ref l0_225)) (1 : Int32).toNatClampNeg (.ref l1_225)) (2 : Int32).toNatClampNeg (.ref l2_225)) (3 : Int32).toNatClampNeg (.ref l3_225)) := A_bd_225.keep K251 (ninS (Ne.symm ne_b224_bd_225) (ninS (Ne.symm ne_ja_225_bd_225) (ninS (Ne.symm ne_lw_bd_225) nin0)))
      have E_lh : Exa Z T251.heap lh "java/util/ArrayList" := E_lh.keep K251
      have F_elementData_lh : Fld Z T251.heap lh "java/util/ArrayList" "elementData" "[Ljava/lang/Object;" (.ref dd) := F_elementData_lh.keep K251 (ninS ne_lh_b224 (ninS ne_lh_ja_225 (ninS ne_lh_lw nin0)))
      have F_size_lh : Fld Z T251.heap lh "java/util/ArrayList" "size" "I" (.int (0 : Int32)) := F_size_lh.keep K251 (ninS ne_lh_b224 (ninS ne_lh_ja_225 (ninS ne_lh_lw nin0)))
      have F_modCount_lh : Fld Z T251.heap lh "java/util/AbstractList" "modCount" "I" (.int (0 : Int32)) := F_modCount_lh.keep K251 (ninS ne_lh_b224 (ninS ne_lh_ja_225 (ninS ne_lh_lw nin0)))
      have E_lu : Exa Z T251.heap lu "java/util/ArrayList" := E_lu.keep K251
      have E_lv : Exa Z T251.heap lv "java/util/ArrayList" := E_lv.keep K251
      have E_lw : Exa Z T251.heap lw "java/util/ArrayList" := E_lw.keep K251
      have E_wt_227 : Exa Z T251.heap wt_227 "[I" := E_wt_227.keep K251
      have A_wt_227 : ArI Z T251.heap wt_227 (2 : Int32) (upd (upd (fun _ => 0) (0 : Int32).toNatClampNeg v18) (1 : Int32).toNatClampNeg ((upd (fun _ => 0) v18.toNatClampNeg (((fun _ => 0) v18.toNatClampNeg) + (1 : Int32))) v18.toNatClampNeg)) := A_wt_227.keep K251 (ninS (Ne.symm ne_b224_wt_227) (ninS (Ne.symm ne_ja_225_wt_227) (ninS (Ne.symm ne_lw_wt_227) nin0)))
      have A_ra_225 : ArI Z T251.heap ra_225 (4 : Int32) (upd (upd (fun _ => 0) v18.toNatClampNeg (((fun _ => 0) v18.toNatClampNeg) + (1 : Int32))) v30.toNatClampNeg (((upd (fun _ => 0) v18.toNatClampNeg (((fun _ => 0) v18.toNatClampNeg) + (1 : Int32))) v30.toNatClampNeg) + (1 : Int32))) := A_ra_225.keep K251 (ninS (Ne.symm ne_b224_ra_225) (ninS ne_ra_225_ja_225 (ninS (Ne.symm ne_lw_ra_225) nin0)))
      have F_elementData_lu : Fld Z T251.heap lu "java/util/ArrayList" "elementData" "[Ljava/lang/Object;" (.ref eb_227) := F_elementData_lu.keep K251 (ninS ne_lu_b224 (ninS ne_lu_ja_225 (ninS ne_lu_lw nin0)))
      have F_size_lu : Fld Z T251.heap lu "java/util/ArrayList" "size" "I" (.int (0 : Int32)) := F_size_lu.keep K251 (ninS ne_lu_b224 (ninS ne_lu_ja_225 (ninS ne_lu_lw nin0)))
      have F_modCount_lu : Fld Z T251.heap lu "java/util/AbstractList" "modCount" "I" (.int (2 : Int32)) := F_modCount_lu.keep K251 (ninS ne_lu_b224 (ninS ne_lu_ja_225 (ninS ne_lu_lw nin0)))
      have A_eb_227 : ArR Z T251.heap eb_227 ke_227 "java/lang/Object" (10 : Int32) (upd (upd (fun _ => .null) (0 : Int32).toNatClampNeg (.ref wt_227)) (0 : Int32).toNatClampNeg .null) := A_eb_227.keep K251 (ninS (Ne.symm ne_b224_eb_227) (ninS (Ne.symm ne_ja_225_eb_227) (ninS (Ne.symm ne_lw_eb_227) nin0)))
      have F_elementData_lv : Fld Z T251.heap lv "java/util/ArrayList" "elementData" "[Ljava/lang/Object;" (.ref dd) := F_elementData_lv.keep K251 (ninS ne_lv_b224 (ninS ne_lv_ja_225 (ninS ne_lv_lw nin0)))
      have F_size_lv : Fld Z T251.heap lv "java/util/ArrayList" "size" "I" (.int (0 : Int32)) := F_size_lv.keep K251 (ninS ne_lv_b224 (ninS ne_lv_ja_225 (ninS ne_lv_lw nin0)))
      have F_modCount_lv : Fld Z T251.heap lv "java/util/AbstractList" "modCount" "I" (.int (1 : Int32)) := F_modCount_lv.keep K251 (ninS ne_lv_b224 (ninS ne_lv_ja_225 (ninS ne_lv_lw nin0)))
      have F_requests_b224 : Fld Z T251.heap b224 "com/example/wachter/wachter/sim/QueueOrder" "requests" "[I" (.ref ra_225) := P251_1
      have F_joinedAs_b224 : Fld Z T251.heap b224 "com/example/wachter/wachter/sim/QueueOrder" "joinedAs" "[J" (.ref ja_225) := P251_2
      have F_behind_b224 : Fld Z T251.heap b224 "com/example/wachter/wachter/sim/QueueOrder" "behind" "Ljava/util/List;" (.ref bl_225) := P251_3
      have F_joined_b224 : Fld Z T251.heap b224 "com/example/wachter/wachter/sim/QueueOrder" "joined" "J" (.long ((((1 : Int64) + (1 : Int64)) + (1 : Int64)) + (1 : Int64))) := P251_4
      have A_ja_225 : ArJ Z T251.heap ja_225 (4 : Int32) (upd (upd (upd (upd (upd (upd (upd (upd (upd (upd (fun _ => 0) (0 : Int32).toNatClampNeg (-1 : Int64)) (1 : Int32).toNatClampNeg (-1 : Int64)) (2 : Int32).toNatClampNeg (-1 : Int64)) (3 : Int32).toNatClampNeg (-1 : Int64)) v6.toNatClampNeg (0 : Int64)) v18.toNatClampNeg (-1 : Int64)) v30.toNatClampNeg (-1 : Int64)) v12.toNatClampNeg (1 : Int64)) v18.toNatClampNeg ((1 : Int64) + (1 : Int64))) v25.toNatClampNeg (((1 : Int64) + (1 : Int64)) + (1 : Int64))) := P251_5
      have F_elementData_lw : Fld Z T251.heap lw "java/util/ArrayList" "elementData" "[Ljava/lang/Object;" (.ref dd) := P251_6
      have F_size_lw : Fld Z T251.heap lw "java/util/ArrayList" "size" "I" (.int (0 : Int32)) := P251_7
      have F_modCount_lw : Fld Z T251.heap lw "java/util/AbstractList" "modCount" "I" (.int (1 : Int32)) := P251_8
      have N251 := Fr.app N249 N251q
      obtain ⟨v80, hv80⟩ : ∃ z : Int64, z = ((upd (upd (upd (upd (upd (upd (upd (upd (upd (upd (fun _ => 0) (0 : Int32).toNatClampNeg (-1 : Int64)) (1 : Int32).toNatClampNeg (-1 : Int64)) (2 : Int32).toNatClampNeg (-1 : Int64)) (3 : Int32).toNatClampNeg (-1 : Int64)) v6.toNatClampNeg (0 : Int64)) v18.toNatClampNeg (-1 : Int64)) v30.toNatClampNeg (-1 : Int64)) v12.toNatClampNeg (1 : Int64)) v18.toNatClampNeg ((1 : Int64) + (1 : Int64))) v25.toNatClampNeg (((1 : Int64) + (1 : Int64)) + (1 : Int64))) v25.toNatClampNeg) := ⟨_, rfl⟩
      have pre252 : ∀ t, Steps p.tables e below (T251.setTop (mkF m 82 #[.val (.int p1), .val (.int p2), .val (.int v6), .val (.int v12), .val (.int v18), .val (.int v25), .val (.int v30), .val (.ref b224), .val (.long v71), .second, .val (.long v80), .second, .unset, .unset, .unset, .unset, .unset, .unset, .unset, .unset, .unset, .unset] [])) t → Steps p.tables e below (s₁.setTop (entryFrame m #[(.int p1), (.int p2)] maxLocals)) t := fun t k => pre250 t (by
        show Steps p.tables e below (T249.setTop (mkF m 73 #[.val (.int p1), .val (.int p2), .val (.int v6), .val (.int v12), .val (.int v18), .val (.int v25), .val (.int v30), .val (.ref b224), .val (.long v71), .second, .unset, .unset, .unset, .unset, .unset, .unset, .unset, .unset, .unset, .unset, .unset, .unset] [])) _
        refine XS.aload X249.here hx rfl (hb hby at_73) rfl rfl ?_
        show Steps p.tables e below (T249.setTop (mkF m 75 #[.val (.int p1), .val (.int p2), .val (.int v6), .val (.int v12), .val (.int v18), .val (.int v25), .val (.int v30), .val (.ref b224), .val (.long v71), .second, .unset, .unset, .unset, .unset, .unset, .unset, .unset, .unset, .unset, .unset, .unset, .unset] [(.ref b224)])) _
        refine XS.iload X249.here hx rfl (hb hby at_75) rfl ?_
        show Steps p.tables e below (T249.setTop (mkF m 77 #[.val (.int p1), .val (.int p2), .val (.int v6), .val (.int v12), .val (.int v18), .val (.int v25), .val (.int v30), .val (.ref b224), .val (.long v71), .second, .unset, .unset, .unset, .unset, .unset, .unset, .unset, .unset, .unset, .unset, .unset, .unset] [(.int v25), (.ref b224)])) _
        refine st251.trans ?_
        show Steps p.tables e below (T251.setTop (mkF m 80 #[.val (.int p1), .val (.int p2), .val (.int v6), .val (.int v12), .val (.int v18), .val (.int v25), .val (.int v30), .val (.ref b224), .val (.long v71), .second, .unset, .unset, .unset, .unset, .unset, .unset, .unset, .unset, .unset, .unset, .unset, .unset] [(.long ((upd (upd (upd (upd (upd (upd (upd (upd (upd (upd (fun _ => 0) (0 : Int32).toNatClampNeg (-1 : Int64)) (1 : Int32).toNatClampNeg (-1 : Int64)) (2 : Int32).toNatClampNeg (-1 : Int64)) (3 : Int32).toNatClampNeg (-1 : Int64)) v6.toNatClampNeg (0 : Int64)) v18.toNatClampNeg (-1 : Int64)) v30.toNatClampNeg (-1 : Int64)) v12.toNatClampNeg (1 : Int64)) v18.toNatClampNeg ((1 : Int64) + (1 : Int64))) v25.toNatClampNeg (((1 : Int64) + (1 : Int64)) + (1 : Int64))) v25.toNatClampNeg))])) _
        refine XS.lstore X251.here hx rfl (hb hby at_80) rfl (l' := #[.val (.int p1), .val (.int p2), .val (.int v6), .val (.int v12), .val (.int v18), .val (.int v25), .val (.int v30), .val (.ref b224), .val (.long v71), .second, .val (.long ((upd (upd (upd (upd (upd (upd (upd (upd (upd (upd (fun _ => 0) (0 : Int32).toNatClampNeg (-1 : Int64)) (1 : Int32).toNatClampNeg (-1 : Int64)) (2 : Int32).toNatClampNeg (-1 : Int64)) (3 : Int32).toNatClampNeg (-1 : Int64)) v6.toNatClampNeg (0 : Int64)) v18.toNatClampNeg (-1 : Int64)) v30.toNatClampNeg (-1 : Int64)) v12.toNatClampNeg (1 : Int64)) v18.toNatClampNeg ((1 : Int64) + (1 : Int64))) v25.toNatClampNeg (((1 : Int64) + (1 : Int64)) + (1 : Int64))) v25.toNatClampNeg)), .second, .unset, .unset, .unset, .unset, .unset, .unset, .unset, .unset, .unset, .unset]) rfl ?_
        rw [hv80] at k
        exact k)
      obtain ⟨cq253, kq253, q253a, q253b, q253c⟩ := isOf hZ rfl E_b224
      obtain ⟨_, _, ⟨T253, L253, k253, n253⟩, -, X253, ⟨Lc253, hQ253, l253, y253, z253⟩, st253⟩ := X251.virtualBack hx (y := (⟨"com/example/wachter/wachter/sim/QueueOrder", "granted", "(I)J"⟩ : MethodName)) (z := (⟨"com/example/wachter/wachter/sim/QueueOrder", "granted", "(I)J"⟩ : MethodName)) hown (mvT hZ (hw _ (List.mem_of_getElem? (i := 120) rfl))) (mvT hZ (hw _ (List.mem_of_getElem? (i := 121) rfl))) (notFace_of_selects (args := #[]) (mvT hZ (hw _ (List.mem_of_getElem? (i := 123) rfl)))) (mvT hZ (hw _ (List.mem_of_getElem? (i := 123) rfl))) (mvT hZ (hw _ (List.mem_of_getElem? (i := 122) rfl))) (by decide) (backOf (W := 0) (rmG0 l Z a0 hw [] b224 v6 ra_225 ja_225 bl_225 bd_225 kb_225 (upd (upd (upd (upd (fun _ => .null) (0 : Int32).toNatClampNeg (.ref l0_225)) (1 : Int32).toNatClampNeg (.ref l1_225)) (2 : Int32).toNatClampNeg (.ref l2_225)) (3 : Int32).toNatClampNeg (.ref l3_225)) (4 : Int32) ((((1 : Int64) + (1 : Int64)) + (1 : Int64)) + (1 : Int64)) (upd (upd (upd (upd (upd (upd (upd (upd (upd (upd (fun _ => 0) (0 : Int32).toNatClampNeg (-1 : Int64)) (1 : Int32).toNatClampNeg (-1 : Int64)) (2 : Int32).toNatClampNeg (-1 : Int64)) (3 : Int32).toNatClampNeg (-1 : Int64)) v6.toNatClampNeg (0 : Int64)) v18.toNatClampNeg (-1 : Int64)) v30.toNatClampNeg (-1 : Int64)) v12.toNatClampNeg (1 : Int64)) v18.toNatClampNeg ((1 : Int64) + (1 : Int64))) v25.toNatClampNeg (((1 : Int64) + (1 : Int64)) + (1 : Int64))) lh dd (0 : Int32) T251.heap n0 Zs E_b224 F_requests_b224 F_joinedAs_b224 F_behind_b224 F_joined_b224 A_ja_225 g_b224 g_ja_225 g_lh E_bl_225 F_elementData_bl_225 F_size_bl_225 F_modCount_bl_225 A_bd_225 E_lh F_elementData_lh F_size_lh F_modCount_lh ne_b224_ja_225 ne_b224_bl_225 ne_b224_bd_225 (Ne.symm ne_lh_b224) ne_ja_225_bl_225 ne_ja_225_bd_225 (Ne.symm ne_lh_ja_225) ne_bl_225_bd_225 (Ne.symm ne_lh_bl_225) (Ne.symm ne_lh_bd_225) ih hB_lh (by rcases hc4 with ⟨e1, e2, e3, e4⟩ | ⟨e1, e2, e3, e4⟩ | ⟨e1, e2, e3, e4⟩ | ⟨e1, e2, e3, e4⟩ <;> rcases im4 with e5 | e5 | e5 | e5 <;> (try simp only [e1, e2, e3, e4, e5] at hmv hmh ⊢) <;> first | decide | (revert hmv hmh; decide))) hZ (hw _ (List.mem_of_getElem? (i := 124) rfl)) (hw _ (List.mem_of_getElem? (i := 3) rfl)) (by decide) (by decide)) q253a q253c (g := (mkF m 85 #[.val (.int p1), .val (.int p2), .val (.int v6), .val (.int v12), .val (.int v18), .val (.int v25), .val (.int v30), .val (.ref b224), .val (.long v71), .second, .val (.long v80), .second, .unset, .unset, .unset, .unset, .unset, .unset, .unset, .unset, .unset, .unset] [(.int v6), (.ref b224)])) rfl (by rw [hml]; rfl) (Steps.refl _) (argsL := [(.int v6)]) (rest := []) (lenOf pd_15 rfl) rfl (by show 2 * 0 + _ ≤ _; exact Nat.le_of_eq rfl) (hb hby at_85) (fun _ _ => ⟨rfl, rfl, (by decide : 14 + 1 ≤ _), (by decide : 55 + 4 ≤ _)⟩)
      dsimp only [Pt.U, Pt.locs, Pt.cells, Pt.slots] at X253 l253 y253 z253 st253 hQ253
      subst l253 y253 z253
      obtain ⟨rfl, N253q, K253, P253_1, P253_2, P253_3, P253_4, P253_5, P253_6, P253_7, P253_8⟩ := hQ253
      have Zs : n0 ≤ T253.heap.size := Nat.le_trans Zs K253.1
      have Ol : Old Z n0 T253.heap := Ol.keep K253 (allS g_b224 (allS g_ja_225 (allS g_lh all0)))
      have E_b224 : Exa Z T253.heap b224 "com/example/wachter/wachter/sim/QueueOrder" := E_b224.keep K253
      have E_bl_225 : Exa Z T253.heap bl_225 "java/util/ArrayList" := E_bl_225.keep K253
      have F_elementData_bl_225 : Fld Z T253.heap bl_225 "java/util/ArrayList" "elementData" "[Ljava/lang/Object;" (.ref bd_225) := F_elementData_bl_225.keep K253 (ninS (Ne.symm ne_b224_bl_225) (ninS (Ne.symm ne_ja_225_bl_225) (ninS (Ne.symm ne_lh_bl_225) nin0)))
      have F_size_bl_225 : Fld Z T253.heap bl_225 "java/util/ArrayList" "size" "I" (.int (4 : Int32)) := F_size_bl_225.keep K253 (ninS (Ne.symm ne_b224_bl_225) (ninS (Ne.symm ne_ja_225_bl_225) (ninS (Ne.symm ne_lh_bl_225) nin0)))
      have F_modCount_bl_225 : Fld Z T253.heap bl_225 "java/util/AbstractList" "modCount" "I" (.int (4 : Int32)) := F_modCount_bl_225.keep K253 (ninS (Ne.symm ne_b224_bl_225) (ninS (Ne.symm ne_ja_225_bl_225) (ninS (Ne.symm ne_lh_bl_225) nin0)))
      have A_bd_225 : ArR Z T253.heap bd_225 kb_225 "java/lang/Object" (4 : Int32) (upd (upd (upd (upd (fun _ => .null) (0 : Int32).toNatClampNeg (.ref l0_225)) (1 : Int32).toNatClampNeg (.ref l1_225)) (2 : Int32).toNatClampNeg (.ref l2_225)) (3 : Int32).toNatClampNeg (.ref l3_225)) := A_bd_225.keep K253 (ninS (Ne.symm ne_b224_bd_225) (ninS (Ne.symm ne_ja_225_bd_225) (ninS (Ne.symm ne_lh_bd_225) nin0)))
      have E_lh : Exa Z T253.heap lh "java/util/ArrayList" := E_lh.keep K253
      have E_lu : Exa Z T253.heap lu "java/util/ArrayList" := E_lu.keep K253
      have E_lv : Exa Z T253.heap lv "java/util/ArrayList" := E_lv.keep K253
      have E_lw : Exa Z T253.heap lw "java/util/ArrayList" := E_lw.keep K253
      have E_wt_227 : Exa Z T253.heap wt_227 "[I" := E_wt_227.keep K253
      have A_wt_227 : ArI Z T253.heap wt_227 (2 : Int32) (upd (upd (fun _ => 0) (0 : Int32).toNatClampNeg v18) (1 : Int32).toNatClampNeg ((upd (fun _ => 0) v18.toNatClampNeg (((fun _ => 0) v18.toNatClampNeg) + (1 : Int32))) v18.toNatClampNeg)) := A_wt_227.keep K253 (ninS (Ne.symm ne_b224_wt_227) (ninS (Ne.symm ne_ja_225_wt_227) (ninS (Ne.symm ne_lh_wt_227) nin0)))
      have A_ra_225 : ArI Z T253.heap ra_225 (4 : Int32) (upd (upd (fun _ => 0) v18.toNatClampNeg (((fun _ => 0) v18.toNatClampNeg) + (1 : Int32))) v30.toNatClampNeg (((upd (fun _ => 0) v18.toNatClampNeg (((fun _ => 0) v18.toNatClampNeg) + (1 : Int32))) v30.toNatClampNeg) + (1 : Int32))) := A_ra_225.keep K253 (ninS (Ne.symm ne_b224_ra_225) (ninS ne_ra_225_ja_225 (ninS (Ne.symm ne_lh_ra_225) nin0)))
      have F_elementData_lu : Fld Z T253.heap lu "java/util/ArrayList" "elementData" "[Ljava/lang/Object;" (.ref eb_227) := F_elementData_lu.keep K253 (ninS ne_lu_b224 (ninS ne_lu_ja_225 (ninS (Ne.symm ne_lh_lu) nin0)))
      have F_size_lu : Fld Z T253.heap lu "java/util/ArrayList" "size" "I" (.int (0 : Int32)) := F_size_lu.keep K253 (ninS ne_lu_b224 (ninS ne_lu_ja_225 (ninS (Ne.symm ne_lh_lu) nin0)))
      have F_modCount_lu : Fld Z T253.heap lu "java/util/AbstractList" "modCount" "I" (.int (2 : Int32)) := F_modCount_lu.keep K253 (ninS ne_lu_b224 (ninS ne_lu_ja_225 (ninS (Ne.symm ne_lh_lu) nin0)))
      have A_eb_227 : ArR Z T253.heap eb_227 ke_227 "java/lang/Object" (10 : Int32) (upd (upd (fun _ => .null) (0 : Int32).toNatClampNeg (.ref wt_227)) (0 : Int32).toNatClampNeg .null) := A_eb_227.keep K253 (ninS (Ne.symm ne_b224_eb_227) (ninS (Ne.symm ne_ja_225_eb_227) (ninS (Ne.symm ne_lh_eb_227) nin0)))
      have F_elementData_lv : Fld Z T253.heap lv "java/util/ArrayList" "elementData" "[Ljava/lang/Object;" (.ref dd) := F_elementData_lv.keep K253 (ninS ne_lv_b224 (ninS ne_lv_ja_225 (ninS (Ne.symm ne_lh_lv) nin0)))
      have F_size_lv : Fld Z T253.heap lv "java/util/ArrayList" "size" "I" (.int (0 : Int32)) := F_size_lv.keep K253 (ninS ne_lv_b224 (ninS ne_lv_ja_225 (ninS (Ne.symm ne_lh_lv) nin0)))
      have F_modCount_lv : Fld Z T253.heap lv "java/util/AbstractList" "modCount" "I" (.int (1 : Int32)) := F_modCount_lv.keep K253 (ninS ne_lv_b224 (ninS ne_lv_ja_225 (ninS (Ne.symm ne_lh_lv) nin0)))
      have F_elementData_lw : Fld Z T253.heap lw "java/util/ArrayList" "elementData" "[Ljava/lang/Object;" (.ref dd) := F_elementData_lw.keep K253 (ninS ne_lw_b224 (ninS ne_lw_ja_225 (ninS (Ne.symm ne_lh_lw) nin0)))
      have F_size_lw : Fld Z T253.heap lw "java/util/ArrayList" "size" "I" (.int (0 : Int32)) := F_size_lw.keep K253 (ninS ne_lw_b224 (ninS ne_lw_ja_225 (ninS (Ne.symm ne_lh_lw) nin0)))
      have F_modCount_lw : Fld Z T253.heap lw "java/util/AbstractList" "modCount" "I" (.int (1 : Int32)) := F_modCount_lw.keep K253 (ninS ne_lw_b224 (ninS ne_lw_ja_225 (ninS (Ne.symm ne_lh_lw) nin0)))
      have F_requests_b224 : Fld Z T253.heap b224 "com/example/wachter/wachter/sim/QueueOrder" "requests" "[I" (.ref ra_225) := P253_1
      have F_joinedAs_b224 : Fld Z T253.heap b224 "com/example/wachter/wachter/sim/QueueOrder" "joinedAs" "[J" (.ref ja_225) := P253_2
      have F_behind_b224 : Fld Z T253.heap b224 "com/example/wachter/wachter/sim/QueueOrder" "behind" "Ljava/util/List;" (.ref bl_225) := P253_3
      have F_joined_b224 : Fld Z T253.heap b224 "com/example/wachter/wachter/sim/QueueOrder" "joined" "J" (.long (((((1 : Int64) + (1 : Int64)) + (1 : Int64)) + (1 : Int64)) + (1 : Int64))) := P253_4
      have A_ja_225 : ArJ Z T253.heap ja_225 (4 : Int32) (upd (upd (upd (upd (upd (upd (upd (upd (upd (upd (upd (fun _ => 0) (0 : Int32).toNatClampNeg (-1 : Int64)) (1 : Int32).toNatClampNeg (-1 : Int64)) (2 : Int32).toNatClampNeg (-1 : Int64)) (3 : Int32).toNatClampNeg (-1 : Int64)) v6.toNatClampNeg (0 : Int64)) v18.toNatClampNeg (-1 : Int64)) v30.toNatClampNeg (-1 : Int64)) v12.toNatClampNeg (1 : Int64)) v18.toNatClampNeg ((1 : Int64) + (1 : Int64))) v25.toNatClampNeg (((1 : Int64) + (1 : Int64)) + (1 : Int64))) v6.toNatClampNeg ((((1 : Int64) + (1 : Int64)) + (1 : Int64)) + (1 : Int64))) := P253_5
      have F_elementData_lh : Fld Z T253.heap lh "java/util/ArrayList" "elementData" "[Ljava/lang/Object;" (.ref dd) := P253_6
      have F_size_lh : Fld Z T253.heap lh "java/util/ArrayList" "size" "I" (.int (0 : Int32)) := P253_7
      have F_modCount_lh : Fld Z T253.heap lh "java/util/AbstractList" "modCount" "I" (.int (1 : Int32)) := P253_8
      have N253 := Fr.app N251 N253q
      obtain ⟨v88, hv88⟩ : ∃ z : Int64, z = ((upd (upd (upd (upd (upd (upd (upd (upd (upd (upd (upd (fun _ => 0) (0 : Int32).toNatClampNeg (-1 : Int64)) (1 : Int32).toNatClampNeg (-1 : Int64)) (2 : Int32).toNatClampNeg (-1 : Int64)) (3 : Int32).toNatClampNeg (-1 : Int64)) v6.toNatClampNeg (0 : Int64)) v18.toNatClampNeg (-1 : Int64)) v30.toNatClampNeg (-1 : Int64)) v12.toNatClampNeg (1 : Int64)) v18.toNatClampNeg ((1 : Int64) + (1 : Int64))) v25.toNatClampNeg (((1 : Int64) + (1 : Int64)) + (1 : Int64))) v6.toNatClampNeg ((((1 : Int64) + (1 : Int64)) + (1 : Int64)) + (1 : Int64))) v6.toNatClampNeg) := ⟨_, rfl⟩
      have pre254 : ∀ t, Steps p.tables e below (T253.setTop (mkF m 90 #[.val (.int p1), .val (.int p2), .val (.int v6), .val (.int v12), .val (.int v18), .val (.int v25), .val (.int v30), .val (.ref b224), .val (.long v71), .second, .val (.long v80), .second, .val (.long v88), .second, .unset, .unset, .unset, .unset, .unset, .unset, .unset, .unset] [])) t → Steps p.tables e below (s₁.setTop (entryFrame m #[(.int p1), (.int p2)] maxLocals)) t := fun t k => pre252 t (by
        show Steps p.tables e below (T251.setTop (mkF m 82 #[.val (.int p1), .val (.int p2), .val (.int v6), .val (.int v12), .val (.int v18), .val (.int v25), .val (.int v30), .val (.ref b224), .val (.long v71), .second, .val (.long v80), .second, .unset, .unset, .unset, .unset, .unset, .unset, .unset, .unset, .unset, .unset] [])) _
        refine XS.aload X251.here hx rfl (hb hby at_82) rfl rfl ?_
        show Steps p.tables e below (T251.setTop (mkF m 84 #[.val (.int p1), .val (.int p2), .val (.int v6), .val (.int v12), .val (.int v18), .val (.int v25), .val (.int v30), .val (.ref b224), .val (.long v71), .second, .val (.long v80), .second, .unset, .unset, .unset, .unset, .unset, .unset, .unset, .unset, .unset, .unset] [(.ref b224)])) _
        refine XS.iloadN X251.here hx rfl (hb hby at_84) rfl ?_
        show Steps p.tables e below (T251.setTop (mkF m 85 #[.val (.int p1), .val (.int p2), .val (.int v6), .val (.int v12), .val (.int v18), .val (.int v25), .val (.int v30), .val (.ref b224), .val (.long v71), .second, .val (.long v80), .second, .unset, .unset, .unset, .unset, .unset, .unset, .unset, .unset, .unset, .unset] [(.int v6), (.ref b224)])) _
        refine st253.trans ?_
        show Steps p.tables e below (T253.setTop (mkF m 88 #[.val (.int p1), .val (.int p2), .val (.int v6), .val (.int v12), .val (.int v18), .val (.int v25), .val (.int v30), .val (.ref b224), .val (.long v71), .second, .val (.long v80), .second, .unset, .unset, .unset, .unset, .unset, .unset, .unset, .unset, .unset, .unset] [(.long ((upd (upd (upd (upd (upd (upd (upd (upd (upd (upd (upd (fun _ => 0) (0 : Int32).toNatClampNeg (-1 : Int64)) (1 : Int32).toNatClampNeg (-1 : Int64)) (2 : Int32).toNatClampNeg (-1 : Int64)) (3 : Int32).toNatClampNeg (-1 : Int64)) v6.toNatClampNeg (0 : Int64)) v18.toNatClampNeg (-1 : Int64)) v30.toNatClampNeg (-1 : Int64)) v12.toNatClampNeg (1 : Int64)) v18.toNatClampNeg ((1 : Int64) + (1 : Int64))) v25.toNatClampNeg (((1 : Int64) + (1 : Int64)) + (1 : Int64))) v6.toNatClampNeg ((((1 : Int64) + (1 : Int64)) + (1 : Int64)) + (1 : Int64))) v6.toNatClampNeg))])) _
        refine XS.lstore X253.here hx rfl (hb hby at_88) rfl (l' := #[.val (.int p1), .val (.int p2), .val (.int v6), .val (.int v12), .val (.int v18), .val (.int v25), .val (.int v30), .val (.ref b224), .val (.long v71), .second, .val (.long v80), .second, .val (.long ((upd (upd (upd (upd (upd (upd (upd (upd (upd (upd (upd (fun _ => 0) (0 : Int32).toNatClampNeg (-1 : Int64)) (1 : Int32).toNatClampNeg (-1 : Int64)) (2 : Int32).toNatClampNeg (-1 : Int64)) (3 : Int32).toNatClampNeg (-1 : Int64)) v6.toNatClampNeg (0 : Int64)) v18.toNatClampNeg (-1 : Int64)) v30.toNatClampNeg (-1 : Int64)) v12.toNatClampNeg (1 : Int64)) v18.toNatClampNeg ((1 : Int64) + (1 : Int64))) v25.toNatClampNeg (((1 : Int64) + (1 : Int64)) + (1 : Int64))) v6.toNatClampNeg ((((1 : Int64) + (1 : Int64)) + (1 : Int64)) + (1 : Int64))) v6.toNatClampNeg)), .second, .unset, .unset, .unset, .unset, .unset, .unset, .unset, .unset]) rfl ?_
        rw [hv88] at k
        exact k)
      obtain ⟨cq255, kq255, q255a, q255b, q255c⟩ := isOf hZ rfl E_b224
      obtain ⟨_, _, ⟨T255, L255, k255, n255⟩, -, X255, ⟨Lc255, hQ255, l255, y255, z255⟩, st255⟩ := X253.virtualBack hx (y := (⟨"com/example/wachter/wachter/sim/QueueOrder", "granted", "(I)J"⟩ : MethodName)) (z := (⟨"com/example/wachter/wachter/sim/QueueOrder", "granted", "(I)J"⟩ : MethodName)) hown (mvT hZ (hw _ (List.mem_of_getElem? (i := 120) rfl))) (mvT hZ (hw _ (List.mem_of_getElem? (i := 121) rfl))) (notFace_of_selects (args := #[]) (mvT hZ (hw _ (List.mem_of_getElem? (i := 123) rfl)))) (mvT hZ (hw _ (List.mem_of_getElem? (i := 123) rfl))) (mvT hZ (hw _ (List.mem_of_getElem? (i := 122) rfl))) (by decide) (backOf (W := 0) (rmGN l Z a0 hw [] b224 v18 ja_225 (upd (upd (upd (upd (upd (upd (upd (upd (upd (upd (upd (fun _ => 0) (0 : Int32).toNatClampNeg (-1 : Int64)) (1 : Int32).toNatClampNeg (-1 : Int64)) (2 : Int32).toNatClampNeg (-1 : Int64)) (3 : Int32).toNatClampNeg (-1 : Int64)) v6.toNatClampNeg (0 : Int64)) v18.toNatClampNeg (-1 : Int64)) v30.toNatClampNeg (-1 : Int64)) v12.toNatClampNeg (1 : Int64)) v18.toNatClampNeg ((1 : Int64) + (1 : Int64))) v25.toNatClampNeg (((1 : Int64) + (1 : Int64)) + (1 : Int64))) v6.toNatClampNeg ((((1 : Int64) + (1 : Int64)) + (1 : Int64)) + (1 : Int64))) T253.heap n0 Zs F_joinedAs_b224 A_ja_225 iv (by rcases hc4 with ⟨e1, e2, e3, e4⟩ | ⟨e1, e2, e3, e4⟩ | ⟨e1, e2, e3, e4⟩ | ⟨e1, e2, e3, e4⟩ <;> rcases im4 with e5 | e5 | e5 | e5 <;> (try simp only [e1, e2, e3, e4, e5] at hmv hmh ⊢) <;> first | decide | (revert hmv hmh; decide))) hZ (hw _ (List.mem_of_getElem? (i := 124) rfl)) (hw _ (List.mem_of_getElem? (i := 3) rfl)) (by decide) (by decide)) q255a q255c (g := (mkF m 94 #[.val (.int p1), .val (.int p2), .val (.int v6), .val (.int v12), .val (.int v18), .val (.int v25), .val (.int v30), .val (.ref b224), .val (.long v71), .second, .val (.long v80), .second, .val (.long v88), .second, .unset, .unset, .unset, .unset, .unset, .unset, .unset, .unset] [(.int v18), (.ref b224)])) rfl (by rw [hml]; rfl) (Steps.refl _) (argsL := [(.int v18)]) (rest := []) (lenOf pd_15 rfl) rfl (by show 2 * 0 + _ ≤ _; exact Nat.le_of_eq rfl) (hb hby at_94) (fun _ _ => ⟨rfl, rfl, (by decide : 15 + 0 ≤ _), (by decide : 59 + 0 ≤ _)⟩)
      dsimp only [Pt.U, Pt.locs, Pt.cells, Pt.slots] at X255 l255 y255 z255 st255 hQ255
      subst l255 y255 z255
      obtain ⟨rfl, N255q, e255⟩ := hQ255
      have N255 := Fr.app N253 N255q
      obtain ⟨v97, hv97⟩ : ∃ z : Int64, z = ((upd (upd (upd (upd (upd (upd (upd (upd (upd (upd (upd (fun _ => 0) (0 : Int32).toNatClampNeg (-1 : Int64)) (1 : Int32).toNatClampNeg (-1 : Int64)) (2 : Int32).toNatClampNeg (-1 : Int64)) (3 : Int32).toNatClampNeg (-1 : Int64)) v6.toNatClampNeg (0 : Int64)) v18.toNatClampNeg (-1 : Int64)) v30.toNatClampNeg (-1 : Int64)) v12.toNatClampNeg (1 : Int64)) v18.toNatClampNeg ((1 : Int64) + (1 : Int64))) v25.toNatClampNeg (((1 : Int64) + (1 : Int64)) + (1 : Int64))) v6.toNatClampNeg ((((1 : Int64) + (1 : Int64)) + (1 : Int64)) + (1 : Int64))) v18.toNatClampNeg) := ⟨_, rfl⟩
      have pre256 : ∀ t, Steps p.tables e below (T255.setTop (mkF m 99 #[.val (.int p1), .val (.int p2), .val (.int v6), .val (.int v12), .val (.int v18), .val (.int v25), .val (.int v30), .val (.ref b224), .val (.long v71), .second, .val (.long v80), .second, .val (.long v88), .second, .val (.long v97), .second, .unset, .unset, .unset, .unset, .unset, .unset] [])) t → Steps p.tables e below (s₁.setTop (entryFrame m #[(.int p1), (.int p2)] maxLocals)) t := fun t k => pre254 t (by
        show Steps p.tables e below (T253.setTop (mkF m 90 #[.val (.int p1), .val (.int p2), .val (.int v6), .val (.int v12), .val (.int v18), .val (.int v25), .val (.int v30), .val (.ref b224), .val (.long v71), .second, .val (.long v80), .second, .val (.long v88), .second, .unset, .unset, .unset, .unset, .unset, .unset, .unset, .unset] [])) _
        refine XS.aload X253.here hx rfl (hb hby at_90) rfl rfl ?_
        show Steps p.tables e below (T253.setTop (mkF m 92 #[.val (.int p1), .val (.int p2), .val (.int v6), .val (.int v12), .val (.int v18), .val (.int v25), .val (.int v30), .val (.ref b224), .val (.long v71), .second, .val (.long v80), .second, .val (.long v88), .second, .unset, .unset, .unset, .unset, .unset, .unset, .unset, .unset] [(.ref b224)])) _
        refine XS.iload X253.here hx rfl (hb hby at_92) rfl ?_
        show Steps p.tables e below (T253.setTop (mkF m 94 #[.val (.int p1), .val (.int p2), .val (.int v6), .val (.int v12), .val (.int v18), .val (.int v25), .val (.int v30), .val (.ref b224), .val (.long v71), .second, .val (.long v80), .second, .val (.long v88), .second, .unset, .unset, .unset, .unset, .unset, .unset, .unset, .unset] [(.int v18), (.ref b224)])) _
        refine st255.trans ?_
        show Steps p.tables e below (T255.setTop (mkF m 97 #[.val (.int p1), .val (.int p2), .val (.int v6), .val (.int v12), .val (.int v18), .val (.int v25), .val (.int v30), .val (.ref b224), .val (.long v71), .second, .val (.long v80), .second, .val (.long v88), .second, .unset, .unset, .unset, .unset, .unset, .unset, .unset, .unset] [(.long ((upd (upd (upd (upd (upd (upd (upd (upd (upd (upd (upd (fun _ => 0) (0 : Int32).toNatClampNeg (-1 : Int64)) (1 : Int32).toNatClampNeg (-1 : Int64)) (2 : Int32).toNatClampNeg (-1 : Int64)) (3 : Int32).toNatClampNeg (-1 : Int64)) v6.toNatClampNeg (0 : Int64)) v18.toNatClampNeg (-1 : Int64)) v30.toNatClampNeg (-1 : Int64)) v12.toNatClampNeg (1 : Int64)) v18.toNatClampNeg ((1 : Int64) + (1 : Int64))) v25.toNatClampNeg (((1 : Int64) + (1 : Int64)) + (1 : Int64))) v6.toNatClampNeg ((((1 : Int64) + (1 : Int64)) + (1 : Int64)) + (1 : Int64))) v18.toNatClampNeg))])) _
        refine XS.lstore X255.here hx rfl (hb hby at_97) rfl (l' := #[.val (.int p1), .val (.int p2), .val (.int v6), .val (.int v12), .val (.int v18), .val (.int v25), .val (.int v30), .val (.ref b224), .val (.long v71), .second, .val (.long v80), .second, .val (.long v88), .second, .val (.long ((upd (upd (upd (upd (upd (upd (upd (upd (upd (upd (upd (fun _ => 0) (0 : Int32).toNatClampNeg (-1 : Int64)) (1 : Int32).toNatClampNeg (-1 : Int64)) (2 : Int32).toNatClampNeg (-1 : Int64)) (3 : Int32).toNatClampNeg (-1 : Int64)) v6.toNatClampNeg (0 : Int64)) v18.toNatClampNeg (-1 : Int64)) v30.toNatClampNeg (-1 : Int64)) v12.toNatClampNeg (1 : Int64)) v18.toNatClampNeg ((1 : Int64) + (1 : Int64))) v25.toNatClampNeg (((1 : Int64) + (1 : Int64)) + (1 : Int64))) v6.toNatClampNeg ((((1 : Int64) + (1 : Int64)) + (1 : Int64)) + (1 : Int64))) v18.toNatClampNeg)), .second, .unset, .unset, .unset, .unset, .unset, .unset]) rfl ?_
        rw [hv97] at k
        exact k)
      have pre257 : ∀ t, Steps p.tables e below (T255.setTop (mkF m 151 #[.val (.int p1), .val (.int p2), .val (.int v6), .val (.int v12), .val (.int v18), .val (.int v25), .val (.int v30), .val (.ref b224), .val (.long v71), .second, .val (.long v80), .second, .val (.long v88), .second, .val (.long v97), .second, .val (.long (3 : Int64)), .second, .val (.long (4 : Int64)), .second, .val (.long (2 : Int64)), .second] [(.int (lcmpW v71 (1 : Int64)))])) t → Steps p.tables e below (s₁.setTop (entryFrame m #[(.int p1), (.int p2)] maxLocals)) t := fun t k => pre256 t (by
        show Steps p.tables e below (T255.setTop (mkF m 99 #[.val (.int p1), .val (.int p2), .val (.int v6), .val (.int v12), .val (.int v18), .val (.int v25), .val (.int v30), .val (.ref b224), .val (.long v71), .second, .val (.long v80), .second, .val (.long v88), .second, .val (.long v97), .second, .unset, .unset, .unset, .unset, .unset, .unset] [])) _
        refine XS.iload X255.here hx rfl (hb hby at_99) rfl ?_
        show Steps p.tables e below (T255.setTop (mkF m 101 #[.val (.int p1), .val (.int p2), .val (.int v6), .val (.int v12), .val (.int v18), .val (.int v25), .val (.int v30), .val (.ref b224), .val (.long v71), .second, .val (.long v80), .second, .val (.long v88), .second, .val (.long v97), .second, .unset, .unset, .unset, .unset, .unset, .unset] [(.int v30)])) _
        refine XS.iload X255.here hx rfl (hb hby at_101) rfl ?_
        show Steps p.tables e below (T255.setTop (mkF m 103 #[.val (.int p1), .val (.int p2), .val (.int v6), .val (.int v12), .val (.int v18), .val (.int v25), .val (.int v30), .val (.ref b224), .val (.long v71), .second, .val (.long v80), .second, .val (.long v88), .second, .val (.long v97), .second, .unset, .unset, .unset, .unset, .unset, .unset] [(.int v18), (.int v30)])) _
        refine XS.icmpYes X255.here hx rfl (pc0 := 103) (pc' := 122) rfl (hb hby at_103) rfl (feq hmv).2 (by decide) (by decide) ?_
        show Steps p.tables e below (T255.setTop (mkF m 122 #[.val (.int p1), .val (.int p2), .val (.int v6), .val (.int v12), .val (.int v18), .val (.int v25), .val (.int v30), .val (.ref b224), .val (.long v71), .second, .val (.long v80), .second, .val (.long v88), .second, .val (.long v97), .second, .unset, .unset, .unset, .unset, .unset, .unset] [])) _
        refine X255.ldc2Long hx hown (mvT hZ (hw _ (List.mem_of_getElem? (i := 188) rfl))) (g := (mkF m 122 #[.val (.int p1), .val (.int p2), .val (.int v6), .val (.int v12), .val (.int v18), .val (.int v25), .val (.int v30), .val (.ref b224), .val (.long v71), .second, .val (.long v80), .second, .val (.long v88), .second, .val (.long v97), .second, .unset, .unset, .unset, .unset, .unset, .unset] [])) rfl (hb hby at_122) _ ?_
        show Steps p.tables e below (T255.setTop (mkF m 125 #[.val (.int p1), .val (.int p2), .val (.int v6), .val (.int v12), .val (.int v18), .val (.int v25), .val (.int v30), .val (.ref b224), .val (.long v71), .second, .val (.long v80), .second, .val (.long v88), .second, .val (.long v97), .second, .unset, .unset, .unset, .unset, .unset, .unset] [(.long (3 : Int64))])) _
        refine XS.lstore X255.here hx rfl (hb hby at_125) rfl (l' := #[.val (.int p1), .val (.int p2), .val (.int v6), .val (.int v12), .val (.int v18), .val (.int v25), .val (.int v30), .val (.ref b224), .val (.long v71), .second, .val (.long v80), .second, .val (.long v88), .second, .val (.long v97), .second, .val (.long (3 : Int64)), .second, .unset, .unset, .unset, .unset]) rfl ?_
        show Steps p.tables e below (T255.setTop (mkF m 127 #[.val (.int p1), .val (.int p2), .val (.int v6), .val (.int v12), .val (.int v18), .val (.int v25), .val (.int v30), .val (.ref b224), .val (.long v71), .second, .val (.long v80), .second, .val (.long v88), .second, .val (.long v97), .second, .val (.long (3 : Int64)), .second, .unset, .unset, .unset, .unset] [])) _
        refine XS.iload X255.here hx rfl (hb hby at_127) rfl ?_
        show Steps p.tables e below (T255.setTop (mkF m 129 #[.val (.int p1), .val (.int p2), .val (.int v6), .val (.int v12), .val (.int v18), .val (.int v25), .val (.int v30), .val (.ref b224), .val (.long v71), .second, .val (.long v80), .second, .val (.long v88), .second, .val (.long v97), .second, .val (.long (3 : Int64)), .second, .unset, .unset, .unset, .unset] [(.int v30)])) _
        refine XS.iloadN X255.here hx rfl (hb hby at_129) rfl ?_
        show Steps p.tables e below (T255.setTop (mkF m 130 #[.val (.int p1), .val (.int p2), .val (.int v6), .val (.int v12), .val (.int v18), .val (.int v25), .val (.int v30), .val (.ref b224), .val (.long v71), .second, .val (.long v80), .second, .val (.long v88), .second, .val (.long v97), .second, .val (.long (3 : Int64)), .second, .unset, .unset, .unset, .unset] [(.int v6), (.int v30)])) _
        refine XS.icmpNo X255.here hx rfl (hb hby at_130) rfl (teq hmh).2 ?_
        show Steps p.tables e below (T255.setTop (mkF m 133 #[.val (.int p1), .val (.int p2), .val (.int v6), .val (.int v12), .val (.int v18), .val (.int v25), .val (.int v30), .val (.ref b224), .val (.long v71), .second, .val (.long v80), .second, .val (.long v88), .second, .val (.long v97), .second, .val (.long (3 : Int64)), .second, .unset, .unset, .unset, .unset] [])) _
        refine X255.ldc2Long hx hown (mvT hZ (hw _ (List.mem_of_getElem? (i := 190) rfl))) (g := (mkF m 133 #[.val (.int p1), .val (.int p2), .val (.int v6), .val (.int v12), .val (.int v18), .val (.int v25), .val (.int v30), .val (.ref b224), .val (.long v71), .second, .val (.long v80), .second, .val (.long v88), .second, .val (.long v97), .second, .val (.long (3 : Int64)), .second, .unset, .unset, .unset, .unset] [])) rfl (hb hby at_133) _ ?_
        show Steps p.tables e below (T255.setTop (mkF m 136 #[.val (.int p1), .val (.int p2), .val (.int v6), .val (.int v12), .val (.int v18), .val (.int v25), .val (.int v30), .val (.ref b224), .val (.long v71), .second, .val (.long v80), .second, .val (.long v88), .second, .val (.long v97), .second, .val (.long (3 : Int64)), .second, .unset, .unset, .unset, .unset] [(.long (4 : Int64))])) _
        refine XS.goto X255.here hx rfl (pc0 := 136) (pc' := 140) rfl (hb hby at_136) (by decide) (by decide) ?_
        show Steps p.tables e below (T255.setTop (mkF m 140 #[.val (.int p1), .val (.int p2), .val (.int v6), .val (.int v12), .val (.int v18), .val (.int v25), .val (.int v30), .val (.ref b224), .val (.long v71), .second, .val (.long v80), .second, .val (.long v88), .second, .val (.long v97), .second, .val (.long (3 : Int64)), .second, .unset, .unset, .unset, .unset] [(.long (4 : Int64))])) _
        refine XS.lstore X255.here hx rfl (hb hby at_140) rfl (l' := #[.val (.int p1), .val (.int p2), .val (.int v6), .val (.int v12), .val (.int v18), .val (.int v25), .val (.int v30), .val (.ref b224), .val (.long v71), .second, .val (.long v80), .second, .val (.long v88), .second, .val (.long v97), .second, .val (.long (3 : Int64)), .second, .val (.long (4 : Int64)), .second, .unset, .unset]) rfl ?_
        show Steps p.tables e below (T255.setTop (mkF m 142 #[.val (.int p1), .val (.int p2), .val (.int v6), .val (.int v12), .val (.int v18), .val (.int v25), .val (.int v30), .val (.ref b224), .val (.long v71), .second, .val (.long v80), .second, .val (.long v88), .second, .val (.long v97), .second, .val (.long (3 : Int64)), .second, .val (.long (4 : Int64)), .second, .unset, .unset] [])) _
        refine X255.ldc2Long hx hown (mvT hZ (hw _ (List.mem_of_getElem? (i := 189) rfl))) (g := (mkF m 142 #[.val (.int p1), .val (.int p2), .val (.int v6), .val (.int v12), .val (.int v18), .val (.int v25), .val (.int v30), .val (.ref b224), .val (.long v71), .second, .val (.long v80), .second, .val (.long v88), .second, .val (.long v97), .second, .val (.long (3 : Int64)), .second, .val (.long (4 : Int64)), .second, .unset, .unset] [])) rfl (hb hby at_142) _ ?_
        show Steps p.tables e below (T255.setTop (mkF m 145 #[.val (.int p1), .val (.int p2), .val (.int v6), .val (.int v12), .val (.int v18), .val (.int v25), .val (.int v30), .val (.ref b224), .val (.long v71), .second, .val (.long v80), .second, .val (.long v88), .second, .val (.long v97), .second, .val (.long (3 : Int64)), .second, .val (.long (4 : Int64)), .second, .unset, .unset] [(.long (2 : Int64))])) _
        refine XS.lstore X255.here hx rfl (hb hby at_145) rfl (l' := #[.val (.int p1), .val (.int p2), .val (.int v6), .val (.int v12), .val (.int v18), .val (.int v25), .val (.int v30), .val (.ref b224), .val (.long v71), .second, .val (.long v80), .second, .val (.long v88), .second, .val (.long v97), .second, .val (.long (3 : Int64)), .second, .val (.long (4 : Int64)), .second, .val (.long (2 : Int64)), .second]) rfl ?_
        show Steps p.tables e below (T255.setTop (mkF m 147 #[.val (.int p1), .val (.int p2), .val (.int v6), .val (.int v12), .val (.int v18), .val (.int v25), .val (.int v30), .val (.ref b224), .val (.long v71), .second, .val (.long v80), .second, .val (.long v88), .second, .val (.long v97), .second, .val (.long (3 : Int64)), .second, .val (.long (4 : Int64)), .second, .val (.long (2 : Int64)), .second] [])) _
        refine XS.lload X255.here hx rfl (hb hby at_147) rfl ?_
        show Steps p.tables e below (T255.setTop (mkF m 149 #[.val (.int p1), .val (.int p2), .val (.int v6), .val (.int v12), .val (.int v18), .val (.int v25), .val (.int v30), .val (.ref b224), .val (.long v71), .second, .val (.long v80), .second, .val (.long v88), .second, .val (.long v97), .second, .val (.long (3 : Int64)), .second, .val (.long (4 : Int64)), .second, .val (.long (2 : Int64)), .second] [(.long v71)])) _
        refine XS.lconst X255.here hx rfl (hb hby at_149) ?_
        show Steps p.tables e below (T255.setTop (mkF m 150 #[.val (.int p1), .val (.int p2), .val (.int v6), .val (.int v12), .val (.int v18), .val (.int v25), .val (.int v30), .val (.ref b224), .val (.long v71), .second, .val (.long v80), .second, .val (.long v88), .second, .val (.long v97), .second, .val (.long (3 : Int64)), .second, .val (.long (4 : Int64)), .second, .val (.long (2 : Int64)), .second] [(.long (1 : Int64)), (.long v71)])) _
        refine XS.lcmp X255.here hx rfl (hb hby at_150) rfl ?_
        exact k)
      obtain ⟨z183_s0, hz183_s0⟩ : ∃ z : Int32, z = (if v71 = (1 : Int64) then (if v80 = (3 : Int64) then (if v88 = (4 : Int64) then (if v97 = (2 : Int64) then (1 : Int32) else (0 : Int32)) else (0 : Int32)) else (0 : Int32)) else (0 : Int32)) := ⟨_, rfl⟩
      obtain ⟨T266, Lc266, X266, e266, N266, pre266⟩ : ∃ (T' : State) (locs' : List Loc), Stand p l e room_1 s m #[(.int p1), (.int p2)] below meth c T' locs' 15 59 ∧ T'.heap = T253.heap ∧ Fr n0 locs' ∧ ∀ t, Steps p.tables e below (T'.setTop (mkF m 183 #[.val (.int p1), .val (.int p2), .val (.int v6), .val (.int v12), .val (.int v18), .val (.int v25), .val (.int v30), .val (.ref b224), .val (.long v71), .second, .val (.long v80), .second, .val (.long v88), .second, .val (.long v97), .second, .val (.long (3 : Int64)), .second, .val (.long (4 : Int64)), .second, .val (.long (2 : Int64)), .second] [(.int z183_s0)])) t → Steps p.tables e below (s₁.setTop (entryFrame m #[(.int p1), (.int p2)] maxLocals)) t := by
        by_cases hc151 : v71 = (1 : Int64)
        ·
          have pre258 : ∀ t, Steps p.tables e below (T255.setTop (mkF m 159 #[.val (.int p1), .val (.int p2), .val (.int v6), .val (.int v12), .val (.int v18), .val (.int v25), .val (.int v30), .val (.ref b224), .val (.long v71), .second, .val (.long v80), .second, .val (.long v88), .second, .val (.long v97), .second, .val (.long (3 : Int64)), .second, .val (.long (4 : Int64)), .second, .val (.long (2 : Int64)), .second] [(.int (lcmpW v80 (3 : Int64)))])) t → Steps p.tables e below (s₁.setTop (entryFrame m #[(.int p1), (.int p2)] maxLocals)) t := fun t k => pre257 t (by
            show Steps p.tables e below (T255.setTop (mkF m 151 #[.val (.int p1), .val (.int p2), .val (.int v6), .val (.int v12), .val (.int v18), .val (.int v25), .val (.int v30), .val (.ref b224), .val (.long v71), .second, .val (.long v80), .second, .val (.long v88), .second, .val (.long v97), .second, .val (.long (3 : Int64)), .second, .val (.long (4 : Int64)), .second, .val (.long (2 : Int64)), .second] [(.int (lcmpW v71 (1 : Int64)))])) _
            refine XS.ifNo X255.here hx rfl (hb hby at_151) rfl ((if0 _ _).trans (teq ((lw_eq v71 (1 : Int64)).mpr hc151)).2) ?_
            show Steps p.tables e below (T255.setTop (mkF m 154 #[.val (.int p1), .val (.int p2), .val (.int v6), .val (.int v12), .val (.int v18), .val (.int v25), .val (.int v30), .val (.ref b224), .val (.long v71), .second, .val (.long v80), .second, .val (.long v88), .second, .val (.long v97), .second, .val (.long (3 : Int64)), .second, .val (.long (4 : Int64)), .second, .val (.long (2 : Int64)), .second] [])) _
            refine XS.lload X255.here hx rfl (hb hby at_154) rfl ?_
            show Steps p.tables e below (T255.setTop (mkF m 156 #[.val (.int p1), .val (.int p2), .val (.int v6), .val (.int v12), .val (.int v18), .val (.int v25), .val (.int v30), .val (.ref b224), .val (.long v71), .second, .val (.long v80), .second, .val (.long v88), .second, .val (.long v97), .second, .val (.long (3 : Int64)), .second, .val (.long (4 : Int64)), .second, .val (.long (2 : Int64)), .second] [(.long v80)])) _
            refine XS.lload X255.here hx rfl (hb hby at_156) rfl ?_
            show Steps p.tables e below (T255.setTop (mkF m 158 #[.val (.int p1), .val (.int p2), .val (.int v6), .val (.int v12), .val (.int v18), .val (.int v25), .val (.int v30), .val (.ref b224), .val (.long v71), .second, .val (.long v80), .second, .val (.long v88), .second, .val (.long v97), .second, .val (.long (3 : Int64)), .second, .val (.long (4 : Int64)), .second, .val (.long (2 : Int64)), .second] [(.long (3 : Int64)), (.long v80)])) _
            refine XS.lcmp X255.here hx rfl (hb hby at_158) rfl ?_
            exact k)
          by_cases hc159 : v80 = (3 : Int64)
          ·
            have pre259 : ∀ t, Steps p.tables e below (T255.setTop (mkF m 167 #[.val (.int p1), .val (.int p2), .val (.int v6), .val (.int v12), .val (.int v18), .val (.int v25), .val (.int v30), .val (.ref b224), .val (.long v71), .second, .val (.long v80), .second, .val (.long v88), .second, .val (.long v97), .second, .val (.long (3 : Int64)), .second, .val (.long (4 : Int64)), .second, .val (.long (2 : Int64)), .second] [(.int (lcmpW v88 (4 : Int64)))])) t → Steps p.tables e below (s₁.setTop (entryFrame m #[(.int p1), (.int p2)] maxLocals)) t := fun t k => pre258 t (by
              show Steps p.tables e below (T255.setTop (mkF m 159 #[.val (.int p1), .val (.int p2), .val (.int v6), .val (.int v12), .val (.int v18), .val (.int v25), .val (.int v30), .val (.ref b224), .val (.long v71), .second, .val (.long v80), .second, .val (.long v88), .second, .val (.long v97), .second, .val (.long (3 : Int64)), .second, .val (.long (4 : Int64)), .second, .val (.long (2 : Int64)), .second] [(.int (lcmpW v80 (3 : Int64)))])) _
              refine XS.ifNo X255.here hx rfl (hb hby at_159) rfl ((if0 _ _).trans (teq ((lw_eq v80 (3 : Int64)).mpr hc159)).2) ?_
              show Steps p.tables e below (T255.setTop (mkF m 162 #[.val (.int p1), .val (.int p2), .val (.int v6), .val (.int v12), .val (.int v18), .val (.int v25), .val (.int v30), .val (.ref b224), .val (.long v71), .second, .val (.long v80), .second, .val (.long v88), .second, .val (.long v97), .second, .val (.long (3 : Int64)), .second, .val (.long (4 : Int64)), .second, .val (.long (2 : Int64)), .second] [])) _
              refine XS.lload X255.here hx rfl (hb hby at_162) rfl ?_
              show Steps p.tables e below (T255.setTop (mkF m 164 #[.val (.int p1), .val (.int p2), .val (.int v6), .val (.int v12), .val (.int v18), .val (.int v25), .val (.int v30), .val (.ref b224), .val (.long v71), .second, .val (.long v80), .second, .val (.long v88), .second, .val (.long v97), .second, .val (.long (3 : Int64)), .second, .val (.long (4 : Int64)), .second, .val (.long (2 : Int64)), .second] [(.long v88)])) _
              refine XS.lload X255.here hx rfl (hb hby at_164) rfl ?_
              show Steps p.tables e below (T255.setTop (mkF m 166 #[.val (.int p1), .val (.int p2), .val (.int v6), .val (.int v12), .val (.int v18), .val (.int v25), .val (.int v30), .val (.ref b224), .val (.long v71), .second, .val (.long v80), .second, .val (.long v88), .second, .val (.long v97), .second, .val (.long (3 : Int64)), .second, .val (.long (4 : Int64)), .second, .val (.long (2 : Int64)), .second] [(.long (4 : Int64)), (.long v88)])) _
              refine XS.lcmp X255.here hx rfl (hb hby at_166) rfl ?_
              exact k)
            by_cases hc167 : v88 = (4 : Int64)
            ·
              have pre260 : ∀ t, Steps p.tables e below (T255.setTop (mkF m 175 #[.val (.int p1), .val (.int p2), .val (.int v6), .val (.int v12), .val (.int v18), .val (.int v25), .val (.int v30), .val (.ref b224), .val (.long v71), .second, .val (.long v80), .second, .val (.long v88), .second, .val (.long v97), .second, .val (.long (3 : Int64)), .second, .val (.long (4 : Int64)), .second, .val (.long (2 : Int64)), .second] [(.int (lcmpW v97 (2 : Int64)))])) t → Steps p.tables e below (s₁.setTop (entryFrame m #[(.int p1), (.int p2)] maxLocals)) t := fun t k => pre259 t (by
                show Steps p.tables e below (T255.setTop (mkF m 167 #[.val (.int p1), .val (.int p2), .val (.int v6), .val (.int v12), .val (.int v18), .val (.int v25), .val (.int v30), .val (.ref b224), .val (.long v71), .second, .val (.long v80), .second, .val (.long v88), .second, .val (.long v97), .second, .val (.long (3 : Int64)), .second, .val (.long (4 : Int64)), .second, .val (.long (2 : Int64)), .second] [(.int (lcmpW v88 (4 : Int64)))])) _
                refine XS.ifNo X255.here hx rfl (hb hby at_167) rfl ((if0 _ _).trans (teq ((lw_eq v88 (4 : Int64)).mpr hc167)).2) ?_
                show Steps p.tables e below (T255.setTop (mkF m 170 #[.val (.int p1), .val (.int p2), .val (.int v6), .val (.int v12), .val (.int v18), .val (.int v25), .val (.int v30), .val (.ref b224), .val (.long v71), .second, .val (.long v80), .second, .val (.long v88), .second, .val (.long v97), .second, .val (.long (3 : Int64)), .second, .val (.long (4 : Int64)), .second, .val (.long (2 : Int64)), .second] [])) _
                refine XS.lload X255.here hx rfl (hb hby at_170) rfl ?_
                show Steps p.tables e below (T255.setTop (mkF m 172 #[.val (.int p1), .val (.int p2), .val (.int v6), .val (.int v12), .val (.int v18), .val (.int v25), .val (.int v30), .val (.ref b224), .val (.long v71), .second, .val (.long v80), .second, .val (.long v88), .second, .val (.long v97), .second, .val (.long (3 : Int64)), .second, .val (.long (4 : Int64)), .second, .val (.long (2 : Int64)), .second] [(.long v97)])) _
                refine XS.lload X255.here hx rfl (hb hby at_172) rfl ?_
                show Steps p.tables e below (T255.setTop (mkF m 174 #[.val (.int p1), .val (.int p2), .val (.int v6), .val (.int v12), .val (.int v18), .val (.int v25), .val (.int v30), .val (.ref b224), .val (.long v71), .second, .val (.long v80), .second, .val (.long v88), .second, .val (.long v97), .second, .val (.long (3 : Int64)), .second, .val (.long (4 : Int64)), .second, .val (.long (2 : Int64)), .second] [(.long (2 : Int64)), (.long v97)])) _
                refine XS.lcmp X255.here hx rfl (hb hby at_174) rfl ?_
                exact k)
              by_cases hc175 : v97 = (2 : Int64)
              ·
                have pre261 : ∀ t, Steps p.tables e below (T255.setTop (mkF m 183 #[.val (.int p1), .val (.int p2), .val (.int v6), .val (.int v12), .val (.int v18), .val (.int v25), .val (.int v30), .val (.ref b224), .val (.long v71), .second, .val (.long v80), .second, .val (.long v88), .second, .val (.long v97), .second, .val (.long (3 : Int64)), .second, .val (.long (4 : Int64)), .second, .val (.long (2 : Int64)), .second] [(.int (1 : Int32))])) t → Steps p.tables e below (s₁.setTop (entryFrame m #[(.int p1), (.int p2)] maxLocals)) t := fun t k => pre260 t (by
                  show Steps p.tables e below (T255.setTop (mkF m 175 #[.val (.int p1), .val (.int p2), .val (.int v6), .val (.int v12), .val (.int v18), .val (.int v25), .val (.int v30), .val (.ref b224), .val (.long v71), .second, .val (.long v80), .second, .val (.long v88), .second, .val (.long v97), .second, .val (.long (3 : Int64)), .second, .val (.long (4 : Int64)), .second, .val (.long (2 : Int64)), .second] [(.int (lcmpW v97 (2 : Int64)))])) _
                  refine XS.ifNo X255.here hx rfl (hb hby at_175) rfl ((if0 _ _).trans (teq ((lw_eq v97 (2 : Int64)).mpr hc175)).2) ?_
                  show Steps p.tables e below (T255.setTop (mkF m 178 #[.val (.int p1), .val (.int p2), .val (.int v6), .val (.int v12), .val (.int v18), .val (.int v25), .val (.int v30), .val (.ref b224), .val (.long v71), .second, .val (.long v80), .second, .val (.long v88), .second, .val (.long v97), .second, .val (.long (3 : Int64)), .second, .val (.long (4 : Int64)), .second, .val (.long (2 : Int64)), .second] [])) _
                  refine XS.iconst X255.here hx rfl (hb hby at_178) ?_
                  show Steps p.tables e below (T255.setTop (mkF m 179 #[.val (.int p1), .val (.int p2), .val (.int v6), .val (.int v12), .val (.int v18), .val (.int v25), .val (.int v30), .val (.ref b224), .val (.long v71), .second, .val (.long v80), .second, .val (.long v88), .second, .val (.long v97), .second, .val (.long (3 : Int64)), .second, .val (.long (4 : Int64)), .second, .val (.long (2 : Int64)), .second] [(.int (1 : Int32))])) _
                  refine XS.goto X255.here hx rfl (pc0 := 179) (pc' := 183) rfl (hb hby at_179) (by decide) (by decide) ?_
                  exact k)
                have q_z183_s0 : z183_s0 = (1 : Int32) := by rw [hz183_s0, if_pos hc151, if_pos hc159, if_pos hc167, if_pos hc175]
                refine ⟨_, _, X255, e255, N255, fun t k => ?_⟩
                rw [q_z183_s0] at k
                exact pre261 t k
              ·
                have pre262 : ∀ t, Steps p.tables e below (T255.setTop (mkF m 183 #[.val (.int p1), .val (.int p2), .val (.int v6), .val (.int v12), .val (.int v18), .val (.int v25), .val (.int v30), .val (.ref b224), .val (.long v71), .second, .val (.long v80), .second, .val (.long v88), .second, .val (.long v97), .second, .val (.long (3 : Int64)), .second, .val (.long (4 : Int64)), .second, .val (.long (2 : Int64)), .second] [(.int (0 : Int32))])) t → Steps p.tables e below (s₁.setTop (entryFrame m #[(.int p1), (.int p2)] maxLocals)) t := fun t k => pre260 t (by
                  show Steps p.tables e below (T255.setTop (mkF m 175 #[.val (.int p1), .val (.int p2), .val (.int v6), .val (.int v12), .val (.int v18), .val (.int v25), .val (.int v30), .val (.ref b224), .val (.long v71), .second, .val (.long v80), .second, .val (.long v88), .second, .val (.long v97), .second, .val (.long (3 : Int64)), .second, .val (.long (4 : Int64)), .second, .val (.long (2 : Int64)), .second] [(.int (lcmpW v97 (2 : Int64)))])) _
                  refine XS.ifYes X255.here hx rfl (pc0 := 175) (pc' := 182) rfl (hb hby at_175) rfl ((if0 _ _).trans (feq (fun q => hc175 ((lw_eq v97 (2 : Int64)).mp q))).2) (by decide) (by decide) ?_
                  show Steps p.tables e below (T255.setTop (mkF m 182 #[.val (.int p1), .val (.int p2), .val (.int v6), .val (.int v12), .val (.int v18), .val (.int v25), .val (.int v30), .val (.ref b224), .val (.long v71), .second, .val (.long v80), .second, .val (.long v88), .second, .val (.long v97), .second, .val (.long (3 : Int64)), .second, .val (.long (4 : Int64)), .second, .val (.long (2 : Int64)), .second] [])) _
                  refine XS.iconst X255.here hx rfl (hb hby at_182) ?_
                  exact k)
                have q_z183_s0 : z183_s0 = (0 : Int32) := by rw [hz183_s0, if_pos hc151, if_pos hc159, if_pos hc167, if_neg hc175]
                refine ⟨_, _, X255, e255, N255, fun t k => ?_⟩
                rw [q_z183_s0] at k
                exact pre262 t k
            ·
              have pre263 : ∀ t, Steps p.tables e below (T255.setTop (mkF m 183 #[.val (.int p1), .val (.int p2), .val (.int v6), .val (.int v12), .val (.int v18), .val (.int v25), .val (.int v30), .val (.ref b224), .val (.long v71), .second, .val (.long v80), .second, .val (.long v88), .second, .val (.long v97), .second, .val (.long (3 : Int64)), .second, .val (.long (4 : Int64)), .second, .val (.long (2 : Int64)), .second] [(.int (0 : Int32))])) t → Steps p.tables e below (s₁.setTop (entryFrame m #[(.int p1), (.int p2)] maxLocals)) t := fun t k => pre259 t (by
                show Steps p.tables e below (T255.setTop (mkF m 167 #[.val (.int p1), .val (.int p2), .val (.int v6), .val (.int v12), .val (.int v18), .val (.int v25), .val (.int v30), .val (.ref b224), .val (.long v71), .second, .val (.long v80), .second, .val (.long v88), .second, .val (.long v97), .second, .val (.long (3 : Int64)), .second, .val (.long (4 : Int64)), .second, .val (.long (2 : Int64)), .second] [(.int (lcmpW v88 (4 : Int64)))])) _
                refine XS.ifYes X255.here hx rfl (pc0 := 167) (pc' := 182) rfl (hb hby at_167) rfl ((if0 _ _).trans (feq (fun q => hc167 ((lw_eq v88 (4 : Int64)).mp q))).2) (by decide) (by decide) ?_
                show Steps p.tables e below (T255.setTop (mkF m 182 #[.val (.int p1), .val (.int p2), .val (.int v6), .val (.int v12), .val (.int v18), .val (.int v25), .val (.int v30), .val (.ref b224), .val (.long v71), .second, .val (.long v80), .second, .val (.long v88), .second, .val (.long v97), .second, .val (.long (3 : Int64)), .second, .val (.long (4 : Int64)), .second, .val (.long (2 : Int64)), .second] [])) _
                refine XS.iconst X255.here hx rfl (hb hby at_182) ?_
                exact k)
              have q_z183_s0 : z183_s0 = (0 : Int32) := by rw [hz183_s0, if_pos hc151, if_pos hc159, if_neg hc167]
              refine ⟨_, _, X255, e255, N255, fun t k => ?_⟩
              rw [q_z183_s0] at k
              exact pre263 t k
          ·
            have pre264 : ∀ t, Steps p.tables e below (T255.setTop (mkF m 183 #[.val (.int p1), .val (.int p2), .val (.int v6), .val (.int v12), .val (.int v18), .val (.int v25), .val (.int v30), .val (.ref b224), .val (.long v71), .second, .val (.long v80), .second, .val (.long v88), .second, .val (.long v97), .second, .val (.long (3 : Int64)), .second, .val (.long (4 : Int64)), .second, .val (.long (2 : Int64)), .second] [(.int (0 : Int32))])) t → Steps p.tables e below (s₁.setTop (entryFrame m #[(.int p1), (.int p2)] maxLocals)) t := fun t k => pre258 t (by
              show Steps p.tables e below (T255.setTop (mkF m 159 #[.val (.int p1), .val (.int p2), .val (.int v6), .val (.int v12), .val (.int v18), .val (.int v25), .val (.int v30), .val (.ref b224), .val (.long v71), .second, .val (.long v80), .second, .val (.long v88), .second, .val (.long v97), .second, .val (.long (3 : Int64)), .second, .val (.long (4 : Int64)), .second, .val (.long (2 : Int64)), .second] [(.int (lcmpW v80 (3 : Int64)))])) _
              refine XS.ifYes X255.here hx rfl (pc0 := 159) (pc' := 182) rfl (hb hby at_159) rfl ((if0 _ _).trans (feq (fun q => hc159 ((lw_eq v80 (3 : Int64)).mp q))).2) (by decide) (by decide) ?_
              show Steps p.tables e below (T255.setTop (mkF m 182 #[.val (.int p1), .val (.int p2), .val (.int v6), .val (.int v12), .val (.int v18), .val (.int v25), .val (.int v30), .val (.ref b224), .val (.long v71), .second, .val (.long v80), .second, .val (.long v88), .second, .val (.long v97), .second, .val (.long (3 : Int64)), .second, .val (.long (4 : Int64)), .second, .val (.long (2 : Int64)), .second] [])) _
              refine XS.iconst X255.here hx rfl (hb hby at_182) ?_
              exact k)
            have q_z183_s0 : z183_s0 = (0 : Int32) := by rw [hz183_s0, if_pos hc151, if_neg hc159]
            refine ⟨_, _, X255, e255, N255, fun t k => ?_⟩
            rw [q_z183_s0] at k
            exact pre264 t k
        ·
          have pre265 : ∀ t, Steps p.tables e below (T255.setTop (mkF m 183 #[.val (.int p1), .val (.int p2), .val (.int v6), .val (.int v12), .val (.int v18), .val (.int v25), .val (.int v30), .val (.ref b224), .val (.long v71), .second, .val (.long v80), .second, .val (.long v88), .second, .val (.long v97), .second, .val (.long (3 : Int64)), .second, .val (.long (4 : Int64)), .second, .val (.long (2 : Int64)), .second] [(.int (0 : Int32))])) t → Steps p.tables e below (s₁.setTop (entryFrame m #[(.int p1), (.int p2)] maxLocals)) t := fun t k => pre257 t (by
            show Steps p.tables e below (T255.setTop (mkF m 151 #[.val (.int p1), .val (.int p2), .val (.int v6), .val (.int v12), .val (.int v18), .val (.int v25), .val (.int v30), .val (.ref b224), .val (.long v71), .second, .val (.long v80), .second, .val (.long v88), .second, .val (.long v97), .second, .val (.long (3 : Int64)), .second, .val (.long (4 : Int64)), .second, .val (.long (2 : Int64)), .second] [(.int (lcmpW v71 (1 : Int64)))])) _
            refine XS.ifYes X255.here hx rfl (pc0 := 151) (pc' := 182) rfl (hb hby at_151) rfl ((if0 _ _).trans (feq (fun q => hc151 ((lw_eq v71 (1 : Int64)).mp q))).2) (by decide) (by decide) ?_
            show Steps p.tables e below (T255.setTop (mkF m 182 #[.val (.int p1), .val (.int p2), .val (.int v6), .val (.int v12), .val (.int v18), .val (.int v25), .val (.int v30), .val (.ref b224), .val (.long v71), .second, .val (.long v80), .second, .val (.long v88), .second, .val (.long v97), .second, .val (.long (3 : Int64)), .second, .val (.long (4 : Int64)), .second, .val (.long (2 : Int64)), .second] [])) _
            refine XS.iconst X255.here hx rfl (hb hby at_182) ?_
            exact k)
          have q_z183_s0 : z183_s0 = (0 : Int32) := by rw [hz183_s0, if_neg hc151]
          refine ⟨_, _, X255, e255, N255, fun t k => ?_⟩
          rw [q_z183_s0] at k
          exact pre265 t k
      have q_v71 : v71 = (1 : Int64) := hv71.trans (by rcases hc4 with ⟨e1, e2, e3, e4⟩ | ⟨e1, e2, e3, e4⟩ | ⟨e1, e2, e3, e4⟩ | ⟨e1, e2, e3, e4⟩ <;> rcases im4 with e5 | e5 | e5 | e5 <;> (try simp only [e1, e2, e3, e4, e5] at hmv hmh ⊢) <;> first | decide | (revert hmv hmh; decide))
      have q_v80 : v80 = (3 : Int64) := hv80.trans (by rcases hc4 with ⟨e1, e2, e3, e4⟩ | ⟨e1, e2, e3, e4⟩ | ⟨e1, e2, e3, e4⟩ | ⟨e1, e2, e3, e4⟩ <;> rcases im4 with e5 | e5 | e5 | e5 <;> (try simp only [e1, e2, e3, e4, e5] at hmv hmh ⊢) <;> first | decide | (revert hmv hmh; decide))
      have q_v88 : v88 = (4 : Int64) := hv88.trans (by rcases hc4 with ⟨e1, e2, e3, e4⟩ | ⟨e1, e2, e3, e4⟩ | ⟨e1, e2, e3, e4⟩ | ⟨e1, e2, e3, e4⟩ <;> rcases im4 with e5 | e5 | e5 | e5 <;> (try simp only [e1, e2, e3, e4, e5] at hmv hmh ⊢) <;> first | decide | (revert hmv hmh; decide))
      have q_v97 : v97 = (2 : Int64) := hv97.trans (by rcases hc4 with ⟨e1, e2, e3, e4⟩ | ⟨e1, e2, e3, e4⟩ | ⟨e1, e2, e3, e4⟩ | ⟨e1, e2, e3, e4⟩ <;> rcases im4 with e5 | e5 | e5 | e5 <;> (try simp only [e1, e2, e3, e4, e5] at hmv hmh ⊢) <;> first | decide | (revert hmv hmh; decide))
      obtain rfl : z183_s0 = (1 : Int32) := by rw [hz183_s0, if_pos q_v71, if_pos q_v80, if_pos q_v88, if_pos q_v97]
      obtain ⟨fs, hr, hrun, hended, hW, hsame⟩ := X266.leave (v := some (.int (1 : Int32))) (fun h => by rw [Bd.returns] at h; cases h)
      refine ⟨_, _, pre266 _ ?_, hrun, hended, _, _, rfl, ?_, ⟨_, rfl⟩, hW, hsame.mono (by decide) (by decide)⟩
      · show Steps p.tables e below (T266.setTop (mkF m 183 #[.val (.int p1), .val (.int p2), .val (.int v6), .val (.int v12), .val (.int v18), .val (.int v25), .val (.int v30), .val (.ref b224), .val (.long v71), .second, .val (.long v80), .second, .val (.long v88), .second, .val (.long v97), .second, .val (.long (3 : Int64)), .second, .val (.long (4 : Int64)), .second, .val (.long (2 : Int64)), .second] [(.int (1 : Int32))])) _
        exact retN X266 hx (t := .boolean) Bd.returns (by simp) (hb hby at_183) hr
      · show Q0 Z p1 p2 dd h0 n0 _ T266.heap _
        rw [e266]
        exact ⟨rfl, N266⟩
    ·
      obtain ⟨cq267, kq267, q267a, q267b, q267c⟩ := isOf hZ rfl E_b224
      obtain ⟨_, _, ⟨T267, L267, k267, n267⟩, -, X267, ⟨Lc267, hQ267, l267, y267, z267⟩, st267⟩ := X227.virtualBack hx (y := (⟨"com/example/wachter/wachter/sim/QueueOrder", "asked", "(I)V"⟩ : MethodName)) (z := (⟨"com/example/wachter/wachter/sim/QueueOrder", "asked", "(I)V"⟩ : MethodName)) hown (mvT hZ (hw _ (List.mem_of_getElem? (i := 73) rfl))) (mvT hZ (hw _ (List.mem_of_getElem? (i := 74) rfl))) (notFace_of_selects (args := #[]) (mvT hZ (hw _ (List.mem_of_getElem? (i := 76) rfl)))) (mvT hZ (hw _ (List.mem_of_getElem? (i := 76) rfl))) (mvT hZ (hw _ (List.mem_of_getElem? (i := 75) rfl))) (by decide) (backOf (W := 0) (rmAK l Z a0 hw [] b224 v30 ra_225 ja_225 (upd (fun _ => 0) v18.toNatClampNeg (((fun _ => 0) v18.toNatClampNeg) + (1 : Int32))) (upd (upd (upd (upd (upd (upd (fun _ => 0) (0 : Int32).toNatClampNeg (-1 : Int64)) (1 : Int32).toNatClampNeg (-1 : Int64)) (2 : Int32).toNatClampNeg (-1 : Int64)) (3 : Int32).toNatClampNeg (-1 : Int64)) v6.toNatClampNeg (0 : Int64)) v18.toNatClampNeg (-1 : Int64)) T227.heap n0 Zs F_requests_b224 F_joinedAs_b224 A_ra_225 A_ja_225 g_ra_225 g_ja_225 ne_b224_ra_225 ne_b224_ja_225 ne_ra_225_ja_225 im) hZ (hw _ (List.mem_of_getElem? (i := 77) rfl)) (hw _ (List.mem_of_getElem? (i := 3) rfl)) (by decide) (by decide)) q267a q267c (g := (mkF m 62 #[.val (.int p1), .val (.int p2), .val (.int v6), .val (.int v12), .val (.int v18), .val (.int v25), .val (.int v30), .val (.ref b224), .unset, .unset, .unset, .unset, .unset, .unset, .unset, .unset, .unset, .unset, .unset, .unset, .unset, .unset] [(.int v30), (.ref b224)])) rfl (by rw [hml]; rfl) (Steps.refl _) (argsL := [(.int v30)]) (rest := []) (lenOf pd_12 rfl) rfl (by show 2 * 0 + _ ≤ _; exact Nat.le_of_eq rfl) (hb hby at_62) (fun _ _ => ⟨rfl, rfl, (by decide : 11 + 0 ≤ _), (by decide : 43 + 0 ≤ _)⟩)
      dsimp only [Pt.U, Pt.locs, Pt.cells, Pt.slots] at X267 l267 y267 z267 st267 hQ267
      subst l267 y267 z267
      obtain ⟨rfl, N267q, K267, P267_1, P267_2⟩ := hQ267
      have Zs : n0 ≤ T267.heap.size := Nat.le_trans Zs K267.1
      have Ol : Old Z n0 T267.heap := Ol.keep K267 (allS g_ra_225 (allS g_ja_225 all0))
      have E_b224 : Exa Z T267.heap b224 "com/example/wachter/wachter/sim/QueueOrder" := E_b224.keep K267
      have F_requests_b224 : Fld Z T267.heap b224 "com/example/wachter/wachter/sim/QueueOrder" "requests" "[I" (.ref ra_225) := F_requests_b224.keep K267 (ninS ne_b224_ra_225 (ninS ne_b224_ja_225 nin0))
      have F_joinedAs_b224 : Fld Z T267.heap b224 "com/example/wachter/wachter/sim/QueueOrder" "joinedAs" "[J" (.ref ja_225) := F_joinedAs_b224.keep K267 (ninS ne_b224_ra_225 (ninS ne_b224_ja_225 nin0))
      have F_behind_b224 : Fld Z T267.heap b224 "com/example/wachter/wachter/sim/QueueOrder" "behind" "Ljava/util/List;" (.ref bl_225) := F_behind_b224.keep K267 (ninS ne_b224_ra_225 (ninS ne_b224_ja_225 nin0))
      have F_joined_b224 : Fld Z T267.heap b224 "com/example/wachter/wachter/sim/QueueOrder" "joined" "J" (.long (1 : Int64)) := F_joined_b224.keep K267 (ninS ne_b224_ra_225 (ninS ne_b224_ja_225 nin0))
      have E_bl_225 : Exa Z T267.heap bl_225 "java/util/ArrayList" := E_bl_225.keep K267
      have F_elementData_bl_225 : Fld Z T267.heap bl_225 "java/util/ArrayList" "elementData" "[Ljava/lang/Object;" (.ref bd_225) := F_elementData_bl_225.keep K267 (ninS (Ne.symm ne_ra_225_bl_225) (ninS (Ne.symm ne_ja_225_bl_225) nin0))
      have F_size_bl_225 : Fld Z T267.heap bl_225 "java/util/ArrayList" "size" "I" (.int (4 : Int32)) := F_size_bl_225.keep K267 (ninS (Ne.symm ne_ra_225_bl_225) (ninS (Ne.symm ne_ja_225_bl_225) nin0))
      have F_modCount_bl_225 : Fld Z T267.heap bl_225 "java/util/AbstractList" "modCount" "I" (.int (4 : Int32)) := F_modCount_bl_225.keep K267 (ninS (Ne.symm ne_ra_225_bl_225) (ninS (Ne.symm ne_ja_225_bl_225) nin0))
      have A_bd_225 : ArR Z T267.heap bd_225 kb_225 "java/lang/Object" (4 : Int32) (upd (upd (upd (upd (fun _ => .null) (0 : Int32).toNatClampNeg (.ref l0_225)) (1 : Int32).toNatClampNeg (.ref l1_225)) (2 : Int32).toNatClampNeg (.ref l2_225)) (3 : Int32).toNatClampNeg (.ref l3_225)) := A_bd_225.keep K267 (ninS (Ne.symm ne_ra_225_bd_225) (ninS (Ne.symm ne_ja_225_bd_225) nin0))
      have E_lh : Exa Z T267.heap lh "java/util/ArrayList" := E_lh.keep K267
      have F_elementData_lh : Fld Z T267.heap lh "java/util/ArrayList" "elementData" "[Ljava/lang/Object;" (.ref dd) := F_elementData_lh.keep K267 (ninS ne_lh_ra_225 (ninS ne_lh_ja_225 nin0))
      have F_size_lh : Fld Z T267.heap lh "java/util/ArrayList" "size" "I" (.int (0 : Int32)) := F_size_lh.keep K267 (ninS ne_lh_ra_225 (ninS ne_lh_ja_225 nin0))
      have F_modCount_lh : Fld Z T267.heap lh "java/util/AbstractList" "modCount" "I" (.int (0 : Int32)) := F_modCount_lh.keep K267 (ninS ne_lh_ra_225 (ninS ne_lh_ja_225 nin0))
      have E_lu : Exa Z T267.heap lu "java/util/ArrayList" := E_lu.keep K267
      have E_lv : Exa Z T267.heap lv "java/util/ArrayList" := E_lv.keep K267
      have F_elementData_lv : Fld Z T267.heap lv "java/util/ArrayList" "elementData" "[Ljava/lang/Object;" (.ref dd) := F_elementData_lv.keep K267 (ninS ne_lv_ra_225 (ninS ne_lv_ja_225 nin0))
      have F_size_lv : Fld Z T267.heap lv "java/util/ArrayList" "size" "I" (.int (0 : Int32)) := F_size_lv.keep K267 (ninS ne_lv_ra_225 (ninS ne_lv_ja_225 nin0))
      have F_modCount_lv : Fld Z T267.heap lv "java/util/AbstractList" "modCount" "I" (.int (0 : Int32)) := F_modCount_lv.keep K267 (ninS ne_lv_ra_225 (ninS ne_lv_ja_225 nin0))
      have E_lw : Exa Z T267.heap lw "java/util/ArrayList" := E_lw.keep K267
      have F_elementData_lw : Fld Z T267.heap lw "java/util/ArrayList" "elementData" "[Ljava/lang/Object;" (.ref dd) := F_elementData_lw.keep K267 (ninS ne_lw_ra_225 (ninS ne_lw_ja_225 nin0))
      have F_size_lw : Fld Z T267.heap lw "java/util/ArrayList" "size" "I" (.int (0 : Int32)) := F_size_lw.keep K267 (ninS ne_lw_ra_225 (ninS ne_lw_ja_225 nin0))
      have F_modCount_lw : Fld Z T267.heap lw "java/util/AbstractList" "modCount" "I" (.int (0 : Int32)) := F_modCount_lw.keep K267 (ninS ne_lw_ra_225 (ninS ne_lw_ja_225 nin0))
      have E_wt_227 : Exa Z T267.heap wt_227 "[I" := E_wt_227.keep K267
      have A_wt_227 : ArI Z T267.heap wt_227 (2 : Int32) (upd (upd (fun _ => 0) (0 : Int32).toNatClampNeg v18) (1 : Int32).toNatClampNeg ((upd (fun _ => 0) v18.toNatClampNeg (((fun _ => 0) v18.toNatClampNeg) + (1 : Int32))) v18.toNatClampNeg)) := A_wt_227.keep K267 (ninS (Ne.symm ne_ra_225_wt_227) (ninS (Ne.symm ne_ja_225_wt_227) nin0))
      have F_elementData_lu : Fld Z T267.heap lu "java/util/ArrayList" "elementData" "[Ljava/lang/Object;" (.ref eb_227) := F_elementData_lu.keep K267 (ninS ne_lu_ra_225 (ninS ne_lu_ja_225 nin0))
      have F_size_lu : Fld Z T267.heap lu "java/util/ArrayList" "size" "I" (.int (1 : Int32)) := F_size_lu.keep K267 (ninS ne_lu_ra_225 (ninS ne_lu_ja_225 nin0))
      have F_modCount_lu : Fld Z T267.heap lu "java/util/AbstractList" "modCount" "I" (.int (1 : Int32)) := F_modCount_lu.keep K267 (ninS ne_lu_ra_225 (ninS ne_lu_ja_225 nin0))
      have A_eb_227 : ArR Z T267.heap eb_227 ke_227 "java/lang/Object" (10 : Int32) (upd (fun _ => .null) (0 : Int32).toNatClampNeg (.ref wt_227)) := A_eb_227.keep K267 (ninS (Ne.symm ne_ra_225_eb_227) (ninS (Ne.symm ne_ja_225_eb_227) nin0))
      have A_ra_225 : ArI Z T267.heap ra_225 (4 : Int32) (upd (upd (fun _ => 0) v18.toNatClampNeg (((fun _ => 0) v18.toNatClampNeg) + (1 : Int32))) v30.toNatClampNeg (((upd (fun _ => 0) v18.toNatClampNeg (((fun _ => 0) v18.toNatClampNeg) + (1 : Int32))) v30.toNatClampNeg) + (1 : Int32))) := P267_1
      have A_ja_225 : ArJ Z T267.heap ja_225 (4 : Int32) (upd (upd (upd (upd (upd (upd (upd (fun _ => 0) (0 : Int32).toNatClampNeg (-1 : Int64)) (1 : Int32).toNatClampNeg (-1 : Int64)) (2 : Int32).toNatClampNeg (-1 : Int64)) (3 : Int32).toNatClampNeg (-1 : Int64)) v6.toNatClampNeg (0 : Int64)) v18.toNatClampNeg (-1 : Int64)) v30.toNatClampNeg (-1 : Int64)) := P267_2
      have N267 := Fr.app N227 N267q
      obtain ⟨cq268, kq268, q268a, q268b, q268c⟩ := isOf hZ rfl E_b224
      obtain ⟨_, _, ⟨T268, L268, k268, n268⟩, -, X268, ⟨Lc268, hQ268, l268, y268, z268⟩, st268⟩ := X267.virtualBack hx (y := (⟨"com/example/wachter/wachter/sim/QueueOrder", "granted", "(I)J"⟩ : MethodName)) (z := (⟨"com/example/wachter/wachter/sim/QueueOrder", "granted", "(I)J"⟩ : MethodName)) hown (mvT hZ (hw _ (List.mem_of_getElem? (i := 120) rfl))) (mvT hZ (hw _ (List.mem_of_getElem? (i := 121) rfl))) (notFace_of_selects (args := #[]) (mvT hZ (hw _ (List.mem_of_getElem? (i := 123) rfl)))) (mvT hZ (hw _ (List.mem_of_getElem? (i := 123) rfl))) (mvT hZ (hw _ (List.mem_of_getElem? (i := 122) rfl))) (by decide) (backOf (W := 0) (rmG1 l Z a0 hw [] b224 v12 ra_225 ja_225 bl_225 bd_225 kb_225 (upd (upd (upd (upd (fun _ => .null) (0 : Int32).toNatClampNeg (.ref l0_225)) (1 : Int32).toNatClampNeg (.ref l1_225)) (2 : Int32).toNatClampNeg (.ref l2_225)) (3 : Int32).toNatClampNeg (.ref l3_225)) (4 : Int32) (1 : Int64) (upd (upd (upd (upd (upd (upd (upd (fun _ => 0) (0 : Int32).toNatClampNeg (-1 : Int64)) (1 : Int32).toNatClampNeg (-1 : Int64)) (2 : Int32).toNatClampNeg (-1 : Int64)) (3 : Int32).toNatClampNeg (-1 : Int64)) v6.toNatClampNeg (0 : Int64)) v18.toNatClampNeg (-1 : Int64)) v30.toNatClampNeg (-1 : Int64)) (upd (upd (fun _ => 0) v18.toNatClampNeg (((fun _ => 0) v18.toNatClampNeg) + (1 : Int32))) v30.toNatClampNeg (((upd (fun _ => 0) v18.toNatClampNeg (((fun _ => 0) v18.toNatClampNeg) + (1 : Int32))) v30.toNatClampNeg) + (1 : Int32))) lu eb_227 (1 : Int32) ke_227 (upd (fun _ => .null) (0 : Int32).toNatClampNeg (.ref wt_227)) wt_227 (upd (upd (fun _ => 0) (0 : Int32).toNatClampNeg v18) (1 : Int32).toNatClampNeg ((upd (fun _ => 0) v18.toNatClampNeg (((fun _ => 0) v18.toNatClampNeg) + (1 : Int32))) v18.toNatClampNeg)) v18 lv dd (0 : Int32) T267.heap n0 Zs E_b224 F_requests_b224 F_joinedAs_b224 F_behind_b224 F_joined_b224 A_ja_225 A_ra_225 g_b224 g_ja_225 g_lu g_eb_227 g_lv E_bl_225 F_elementData_bl_225 F_size_bl_225 F_modCount_bl_225 A_bd_225 E_lu F_elementData_lu F_size_lu F_modCount_lu A_eb_227 E_wt_227 A_wt_227 E_lv F_elementData_lv F_size_lv F_modCount_lv ne_b224_ja_225 ne_b224_ra_225 ne_b224_bl_225 ne_b224_bd_225 (Ne.symm ne_lu_b224) ne_b224_eb_227 ne_b224_wt_227 (Ne.symm ne_lv_b224) (Ne.symm ne_ra_225_ja_225) ne_ja_225_bl_225 ne_ja_225_bd_225 (Ne.symm ne_lu_ja_225) ne_ja_225_eb_227 ne_ja_225_wt_227 (Ne.symm ne_lv_ja_225) ne_ra_225_bl_225 ne_ra_225_bd_225 (Ne.symm ne_lu_ra_225) ne_ra_225_eb_227 ne_ra_225_wt_227 (Ne.symm ne_lv_ra_225) ne_bl_225_bd_225 (Ne.symm ne_lu_bl_225) ne_bl_225_eb_227 ne_bl_225_wt_227 (Ne.symm ne_lv_bl_225) (Ne.symm ne_lu_bd_225) ne_bd_225_eb_227 ne_bd_225_wt_227 (Ne.symm ne_lv_bd_225) ne_lu_eb_227 ne_lu_wt_227 ne_lu_lv (Ne.symm ne_wt_227_eb_227) (Ne.symm ne_lv_eb_227) (Ne.symm ne_lv_wt_227) iu hB_lu rfl rfl iv (by rcases hc4 with ⟨e1, e2, e3, e4⟩ | ⟨e1, e2, e3, e4⟩ | ⟨e1, e2, e3, e4⟩ | ⟨e1, e2, e3, e4⟩ <;> rcases im4 with e5 | e5 | e5 | e5 <;> (try simp only [e1, e2, e3, e4, e5] at hmv hmh ⊢) <;> first | decide | (revert hmv hmh; decide)) (by rcases hc4 with ⟨e1, e2, e3, e4⟩ | ⟨e1, e2, e3, e4⟩ | ⟨e1, e2, e3, e4⟩ | ⟨e1, e2, e3, e4⟩ <;> rcases im4 with e5 | e5 | e5 | e5 <;> (try simp only [e1, e2, e3, e4, e5] at hmv hmh ⊢) <;> first | decide | (revert hmv hmh; decide)) hB_lv (by rcases hc4 with ⟨e1, e2, e3, e4⟩ | ⟨e1, e2, e3, e4⟩ | ⟨e1, e2, e3, e4⟩ | ⟨e1, e2, e3, e4⟩ <;> rcases im4 with e5 | e5 | e5 | e5 <;> (try simp only [e1, e2, e3, e4, e5] at hmv hmh ⊢) <;> first | decide | (revert hmv hmh; decide))) hZ (hw _ (List.mem_of_getElem? (i := 124) rfl)) (hw _ (List.mem_of_getElem? (i := 3) rfl)) (by decide) (by decide)) q268a q268c (g := (mkF m 68 #[.val (.int p1), .val (.int p2), .val (.int v6), .val (.int v12), .val (.int v18), .val (.int v25), .val (.int v30), .val (.ref b224), .unset, .unset, .unset, .unset, .unset, .unset, .unset, .unset, .unset, .unset, .unset, .unset, .unset, .unset] [(.int v12), (.ref b224)])) rfl (by rw [hml]; rfl) (Steps.refl _) (argsL := [(.int v12)]) (rest := []) (lenOf pd_15 rfl) rfl (by show 2 * 0 + _ ≤ _; exact Nat.le_of_eq rfl) (hb hby at_68) (fun _ _ => ⟨rfl, rfl, (by decide : 11 + 2 ≤ _), (by decide : 43 + 8 ≤ _)⟩)
      dsimp only [Pt.U, Pt.locs, Pt.cells, Pt.slots] at X268 l268 y268 z268 st268 hQ268
      subst l268 y268 z268
      obtain ⟨rfl, N268q, K268, P268_1, P268_2, P268_3, P268_4, P268_5, P268_6, P268_7, P268_8, P268_9, P268_10, P268_11, P268_12⟩ := hQ268
      have Zs : n0 ≤ T268.heap.size := Nat.le_trans Zs K268.1
      have Ol : Old Z n0 T268.heap := Ol.keep K268 (allS g_b224 (allS g_ja_225 (allS g_lu (allS g_eb_227 (allS g_lv all0)))))
      have E_b224 : Exa Z T268.heap b224 "com/example/wachter/wachter/sim/QueueOrder" := E_b224.keep K268
      have E_bl_225 : Exa Z T268.heap bl_225 "java/util/ArrayList" := E_bl_225.keep K268
      have F_elementData_bl_225 : Fld Z T268.heap bl_225 "java/util/ArrayList" "elementData" "[Ljava/lang/Object;" (.ref bd_225) := F_elementData_bl_225.keep K268 (ninS (Ne.symm ne_b224_bl_225) (ninS (Ne.symm ne_ja_225_bl_225) (ninS (Ne.symm ne_lu_bl_225) (ninS ne_bl_225_eb_227 (ninS (Ne.symm ne_lv_bl_225) nin0)))))
      have F_size_bl_225 : Fld Z T268.heap bl_225 "java/util/ArrayList" "size" "I" (.int (4 : Int32)) := F_size_bl_225.keep K268 (ninS (Ne.symm ne_b224_bl_225) (ninS (Ne.symm ne_ja_225_bl_225) (ninS (Ne.symm ne_lu_bl_225) (ninS ne_bl_225_eb_227 (ninS (Ne.symm ne_lv_bl_225) nin0)))))
      have F_modCount_bl_225 : Fld Z T268.heap bl_225 "java/util/AbstractList" "modCount" "I" (.int (4 : Int32)) := F_modCount_bl_225.keep K268 (ninS (Ne.symm ne_b224_bl_225) (ninS (Ne.symm ne_ja_225_bl_225) (ninS (Ne.symm ne_lu_bl_225) (ninS ne_bl_225_eb_227 (ninS (Ne.symm ne_lv_bl_225) nin0)))))
      have A_bd_225 : ArR Z T268.heap bd_225 kb_225 "java/lang/Object" (4 : Int32) (upd (upd (upd (upd (fun _ => .null) (0 : Int32).toNatClampNeg (.ref l0_225)) (1 : Int32).toNatClampNeg (.ref l1_225)) (2 : Int32).toNatClampNeg (.ref l2_225)) (3 : Int32).toNatClampNeg (.ref l3_225)) := A_bd_225.keep K268 (ninS (Ne.symm ne_b224_bd_225) (ninS (Ne.symm ne_ja_225_bd_225) (ninS (Ne.symm ne_lu_bd_225) (ninS ne_bd_225_eb_227 (ninS (Ne.symm ne_lv_bd_225) nin0)))))
      have E_lh : Exa Z T268.heap lh "java/util/ArrayList" := E_lh.keep K268
      have F_elementData_lh : Fld Z T268.heap lh "java/util/ArrayList" "elementData" "[Ljava/lang/Object;" (.ref dd) := F_elementData_lh.keep K268 (ninS ne_lh_b224 (ninS ne_lh_ja_225 (ninS ne_lh_lu (ninS ne_lh_eb_227 (ninS ne_lh_lv nin0)))))
      have F_size_lh : Fld Z T268.heap lh "java/util/ArrayList" "size" "I" (.int (0 : Int32)) := F_size_lh.keep K268 (ninS ne_lh_b224 (ninS ne_lh_ja_225 (ninS ne_lh_lu (ninS ne_lh_eb_227 (ninS ne_lh_lv nin0)))))
      have F_modCount_lh : Fld Z T268.heap lh "java/util/AbstractList" "modCount" "I" (.int (0 : Int32)) := F_modCount_lh.keep K268 (ninS ne_lh_b224 (ninS ne_lh_ja_225 (ninS ne_lh_lu (ninS ne_lh_eb_227 (ninS ne_lh_lv nin0)))))
      have E_lu : Exa Z T268.heap lu "java/util/ArrayList" := E_lu.keep K268
      have E_lv : Exa Z T268.heap lv "java/util/ArrayList" := E_lv.keep K268
      have E_lw : Exa Z T268.heap lw "java/util/ArrayList" := E_lw.keep K268
      have F_elementData_lw : Fld Z T268.heap lw "java/util/ArrayList" "elementData" "[Ljava/lang/Object;" (.ref dd) := F_elementData_lw.keep K268 (ninS ne_lw_b224 (ninS ne_lw_ja_225 (ninS (Ne.symm ne_lu_lw) (ninS ne_lw_eb_227 (ninS (Ne.symm ne_lv_lw) nin0)))))
      have F_size_lw : Fld Z T268.heap lw "java/util/ArrayList" "size" "I" (.int (0 : Int32)) := F_size_lw.keep K268 (ninS ne_lw_b224 (ninS ne_lw_ja_225 (ninS (Ne.symm ne_lu_lw) (ninS ne_lw_eb_227 (ninS (Ne.symm ne_lv_lw) nin0)))))
      have F_modCount_lw : Fld Z T268.heap lw "java/util/AbstractList" "modCount" "I" (.int (0 : Int32)) := F_modCount_lw.keep K268 (ninS ne_lw_b224 (ninS ne_lw_ja_225 (ninS (Ne.symm ne_lu_lw) (ninS ne_lw_eb_227 (ninS (Ne.symm ne_lv_lw) nin0)))))
      have E_wt_227 : Exa Z T268.heap wt_227 "[I" := E_wt_227.keep K268
      have A_wt_227 : ArI Z T268.heap wt_227 (2 : Int32) (upd (upd (fun _ => 0) (0 : Int32).toNatClampNeg v18) (1 : Int32).toNatClampNeg ((upd (fun _ => 0) v18.toNatClampNeg (((fun _ => 0) v18.toNatClampNeg) + (1 : Int32))) v18.toNatClampNeg)) := A_wt_227.keep K268 (ninS (Ne.symm ne_b224_wt_227) (ninS (Ne.symm ne_ja_225_wt_227) (ninS (Ne.symm ne_lu_wt_227) (ninS ne_wt_227_eb_227 (ninS (Ne.symm ne_lv_wt_227) nin0)))))
      have A_ra_225 : ArI Z T268.heap ra_225 (4 : Int32) (upd (upd (fun _ => 0) v18.toNatClampNeg (((fun _ => 0) v18.toNatClampNeg) + (1 : Int32))) v30.toNatClampNeg (((upd (fun _ => 0) v18.toNatClampNeg (((fun _ => 0) v18.toNatClampNeg) + (1 : Int32))) v30.toNatClampNeg) + (1 : Int32))) := A_ra_225.keep K268 (ninS (Ne.symm ne_b224_ra_225) (ninS ne_ra_225_ja_225 (ninS (Ne.symm ne_lu_ra_225) (ninS ne_ra_225_eb_227 (ninS (Ne.symm ne_lv_ra_225) nin0)))))
      have F_requests_b224 : Fld Z T268.heap b224 "com/example/wachter/wachter/sim/QueueOrder" "requests" "[I" (.ref ra_225) := P268_1
      have F_joinedAs_b224 : Fld Z T268.heap b224 "com/example/wachter/wachter/sim/QueueOrder" "joinedAs" "[J" (.ref ja_225) := P268_2
      have F_behind_b224 : Fld Z T268.heap b224 "com/example/wachter/wachter/sim/QueueOrder" "behind" "Ljava/util/List;" (.ref bl_225) := P268_3
      have F_joined_b224 : Fld Z T268.heap b224 "com/example/wachter/wachter/sim/QueueOrder" "joined" "J" (.long (((1 : Int64) + (1 : Int64)) + (1 : Int64))) := P268_4
      have A_ja_225 : ArJ Z T268.heap ja_225 (4 : Int32) (upd (upd (upd (upd (upd (upd (upd (upd (upd (fun _ => 0) (0 : Int32).toNatClampNeg (-1 : Int64)) (1 : Int32).toNatClampNeg (-1 : Int64)) (2 : Int32).toNatClampNeg (-1 : Int64)) (3 : Int32).toNatClampNeg (-1 : Int64)) v6.toNatClampNeg (0 : Int64)) v18.toNatClampNeg (-1 : Int64)) v30.toNatClampNeg (-1 : Int64)) v12.toNatClampNeg (1 : Int64)) v18.toNatClampNeg ((1 : Int64) + (1 : Int64))) := P268_5
      have F_elementData_lu : Fld Z T268.heap lu "java/util/ArrayList" "elementData" "[Ljava/lang/Object;" (.ref eb_227) := P268_6
      have F_size_lu : Fld Z T268.heap lu "java/util/ArrayList" "size" "I" (.int (0 : Int32)) := P268_7
      have F_modCount_lu : Fld Z T268.heap lu "java/util/AbstractList" "modCount" "I" (.int (2 : Int32)) := P268_8
      have A_eb_227 : ArR Z T268.heap eb_227 ke_227 "java/lang/Object" (10 : Int32) (upd (upd (fun _ => .null) (0 : Int32).toNatClampNeg (.ref wt_227)) (0 : Int32).toNatClampNeg .null) := P268_9
      have F_elementData_lv : Fld Z T268.heap lv "java/util/ArrayList" "elementData" "[Ljava/lang/Object;" (.ref dd) := P268_10
      have F_size_lv : Fld Z T268.heap lv "java/util/ArrayList" "size" "I" (.int (0 : Int32)) := P268_11
      have F_modCount_lv : Fld Z T268.heap lv "java/util/AbstractList" "modCount" "I" (.int (1 : Int32)) := P268_12
      have N268 := Fr.app N267 N268q
      obtain ⟨v71, hv71⟩ : ∃ z : Int64, z = ((upd (upd (upd (upd (upd (upd (upd (upd (upd (fun _ => 0) (0 : Int32).toNatClampNeg (-1 : Int64)) (1 : Int32).toNatClampNeg (-1 : Int64)) (2 : Int32).toNatClampNeg (-1 : Int64)) (3 : Int32).toNatClampNeg (-1 : Int64)) v6.toNatClampNeg (0 : Int64)) v18.toNatClampNeg (-1 : Int64)) v30.toNatClampNeg (-1 : Int64)) v12.toNatClampNeg (1 : Int64)) v18.toNatClampNeg ((1 : Int64) + (1 : Int64))) v12.toNatClampNeg) := ⟨_, rfl⟩
      have pre269 : ∀ t, Steps p.tables e below (T268.setTop (mkF m 73 #[.val (.int p1), .val (.int p2), .val (.int v6), .val (.int v12), .val (.int v18), .val (.int v25), .val (.int v30), .val (.ref b224), .val (.long v71), .second, .unset, .unset, .unset, .unset, .unset, .unset, .unset, .unset, .unset, .unset, .unset, .unset] [])) t → Steps p.tables e below (s₁.setTop (entryFrame m #[(.int p1), (.int p2)] maxLocals)) t := fun t k => pre228 t (by
        show Steps p.tables e below (T227.setTop (mkF m 58 #[.val (.int p1), .val (.int p2), .val (.int v6), .val (.int v12), .val (.int v18), .val (.int v25), .val (.int v30), .val (.ref b224), .unset, .unset, .unset, .unset, .unset, .unset, .unset, .unset, .unset, .unset, .unset, .unset, .unset, .unset] [])) _
        refine XS.aload X227.here hx rfl (hb hby at_58) rfl rfl ?_
        show Steps p.tables e below (T227.setTop (mkF m 60 #[.val (.int p1), .val (.int p2), .val (.int v6), .val (.int v12), .val (.int v18), .val (.int v25), .val (.int v30), .val (.ref b224), .unset, .unset, .unset, .unset, .unset, .unset, .unset, .unset, .unset, .unset, .unset, .unset, .unset, .unset] [(.ref b224)])) _
        refine XS.iload X227.here hx rfl (hb hby at_60) rfl ?_
        show Steps p.tables e below (T227.setTop (mkF m 62 #[.val (.int p1), .val (.int p2), .val (.int v6), .val (.int v12), .val (.int v18), .val (.int v25), .val (.int v30), .val (.ref b224), .unset, .unset, .unset, .unset, .unset, .unset, .unset, .unset, .unset, .unset, .unset, .unset, .unset, .unset] [(.int v30), (.ref b224)])) _
        refine st267.trans ?_
        show Steps p.tables e below (T267.setTop (mkF m 65 #[.val (.int p1), .val (.int p2), .val (.int v6), .val (.int v12), .val (.int v18), .val (.int v25), .val (.int v30), .val (.ref b224), .unset, .unset, .unset, .unset, .unset, .unset, .unset, .unset, .unset, .unset, .unset, .unset, .unset, .unset] [])) _
        refine XS.aload X267.here hx rfl (hb hby at_65) rfl rfl ?_
        show Steps p.tables e below (T267.setTop (mkF m 67 #[.val (.int p1), .val (.int p2), .val (.int v6), .val (.int v12), .val (.int v18), .val (.int v25), .val (.int v30), .val (.ref b224), .unset, .unset, .unset, .unset, .unset, .unset, .unset, .unset, .unset, .unset, .unset, .unset, .unset, .unset] [(.ref b224)])) _
        refine XS.iloadN X267.here hx rfl (hb hby at_67) rfl ?_
        show Steps p.tables e below (T267.setTop (mkF m 68 #[.val (.int p1), .val (.int p2), .val (.int v6), .val (.int v12), .val (.int v18), .val (.int v25), .val (.int v30), .val (.ref b224), .unset, .unset, .unset, .unset, .unset, .unset, .unset, .unset, .unset, .unset, .unset, .unset, .unset, .unset] [(.int v12), (.ref b224)])) _
        refine st268.trans ?_
        show Steps p.tables e below (T268.setTop (mkF m 71 #[.val (.int p1), .val (.int p2), .val (.int v6), .val (.int v12), .val (.int v18), .val (.int v25), .val (.int v30), .val (.ref b224), .unset, .unset, .unset, .unset, .unset, .unset, .unset, .unset, .unset, .unset, .unset, .unset, .unset, .unset] [(.long ((upd (upd (upd (upd (upd (upd (upd (upd (upd (fun _ => 0) (0 : Int32).toNatClampNeg (-1 : Int64)) (1 : Int32).toNatClampNeg (-1 : Int64)) (2 : Int32).toNatClampNeg (-1 : Int64)) (3 : Int32).toNatClampNeg (-1 : Int64)) v6.toNatClampNeg (0 : Int64)) v18.toNatClampNeg (-1 : Int64)) v30.toNatClampNeg (-1 : Int64)) v12.toNatClampNeg (1 : Int64)) v18.toNatClampNeg ((1 : Int64) + (1 : Int64))) v12.toNatClampNeg))])) _
        refine XS.lstore X268.here hx rfl (hb hby at_71) rfl (l' := #[.val (.int p1), .val (.int p2), .val (.int v6), .val (.int v12), .val (.int v18), .val (.int v25), .val (.int v30), .val (.ref b224), .val (.long ((upd (upd (upd (upd (upd (upd (upd (upd (upd (fun _ => 0) (0 : Int32).toNatClampNeg (-1 : Int64)) (1 : Int32).toNatClampNeg (-1 : Int64)) (2 : Int32).toNatClampNeg (-1 : Int64)) (3 : Int32).toNatClampNeg (-1 : Int64)) v6.toNatClampNeg (0 : Int64)) v18.toNatClampNeg (-1 : Int64)) v30.toNatClampNeg (-1 : Int64)) v12.toNatClampNeg (1 : Int64)) v18.toNatClampNeg ((1 : Int64) + (1 : Int64))) v12.toNatClampNeg)), .second, .unset, .unset, .unset, .unset, .unset, .unset, .unset, .unset, .unset, .unset, .unset, .unset]) rfl ?_
        rw [hv71] at k
        exact k)
      obtain ⟨cq270, kq270, q270a, q270b, q270c⟩ := isOf hZ rfl E_b224
      obtain ⟨_, _, ⟨T270, L270, k270, n270⟩, -, X270, ⟨Lc270, hQ270, l270, y270, z270⟩, st270⟩ := X268.virtualBack hx (y := (⟨"com/example/wachter/wachter/sim/QueueOrder", "granted", "(I)J"⟩ : MethodName)) (z := (⟨"com/example/wachter/wachter/sim/QueueOrder", "granted", "(I)J"⟩ : MethodName)) hown (mvT hZ (hw _ (List.mem_of_getElem? (i := 120) rfl))) (mvT hZ (hw _ (List.mem_of_getElem? (i := 121) rfl))) (notFace_of_selects (args := #[]) (mvT hZ (hw _ (List.mem_of_getElem? (i := 123) rfl)))) (mvT hZ (hw _ (List.mem_of_getElem? (i := 123) rfl))) (mvT hZ (hw _ (List.mem_of_getElem? (i := 122) rfl))) (by decide) (backOf (W := 0) (rmG0 l Z a0 hw [] b224 v25 ra_225 ja_225 bl_225 bd_225 kb_225 (upd (upd (upd (upd (fun _ => .null) (0 : Int32).toNatClampNeg (.ref l0_225)) (1 : Int32).toNatClampNeg (.ref l1_225)) (2 : Int32).toNatClampNeg (.ref l2_225)) (3 : Int32).toNatClampNeg (.ref l3_225)) (4 : Int32) (((1 : Int64) + (1 : Int64)) + (1 : Int64)) (upd (upd (upd (upd (upd (upd (upd (upd (upd (fun _ => 0) (0 : Int32).toNatClampNeg (-1 : Int64)) (1 : Int32).toNatClampNeg (-1 : Int64)) (2 : Int32).toNatClampNeg (-1 : Int64)) (3 : Int32).toNatClampNeg (-1 : Int64)) v6.toNatClampNeg (0 : Int64)) v18.toNatClampNeg (-1 : Int64)) v30.toNatClampNeg (-1 : Int64)) v12.toNatClampNeg (1 : Int64)) v18.toNatClampNeg ((1 : Int64) + (1 : Int64))) lw dd (0 : Int32) T268.heap n0 Zs E_b224 F_requests_b224 F_joinedAs_b224 F_behind_b224 F_joined_b224 A_ja_225 g_b224 g_ja_225 g_lw E_bl_225 F_elementData_bl_225 F_size_bl_225 F_modCount_bl_225 A_bd_225 E_lw F_elementData_lw F_size_lw F_modCount_lw ne_b224_ja_225 ne_b224_bl_225 ne_b224_bd_225 (Ne.symm ne_lw_b224) ne_ja_225_bl_225 ne_ja_225_bd_225 (Ne.symm ne_lw_ja_225) ne_bl_225_bd_225 (Ne.symm ne_lw_bl_225) (Ne.symm ne_lw_bd_225) iw hB_lw (by rcases hc4 with ⟨e1, e2, e3, e4⟩ | ⟨e1, e2, e3, e4⟩ | ⟨e1, e2, e3, e4⟩ | ⟨e1, e2, e3, e4⟩ <;> rcases im4 with e5 | e5 | e5 | e5 <;> (try simp only [e1, e2, e3, e4, e5] at hmv hmh ⊢) <;> first | decide | (revert hmv hmh; decide))) hZ (hw _ (List.mem_of_getElem? (i := 124) rfl)) (hw _ (List.mem_of_getElem? (i := 3) rfl)) (by decide) (by decide)) q270a q270c (g := (mkF m 77 #[.val (.int p1), .val (.int p2), .val (.int v6), .val (.int v12), .val (.int v18), .val (.int v25), .val (.int v30), .val (.ref b224), .val (.long v71), .second, .unset, .unset, .unset, .unset, .unset, .unset, .unset, .unset, .unset, .unset, .unset, .unset] [(.int v25), (.ref b224)])) rfl (by rw [hml]; rfl) (Steps.refl _) (argsL := [(.int v25)]) (rest := []) (lenOf pd_15 rfl) rfl (by show 2 * 0 + _ ≤ _; exact Nat.le_of_eq rfl) (hb hby at_77) (fun _ _ => ⟨rfl, rfl, (by decide : 13 + 1 ≤ _), (by decide : 51 + 4 ≤ _)⟩)
      dsimp only [Pt.U, Pt.locs, Pt.cells, Pt.slots] at X270 l270 y270 z270 st270 hQ270
      subst l270 y270 z270
      obtain ⟨rfl, N270q, K270, P270_1, P270_2, P270_3, P270_4, P270_5, P270_6, P270_7, P270_8⟩ := hQ270
      have Zs : n0 ≤ T270.heap.size := Nat.le_trans Zs K270.1
      have Ol : Old Z n0 T270.heap := Ol.keep K270 (allS g_b224 (allS g_ja_225 (allS g_lw all0)))
      have E_b224 : Exa Z T270.heap b224 "com/example/wachter/wachter/sim/QueueOrder" := E_b224.keep K270
      have E_bl_225 : Exa Z T270.heap bl_225 "java/util/ArrayList" := E_bl_225.keep K270
      have F_elementData_bl_225 : Fld Z T270.heap bl_225 "java/util/ArrayList" "elementData" "[Ljava/lang/Object;" (.ref bd_225) := F_elementData_bl_225.keep K270 (ninS (Ne.symm ne_b224_bl_225) (ninS (Ne.symm ne_ja_225_bl_225) (ninS (Ne.symm ne_lw_bl_225) nin0)))
      have F_size_bl_225 : Fld Z T270.heap bl_225 "java/util/ArrayList" "size" "I" (.int (4 : Int32)) := F_size_bl_225.keep K270 (ninS (Ne.symm ne_b224_bl_225) (ninS (Ne.symm ne_ja_225_bl_225) (ninS (Ne.symm ne_lw_bl_225) nin0)))
      have F_modCount_bl_225 : Fld Z T270.heap bl_225 "java/util/AbstractList" "modCount" "I" (.int (4 : Int32)) := F_modCount_bl_225.keep K270 (ninS (Ne.symm ne_b224_bl_225) (ninS (Ne.symm ne_ja_225_bl_225) (ninS (Ne.symm ne_lw_bl_225) nin0)))
      have A_bd_225 : ArR Z T270.heap bd_225 kb_225 "java/lang/Object" (4 : Int32) (upd (upd (upd (upd (fun _ => .null) (0 : Int32).toNatClampNeg (.ref l0_225)) (1 : Int32).toNatClampNeg (.ref l1_225)) (2 : Int32).toNatClampNeg (.ref l2_225)) (3 : Int32).toNatClampNeg (.ref l3_225)) := A_bd_225.keep K270 (ninS (Ne.symm ne_b224_bd_225) (ninS (Ne.symm ne_ja_225_bd_225) (ninS (Ne.symm ne_lw_bd_225) nin0)))
      have E_lh : Exa Z T270.heap lh "java/util/ArrayList" := E_lh.keep K270
      have F_elementData_lh : Fld Z T270.heap lh "java/util/ArrayList" "elementData" "[Ljava/lang/Object;" (.ref dd) := F_elementData_lh.keep K270 (ninS ne_lh_b224 (ninS ne_lh_ja_225 (ninS ne_lh_lw nin0)))
      have F_size_lh : Fld Z T270.heap lh "java/util/ArrayList" "size" "I" (.int (0 : Int32)) := F_size_lh.keep K270 (ninS ne_lh_b224 (ninS ne_lh_ja_225 (ninS ne_lh_lw nin0)))
      have F_modCount_lh : Fld Z T270.heap lh "java/util/AbstractList" "modCount" "I" (.int (0 : Int32)) := F_modCount_lh.keep K270 (ninS ne_lh_b224 (ninS ne_lh_ja_225 (ninS ne_lh_lw nin0)))
      have E_lu : Exa Z T270.heap lu "java/util/ArrayList" := E_lu.keep K270
      have E_lv : Exa Z T270.heap lv "java/util/ArrayList" := E_lv.keep K270
      have E_lw : Exa Z T270.heap lw "java/util/ArrayList" := E_lw.keep K270
      have E_wt_227 : Exa Z T270.heap wt_227 "[I" := E_wt_227.keep K270
      have A_wt_227 : ArI Z T270.heap wt_227 (2 : Int32) (upd (upd (fun _ => 0) (0 : Int32).toNatClampNeg v18) (1 : Int32).toNatClampNeg ((upd (fun _ => 0) v18.toNatClampNeg (((fun _ => 0) v18.toNatClampNeg) + (1 : Int32))) v18.toNatClampNeg)) := A_wt_227.keep K270 (ninS (Ne.symm ne_b224_wt_227) (ninS (Ne.symm ne_ja_225_wt_227) (ninS (Ne.symm ne_lw_wt_227) nin0)))
      have A_ra_225 : ArI Z T270.heap ra_225 (4 : Int32) (upd (upd (fun _ => 0) v18.toNatClampNeg (((fun _ => 0) v18.toNatClampNeg) + (1 : Int32))) v30.toNatClampNeg (((upd (fun _ => 0) v18.toNatClampNeg (((fun _ => 0) v18.toNatClampNeg) + (1 : Int32))) v30.toNatClampNeg) + (1 : Int32))) := A_ra_225.keep K270 (ninS (Ne.symm ne_b224_ra_225) (ninS ne_ra_225_ja_225 (ninS (Ne.symm ne_lw_ra_225) nin0)))
      have F_elementData_lu : Fld Z T270.heap lu "java/util/ArrayList" "elementData" "[Ljava/lang/Object;" (.ref eb_227) := F_elementData_lu.keep K270 (ninS ne_lu_b224 (ninS ne_lu_ja_225 (ninS ne_lu_lw nin0)))
      have F_size_lu : Fld Z T270.heap lu "java/util/ArrayList" "size" "I" (.int (0 : Int32)) := F_size_lu.keep K270 (ninS ne_lu_b224 (ninS ne_lu_ja_225 (ninS ne_lu_lw nin0)))
      have F_modCount_lu : Fld Z T270.heap lu "java/util/AbstractList" "modCount" "I" (.int (2 : Int32)) := F_modCount_lu.keep K270 (ninS ne_lu_b224 (ninS ne_lu_ja_225 (ninS ne_lu_lw nin0)))
      have A_eb_227 : ArR Z T270.heap eb_227 ke_227 "java/lang/Object" (10 : Int32) (upd (upd (fun _ => .null) (0 : Int32).toNatClampNeg (.ref wt_227)) (0 : Int32).toNatClampNeg .null) := A_eb_227.keep K270 (ninS (Ne.symm ne_b224_eb_227) (ninS (Ne.symm ne_ja_225_eb_227) (ninS (Ne.symm ne_lw_eb_227) nin0)))
      have F_elementData_lv : Fld Z T270.heap lv "java/util/ArrayList" "elementData" "[Ljava/lang/Object;" (.ref dd) := F_elementData_lv.keep K270 (ninS ne_lv_b224 (ninS ne_lv_ja_225 (ninS ne_lv_lw nin0)))
      have F_size_lv : Fld Z T270.heap lv "java/util/ArrayList" "size" "I" (.int (0 : Int32)) := F_size_lv.keep K270 (ninS ne_lv_b224 (ninS ne_lv_ja_225 (ninS ne_lv_lw nin0)))
      have F_modCount_lv : Fld Z T270.heap lv "java/util/AbstractList" "modCount" "I" (.int (1 : Int32)) := F_modCount_lv.keep K270 (ninS ne_lv_b224 (ninS ne_lv_ja_225 (ninS ne_lv_lw nin0)))
      have F_requests_b224 : Fld Z T270.heap b224 "com/example/wachter/wachter/sim/QueueOrder" "requests" "[I" (.ref ra_225) := P270_1
      have F_joinedAs_b224 : Fld Z T270.heap b224 "com/example/wachter/wachter/sim/QueueOrder" "joinedAs" "[J" (.ref ja_225) := P270_2
      have F_behind_b224 : Fld Z T270.heap b224 "com/example/wachter/wachter/sim/QueueOrder" "behind" "Ljava/util/List;" (.ref bl_225) := P270_3
      have F_joined_b224 : Fld Z T270.heap b224 "com/example/wachter/wachter/sim/QueueOrder" "joined" "J" (.long ((((1 : Int64) + (1 : Int64)) + (1 : Int64)) + (1 : Int64))) := P270_4
      have A_ja_225 : ArJ Z T270.heap ja_225 (4 : Int32) (upd (upd (upd (upd (upd (upd (upd (upd (upd (upd (fun _ => 0) (0 : Int32).toNatClampNeg (-1 : Int64)) (1 : Int32).toNatClampNeg (-1 : Int64)) (2 : Int32).toNatClampNeg (-1 : Int64)) (3 : Int32).toNatClampNeg (-1 : Int64)) v6.toNatClampNeg (0 : Int64)) v18.toNatClampNeg (-1 : Int64)) v30.toNatClampNeg (-1 : Int64)) v12.toNatClampNeg (1 : Int64)) v18.toNatClampNeg ((1 : Int64) + (1 : Int64))) v25.toNatClampNeg (((1 : Int64) + (1 : Int64)) + (1 : Int64))) := P270_5
      have F_elementData_lw : Fld Z T270.heap lw "java/util/ArrayList" "elementData" "[Ljava/lang/Object;" (.ref dd) := P270_6
      have F_size_lw : Fld Z T270.heap lw "java/util/ArrayList" "size" "I" (.int (0 : Int32)) := P270_7
      have F_modCount_lw : Fld Z T270.heap lw "java/util/AbstractList" "modCount" "I" (.int (1 : Int32)) := P270_8
      have N270 := Fr.app N268 N270q
      obtain ⟨v80, hv80⟩ : ∃ z : Int64, z = ((upd (upd (upd (upd (upd (upd (upd (upd (upd (upd (fun _ => 0) (0 : Int32).toNatClampNeg (-1 : Int64)) (1 : Int32).toNatClampNeg (-1 : Int64)) (2 : Int32).toNatClampNeg (-1 : Int64)) (3 : Int32).toNatClampNeg (-1 : Int64)) v6.toNatClampNeg (0 : Int64)) v18.toNatClampNeg (-1 : Int64)) v30.toNatClampNeg (-1 : Int64)) v12.toNatClampNeg (1 : Int64)) v18.toNatClampNeg ((1 : Int64) + (1 : Int64))) v25.toNatClampNeg (((1 : Int64) + (1 : Int64)) + (1 : Int64))) v25.toNatClampNeg) := ⟨_, rfl⟩
      have pre271 : ∀ t, Steps p.tables e below (T270.setTop (mkF m 82 #[.val (.int p1), .val (.int p2), .val (.int v6), .val (.int v12), .val (.int v18), .val (.int v25), .val (.int v30), .val (.ref b224), .val (.long v71), .second, .val (.long v80), .second, .unset, .unset, .unset, .unset, .unset, .unset, .unset, .unset, .unset, .unset] [])) t → Steps p.tables e below (s₁.setTop (entryFrame m #[(.int p1), (.int p2)] maxLocals)) t := fun t k => pre269 t (by
        show Steps p.tables e below (T268.setTop (mkF m 73 #[.val (.int p1), .val (.int p2), .val (.int v6), .val (.int v12), .val (.int v18), .val (.int v25), .val (.int v30), .val (.ref b224), .val (.long v71), .second, .unset, .unset, .unset, .unset, .unset, .unset, .unset, .unset, .unset, .unset, .unset, .unset] [])) _
        refine XS.aload X268.here hx rfl (hb hby at_73) rfl rfl ?_
        show Steps p.tables e below (T268.setTop (mkF m 75 #[.val (.int p1), .val (.int p2), .val (.int v6), .val (.int v12), .val (.int v18), .val (.int v25), .val (.int v30), .val (.ref b224), .val (.long v71), .second, .unset, .unset, .unset, .unset, .unset, .unset, .unset, .unset, .unset, .unset, .unset, .unset] [(.ref b224)])) _
        refine XS.iload X268.here hx rfl (hb hby at_75) rfl ?_
        show Steps p.tables e below (T268.setTop (mkF m 77 #[.val (.int p1), .val (.int p2), .val (.int v6), .val (.int v12), .val (.int v18), .val (.int v25), .val (.int v30), .val (.ref b224), .val (.long v71), .second, .unset, .unset, .unset, .unset, .unset, .unset, .unset, .unset, .unset, .unset, .unset, .unset] [(.int v25), (.ref b224)])) _
        refine st270.trans ?_
        show Steps p.tables e below (T270.setTop (mkF m 80 #[.val (.int p1), .val (.int p2), .val (.int v6), .val (.int v12), .val (.int v18), .val (.int v25), .val (.int v30), .val (.ref b224), .val (.long v71), .second, .unset, .unset, .unset, .unset, .unset, .unset, .unset, .unset, .unset, .unset, .unset, .unset] [(.long ((upd (upd (upd (upd (upd (upd (upd (upd (upd (upd (fun _ => 0) (0 : Int32).toNatClampNeg (-1 : Int64)) (1 : Int32).toNatClampNeg (-1 : Int64)) (2 : Int32).toNatClampNeg (-1 : Int64)) (3 : Int32).toNatClampNeg (-1 : Int64)) v6.toNatClampNeg (0 : Int64)) v18.toNatClampNeg (-1 : Int64)) v30.toNatClampNeg (-1 : Int64)) v12.toNatClampNeg (1 : Int64)) v18.toNatClampNeg ((1 : Int64) + (1 : Int64))) v25.toNatClampNeg (((1 : Int64) + (1 : Int64)) + (1 : Int64))) v25.toNatClampNeg))])) _
        refine XS.lstore X270.here hx rfl (hb hby at_80) rfl (l' := #[.val (.int p1), .val (.int p2), .val (.int v6), .val (.int v12), .val (.int v18), .val (.int v25), .val (.int v30), .val (.ref b224), .val (.long v71), .second, .val (.long ((upd (upd (upd (upd (upd (upd (upd (upd (upd (upd (fun _ => 0) (0 : Int32).toNatClampNeg (-1 : Int64)) (1 : Int32).toNatClampNeg (-1 : Int64)) (2 : Int32).toNatClampNeg (-1 : Int64)) (3 : Int32).toNatClampNeg (-1 : Int64)) v6.toNatClampNeg (0 : Int64)) v18.toNatClampNeg (-1 : Int64)) v30.toNatClampNeg (-1 : Int64)) v12.toNatClampNeg (1 : Int64)) v18.toNatClampNeg ((1 : Int64) + (1 : Int64))) v25.toNatClampNeg (((1 : Int64) + (1 : Int64)) + (1 : Int64))) v25.toNatClampNeg)), .second, .unset, .unset, .unset, .unset, .unset, .unset, .unset, .unset, .unset, .unset]) rfl ?_
        rw [hv80] at k
        exact k)
      obtain ⟨cq272, kq272, q272a, q272b, q272c⟩ := isOf hZ rfl E_b224
      obtain ⟨_, _, ⟨T272, L272, k272, n272⟩, -, X272, ⟨Lc272, hQ272, l272, y272, z272⟩, st272⟩ := X270.virtualBack hx (y := (⟨"com/example/wachter/wachter/sim/QueueOrder", "granted", "(I)J"⟩ : MethodName)) (z := (⟨"com/example/wachter/wachter/sim/QueueOrder", "granted", "(I)J"⟩ : MethodName)) hown (mvT hZ (hw _ (List.mem_of_getElem? (i := 120) rfl))) (mvT hZ (hw _ (List.mem_of_getElem? (i := 121) rfl))) (notFace_of_selects (args := #[]) (mvT hZ (hw _ (List.mem_of_getElem? (i := 123) rfl)))) (mvT hZ (hw _ (List.mem_of_getElem? (i := 123) rfl))) (mvT hZ (hw _ (List.mem_of_getElem? (i := 122) rfl))) (by decide) (backOf (W := 0) (rmGN l Z a0 hw [] b224 v6 ja_225 (upd (upd (upd (upd (upd (upd (upd (upd (upd (upd (fun _ => 0) (0 : Int32).toNatClampNeg (-1 : Int64)) (1 : Int32).toNatClampNeg (-1 : Int64)) (2 : Int32).toNatClampNeg (-1 : Int64)) (3 : Int32).toNatClampNeg (-1 : Int64)) v6.toNatClampNeg (0 : Int64)) v18.toNatClampNeg (-1 : Int64)) v30.toNatClampNeg (-1 : Int64)) v12.toNatClampNeg (1 : Int64)) v18.toNatClampNeg ((1 : Int64) + (1 : Int64))) v25.toNatClampNeg (((1 : Int64) + (1 : Int64)) + (1 : Int64))) T270.heap n0 Zs F_joinedAs_b224 A_ja_225 ih (by rcases hc4 with ⟨e1, e2, e3, e4⟩ | ⟨e1, e2, e3, e4⟩ | ⟨e1, e2, e3, e4⟩ | ⟨e1, e2, e3, e4⟩ <;> rcases im4 with e5 | e5 | e5 | e5 <;> (try simp only [e1, e2, e3, e4, e5] at hmv hmh ⊢) <;> first | decide | (revert hmv hmh; decide))) hZ (hw _ (List.mem_of_getElem? (i := 124) rfl)) (hw _ (List.mem_of_getElem? (i := 3) rfl)) (by decide) (by decide)) q272a q272c (g := (mkF m 85 #[.val (.int p1), .val (.int p2), .val (.int v6), .val (.int v12), .val (.int v18), .val (.int v25), .val (.int v30), .val (.ref b224), .val (.long v71), .second, .val (.long v80), .second, .unset, .unset, .unset, .unset, .unset, .unset, .unset, .unset, .unset, .unset] [(.int v6), (.ref b224)])) rfl (by rw [hml]; rfl) (Steps.refl _) (argsL := [(.int v6)]) (rest := []) (lenOf pd_15 rfl) rfl (by show 2 * 0 + _ ≤ _; exact Nat.le_of_eq rfl) (hb hby at_85) (fun _ _ => ⟨rfl, rfl, (by decide : 14 + 0 ≤ _), (by decide : 55 + 0 ≤ _)⟩)
      dsimp only [Pt.U, Pt.locs, Pt.cells, Pt.slots] at X272 l272 y272 z272 st272 hQ272
      subst l272 y272 z272
      obtain ⟨rfl, N272q, e272⟩ := hQ272
      have N272 := Fr.app N270 N272q
      obtain ⟨v88, hv88⟩ : ∃ z : Int64, z = ((upd (upd (upd (upd (upd (upd (upd (upd (upd (upd (fun _ => 0) (0 : Int32).toNatClampNeg (-1 : Int64)) (1 : Int32).toNatClampNeg (-1 : Int64)) (2 : Int32).toNatClampNeg (-1 : Int64)) (3 : Int32).toNatClampNeg (-1 : Int64)) v6.toNatClampNeg (0 : Int64)) v18.toNatClampNeg (-1 : Int64)) v30.toNatClampNeg (-1 : Int64)) v12.toNatClampNeg (1 : Int64)) v18.toNatClampNeg ((1 : Int64) + (1 : Int64))) v25.toNatClampNeg (((1 : Int64) + (1 : Int64)) + (1 : Int64))) v6.toNatClampNeg) := ⟨_, rfl⟩
      have pre273 : ∀ t, Steps p.tables e below (T272.setTop (mkF m 90 #[.val (.int p1), .val (.int p2), .val (.int v6), .val (.int v12), .val (.int v18), .val (.int v25), .val (.int v30), .val (.ref b224), .val (.long v71), .second, .val (.long v80), .second, .val (.long v88), .second, .unset, .unset, .unset, .unset, .unset, .unset, .unset, .unset] [])) t → Steps p.tables e below (s₁.setTop (entryFrame m #[(.int p1), (.int p2)] maxLocals)) t := fun t k => pre271 t (by
        show Steps p.tables e below (T270.setTop (mkF m 82 #[.val (.int p1), .val (.int p2), .val (.int v6), .val (.int v12), .val (.int v18), .val (.int v25), .val (.int v30), .val (.ref b224), .val (.long v71), .second, .val (.long v80), .second, .unset, .unset, .unset, .unset, .unset, .unset, .unset, .unset, .unset, .unset] [])) _
        refine XS.aload X270.here hx rfl (hb hby at_82) rfl rfl ?_
        show Steps p.tables e below (T270.setTop (mkF m 84 #[.val (.int p1), .val (.int p2), .val (.int v6), .val (.int v12), .val (.int v18), .val (.int v25), .val (.int v30), .val (.ref b224), .val (.long v71), .second, .val (.long v80), .second, .unset, .unset, .unset, .unset, .unset, .unset, .unset, .unset, .unset, .unset] [(.ref b224)])) _
        refine XS.iloadN X270.here hx rfl (hb hby at_84) rfl ?_
        show Steps p.tables e below (T270.setTop (mkF m 85 #[.val (.int p1), .val (.int p2), .val (.int v6), .val (.int v12), .val (.int v18), .val (.int v25), .val (.int v30), .val (.ref b224), .val (.long v71), .second, .val (.long v80), .second, .unset, .unset, .unset, .unset, .unset, .unset, .unset, .unset, .unset, .unset] [(.int v6), (.ref b224)])) _
        refine st272.trans ?_
        show Steps p.tables e below (T272.setTop (mkF m 88 #[.val (.int p1), .val (.int p2), .val (.int v6), .val (.int v12), .val (.int v18), .val (.int v25), .val (.int v30), .val (.ref b224), .val (.long v71), .second, .val (.long v80), .second, .unset, .unset, .unset, .unset, .unset, .unset, .unset, .unset, .unset, .unset] [(.long ((upd (upd (upd (upd (upd (upd (upd (upd (upd (upd (fun _ => 0) (0 : Int32).toNatClampNeg (-1 : Int64)) (1 : Int32).toNatClampNeg (-1 : Int64)) (2 : Int32).toNatClampNeg (-1 : Int64)) (3 : Int32).toNatClampNeg (-1 : Int64)) v6.toNatClampNeg (0 : Int64)) v18.toNatClampNeg (-1 : Int64)) v30.toNatClampNeg (-1 : Int64)) v12.toNatClampNeg (1 : Int64)) v18.toNatClampNeg ((1 : Int64) + (1 : Int64))) v25.toNatClampNeg (((1 : Int64) + (1 : Int64)) + (1 : Int64))) v6.toNatClampNeg))])) _
        refine XS.lstore X272.here hx rfl (hb hby at_88) rfl (l' := #[.val (.int p1), .val (.int p2), .val (.int v6), .val (.int v12), .val (.int v18), .val (.int v25), .val (.int v30), .val (.ref b224), .val (.long v71), .second, .val (.long v80), .second, .val (.long ((upd (upd (upd (upd (upd (upd (upd (upd (upd (upd (fun _ => 0) (0 : Int32).toNatClampNeg (-1 : Int64)) (1 : Int32).toNatClampNeg (-1 : Int64)) (2 : Int32).toNatClampNeg (-1 : Int64)) (3 : Int32).toNatClampNeg (-1 : Int64)) v6.toNatClampNeg (0 : Int64)) v18.toNatClampNeg (-1 : Int64)) v30.toNatClampNeg (-1 : Int64)) v12.toNatClampNeg (1 : Int64)) v18.toNatClampNeg ((1 : Int64) + (1 : Int64))) v25.toNatClampNeg (((1 : Int64) + (1 : Int64)) + (1 : Int64))) v6.toNatClampNeg)), .second, .unset, .unset, .unset, .unset, .unset, .unset, .unset, .unset]) rfl ?_
        rw [hv88] at k
        exact k)
      obtain ⟨cq274, kq274, q274a, q274b, q274c⟩ := isOf hZ e272 E_b224
      obtain ⟨_, _, ⟨T274, L274, k274, n274⟩, -, X274, ⟨Lc274, hQ274, l274, y274, z274⟩, st274⟩ := X272.virtualBack hx (y := (⟨"com/example/wachter/wachter/sim/QueueOrder", "granted", "(I)J"⟩ : MethodName)) (z := (⟨"com/example/wachter/wachter/sim/QueueOrder", "granted", "(I)J"⟩ : MethodName)) hown (mvT hZ (hw _ (List.mem_of_getElem? (i := 120) rfl))) (mvT hZ (hw _ (List.mem_of_getElem? (i := 121) rfl))) (notFace_of_selects (args := #[]) (mvT hZ (hw _ (List.mem_of_getElem? (i := 123) rfl)))) (mvT hZ (hw _ (List.mem_of_getElem? (i := 123) rfl))) (mvT hZ (hw _ (List.mem_of_getElem? (i := 122) rfl))) (by decide) (backOf (W := 0) (rmGN l Z a0 hw [] b224 v18 ja_225 (upd (upd (upd (upd (upd (upd (upd (upd (upd (upd (fun _ => 0) (0 : Int32).toNatClampNeg (-1 : Int64)) (1 : Int32).toNatClampNeg (-1 : Int64)) (2 : Int32).toNatClampNeg (-1 : Int64)) (3 : Int32).toNatClampNeg (-1 : Int64)) v6.toNatClampNeg (0 : Int64)) v18.toNatClampNeg (-1 : Int64)) v30.toNatClampNeg (-1 : Int64)) v12.toNatClampNeg (1 : Int64)) v18.toNatClampNeg ((1 : Int64) + (1 : Int64))) v25.toNatClampNeg (((1 : Int64) + (1 : Int64)) + (1 : Int64))) T270.heap n0 Zs F_joinedAs_b224 A_ja_225 iv (by rcases hc4 with ⟨e1, e2, e3, e4⟩ | ⟨e1, e2, e3, e4⟩ | ⟨e1, e2, e3, e4⟩ | ⟨e1, e2, e3, e4⟩ <;> rcases im4 with e5 | e5 | e5 | e5 <;> (try simp only [e1, e2, e3, e4, e5] at hmv hmh ⊢) <;> first | decide | (revert hmv hmh; decide))) hZ (hw _ (List.mem_of_getElem? (i := 124) rfl)) (hw _ (List.mem_of_getElem? (i := 3) rfl)) (by decide) (by decide)) q274a q274c (g := (mkF m 94 #[.val (.int p1), .val (.int p2), .val (.int v6), .val (.int v12), .val (.int v18), .val (.int v25), .val (.int v30), .val (.ref b224), .val (.long v71), .second, .val (.long v80), .second, .val (.long v88), .second, .unset, .unset, .unset, .unset, .unset, .unset, .unset, .unset] [(.int v18), (.ref b224)])) rfl (by rw [hml]; rfl) (Steps.refl _) (argsL := [(.int v18)]) (rest := []) (lenOf pd_15 rfl) rfl (by show 2 * 0 + _ ≤ _; exact Nat.le_of_eq rfl) (hb hby at_94) (fun _ _ => ⟨rfl, e272, (by decide : 14 + 0 ≤ _), (by decide : 55 + 0 ≤ _)⟩)
      dsimp only [Pt.U, Pt.locs, Pt.cells, Pt.slots] at X274 l274 y274 z274 st274 hQ274
      subst l274 y274 z274
      obtain ⟨rfl, N274q, e274⟩ := hQ274
      have N274 := Fr.app N272 N274q
      obtain ⟨v97, hv97⟩ : ∃ z : Int64, z = ((upd (upd (upd (upd (upd (upd (upd (upd (upd (upd (fun _ => 0) (0 : Int32).toNatClampNeg (-1 : Int64)) (1 : Int32).toNatClampNeg (-1 : Int64)) (2 : Int32).toNatClampNeg (-1 : Int64)) (3 : Int32).toNatClampNeg (-1 : Int64)) v6.toNatClampNeg (0 : Int64)) v18.toNatClampNeg (-1 : Int64)) v30.toNatClampNeg (-1 : Int64)) v12.toNatClampNeg (1 : Int64)) v18.toNatClampNeg ((1 : Int64) + (1 : Int64))) v25.toNatClampNeg (((1 : Int64) + (1 : Int64)) + (1 : Int64))) v18.toNatClampNeg) := ⟨_, rfl⟩
      have pre275 : ∀ t, Steps p.tables e below (T274.setTop (mkF m 99 #[.val (.int p1), .val (.int p2), .val (.int v6), .val (.int v12), .val (.int v18), .val (.int v25), .val (.int v30), .val (.ref b224), .val (.long v71), .second, .val (.long v80), .second, .val (.long v88), .second, .val (.long v97), .second, .unset, .unset, .unset, .unset, .unset, .unset] [])) t → Steps p.tables e below (s₁.setTop (entryFrame m #[(.int p1), (.int p2)] maxLocals)) t := fun t k => pre273 t (by
        show Steps p.tables e below (T272.setTop (mkF m 90 #[.val (.int p1), .val (.int p2), .val (.int v6), .val (.int v12), .val (.int v18), .val (.int v25), .val (.int v30), .val (.ref b224), .val (.long v71), .second, .val (.long v80), .second, .val (.long v88), .second, .unset, .unset, .unset, .unset, .unset, .unset, .unset, .unset] [])) _
        refine XS.aload X272.here hx rfl (hb hby at_90) rfl rfl ?_
        show Steps p.tables e below (T272.setTop (mkF m 92 #[.val (.int p1), .val (.int p2), .val (.int v6), .val (.int v12), .val (.int v18), .val (.int v25), .val (.int v30), .val (.ref b224), .val (.long v71), .second, .val (.long v80), .second, .val (.long v88), .second, .unset, .unset, .unset, .unset, .unset, .unset, .unset, .unset] [(.ref b224)])) _
        refine XS.iload X272.here hx rfl (hb hby at_92) rfl ?_
        show Steps p.tables e below (T272.setTop (mkF m 94 #[.val (.int p1), .val (.int p2), .val (.int v6), .val (.int v12), .val (.int v18), .val (.int v25), .val (.int v30), .val (.ref b224), .val (.long v71), .second, .val (.long v80), .second, .val (.long v88), .second, .unset, .unset, .unset, .unset, .unset, .unset, .unset, .unset] [(.int v18), (.ref b224)])) _
        refine st274.trans ?_
        show Steps p.tables e below (T274.setTop (mkF m 97 #[.val (.int p1), .val (.int p2), .val (.int v6), .val (.int v12), .val (.int v18), .val (.int v25), .val (.int v30), .val (.ref b224), .val (.long v71), .second, .val (.long v80), .second, .val (.long v88), .second, .unset, .unset, .unset, .unset, .unset, .unset, .unset, .unset] [(.long ((upd (upd (upd (upd (upd (upd (upd (upd (upd (upd (fun _ => 0) (0 : Int32).toNatClampNeg (-1 : Int64)) (1 : Int32).toNatClampNeg (-1 : Int64)) (2 : Int32).toNatClampNeg (-1 : Int64)) (3 : Int32).toNatClampNeg (-1 : Int64)) v6.toNatClampNeg (0 : Int64)) v18.toNatClampNeg (-1 : Int64)) v30.toNatClampNeg (-1 : Int64)) v12.toNatClampNeg (1 : Int64)) v18.toNatClampNeg ((1 : Int64) + (1 : Int64))) v25.toNatClampNeg (((1 : Int64) + (1 : Int64)) + (1 : Int64))) v18.toNatClampNeg))])) _
        refine XS.lstore X274.here hx rfl (hb hby at_97) rfl (l' := #[.val (.int p1), .val (.int p2), .val (.int v6), .val (.int v12), .val (.int v18), .val (.int v25), .val (.int v30), .val (.ref b224), .val (.long v71), .second, .val (.long v80), .second, .val (.long v88), .second, .val (.long ((upd (upd (upd (upd (upd (upd (upd (upd (upd (upd (fun _ => 0) (0 : Int32).toNatClampNeg (-1 : Int64)) (1 : Int32).toNatClampNeg (-1 : Int64)) (2 : Int32).toNatClampNeg (-1 : Int64)) (3 : Int32).toNatClampNeg (-1 : Int64)) v6.toNatClampNeg (0 : Int64)) v18.toNatClampNeg (-1 : Int64)) v30.toNatClampNeg (-1 : Int64)) v12.toNatClampNeg (1 : Int64)) v18.toNatClampNeg ((1 : Int64) + (1 : Int64))) v25.toNatClampNeg (((1 : Int64) + (1 : Int64)) + (1 : Int64))) v18.toNatClampNeg)), .second, .unset, .unset, .unset, .unset, .unset, .unset]) rfl ?_
        rw [hv97] at k
        exact k)
      have pre276 : ∀ t, Steps p.tables e below (T274.setTop (mkF m 151 #[.val (.int p1), .val (.int p2), .val (.int v6), .val (.int v12), .val (.int v18), .val (.int v25), .val (.int v30), .val (.ref b224), .val (.long v71), .second, .val (.long v80), .second, .val (.long v88), .second, .val (.long v97), .second, .val (.long (3 : Int64)), .second, .val (.long (0 : Int64)), .second, .val (.long (2 : Int64)), .second] [(.int (lcmpW v71 (1 : Int64)))])) t → Steps p.tables e below (s₁.setTop (entryFrame m #[(.int p1), (.int p2)] maxLocals)) t := fun t k => pre275 t (by
        show Steps p.tables e below (T274.setTop (mkF m 99 #[.val (.int p1), .val (.int p2), .val (.int v6), .val (.int v12), .val (.int v18), .val (.int v25), .val (.int v30), .val (.ref b224), .val (.long v71), .second, .val (.long v80), .second, .val (.long v88), .second, .val (.long v97), .second, .unset, .unset, .unset, .unset, .unset, .unset] [])) _
        refine XS.iload X274.here hx rfl (hb hby at_99) rfl ?_
        show Steps p.tables e below (T274.setTop (mkF m 101 #[.val (.int p1), .val (.int p2), .val (.int v6), .val (.int v12), .val (.int v18), .val (.int v25), .val (.int v30), .val (.ref b224), .val (.long v71), .second, .val (.long v80), .second, .val (.long v88), .second, .val (.long v97), .second, .unset, .unset, .unset, .unset, .unset, .unset] [(.int v30)])) _
        refine XS.iload X274.here hx rfl (hb hby at_101) rfl ?_
        show Steps p.tables e below (T274.setTop (mkF m 103 #[.val (.int p1), .val (.int p2), .val (.int v6), .val (.int v12), .val (.int v18), .val (.int v25), .val (.int v30), .val (.ref b224), .val (.long v71), .second, .val (.long v80), .second, .val (.long v88), .second, .val (.long v97), .second, .unset, .unset, .unset, .unset, .unset, .unset] [(.int v18), (.int v30)])) _
        refine XS.icmpYes X274.here hx rfl (pc0 := 103) (pc' := 122) rfl (hb hby at_103) rfl (feq hmv).2 (by decide) (by decide) ?_
        show Steps p.tables e below (T274.setTop (mkF m 122 #[.val (.int p1), .val (.int p2), .val (.int v6), .val (.int v12), .val (.int v18), .val (.int v25), .val (.int v30), .val (.ref b224), .val (.long v71), .second, .val (.long v80), .second, .val (.long v88), .second, .val (.long v97), .second, .unset, .unset, .unset, .unset, .unset, .unset] [])) _
        refine X274.ldc2Long hx hown (mvT hZ (hw _ (List.mem_of_getElem? (i := 188) rfl))) (g := (mkF m 122 #[.val (.int p1), .val (.int p2), .val (.int v6), .val (.int v12), .val (.int v18), .val (.int v25), .val (.int v30), .val (.ref b224), .val (.long v71), .second, .val (.long v80), .second, .val (.long v88), .second, .val (.long v97), .second, .unset, .unset, .unset, .unset, .unset, .unset] [])) rfl (hb hby at_122) _ ?_
        show Steps p.tables e below (T274.setTop (mkF m 125 #[.val (.int p1), .val (.int p2), .val (.int v6), .val (.int v12), .val (.int v18), .val (.int v25), .val (.int v30), .val (.ref b224), .val (.long v71), .second, .val (.long v80), .second, .val (.long v88), .second, .val (.long v97), .second, .unset, .unset, .unset, .unset, .unset, .unset] [(.long (3 : Int64))])) _
        refine XS.lstore X274.here hx rfl (hb hby at_125) rfl (l' := #[.val (.int p1), .val (.int p2), .val (.int v6), .val (.int v12), .val (.int v18), .val (.int v25), .val (.int v30), .val (.ref b224), .val (.long v71), .second, .val (.long v80), .second, .val (.long v88), .second, .val (.long v97), .second, .val (.long (3 : Int64)), .second, .unset, .unset, .unset, .unset]) rfl ?_
        show Steps p.tables e below (T274.setTop (mkF m 127 #[.val (.int p1), .val (.int p2), .val (.int v6), .val (.int v12), .val (.int v18), .val (.int v25), .val (.int v30), .val (.ref b224), .val (.long v71), .second, .val (.long v80), .second, .val (.long v88), .second, .val (.long v97), .second, .val (.long (3 : Int64)), .second, .unset, .unset, .unset, .unset] [])) _
        refine XS.iload X274.here hx rfl (hb hby at_127) rfl ?_
        show Steps p.tables e below (T274.setTop (mkF m 129 #[.val (.int p1), .val (.int p2), .val (.int v6), .val (.int v12), .val (.int v18), .val (.int v25), .val (.int v30), .val (.ref b224), .val (.long v71), .second, .val (.long v80), .second, .val (.long v88), .second, .val (.long v97), .second, .val (.long (3 : Int64)), .second, .unset, .unset, .unset, .unset] [(.int v30)])) _
        refine XS.iloadN X274.here hx rfl (hb hby at_129) rfl ?_
        show Steps p.tables e below (T274.setTop (mkF m 130 #[.val (.int p1), .val (.int p2), .val (.int v6), .val (.int v12), .val (.int v18), .val (.int v25), .val (.int v30), .val (.ref b224), .val (.long v71), .second, .val (.long v80), .second, .val (.long v88), .second, .val (.long v97), .second, .val (.long (3 : Int64)), .second, .unset, .unset, .unset, .unset] [(.int v6), (.int v30)])) _
        refine XS.icmpYes X274.here hx rfl (pc0 := 130) (pc' := 139) rfl (hb hby at_130) rfl (feq hmh).2 (by decide) (by decide) ?_
        show Steps p.tables e below (T274.setTop (mkF m 139 #[.val (.int p1), .val (.int p2), .val (.int v6), .val (.int v12), .val (.int v18), .val (.int v25), .val (.int v30), .val (.ref b224), .val (.long v71), .second, .val (.long v80), .second, .val (.long v88), .second, .val (.long v97), .second, .val (.long (3 : Int64)), .second, .unset, .unset, .unset, .unset] [])) _
        refine XS.lconst X274.here hx rfl (hb hby at_139) ?_
        show Steps p.tables e below (T274.setTop (mkF m 140 #[.val (.int p1), .val (.int p2), .val (.int v6), .val (.int v12), .val (.int v18), .val (.int v25), .val (.int v30), .val (.ref b224), .val (.long v71), .second, .val (.long v80), .second, .val (.long v88), .second, .val (.long v97), .second, .val (.long (3 : Int64)), .second, .unset, .unset, .unset, .unset] [(.long (0 : Int64))])) _
        refine XS.lstore X274.here hx rfl (hb hby at_140) rfl (l' := #[.val (.int p1), .val (.int p2), .val (.int v6), .val (.int v12), .val (.int v18), .val (.int v25), .val (.int v30), .val (.ref b224), .val (.long v71), .second, .val (.long v80), .second, .val (.long v88), .second, .val (.long v97), .second, .val (.long (3 : Int64)), .second, .val (.long (0 : Int64)), .second, .unset, .unset]) rfl ?_
        show Steps p.tables e below (T274.setTop (mkF m 142 #[.val (.int p1), .val (.int p2), .val (.int v6), .val (.int v12), .val (.int v18), .val (.int v25), .val (.int v30), .val (.ref b224), .val (.long v71), .second, .val (.long v80), .second, .val (.long v88), .second, .val (.long v97), .second, .val (.long (3 : Int64)), .second, .val (.long (0 : Int64)), .second, .unset, .unset] [])) _
        refine X274.ldc2Long hx hown (mvT hZ (hw _ (List.mem_of_getElem? (i := 189) rfl))) (g := (mkF m 142 #[.val (.int p1), .val (.int p2), .val (.int v6), .val (.int v12), .val (.int v18), .val (.int v25), .val (.int v30), .val (.ref b224), .val (.long v71), .second, .val (.long v80), .second, .val (.long v88), .second, .val (.long v97), .second, .val (.long (3 : Int64)), .second, .val (.long (0 : Int64)), .second, .unset, .unset] [])) rfl (hb hby at_142) _ ?_
        show Steps p.tables e below (T274.setTop (mkF m 145 #[.val (.int p1), .val (.int p2), .val (.int v6), .val (.int v12), .val (.int v18), .val (.int v25), .val (.int v30), .val (.ref b224), .val (.long v71), .second, .val (.long v80), .second, .val (.long v88), .second, .val (.long v97), .second, .val (.long (3 : Int64)), .second, .val (.long (0 : Int64)), .second, .unset, .unset] [(.long (2 : Int64))])) _
        refine XS.lstore X274.here hx rfl (hb hby at_145) rfl (l' := #[.val (.int p1), .val (.int p2), .val (.int v6), .val (.int v12), .val (.int v18), .val (.int v25), .val (.int v30), .val (.ref b224), .val (.long v71), .second, .val (.long v80), .second, .val (.long v88), .second, .val (.long v97), .second, .val (.long (3 : Int64)), .second, .val (.long (0 : Int64)), .second, .val (.long (2 : Int64)), .second]) rfl ?_
        show Steps p.tables e below (T274.setTop (mkF m 147 #[.val (.int p1), .val (.int p2), .val (.int v6), .val (.int v12), .val (.int v18), .val (.int v25), .val (.int v30), .val (.ref b224), .val (.long v71), .second, .val (.long v80), .second, .val (.long v88), .second, .val (.long v97), .second, .val (.long (3 : Int64)), .second, .val (.long (0 : Int64)), .second, .val (.long (2 : Int64)), .second] [])) _
        refine XS.lload X274.here hx rfl (hb hby at_147) rfl ?_
        show Steps p.tables e below (T274.setTop (mkF m 149 #[.val (.int p1), .val (.int p2), .val (.int v6), .val (.int v12), .val (.int v18), .val (.int v25), .val (.int v30), .val (.ref b224), .val (.long v71), .second, .val (.long v80), .second, .val (.long v88), .second, .val (.long v97), .second, .val (.long (3 : Int64)), .second, .val (.long (0 : Int64)), .second, .val (.long (2 : Int64)), .second] [(.long v71)])) _
        refine XS.lconst X274.here hx rfl (hb hby at_149) ?_
        show Steps p.tables e below (T274.setTop (mkF m 150 #[.val (.int p1), .val (.int p2), .val (.int v6), .val (.int v12), .val (.int v18), .val (.int v25), .val (.int v30), .val (.ref b224), .val (.long v71), .second, .val (.long v80), .second, .val (.long v88), .second, .val (.long v97), .second, .val (.long (3 : Int64)), .second, .val (.long (0 : Int64)), .second, .val (.long (2 : Int64)), .second] [(.long (1 : Int64)), (.long v71)])) _
        refine XS.lcmp X274.here hx rfl (hb hby at_150) rfl ?_
        exact k)
      obtain ⟨z183_s0, hz183_s0⟩ : ∃ z : Int32, z = (if v71 = (1 : Int64) then (if v80 = (3 : Int64) then (if v88 = (0 : Int64) then (if v97 = (2 : Int64) then (1 : Int32) else (0 : Int32)) else (0 : Int32)) else (0 : Int32)) else (0 : Int32)) := ⟨_, rfl⟩
      obtain ⟨T285, Lc285, X285, e285, N285, pre285⟩ : ∃ (T' : State) (locs' : List Loc), Stand p l e room_1 s m #[(.int p1), (.int p2)] below meth c T' locs' 14 55 ∧ T'.heap = T270.heap ∧ Fr n0 locs' ∧ ∀ t, Steps p.tables e below (T'.setTop (mkF m 183 #[.val (.int p1), .val (.int p2), .val (.int v6), .val (.int v12), .val (.int v18), .val (.int v25), .val (.int v30), .val (.ref b224), .val (.long v71), .second, .val (.long v80), .second, .val (.long v88), .second, .val (.long v97), .second, .val (.long (3 : Int64)), .second, .val (.long (0 : Int64)), .second, .val (.long (2 : Int64)), .second] [(.int z183_s0)])) t → Steps p.tables e below (s₁.setTop (entryFrame m #[(.int p1), (.int p2)] maxLocals)) t := by
        by_cases hc151 : v71 = (1 : Int64)
        ·
          have pre277 : ∀ t, Steps p.tables e below (T274.setTop (mkF m 159 #[.val (.int p1), .val (.int p2), .val (.int v6), .val (.int v12), .val (.int v18), .val (.int v25), .val (.int v30), .val (.ref b224), .val (.long v71), .second, .val (.long v80), .second, .val (.long v88), .second, .val (.long v97), .second, .val (.long (3 : Int64)), .second, .val (.long (0 : Int64)), .second, .val (.long (2 : Int64)), .second] [(.int (lcmpW v80 (3 : Int64)))])) t → Steps p.tables e below (s₁.setTop (entryFrame m #[(.int p1), (.int p2)] maxLocals)) t := fun t k => pre276 t (by
            show Steps p.tables e below (T274.setTop (mkF m 151 #[.val (.int p1), .val (.int p2), .val (.int v6), .val (.int v12), .val (.int v18), .val (.int v25), .val (.int v30), .val (.ref b224), .val (.long v71), .second, .val (.long v80), .second, .val (.long v88), .second, .val (.long v97), .second, .val (.long (3 : Int64)), .second, .val (.long (0 : Int64)), .second, .val (.long (2 : Int64)), .second] [(.int (lcmpW v71 (1 : Int64)))])) _
            refine XS.ifNo X274.here hx rfl (hb hby at_151) rfl ((if0 _ _).trans (teq ((lw_eq v71 (1 : Int64)).mpr hc151)).2) ?_
            show Steps p.tables e below (T274.setTop (mkF m 154 #[.val (.int p1), .val (.int p2), .val (.int v6), .val (.int v12), .val (.int v18), .val (.int v25), .val (.int v30), .val (.ref b224), .val (.long v71), .second, .val (.long v80), .second, .val (.long v88), .second, .val (.long v97), .second, .val (.long (3 : Int64)), .second, .val (.long (0 : Int64)), .second, .val (.long (2 : Int64)), .second] [])) _
            refine XS.lload X274.here hx rfl (hb hby at_154) rfl ?_
            show Steps p.tables e below (T274.setTop (mkF m 156 #[.val (.int p1), .val (.int p2), .val (.int v6), .val (.int v12), .val (.int v18), .val (.int v25), .val (.int v30), .val (.ref b224), .val (.long v71), .second, .val (.long v80), .second, .val (.long v88), .second, .val (.long v97), .second, .val (.long (3 : Int64)), .second, .val (.long (0 : Int64)), .second, .val (.long (2 : Int64)), .second] [(.long v80)])) _
            refine XS.lload X274.here hx rfl (hb hby at_156) rfl ?_
            show Steps p.tables e below (T274.setTop (mkF m 158 #[.val (.int p1), .val (.int p2), .val (.int v6), .val (.int v12), .val (.int v18), .val (.int v25), .val (.int v30), .val (.ref b224), .val (.long v71), .second, .val (.long v80), .second, .val (.long v88), .second, .val (.long v97), .second, .val (.long (3 : Int64)), .second, .val (.long (0 : Int64)), .second, .val (.long (2 : Int64)), .second] [(.long (3 : Int64)), (.long v80)])) _
            refine XS.lcmp X274.here hx rfl (hb hby at_158) rfl ?_
            exact k)
          by_cases hc159 : v80 = (3 : Int64)
          ·
            have pre278 : ∀ t, Steps p.tables e below (T274.setTop (mkF m 167 #[.val (.int p1), .val (.int p2), .val (.int v6), .val (.int v12), .val (.int v18), .val (.int v25), .val (.int v30), .val (.ref b224), .val (.long v71), .second, .val (.long v80), .second, .val (.long v88), .second, .val (.long v97), .second, .val (.long (3 : Int64)), .second, .val (.long (0 : Int64)), .second, .val (.long (2 : Int64)), .second] [(.int (lcmpW v88 (0 : Int64)))])) t → Steps p.tables e below (s₁.setTop (entryFrame m #[(.int p1), (.int p2)] maxLocals)) t := fun t k => pre277 t (by
              show Steps p.tables e below (T274.setTop (mkF m 159 #[.val (.int p1), .val (.int p2), .val (.int v6), .val (.int v12), .val (.int v18), .val (.int v25), .val (.int v30), .val (.ref b224), .val (.long v71), .second, .val (.long v80), .second, .val (.long v88), .second, .val (.long v97), .second, .val (.long (3 : Int64)), .second, .val (.long (0 : Int64)), .second, .val (.long (2 : Int64)), .second] [(.int (lcmpW v80 (3 : Int64)))])) _
              refine XS.ifNo X274.here hx rfl (hb hby at_159) rfl ((if0 _ _).trans (teq ((lw_eq v80 (3 : Int64)).mpr hc159)).2) ?_
              show Steps p.tables e below (T274.setTop (mkF m 162 #[.val (.int p1), .val (.int p2), .val (.int v6), .val (.int v12), .val (.int v18), .val (.int v25), .val (.int v30), .val (.ref b224), .val (.long v71), .second, .val (.long v80), .second, .val (.long v88), .second, .val (.long v97), .second, .val (.long (3 : Int64)), .second, .val (.long (0 : Int64)), .second, .val (.long (2 : Int64)), .second] [])) _
              refine XS.lload X274.here hx rfl (hb hby at_162) rfl ?_
              show Steps p.tables e below (T274.setTop (mkF m 164 #[.val (.int p1), .val (.int p2), .val (.int v6), .val (.int v12), .val (.int v18), .val (.int v25), .val (.int v30), .val (.ref b224), .val (.long v71), .second, .val (.long v80), .second, .val (.long v88), .second, .val (.long v97), .second, .val (.long (3 : Int64)), .second, .val (.long (0 : Int64)), .second, .val (.long (2 : Int64)), .second] [(.long v88)])) _
              refine XS.lload X274.here hx rfl (hb hby at_164) rfl ?_
              show Steps p.tables e below (T274.setTop (mkF m 166 #[.val (.int p1), .val (.int p2), .val (.int v6), .val (.int v12), .val (.int v18), .val (.int v25), .val (.int v30), .val (.ref b224), .val (.long v71), .second, .val (.long v80), .second, .val (.long v88), .second, .val (.long v97), .second, .val (.long (3 : Int64)), .second, .val (.long (0 : Int64)), .second, .val (.long (2 : Int64)), .second] [(.long (0 : Int64)), (.long v88)])) _
              refine XS.lcmp X274.here hx rfl (hb hby at_166) rfl ?_
              exact k)
            by_cases hc167 : v88 = (0 : Int64)
            ·
              have pre279 : ∀ t, Steps p.tables e below (T274.setTop (mkF m 175 #[.val (.int p1), .val (.int p2), .val (.int v6), .val (.int v12), .val (.int v18), .val (.int v25), .val (.int v30), .val (.ref b224), .val (.long v71), .second, .val (.long v80), .second, .val (.long v88), .second, .val (.long v97), .second, .val (.long (3 : Int64)), .second, .val (.long (0 : Int64)), .second, .val (.long (2 : Int64)), .second] [(.int (lcmpW v97 (2 : Int64)))])) t → Steps p.tables e below (s₁.setTop (entryFrame m #[(.int p1), (.int p2)] maxLocals)) t := fun t k => pre278 t (by
                show Steps p.tables e below (T274.setTop (mkF m 167 #[.val (.int p1), .val (.int p2), .val (.int v6), .val (.int v12), .val (.int v18), .val (.int v25), .val (.int v30), .val (.ref b224), .val (.long v71), .second, .val (.long v80), .second, .val (.long v88), .second, .val (.long v97), .second, .val (.long (3 : Int64)), .second, .val (.long (0 : Int64)), .second, .val (.long (2 : Int64)), .second] [(.int (lcmpW v88 (0 : Int64)))])) _
                refine XS.ifNo X274.here hx rfl (hb hby at_167) rfl ((if0 _ _).trans (teq ((lw_eq v88 (0 : Int64)).mpr hc167)).2) ?_
                show Steps p.tables e below (T274.setTop (mkF m 170 #[.val (.int p1), .val (.int p2), .val (.int v6), .val (.int v12), .val (.int v18), .val (.int v25), .val (.int v30), .val (.ref b224), .val (.long v71), .second, .val (.long v80), .second, .val (.long v88), .second, .val (.long v97), .second, .val (.long (3 : Int64)), .second, .val (.long (0 : Int64)), .second, .val (.long (2 : Int64)), .second] [])) _
                refine XS.lload X274.here hx rfl (hb hby at_170) rfl ?_
                show Steps p.tables e below (T274.setTop (mkF m 172 #[.val (.int p1), .val (.int p2), .val (.int v6), .val (.int v12), .val (.int v18), .val (.int v25), .val (.int v30), .val (.ref b224), .val (.long v71), .second, .val (.long v80), .second, .val (.long v88), .second, .val (.long v97), .second, .val (.long (3 : Int64)), .second, .val (.long (0 : Int64)), .second, .val (.long (2 : Int64)), .second] [(.long v97)])) _
                refine XS.lload X274.here hx rfl (hb hby at_172) rfl ?_
                show Steps p.tables e below (T274.setTop (mkF m 174 #[.val (.int p1), .val (.int p2), .val (.int v6), .val (.int v12), .val (.int v18), .val (.int v25), .val (.int v30), .val (.ref b224), .val (.long v71), .second, .val (.long v80), .second, .val (.long v88), .second, .val (.long v97), .second, .val (.long (3 : Int64)), .second, .val (.long (0 : Int64)), .second, .val (.long (2 : Int64)), .second] [(.long (2 : Int64)), (.long v97)])) _
                refine XS.lcmp X274.here hx rfl (hb hby at_174) rfl ?_
                exact k)
              by_cases hc175 : v97 = (2 : Int64)
              ·
                have pre280 : ∀ t, Steps p.tables e below (T274.setTop (mkF m 183 #[.val (.int p1), .val (.int p2), .val (.int v6), .val (.int v12), .val (.int v18), .val (.int v25), .val (.int v30), .val (.ref b224), .val (.long v71), .second, .val (.long v80), .second, .val (.long v88), .second, .val (.long v97), .second, .val (.long (3 : Int64)), .second, .val (.long (0 : Int64)), .second, .val (.long (2 : Int64)), .second] [(.int (1 : Int32))])) t → Steps p.tables e below (s₁.setTop (entryFrame m #[(.int p1), (.int p2)] maxLocals)) t := fun t k => pre279 t (by
                  show Steps p.tables e below (T274.setTop (mkF m 175 #[.val (.int p1), .val (.int p2), .val (.int v6), .val (.int v12), .val (.int v18), .val (.int v25), .val (.int v30), .val (.ref b224), .val (.long v71), .second, .val (.long v80), .second, .val (.long v88), .second, .val (.long v97), .second, .val (.long (3 : Int64)), .second, .val (.long (0 : Int64)), .second, .val (.long (2 : Int64)), .second] [(.int (lcmpW v97 (2 : Int64)))])) _
                  refine XS.ifNo X274.here hx rfl (hb hby at_175) rfl ((if0 _ _).trans (teq ((lw_eq v97 (2 : Int64)).mpr hc175)).2) ?_
                  show Steps p.tables e below (T274.setTop (mkF m 178 #[.val (.int p1), .val (.int p2), .val (.int v6), .val (.int v12), .val (.int v18), .val (.int v25), .val (.int v30), .val (.ref b224), .val (.long v71), .second, .val (.long v80), .second, .val (.long v88), .second, .val (.long v97), .second, .val (.long (3 : Int64)), .second, .val (.long (0 : Int64)), .second, .val (.long (2 : Int64)), .second] [])) _
                  refine XS.iconst X274.here hx rfl (hb hby at_178) ?_
                  show Steps p.tables e below (T274.setTop (mkF m 179 #[.val (.int p1), .val (.int p2), .val (.int v6), .val (.int v12), .val (.int v18), .val (.int v25), .val (.int v30), .val (.ref b224), .val (.long v71), .second, .val (.long v80), .second, .val (.long v88), .second, .val (.long v97), .second, .val (.long (3 : Int64)), .second, .val (.long (0 : Int64)), .second, .val (.long (2 : Int64)), .second] [(.int (1 : Int32))])) _
                  refine XS.goto X274.here hx rfl (pc0 := 179) (pc' := 183) rfl (hb hby at_179) (by decide) (by decide) ?_
                  exact k)
                have q_z183_s0 : z183_s0 = (1 : Int32) := by rw [hz183_s0, if_pos hc151, if_pos hc159, if_pos hc167, if_pos hc175]
                refine ⟨_, _, X274, e274, N274, fun t k => ?_⟩
                rw [q_z183_s0] at k
                exact pre280 t k
              ·
                have pre281 : ∀ t, Steps p.tables e below (T274.setTop (mkF m 183 #[.val (.int p1), .val (.int p2), .val (.int v6), .val (.int v12), .val (.int v18), .val (.int v25), .val (.int v30), .val (.ref b224), .val (.long v71), .second, .val (.long v80), .second, .val (.long v88), .second, .val (.long v97), .second, .val (.long (3 : Int64)), .second, .val (.long (0 : Int64)), .second, .val (.long (2 : Int64)), .second] [(.int (0 : Int32))])) t → Steps p.tables e below (s₁.setTop (entryFrame m #[(.int p1), (.int p2)] maxLocals)) t := fun t k => pre279 t (by
                  show Steps p.tables e below (T274.setTop (mkF m 175 #[.val (.int p1), .val (.int p2), .val (.int v6), .val (.int v12), .val (.int v18), .val (.int v25), .val (.int v30), .val (.ref b224), .val (.long v71), .second, .val (.long v80), .second, .val (.long v88), .second, .val (.long v97), .second, .val (.long (3 : Int64)), .second, .val (.long (0 : Int64)), .second, .val (.long (2 : Int64)), .second] [(.int (lcmpW v97 (2 : Int64)))])) _
                  refine XS.ifYes X274.here hx rfl (pc0 := 175) (pc' := 182) rfl (hb hby at_175) rfl ((if0 _ _).trans (feq (fun q => hc175 ((lw_eq v97 (2 : Int64)).mp q))).2) (by decide) (by decide) ?_
                  show Steps p.tables e below (T274.setTop (mkF m 182 #[.val (.int p1), .val (.int p2), .val (.int v6), .val (.int v12), .val (.int v18), .val (.int v25), .val (.int v30), .val (.ref b224), .val (.long v71), .second, .val (.long v80), .second, .val (.long v88), .second, .val (.long v97), .second, .val (.long (3 : Int64)), .second, .val (.long (0 : Int64)), .second, .val (.long (2 : Int64)), .second] [])) _
                  refine XS.iconst X274.here hx rfl (hb hby at_182) ?_
                  exact k)
                have q_z183_s0 : z183_s0 = (0 : Int32) := by rw [hz183_s0, if_pos hc151, if_pos hc159, if_pos hc167, if_neg hc175]
                refine ⟨_, _, X274, e274, N274, fun t k => ?_⟩
                rw [q_z183_s0] at k
                exact pre281 t k
            ·
              have pre282 : ∀ t, Steps p.tables e below (T274.setTop (mkF m 183 #[.val (.int p1), .val (.int p2), .val (.int v6), .val (.int v12), .val (.int v18), .val (.int v25), .val (.int v30), .val (.ref b224), .val (.long v71), .second, .val (.long v80), .second, .val (.long v88), .second, .val (.long v97), .second, .val (.long (3 : Int64)), .second, .val (.long (0 : Int64)), .second, .val (.long (2 : Int64)), .second] [(.int (0 : Int32))])) t → Steps p.tables e below (s₁.setTop (entryFrame m #[(.int p1), (.int p2)] maxLocals)) t := fun t k => pre278 t (by
                show Steps p.tables e below (T274.setTop (mkF m 167 #[.val (.int p1), .val (.int p2), .val (.int v6), .val (.int v12), .val (.int v18), .val (.int v25), .val (.int v30), .val (.ref b224), .val (.long v71), .second, .val (.long v80), .second, .val (.long v88), .second, .val (.long v97), .second, .val (.long (3 : Int64)), .second, .val (.long (0 : Int64)), .second, .val (.long (2 : Int64)), .second] [(.int (lcmpW v88 (0 : Int64)))])) _
                refine XS.ifYes X274.here hx rfl (pc0 := 167) (pc' := 182) rfl (hb hby at_167) rfl ((if0 _ _).trans (feq (fun q => hc167 ((lw_eq v88 (0 : Int64)).mp q))).2) (by decide) (by decide) ?_
                show Steps p.tables e below (T274.setTop (mkF m 182 #[.val (.int p1), .val (.int p2), .val (.int v6), .val (.int v12), .val (.int v18), .val (.int v25), .val (.int v30), .val (.ref b224), .val (.long v71), .second, .val (.long v80), .second, .val (.long v88), .second, .val (.long v97), .second, .val (.long (3 : Int64)), .second, .val (.long (0 : Int64)), .second, .val (.long (2 : Int64)), .second] [])) _
                refine XS.iconst X274.here hx rfl (hb hby at_182) ?_
                exact k)
              have q_z183_s0 : z183_s0 = (0 : Int32) := by rw [hz183_s0, if_pos hc151, if_pos hc159, if_neg hc167]
              refine ⟨_, _, X274, e274, N274, fun t k => ?_⟩
              rw [q_z183_s0] at k
              exact pre282 t k
          ·
            have pre283 : ∀ t, Steps p.tables e below (T274.setTop (mkF m 183 #[.val (.int p1), .val (.int p2), .val (.int v6), .val (.int v12), .val (.int v18), .val (.int v25), .val (.int v30), .val (.ref b224), .val (.long v71), .second, .val (.long v80), .second, .val (.long v88), .second, .val (.long v97), .second, .val (.long (3 : Int64)), .second, .val (.long (0 : Int64)), .second, .val (.long (2 : Int64)), .second] [(.int (0 : Int32))])) t → Steps p.tables e below (s₁.setTop (entryFrame m #[(.int p1), (.int p2)] maxLocals)) t := fun t k => pre277 t (by
              show Steps p.tables e below (T274.setTop (mkF m 159 #[.val (.int p1), .val (.int p2), .val (.int v6), .val (.int v12), .val (.int v18), .val (.int v25), .val (.int v30), .val (.ref b224), .val (.long v71), .second, .val (.long v80), .second, .val (.long v88), .second, .val (.long v97), .second, .val (.long (3 : Int64)), .second, .val (.long (0 : Int64)), .second, .val (.long (2 : Int64)), .second] [(.int (lcmpW v80 (3 : Int64)))])) _
              refine XS.ifYes X274.here hx rfl (pc0 := 159) (pc' := 182) rfl (hb hby at_159) rfl ((if0 _ _).trans (feq (fun q => hc159 ((lw_eq v80 (3 : Int64)).mp q))).2) (by decide) (by decide) ?_
              show Steps p.tables e below (T274.setTop (mkF m 182 #[.val (.int p1), .val (.int p2), .val (.int v6), .val (.int v12), .val (.int v18), .val (.int v25), .val (.int v30), .val (.ref b224), .val (.long v71), .second, .val (.long v80), .second, .val (.long v88), .second, .val (.long v97), .second, .val (.long (3 : Int64)), .second, .val (.long (0 : Int64)), .second, .val (.long (2 : Int64)), .second] [])) _
              refine XS.iconst X274.here hx rfl (hb hby at_182) ?_
              exact k)
            have q_z183_s0 : z183_s0 = (0 : Int32) := by rw [hz183_s0, if_pos hc151, if_neg hc159]
            refine ⟨_, _, X274, e274, N274, fun t k => ?_⟩
            rw [q_z183_s0] at k
            exact pre283 t k
        ·
          have pre284 : ∀ t, Steps p.tables e below (T274.setTop (mkF m 183 #[.val (.int p1), .val (.int p2), .val (.int v6), .val (.int v12), .val (.int v18), .val (.int v25), .val (.int v30), .val (.ref b224), .val (.long v71), .second, .val (.long v80), .second, .val (.long v88), .second, .val (.long v97), .second, .val (.long (3 : Int64)), .second, .val (.long (0 : Int64)), .second, .val (.long (2 : Int64)), .second] [(.int (0 : Int32))])) t → Steps p.tables e below (s₁.setTop (entryFrame m #[(.int p1), (.int p2)] maxLocals)) t := fun t k => pre276 t (by
            show Steps p.tables e below (T274.setTop (mkF m 151 #[.val (.int p1), .val (.int p2), .val (.int v6), .val (.int v12), .val (.int v18), .val (.int v25), .val (.int v30), .val (.ref b224), .val (.long v71), .second, .val (.long v80), .second, .val (.long v88), .second, .val (.long v97), .second, .val (.long (3 : Int64)), .second, .val (.long (0 : Int64)), .second, .val (.long (2 : Int64)), .second] [(.int (lcmpW v71 (1 : Int64)))])) _
            refine XS.ifYes X274.here hx rfl (pc0 := 151) (pc' := 182) rfl (hb hby at_151) rfl ((if0 _ _).trans (feq (fun q => hc151 ((lw_eq v71 (1 : Int64)).mp q))).2) (by decide) (by decide) ?_
            show Steps p.tables e below (T274.setTop (mkF m 182 #[.val (.int p1), .val (.int p2), .val (.int v6), .val (.int v12), .val (.int v18), .val (.int v25), .val (.int v30), .val (.ref b224), .val (.long v71), .second, .val (.long v80), .second, .val (.long v88), .second, .val (.long v97), .second, .val (.long (3 : Int64)), .second, .val (.long (0 : Int64)), .second, .val (.long (2 : Int64)), .second] [])) _
            refine XS.iconst X274.here hx rfl (hb hby at_182) ?_
            exact k)
          have q_z183_s0 : z183_s0 = (0 : Int32) := by rw [hz183_s0, if_neg hc151]
          refine ⟨_, _, X274, e274, N274, fun t k => ?_⟩
          rw [q_z183_s0] at k
          exact pre284 t k
      have q_v71 : v71 = (1 : Int64) := hv71.trans (by rcases hc4 with ⟨e1, e2, e3, e4⟩ | ⟨e1, e2, e3, e4⟩ | ⟨e1, e2, e3, e4⟩ | ⟨e1, e2, e3, e4⟩ <;> rcases im4 with e5 | e5 | e5 | e5 <;> (try simp only [e1, e2, e3, e4, e5] at hmv hmh ⊢) <;> first | decide | (revert hmv hmh; decide))
      have q_v80 : v80 = (3 : Int64) := hv80.trans (by rcases hc4 with ⟨e1, e2, e3, e4⟩ | ⟨e1, e2, e3, e4⟩ | ⟨e1, e2, e3, e4⟩ | ⟨e1, e2, e3, e4⟩ <;> rcases im4 with e5 | e5 | e5 | e5 <;> (try simp only [e1, e2, e3, e4, e5] at hmv hmh ⊢) <;> first | decide | (revert hmv hmh; decide))
      have q_v88 : v88 = (0 : Int64) := hv88.trans (by rcases hc4 with ⟨e1, e2, e3, e4⟩ | ⟨e1, e2, e3, e4⟩ | ⟨e1, e2, e3, e4⟩ | ⟨e1, e2, e3, e4⟩ <;> rcases im4 with e5 | e5 | e5 | e5 <;> (try simp only [e1, e2, e3, e4, e5] at hmv hmh ⊢) <;> first | decide | (revert hmv hmh; decide))
      have q_v97 : v97 = (2 : Int64) := hv97.trans (by rcases hc4 with ⟨e1, e2, e3, e4⟩ | ⟨e1, e2, e3, e4⟩ | ⟨e1, e2, e3, e4⟩ | ⟨e1, e2, e3, e4⟩ <;> rcases im4 with e5 | e5 | e5 | e5 <;> (try simp only [e1, e2, e3, e4, e5] at hmv hmh ⊢) <;> first | decide | (revert hmv hmh; decide))
      obtain rfl : z183_s0 = (1 : Int32) := by rw [hz183_s0, if_pos q_v71, if_pos q_v80, if_pos q_v88, if_pos q_v97]
      obtain ⟨fs, hr, hrun, hended, hW, hsame⟩ := X285.leave (v := some (.int (1 : Int32))) (fun h => by rw [Bd.returns] at h; cases h)
      refine ⟨_, _, pre285 _ ?_, hrun, hended, _, _, rfl, ?_, ⟨_, rfl⟩, hW, hsame.mono (by decide) (by decide)⟩
      · show Steps p.tables e below (T285.setTop (mkF m 183 #[.val (.int p1), .val (.int p2), .val (.int v6), .val (.int v12), .val (.int v18), .val (.int v25), .val (.int v30), .val (.ref b224), .val (.long v71), .second, .val (.long v80), .second, .val (.long v88), .second, .val (.long v97), .second, .val (.long (3 : Int64)), .second, .val (.long (0 : Int64)), .second, .val (.long (2 : Int64)), .second] [(.int (1 : Int32))])) _
        exact retN X285 hx (t := .boolean) Bd.returns (by simp) (hb hby at_183) hr
      · show Q0 Z p1 p2 dd h0 n0 _ T285.heap _
        rw [e285]
        exact ⟨rfl, N285⟩
set_option maxRecDepth 65536 in
set_option maxHeartbeats 40000000 in
theorem comes_1 {Post : Tables → Env → Array Value → State → Outcome → State → Prop} (hpost : ∀ tb e args s v u, (limb_1_1.after args s (.returned v) u = true ∧ limb_1_2.after args s (.returned v) u = true ∧ True) → FrameEnd s (.returned v) u (Jvm.fieldLocs frame_1_writes args s ++ Jvm.arrayLocs frame_1_arrays args s ++ Jvm.staticLocs frame_1_statics s) 40 192 → Post tb e args s (.returned v) u) :
    ArmFor flags0 classFile x code maxLocals ret World_1 tables_1 room_1 Calls_1 rest_1 Pre_1 Post := by
  intro l hfl _ _ p e ha hc hk s m args below hf hA hF happ hP
  obtain ⟨hcalls, hrest, hpre⟩ := hP
  obtain ⟨-, -, -, hnamed, -, -, -, hat⟩ := (Spec.applies_iff hf).mp happ
  obtain ⟨hg, hn⟩ := and_e (Cond.before_iff.mp (show (Jvm.Cond.and given_1 narrow_1).before args s = true from hpre))
  obtain ⟨hcount, ha0⟩ := and_e hg
  obtain ⟨ga0, gb0⟩ := and_e ha0
  obtain ⟨w0, w1, rfl⟩ : ∃ w0 w1 : Value, args = #[w0, w1] := by
    have hs : args.size = 2 := by simpa [Cond.value, given_1] using hcount
    obtain ⟨L⟩ := args
    match L, hs with
    | [w0, w1], _ => exact ⟨w0, w1, rfl⟩
  have hw := fun d (hd : d ∈ tables_1) => atoms_spec (ws := Jvm.Cond.code x code maxLocals ret :: tables_1) hat d (List.mem_cons_of_mem _ hd)
  have hfit : Fit s := fun {y c} hc i hi => by
    obtain ⟨ha, rfl⟩ := Array.getElem?_eq_some_iff.mp hc
    have q := List.all_eq_true.mp ((Array.all_eq_true_iff_forall_mem.mp hF) _ (Array.getElem_mem ha)) i (List.mem_range.mpr hi)
    simpa [Array.getElem?_eq_getElem hi] using q
  obtain ⟨hsets, hown0⟩ := atoms_of _ (rest_1_c_eq ▸ (show rest_1_c.before _ s = true from hrest))
  obtain ⟨i0, ei0⟩ := is_v ga0
  obtain rfl : w0 = (.int i0) := Option.some.inj ei0
  obtain ⟨i1, ei1⟩ := is_v gb0
  obtain rfl : w1 = (.int i1) := Option.some.inj ei1
  obtain ⟨dd, evd⟩ := arr_v (Cond.before_iff.mp (hsets _ (List.mem_of_getElem? (i := 6) rfl)))
  have S_DEFAULTCAPACITY_EMPTY_ELEMENTDATA := Sta.start evd (Or.inr ⟨(hw _ (List.mem_of_getElem? (i := 18) rfl)), (hsets _ (List.mem_of_getElem? (i := 2) rfl))⟩)
  obtain ⟨cd, Ad⟩ := Arr.start evd (Cond.before_iff.mp (hsets _ (List.mem_of_getElem? (i := 6) rfl)))
  have A_dd : ArZ s s.heap dd := ⟨cd, Ad, own_len0 evd Ad (Cond.before_iff.mp (hsets _ (List.mem_of_getElem? (i := 8) rfl)))⟩
  obtain ⟨n, o, h1, h2, h3, _, L, rfl, ⟨rfl, N⟩, hq⟩ := rm0 l s _ hw tables_1 i0 i1 dd s.heap s.heap.size (Nat.le_refl _) (Old.start s) S_DEFAULTCAPACITY_EMPTY_ELEMENTDATA A_dd p e ha hc hk s m _ below hf ((Spec.applies_iff_loose hf).mp happ).1 ⟨rfl, State.Warmed39.refl s, rfl⟩ trivial
  refine ⟨n, _, h1, h2, h3, hpost _ _ _ _ _ _ ⟨Cond.after_iff.mpr rfl, Cond.after_iff.mpr (eq_i res_at (Term.int_eval (1)) rfl), trivial⟩ ⟨hq.1, hq.2.1, (hq.2.2.sift fun y hy => Or.inr (N y hy)).mono (by decide) (by decide)⟩⟩
theorem main_1_1 : Claimed_1_1 := comes_1 fun _ _ _ _ _ _ h hF => ⟨h.1, hF⟩
theorem main_1_2 : Claimed_1_2 := comes_1 fun _ _ _ _ _ _ h hF => ⟨h.2.1, hF⟩
end Jvm.Pilot.@@N@@
namespace Jvm.Pilot.@@N@@
open Jvm Jvm.ClassFile Sem Op Lib Jvm.Free Jvm.Stand Jvm.Pilot.@@N@@.Jvm.D
/-! MADE BY PROGRAM (witnessworld.py) out of the Statement's table words and the real class files: 26 classes; the members and pool entries that the words name. The judged class is class 1, her method 1. -/
namespace start1
open Jvm.ClassFile
def u (s : String) : CpInfo := .utf8 (stringToUtf16 s)
/-- a pool by its gaps: so many unusable entries, then the entry; so many at the end -/
def gap : Nat → List CpInfo → List CpInfo
  | 0, r => r
  | n + 1, r => .unusable :: gap n r
def poolList (es : List (Nat × CpInfo)) (last : Nat) : List CpInfo := es.foldr (fun e r => gap e.1 (e.2 :: r)) (gap last [])
def pool (es : List (Nat × CpInfo)) (last : Nat) : Array CpInfo := ⟨poolList es last⟩
def fileOf (pool : Array CpInfo) (this : Nat) (attrs : Array Attribute := #[]) (ms : Array MethodInfo := #[]) (fl : Nat := 33) (sup : Nat := 0) (ifs : Array Nat := #[]) (fds : Array FieldInfo := #[]) : ClassFile where
  minorVersion := 0
  majorVersion := 65
  constantPool := pool
  accessFlags := fl
  thisClass := this
  superClass := sup
  interfaces := ifs
  fields := fds
  methods := ms
  attributes := attrs
def plain (name : String) (sup : Option ClassId) : Class where
  name := name
  kind := .ordinary
  loader := none
  accessFlags := 33
  super := sup
  interfaces := #[]
  cf := none
  fields := #[]
  methods := #[]
  instanceTypes := #[]
  staticTypes := #[]
  resolved := #[]
  callSites := []
  init := .initialized
  statics := none
  mirror := none

def pool0 : Array CpInfo := pool [(5, u "<init>"), (0, u "()V"), (1, .class_ 10), (1, u "java/lang/Object")] 113

def k0c0 : Code := { maxStack := 0, maxLocals := 1, code := object_method_1_code, exceptionTable := #[], attributes := #[] }
def k0m0 : Method := { name := "<init>", desc := "()V", sig := { parameters := [], returnType := none }, accessFlags := 1, code := some k0c0 }
/-- java/lang/Object -/
def k0 : Class := { plain "java/lang/Object" none with
  accessFlags := 33
  interfaces := #[]
  cf := some (fileOf pool0 8 #[] #[{ accessFlags := 1, nameIndex := 5, descriptorIndex := 6, attributes := #[] }] 33 0 #[] #[])
  fields := #[]
  methods := #[k0m0]
  instanceTypes := #[]
  staticTypes := #[]
  resolved := Array.replicate 124 none
  statics := none }

def pool1 : Array CpInfo := pool [(2, .class_ 4), (1, u "java/lang/Object"), (0, u "<init>"), (0, u "()V"), (0, .integer 2147483647), (0, .class_ 9), (0, u "com/example/wachter/wachter/sim/QueueOrder"), (0, .methodref 8 11), (0, .nameAndType 5 12), (0, u "(II)V"), (0, .methodref 8 14), (0, .nameAndType 15 16), (0, u "asked"), (0, u "(I)V"), (0, .methodref 8 18), (0, .nameAndType 19 12), (0, u "takenOn"), (0, .methodref 8 21), (0, .nameAndType 22 23), (0, u "granted"), (0, u "(I)J"), (0, .long 2), (1, .long 3), (1, .long 4), (1, .class_ 31), (0, u "com/example/wachter/wachter/sim/QueueOrderAskedPinLaw"), (2, u "law"), (0, u "(II)Z")] 3

def k1m0 : Method := { name := "<init>", desc := "()V", sig := { parameters := [], returnType := none }, accessFlags := 1, code := none }
def k1c1 : Code := { maxStack := 4, maxLocals := 22, code := code, exceptionTable := #[], attributes := #[] }
def k1m1 : Method := { name := "law", desc := "(II)Z", sig := { parameters := [.int, .int], returnType := some .boolean }, accessFlags := 9, code := some k1c1 }
/-- com/example/wachter/wachter/sim/QueueOrderAskedPinLaw -/
def k1 : Class := { plain "com/example/wachter/wachter/sim/QueueOrderAskedPinLaw" (some 0) with
  accessFlags := 49
  interfaces := #[]
  cf := some (fileOf pool1 30 #[] #[{ accessFlags := 1, nameIndex := 5, descriptorIndex := 6, attributes := #[] }, { accessFlags := 9, nameIndex := 34, descriptorIndex := 35, attributes := #[] }] 49 2 #[] #[])
  fields := #[]
  methods := #[k1m0, k1m1]
  instanceTypes := #[]
  staticTypes := #[]
  resolved := Array.replicate 39 none
  statics := none }

def pool2 : Array CpInfo := pool [(1, .methodref 2 3), (0, .class_ 4), (0, .nameAndType 5 6), (0, u "java/lang/Object"), (0, u "<init>"), (0, u "()V"), (0, .fieldref 8 9), (0, .class_ 10), (0, .nameAndType 11 12), (0, u "com/example/wachter/wachter/sim/QueueOrder"), (0, u "requests"), (0, u "[I"), (0, .fieldref 8 14), (0, .nameAndType 15 16), (0, u "joinedAs"), (0, u "[J"), (0, .class_ 18), (0, u "java/util/ArrayList"), (0, .methodref 17 20), (0, .nameAndType 5 21), (0, u "(I)V"), (0, .fieldref 8 23), (0, .nameAndType 24 25), (0, u "behind"), (0, u "Ljava/util/List;"), (0, .long 18446744073709551615), (1, .methodref 29 30), (0, .class_ 31), (0, .nameAndType 32 33), (0, u "java/util/Arrays"), (0, u "fill"), (0, u "([JJ)V"), (0, .methodref 17 3), (0, .interfaceMethodref 36 37), (0, .class_ 38), (0, .nameAndType 39 40), (0, u "java/util/List"), (0, u "add"), (0, u "(Ljava/lang/Object;)Z"), (0, .fieldref 8 42), (0, .nameAndType 43 44), (0, u "joined"), (0, u "J"), (0, .methodref 8 46), (0, .nameAndType 47 21), (0, u "join"), (0, .interfaceMethodref 36 49), (0, .nameAndType 50 51), (0, u "get"), (0, u "(I)Ljava/lang/Object;"), (0, .interfaceMethodref 36 53), (0, .nameAndType 54 55), (0, u "iterator"), (0, u "()Ljava/util/Iterator;"), (0, .interfaceMethodref 57 58), (0, .class_ 59), (0, .nameAndType 60 61), (0, u "java/util/Iterator"), (0, u "hasNext"), (0, u "()Z"), (0, .interfaceMethodref 57 63), (0, .nameAndType 64 65), (0, u "next"), (0, u "()Ljava/lang/Object;"), (0, .class_ 12), (0, .interfaceMethodref 36 68), (0, .nameAndType 69 6), (0, u "clear"), (0, u "NOT_JOINED"), (3, u "(II)V"), (3, u "asked"), (0, u "takenOn"), (0, u "granted"), (0, u "(I)J")] 2

def k2c0 : Code := { maxStack := 9, maxLocals := 4, code := prog_41_method_1_code, exceptionTable := #[], attributes := #[] }
def k2m0 : Method := { name := "<init>", desc := "(II)V", sig := { parameters := [.int, .int], returnType := none }, accessFlags := 0, code := some k2c0 }
def k2c1 : Code := { maxStack := 4, maxLocals := 2, code := prog_41_method_2_code, exceptionTable := #[], attributes := #[] }
def k2m1 : Method := { name := "asked", desc := "(I)V", sig := { parameters := [.int], returnType := none }, accessFlags := 0, code := some k2c1 }
def k2c2 : Code := { maxStack := 6, maxLocals := 3, code := prog_41_method_3_code, exceptionTable := #[], attributes := #[] }
def k2m2 : Method := { name := "takenOn", desc := "(II)V", sig := { parameters := [.int, .int], returnType := none }, accessFlags := 0, code := some k2c2 }
def k2c3 : Code := { maxStack := 4, maxLocals := 2, code := prog_41_method_4_code, exceptionTable := #[], attributes := #[] }
def k2m3 : Method := { name := "granted", desc := "(I)J", sig := { parameters := [.int], returnType := some .long }, accessFlags := 0, code := some k2c3 }
def k2c4 : Code := { maxStack := 9, maxLocals := 6, code := prog_41_method_5_code, exceptionTable := #[], attributes := #[] }
def k2m4 : Method := { name := "join", desc := "(I)V", sig := { parameters := [.int], returnType := none }, accessFlags := 2, code := some k2c4 }
/-- com/example/wachter/wachter/sim/QueueOrder -/
def k2 : Class := { plain "com/example/wachter/wachter/sim/QueueOrder" (some 0) with
  accessFlags := 32
  interfaces := #[]
  cf := some (fileOf pool2 8 #[] #[{ accessFlags := 0, nameIndex := 5, descriptorIndex := 74, attributes := #[] }, { accessFlags := 0, nameIndex := 78, descriptorIndex := 21, attributes := #[] }, { accessFlags := 0, nameIndex := 79, descriptorIndex := 74, attributes := #[] }, { accessFlags := 0, nameIndex := 80, descriptorIndex := 81, attributes := #[] }, { accessFlags := 2, nameIndex := 47, descriptorIndex := 21, attributes := #[] }] 32 2 #[] #[{ accessFlags := 26, nameIndex := 70, descriptorIndex := 44, attributes := #[] }, { accessFlags := 18, nameIndex := 11, descriptorIndex := 12, attributes := #[] }, { accessFlags := 18, nameIndex := 15, descriptorIndex := 16, attributes := #[] }, { accessFlags := 18, nameIndex := 24, descriptorIndex := 25, attributes := #[] }, { accessFlags := 2, nameIndex := 43, descriptorIndex := 44, attributes := #[] }])
  fields := #[{ name := "NOT_JOINED", type := .long, accessFlags := 26, slot := 0, constantValue := 0 }, { name := "requests", type := (.array .int), accessFlags := 18, slot := 0, constantValue := 0 }, { name := "joinedAs", type := (.array .long), accessFlags := 18, slot := 1, constantValue := 0 }, { name := "behind", type := (.object "java/util/List"), accessFlags := 18, slot := 2, constantValue := 0 }, { name := "joined", type := .long, accessFlags := 2, slot := 3, constantValue := 0 }]
  methods := #[k2m0, k2m1, k2m2, k2m3, k2m4]
  instanceTypes := #[(.array .int), (.array .long), (.object "java/util/List"), .long]
  staticTypes := #[.long]
  resolved := Array.replicate 84 none
  statics := none }

def pool3 : Array CpInfo := pool [(8, .class_ 10), (1, u "java/lang/Iterable"), (24, .class_ 36), (0, u "java/lang/Object")] 25

/-- java/lang/Iterable -/
def k3 : Class := { plain "java/lang/Iterable" (some 0) with
  accessFlags := 1537
  interfaces := #[]
  cf := some (fileOf pool3 8 #[] #[] 1537 35 #[] #[])
  fields := #[]
  methods := #[]
  instanceTypes := #[]
  staticTypes := #[]
  resolved := Array.replicate 62 none
  statics := none }

def pool4 : Array CpInfo := pool [(10, .class_ 12), (1, u "java/util/Collection"), (47, .class_ 61), (0, u "java/lang/Object"), (0, .class_ 63), (0, u "java/lang/Iterable")] 51

/-- java/util/Collection -/
def k4 : Class := { plain "java/util/Collection" (some 0) with
  accessFlags := 1537
  interfaces := #[3]
  cf := some (fileOf pool4 10 #[] #[] 1537 60 #[62] #[])
  fields := #[]
  methods := #[]
  instanceTypes := #[]
  staticTypes := #[]
  resolved := Array.replicate 115 none
  statics := none }

def pool5 : Array CpInfo := pool [(1, .methodref 2 3), (0, .class_ 4), (0, .nameAndType 5 6), (0, u "java/lang/Object"), (0, u "<init>"), (0, u "()V"), (1, .class_ 10), (1, u "java/util/AbstractCollection"), (66, .class_ 78), (0, u "java/util/Collection")] 81

def k5c0 : Code := { maxStack := 1, maxLocals := 1, code := jdk_22_method_1_code, exceptionTable := #[], attributes := #[] }
def k5m0 : Method := { name := "<init>", desc := "()V", sig := { parameters := [], returnType := none }, accessFlags := 4, code := some k5c0 }
/-- java/util/AbstractCollection -/
def k5 : Class := { plain "java/util/AbstractCollection" (some 0) with
  accessFlags := 1057
  interfaces := #[4]
  cf := some (fileOf pool5 8 #[] #[{ accessFlags := 4, nameIndex := 5, descriptorIndex := 6, attributes := #[] }] 1057 2 #[77] #[])
  fields := #[]
  methods := #[k5m0]
  instanceTypes := #[]
  staticTypes := #[]
  resolved := Array.replicate 160 none
  statics := none }

def pool6 : Array CpInfo := pool [(8, .class_ 10), (1, u "java/util/SequencedCollection"), (15, .class_ 27), (0, u "java/lang/Object"), (0, .class_ 29), (0, u "java/util/Collection")] 27

/-- java/util/SequencedCollection -/
def k6 : Class := { plain "java/util/SequencedCollection" (some 0) with
  accessFlags := 1537
  interfaces := #[4]
  cf := some (fileOf pool6 8 #[] #[] 1537 26 #[28] #[])
  fields := #[]
  methods := #[]
  instanceTypes := #[]
  staticTypes := #[]
  resolved := Array.replicate 57 none
  statics := none }

def pool7 : Array CpInfo := pool [(8, .class_ 10), (1, u "java/util/List"), (49, u "add"), (3, u "(Ljava/lang/Object;)Z"), (7, u "()V"), (2, u "get"), (0, u "(I)Ljava/lang/Object;"), (26, .class_ 104), (0, u "java/lang/Object"), (15, .class_ 121), (0, u "java/util/SequencedCollection"), (1, u "iterator"), (0, u "()Ljava/util/Iterator;"), (44, u "clear")] 81

def k7m0 : Method := { name := "iterator", desc := "()Ljava/util/Iterator;", sig := { parameters := [], returnType := some (.object "java/util/Iterator") }, accessFlags := 1025, code := none }
def k7m1 : Method := { name := "add", desc := "(Ljava/lang/Object;)Z", sig := { parameters := [(.object "java/lang/Object")], returnType := some .boolean }, accessFlags := 1025, code := none }
def k7m2 : Method := { name := "clear", desc := "()V", sig := { parameters := [], returnType := none }, accessFlags := 1025, code := none }
def k7m3 : Method := { name := "get", desc := "(I)Ljava/lang/Object;", sig := { parameters := [.int], returnType := some (.object "java/lang/Object") }, accessFlags := 1025, code := none }
/-- java/util/List -/
def k7 : Class := { plain "java/util/List" (some 0) with
  accessFlags := 1537
  interfaces := #[6]
  cf := some (fileOf pool7 8 #[] #[{ accessFlags := 1025, nameIndex := 123, descriptorIndex := 124, attributes := #[] }, { accessFlags := 1025, nameIndex := 60, descriptorIndex := 64, attributes := #[] }, { accessFlags := 1025, nameIndex := 169, descriptorIndex := 72, attributes := #[] }, { accessFlags := 1025, nameIndex := 75, descriptorIndex := 76, attributes := #[] }] 1537 103 #[120] #[])
  fields := #[]
  methods := #[k7m0, k7m1, k7m2, k7m3]
  instanceTypes := #[]
  staticTypes := #[]
  resolved := Array.replicate 251 none
  statics := none }

def pool8 : Array CpInfo := pool [(1, .methodref 2 3), (0, .class_ 4), (0, .nameAndType 5 6), (0, u "java/util/AbstractCollection"), (0, u "<init>"), (0, u "()V"), (0, .fieldref 8 9), (0, .class_ 10), (0, .nameAndType 11 12), (0, u "java/util/AbstractList"), (0, u "modCount"), (0, u "I"), (64, .class_ 78), (0, u "java/util/AbstractList$Itr"), (3, .class_ 83), (0, u "java/util/AbstractList$ListItr"), (9, .class_ 94), (0, u "java/util/AbstractList$RandomAccessSubList"), (3, .class_ 99), (0, u "java/util/AbstractList$SubList"), (33, .class_ 134), (0, u "java/util/List"), (73, .class_ 209), (0, u "java/util/AbstractList$SubList$1"), (0, .class_ 211), (0, u "java/util/AbstractList$RandomAccessSpliterator")] 6

def k8c0 : Code := { maxStack := 2, maxLocals := 1, code := jdk_39_method_1_code, exceptionTable := #[], attributes := #[] }
def k8m0 : Method := { name := "<init>", desc := "()V", sig := { parameters := [], returnType := none }, accessFlags := 4, code := some k8c0 }
/-- java/util/AbstractList -/
def k8 : Class := { plain "java/util/AbstractList" (some 5) with
  accessFlags := 1057
  interfaces := #[7]
  cf := some (fileOf pool8 8 #[.nestMembers #[93, 98, 208, 210, 82, 77]] #[{ accessFlags := 4, nameIndex := 5, descriptorIndex := 6, attributes := #[] }] 1057 2 #[133] #[{ accessFlags := 132, nameIndex := 11, descriptorIndex := 12, attributes := #[] }])
  fields := #[{ name := "modCount", type := .int, accessFlags := 132, slot := 0, constantValue := 0 }]
  methods := #[k8m0]
  instanceTypes := #[.int]
  staticTypes := #[]
  resolved := Array.replicate 218 none
  statics := none }

def pool9 : Array CpInfo := pool [(1, .class_ 2), (0, u "java/util/RandomAccess"), (0, .class_ 4), (0, u "java/lang/Object")] 2

/-- java/util/RandomAccess -/
def k9 : Class := { plain "java/util/RandomAccess" (some 0) with
  accessFlags := 1537
  interfaces := #[]
  cf := some (fileOf pool9 1 #[] #[] 1537 3 #[] #[])
  fields := #[]
  methods := #[]
  instanceTypes := #[]
  staticTypes := #[]
  resolved := Array.replicate 7 none
  statics := none }

def pool10 : Array CpInfo := pool [(1, .class_ 2), (0, u "java/lang/Cloneable"), (0, .class_ 4), (0, u "java/lang/Object")] 2

/-- java/lang/Cloneable -/
def k10 : Class := { plain "java/lang/Cloneable" (some 0) with
  accessFlags := 1537
  interfaces := #[]
  cf := some (fileOf pool10 1 #[] #[] 1537 3 #[] #[])
  fields := #[]
  methods := #[]
  instanceTypes := #[]
  staticTypes := #[]
  resolved := Array.replicate 7 none
  statics := none }

def pool11 : Array CpInfo := pool [(1, .class_ 2), (0, u "java/io/Serializable"), (0, .class_ 4), (0, u "java/lang/Object")] 2

/-- java/io/Serializable -/
def k11 : Class := { plain "java/io/Serializable" (some 0) with
  accessFlags := 1537
  interfaces := #[]
  cf := some (fileOf pool11 1 #[] #[] 1537 3 #[] #[])
  fields := #[]
  methods := #[]
  instanceTypes := #[]
  staticTypes := #[]
  resolved := Array.replicate 7 none
  statics := none }

def pool12 : Array CpInfo := pool [(1, .methodref 2 3), (0, .class_ 4), (0, .nameAndType 5 6), (0, u "java/util/AbstractList"), (0, u "<init>"), (0, u "()V"), (0, .class_ 8), (0, u "java/lang/Object"), (0, .fieldref 10 11), (0, .class_ 12), (0, .nameAndType 13 14), (0, u "java/util/ArrayList"), (0, u "elementData"), (0, u "[Ljava/lang/Object;"), (2, u "EMPTY_ELEMENTDATA"), (21, .fieldref 10 40), (0, .nameAndType 41 14), (0, u "DEFAULTCAPACITY_EMPTY_ELEMENTDATA"), (5, u "()[Ljava/lang/Object;"), (0, .fieldref 10 49), (0, .nameAndType 50 51), (0, u "size"), (0, u "I"), (11, .fieldref 10 64), (0, .nameAndType 65 51), (0, u "modCount"), (3, .methodref 10 70), (0, .nameAndType 71 72), (0, u "grow"), (0, u "(I)[Ljava/lang/Object;"), (6, .methodref 80 81), (0, .class_ 82), (0, .nameAndType 83 84), (0, u "java/lang/Math"), (0, u "max"), (0, u "(II)I"), (11, u "(Ljava/lang/Object;)Z"), (21, .methodref 119 120), (0, .class_ 121), (0, .nameAndType 122 84), (0, u "java/util/Objects"), (0, u "checkIndex"), (0, .methodref 10 124), (0, .nameAndType 13 125), (0, u "(I)Ljava/lang/Object;"), (3, .methodref 10 130), (0, .nameAndType 71 47), (0, .methodref 10 132), (0, .nameAndType 133 134), (0, u "add"), (0, u "(Ljava/lang/Object;[Ljava/lang/Object;I)V"), (3, u "(I)V"), (9, .class_ 149), (0, u "java/util/List"), (16, u "iterator"), (0, u "()Ljava/util/Iterator;"), (94, .class_ 263), (0, u "java/util/ArrayList$ListItr"), (3, .class_ 268), (0, u "java/util/ArrayList$Itr"), (0, .methodref 267 270), (0, .nameAndType 5 271), (0, u "(Ljava/util/ArrayList;)V"), (4, .class_ 277), (0, u "java/util/ArrayList$SubList"), (12, .class_ 291), (0, u "java/util/ArrayList$ArrayListSpliterator"), (37, .class_ 330), (0, u "java/util/RandomAccess"), (0, .class_ 332), (0, u "java/lang/Cloneable"), (0, .class_ 334), (0, u "java/io/Serializable"), (0, u "serialVersionUID"), (0, u "J"), (3, u "DEFAULT_CAPACITY"), (40, u "get"), (37, u "clear"), (80, .class_ 501), (0, u "java/util/ArrayList$SubList$2"), (0, .class_ 503), (0, u "java/util/ArrayList$SubList$1")] 5

def k12c0 : Code := { maxStack := 4, maxLocals := 2, code := jdk_38_method_1_code, exceptionTable := #[], attributes := #[] }
def k12m0 : Method := { name := "<init>", desc := "(I)V", sig := { parameters := [.int], returnType := none }, accessFlags := 1, code := some k12c0 }
def k12c1 : Code := { maxStack := 2, maxLocals := 1, code := jdk_38_method_2_code, exceptionTable := #[], attributes := #[] }
def k12m1 : Method := { name := "<init>", desc := "()V", sig := { parameters := [], returnType := none }, accessFlags := 1, code := some k12c1 }
def k12c2 : Code := { maxStack := 4, maxLocals := 4, code := jdk_38_method_6_code, exceptionTable := #[], attributes := #[] }
def k12m2 : Method := { name := "grow", desc := "(I)[Ljava/lang/Object;", sig := { parameters := [.int], returnType := some (.array (.object "java/lang/Object")) }, accessFlags := 2, code := some k12c2 }
def k12c3 : Code := { maxStack := 3, maxLocals := 1, code := jdk_38_method_7_code, exceptionTable := #[], attributes := #[] }
def k12m3 : Method := { name := "grow", desc := "()[Ljava/lang/Object;", sig := { parameters := [], returnType := some (.array (.object "java/lang/Object")) }, accessFlags := 2, code := some k12c3 }
def k12c4 : Code := { maxStack := 2, maxLocals := 2, code := jdk_38_method_18_code, exceptionTable := #[], attributes := #[] }
def k12m4 : Method := { name := "elementData", desc := "(I)Ljava/lang/Object;", sig := { parameters := [.int], returnType := some (.object "java/lang/Object") }, accessFlags := 0, code := some k12c4 }
def k12c5 : Code := { maxStack := 2, maxLocals := 2, code := jdk_38_method_20_code, exceptionTable := #[], attributes := #[] }
def k12m5 : Method := { name := "get", desc := "(I)Ljava/lang/Object;", sig := { parameters := [.int], returnType := some (.object "java/lang/Object") }, accessFlags := 1, code := some k12c5 }
def k12c6 : Code := { maxStack := 3, maxLocals := 4, code := jdk_38_method_24_code, exceptionTable := #[], attributes := #[] }
def k12m6 : Method := { name := "add", desc := "(Ljava/lang/Object;[Ljava/lang/Object;I)V", sig := { parameters := [(.object "java/lang/Object"), (.array (.object "java/lang/Object")), .int], returnType := none }, accessFlags := 2, code := some k12c6 }
def k12c7 : Code := { maxStack := 4, maxLocals := 2, code := jdk_38_method_25_code, exceptionTable := #[], attributes := #[] }
def k12m7 : Method := { name := "add", desc := "(Ljava/lang/Object;)Z", sig := { parameters := [(.object "java/lang/Object")], returnType := some .boolean }, accessFlags := 1, code := some k12c7 }
def k12c8 : Code := { maxStack := 3, maxLocals := 4, code := jdk_38_method_40_code, exceptionTable := #[], attributes := #[] }
def k12m8 : Method := { name := "clear", desc := "()V", sig := { parameters := [], returnType := none }, accessFlags := 1, code := some k12c8 }
def k12c9 : Code := { maxStack := 3, maxLocals := 1, code := jdk_38_method_55_code, exceptionTable := #[], attributes := #[] }
def k12m9 : Method := { name := "iterator", desc := "()Ljava/util/Iterator;", sig := { parameters := [], returnType := some (.object "java/util/Iterator") }, accessFlags := 1, code := some k12c9 }
/-- java/util/ArrayList -/
def k12 : Class := { plain "java/util/ArrayList" (some 8) with
  accessFlags := 33
  interfaces := #[7, 9, 10, 11]
  cf := some (fileOf pool12 10 #[.nestMembers #[290, 276, 500, 502, 262, 267]] #[{ accessFlags := 1, nameIndex := 5, descriptorIndex := 138, attributes := #[] }, { accessFlags := 1, nameIndex := 5, descriptorIndex := 6, attributes := #[] }, { accessFlags := 2, nameIndex := 71, descriptorIndex := 72, attributes := #[] }, { accessFlags := 2, nameIndex := 71, descriptorIndex := 47, attributes := #[] }, { accessFlags := 0, nameIndex := 13, descriptorIndex := 125, attributes := #[] }, { accessFlags := 1, nameIndex := 381, descriptorIndex := 125, attributes := #[] }, { accessFlags := 2, nameIndex := 133, descriptorIndex := 134, attributes := #[] }, { accessFlags := 1, nameIndex := 133, descriptorIndex := 96, attributes := #[] }, { accessFlags := 1, nameIndex := 419, descriptorIndex := 6, attributes := #[] }, { accessFlags := 1, nameIndex := 166, descriptorIndex := 167, attributes := #[] }] 33 2 #[148, 329, 331, 333] #[{ accessFlags := 26, nameIndex := 335, descriptorIndex := 336, attributes := #[] }, { accessFlags := 26, nameIndex := 340, descriptorIndex := 51, attributes := #[] }, { accessFlags := 26, nameIndex := 17, descriptorIndex := 14, attributes := #[] }, { accessFlags := 26, nameIndex := 41, descriptorIndex := 14, attributes := #[] }, { accessFlags := 128, nameIndex := 13, descriptorIndex := 14, attributes := #[] }, { accessFlags := 2, nameIndex := 50, descriptorIndex := 51, attributes := #[] }])
  fields := #[{ name := "serialVersionUID", type := .long, accessFlags := 26, slot := 0, constantValue := 0 }, { name := "DEFAULT_CAPACITY", type := .int, accessFlags := 26, slot := 1, constantValue := 0 }, { name := "EMPTY_ELEMENTDATA", type := (.array (.object "java/lang/Object")), accessFlags := 26, slot := 2, constantValue := 0 }, { name := "DEFAULTCAPACITY_EMPTY_ELEMENTDATA", type := (.array (.object "java/lang/Object")), accessFlags := 26, slot := 3, constantValue := 0 }, { name := "elementData", type := (.array (.object "java/lang/Object")), accessFlags := 128, slot := 1, constantValue := 0 }, { name := "size", type := .int, accessFlags := 2, slot := 2, constantValue := 0 }]
  methods := #[k12m0, k12m1, k12m2, k12m3, k12m4, k12m5, k12m6, k12m7, k12m8, k12m9]
  instanceTypes := #[.int, (.array (.object "java/lang/Object")), .int]
  staticTypes := #[.long, .int, (.array (.object "java/lang/Object")), (.array (.object "java/lang/Object"))]
  resolved := Array.replicate 509 none
  statics := some 0 }

def pool13 : Array CpInfo := pool [(2, .class_ 4), (1, u "java/lang/Object"), (0, u "<init>"), (0, u "()V"), (7, .class_ 16), (1, u "java/util/Arrays"), (57, .class_ 76), (1, u "java/util/Arrays$NaturalOrder"), (36, .class_ 115), (1, u "java/util/Arrays$LegacyMergeSort"), (1, u "Z"), (257, .class_ 376), (0, u "java/util/Arrays$ArrayList"), (68, u "$assertionsDisabled"), (269, u "MIN_ARRAY_SORT_GRAN"), (0, u "I"), (2, u "INSERTIONSORT_THRESHOLD"), (120, u "fill"), (0, u "([JJ)V"), (133, .class_ 976), (0, u "java/util/Arrays$ArrayItr")] 52

def k13m0 : Method := { name := "<init>", desc := "()V", sig := { parameters := [], returnType := none }, accessFlags := 2, code := none }
def k13c1 : Code := { maxStack := 4, maxLocals := 5, code := jdk_65_method_101_code, exceptionTable := #[], attributes := #[] }
def k13m1 : Method := { name := "fill", desc := "([JJ)V", sig := { parameters := [(.array .long), .long], returnType := none }, accessFlags := 9, code := some k13c1 }
/-- java/util/Arrays -/
def k13 : Class := { plain "java/util/Arrays" (some 0) with
  accessFlags := 49
  interfaces := #[]
  cf := some (fileOf pool13 14 #[.nestMembers #[975, 375, 113, 74]] #[{ accessFlags := 2, nameIndex := 5, descriptorIndex := 6, attributes := #[] }, { accessFlags := 9, nameIndex := 840, descriptorIndex := 841, attributes := #[] }] 49 2 #[] #[{ accessFlags := 26, nameIndex := 715, descriptorIndex := 716, attributes := #[] }, { accessFlags := 26, nameIndex := 719, descriptorIndex := 716, attributes := #[] }, { accessFlags := 4120, nameIndex := 445, descriptorIndex := 117, attributes := #[] }])
  fields := #[{ name := "MIN_ARRAY_SORT_GRAN", type := .int, accessFlags := 26, slot := 0, constantValue := 0 }, { name := "INSERTIONSORT_THRESHOLD", type := .int, accessFlags := 26, slot := 1, constantValue := 0 }, { name := "$assertionsDisabled", type := .boolean, accessFlags := 4120, slot := 2, constantValue := 0 }]
  methods := #[k13m0, k13m1]
  instanceTypes := #[]
  staticTypes := #[.int, .int, .boolean]
  resolved := Array.replicate 1029 none
  statics := none }

def pool14 : Array CpInfo := pool [(2, .class_ 4), (1, u "java/lang/Object"), (0, u "<init>"), (0, u "()V"), (35, .class_ 44), (1, u "java/util/Objects"), (60, .methodref 106 107), (0, .class_ 108), (0, .nameAndType 109 110), (0, u "jdk/internal/util/Preconditions"), (0, u "checkIndex"), (0, u "(IILjava/util/function/BiFunction;)I"), (60, u "(II)I")] 12

def k14m0 : Method := { name := "<init>", desc := "()V", sig := { parameters := [], returnType := none }, accessFlags := 2, code := none }
def k14c1 : Code := { maxStack := 3, maxLocals := 2, code := jdk_31_method_17_code, exceptionTable := #[], attributes := #[] }
def k14m1 : Method := { name := "checkIndex", desc := "(II)I", sig := { parameters := [.int, .int], returnType := some .int }, accessFlags := 9, code := some k14c1 }
/-- java/util/Objects -/
def k14 : Class := { plain "java/util/Objects" (some 0) with
  accessFlags := 49
  interfaces := #[]
  cf := some (fileOf pool14 42 #[] #[{ accessFlags := 2, nameIndex := 5, descriptorIndex := 6, attributes := #[] }, { accessFlags := 9, nameIndex := 109, descriptorIndex := 171, attributes := #[] }] 49 2 #[] #[])
  fields := #[]
  methods := #[k14m0, k14m1]
  instanceTypes := #[]
  staticTypes := #[]
  resolved := Array.replicate 184 none
  statics := none }

def pool15 : Array CpInfo := pool [(2, .class_ 4), (1, u "java/lang/Object"), (0, u "<init>"), (0, u "()V"), (17, .class_ 26), (1, u "jdk/internal/util/Preconditions"), (6, u "checkIndex"), (21, .class_ 56), (0, u "jdk/internal/util/Preconditions$4"), (57, .class_ 115), (0, u "jdk/internal/util/Preconditions$1"), (7, u "SIOOBE_FORMATTER"), (0, u "Ljava/util/function/BiFunction;"), (0, .class_ 126), (0, u "jdk/internal/util/Preconditions$2"), (3, u "AIOOBE_FORMATTER"), (0, .class_ 132), (0, u "jdk/internal/util/Preconditions$3"), (3, u "IOOBE_FORMATTER"), (41, u "(IILjava/util/function/BiFunction;)I")] 15

def k15m0 : Method := { name := "<init>", desc := "()V", sig := { parameters := [], returnType := none }, accessFlags := 1, code := none }
def k15c1 : Code := { maxStack := 3, maxLocals := 3, code := jdk_41_method_11_code, exceptionTable := #[], attributes := #[] }
def k15m1 : Method := { name := "checkIndex", desc := "(IILjava/util/function/BiFunction;)I", sig := { parameters := [.int, .int, (.object "java/util/function/BiFunction")], returnType := some .int }, accessFlags := 9, code := some k15c1 }
/-- jdk/internal/util/Preconditions -/
def k15 : Class := { plain "jdk/internal/util/Preconditions" (some 0) with
  accessFlags := 33
  interfaces := #[]
  cf := some (fileOf pool15 24 #[.nestMembers #[55, 131, 125, 114]] #[{ accessFlags := 1, nameIndex := 5, descriptorIndex := 6, attributes := #[] }, { accessFlags := 9, nameIndex := 33, descriptorIndex := 178, attributes := #[] }] 33 2 #[] #[{ accessFlags := 25, nameIndex := 123, descriptorIndex := 124, attributes := #[] }, { accessFlags := 25, nameIndex := 130, descriptorIndex := 124, attributes := #[] }, { accessFlags := 25, nameIndex := 136, descriptorIndex := 124, attributes := #[] }])
  fields := #[{ name := "SIOOBE_FORMATTER", type := (.object "java/util/function/BiFunction"), accessFlags := 25, slot := 0, constantValue := 0 }, { name := "AIOOBE_FORMATTER", type := (.object "java/util/function/BiFunction"), accessFlags := 25, slot := 1, constantValue := 0 }, { name := "IOOBE_FORMATTER", type := (.object "java/util/function/BiFunction"), accessFlags := 25, slot := 2, constantValue := 0 }]
  methods := #[k15m0, k15m1]
  instanceTypes := #[]
  staticTypes := #[(.object "java/util/function/BiFunction"), (.object "java/util/function/BiFunction"), (.object "java/util/function/BiFunction")]
  resolved := Array.replicate 194 none
  statics := none }

def pool16 : Array CpInfo := pool [(1, .class_ 2), (0, u "java/lang/Math"), (1, .class_ 6), (1, u "java/lang/Object"), (0, u "<init>"), (0, u "()V"), (89, .class_ 100), (1, u "java/lang/Math$RandomNumberGeneratorHolder"), (71, u "negativeZeroFloatBits"), (0, u "J"), (2, u "negativeZeroDoubleBits"), (21, u "max"), (46, u "$assertionsDisabled"), (0, u "Z"), (88, u "(II)I"), (2, u "twoToTheDoubleScaleDown"), (0, u "D"), (4, u "twoToTheDoubleScaleUp"), (9, u "E"), (3, u "PI"), (2, u "TAU"), (2, u "DEGREES_TO_RADIANS"), (0, u "RADIANS_TO_DEGREES")] 94

def k16m0 : Method := { name := "<init>", desc := "()V", sig := { parameters := [], returnType := none }, accessFlags := 2, code := none }
def k16c1 : Code := { maxStack := 2, maxLocals := 2, code := jdk_29_method_65_code, exceptionTable := #[], attributes := #[] }
def k16m1 : Method := { name := "max", desc := "(II)I", sig := { parameters := [.int, .int], returnType := some .int }, accessFlags := 9, code := some k16c1 }
/-- java/lang/Math -/
def k16 : Class := { plain "java/lang/Math" (some 0) with
  accessFlags := 49
  interfaces := #[]
  cf := some (fileOf pool16 1 #[.nestMembers #[98]] #[{ accessFlags := 2, nameIndex := 7, descriptorIndex := 8, attributes := #[] }, { accessFlags := 9, nameIndex := 198, descriptorIndex := 335, attributes := #[] }] 49 4 #[] #[{ accessFlags := 25, nameIndex := 354, descriptorIndex := 339, attributes := #[] }, { accessFlags := 25, nameIndex := 358, descriptorIndex := 339, attributes := #[] }, { accessFlags := 25, nameIndex := 361, descriptorIndex := 339, attributes := #[] }, { accessFlags := 26, nameIndex := 364, descriptorIndex := 339, attributes := #[] }, { accessFlags := 26, nameIndex := 365, descriptorIndex := 339, attributes := #[] }, { accessFlags := 26, nameIndex := 172, descriptorIndex := 173, attributes := #[] }, { accessFlags := 26, nameIndex := 176, descriptorIndex := 173, attributes := #[] }, { accessFlags := 8, nameIndex := 344, descriptorIndex := 339, attributes := #[] }, { accessFlags := 8, nameIndex := 338, descriptorIndex := 339, attributes := #[] }, { accessFlags := 4120, nameIndex := 245, descriptorIndex := 246, attributes := #[] }])
  fields := #[{ name := "E", type := .double, accessFlags := 25, slot := 0, constantValue := 0 }, { name := "PI", type := .double, accessFlags := 25, slot := 1, constantValue := 0 }, { name := "TAU", type := .double, accessFlags := 25, slot := 2, constantValue := 0 }, { name := "DEGREES_TO_RADIANS", type := .double, accessFlags := 26, slot := 3, constantValue := 0 }, { name := "RADIANS_TO_DEGREES", type := .double, accessFlags := 26, slot := 4, constantValue := 0 }, { name := "negativeZeroFloatBits", type := .long, accessFlags := 26, slot := 5, constantValue := 0 }, { name := "negativeZeroDoubleBits", type := .long, accessFlags := 26, slot := 6, constantValue := 0 }, { name := "twoToTheDoubleScaleUp", type := .double, accessFlags := 8, slot := 7, constantValue := 0 }, { name := "twoToTheDoubleScaleDown", type := .double, accessFlags := 8, slot := 8, constantValue := 0 }, { name := "$assertionsDisabled", type := .boolean, accessFlags := 4120, slot := 9, constantValue := 0 }]
  methods := #[k16m0, k16m1]
  instanceTypes := #[]
  staticTypes := #[.double, .double, .double, .double, .double, .long, .long, .double, .double, .boolean]
  resolved := Array.replicate 460 none
  statics := none }

def pool17 : Array CpInfo := pool [(16, .class_ 18), (1, u "java/util/Iterator"), (0, u "hasNext"), (0, u "()Z"), (2, u "next"), (0, u "()Ljava/lang/Object;"), (6, .class_ 32), (0, u "java/lang/Object")] 20

def k17m0 : Method := { name := "hasNext", desc := "()Z", sig := { parameters := [], returnType := some .boolean }, accessFlags := 1025, code := none }
def k17m1 : Method := { name := "next", desc := "()Ljava/lang/Object;", sig := { parameters := [], returnType := some (.object "java/lang/Object") }, accessFlags := 1025, code := none }
/-- java/util/Iterator -/
def k17 : Class := { plain "java/util/Iterator" (some 0) with
  accessFlags := 1537
  interfaces := #[]
  cf := some (fileOf pool17 16 #[] #[{ accessFlags := 1025, nameIndex := 19, descriptorIndex := 20, attributes := #[] }, { accessFlags := 1025, nameIndex := 23, descriptorIndex := 24, attributes := #[] }] 1537 31 #[] #[])
  fields := #[]
  methods := #[k17m0, k17m1]
  instanceTypes := #[]
  staticTypes := #[]
  resolved := Array.replicate 53 none
  statics := none }

def pool18 : Array CpInfo := pool [(1, .fieldref 2 3), (0, .class_ 4), (0, .nameAndType 5 6), (0, u "java/util/ArrayList$Itr"), (0, u "this$0"), (0, u "Ljava/util/ArrayList;"), (0, .methodref 8 9), (0, .class_ 10), (0, .nameAndType 11 12), (0, u "java/lang/Object"), (0, u "<init>"), (0, u "()V"), (0, .fieldref 2 14), (0, .nameAndType 15 16), (0, u "lastRet"), (0, u "I"), (0, .fieldref 18 19), (0, .class_ 20), (0, .nameAndType 21 16), (0, u "java/util/ArrayList"), (0, u "modCount"), (0, .fieldref 2 23), (0, .nameAndType 24 16), (0, u "expectedModCount"), (0, .fieldref 2 26), (0, .nameAndType 27 16), (0, u "cursor"), (0, .fieldref 18 29), (0, .nameAndType 30 16), (0, u "size"), (0, .methodref 2 32), (0, .nameAndType 33 12), (0, u "checkForComodification"), (3, .fieldref 18 38), (0, .nameAndType 39 40), (0, u "elementData"), (0, u "[Ljava/lang/Object;"), (28, .class_ 70), (0, u "java/util/Iterator"), (0, u "(Ljava/util/ArrayList;)V"), (8, u "hasNext"), (0, u "()Z"), (1, u "next"), (0, u "()Ljava/lang/Object;")] 19

def k18c0 : Code := { maxStack := 2, maxLocals := 2, code := jdk_49_method_1_code, exceptionTable := #[], attributes := #[] }
def k18m0 : Method := { name := "<init>", desc := "(Ljava/util/ArrayList;)V", sig := { parameters := [(.object "java/util/ArrayList")], returnType := none }, accessFlags := 0, code := some k18c0 }
def k18c1 : Code := { maxStack := 2, maxLocals := 1, code := jdk_49_method_2_code, exceptionTable := #[], attributes := #[] }
def k18m1 : Method := { name := "hasNext", desc := "()Z", sig := { parameters := [], returnType := some .boolean }, accessFlags := 1, code := some k18c1 }
def k18c2 : Code := { maxStack := 4, maxLocals := 3, code := jdk_49_method_3_code, exceptionTable := #[], attributes := #[] }
def k18m2 : Method := { name := "next", desc := "()Ljava/lang/Object;", sig := { parameters := [], returnType := some (.object "java/lang/Object") }, accessFlags := 1, code := some k18c2 }
def k18c3 : Code := { maxStack := 2, maxLocals := 1, code := jdk_49_method_6_code, exceptionTable := #[], attributes := #[] }
def k18m3 : Method := { name := "checkForComodification", desc := "()V", sig := { parameters := [], returnType := none }, accessFlags := 16, code := some k18c3 }
/-- java/util/ArrayList$Itr -/
def k18 : Class := { plain "java/util/ArrayList$Itr" (some 0) with
  accessFlags := 32
  interfaces := #[17]
  cf := some (fileOf pool18 2 #[.nestHost 18] #[{ accessFlags := 0, nameIndex := 11, descriptorIndex := 71, attributes := #[] }, { accessFlags := 1, nameIndex := 80, descriptorIndex := 81, attributes := #[] }, { accessFlags := 1, nameIndex := 83, descriptorIndex := 84, attributes := #[] }, { accessFlags := 16, nameIndex := 33, descriptorIndex := 12, attributes := #[] }] 32 8 #[69] #[{ accessFlags := 0, nameIndex := 27, descriptorIndex := 16, attributes := #[] }, { accessFlags := 0, nameIndex := 15, descriptorIndex := 16, attributes := #[] }, { accessFlags := 0, nameIndex := 24, descriptorIndex := 16, attributes := #[] }, { accessFlags := 4112, nameIndex := 5, descriptorIndex := 6, attributes := #[] }])
  fields := #[{ name := "cursor", type := .int, accessFlags := 0, slot := 0, constantValue := 0 }, { name := "lastRet", type := .int, accessFlags := 0, slot := 1, constantValue := 0 }, { name := "expectedModCount", type := .int, accessFlags := 0, slot := 2, constantValue := 0 }, { name := "this$0", type := (.object "java/util/ArrayList"), accessFlags := 4112, slot := 3, constantValue := 0 }]
  methods := #[k18m0, k18m1, k18m2, k18m3]
  instanceTypes := #[.int, .int, .int, (.object "java/util/ArrayList")]
  staticTypes := #[]
  resolved := Array.replicate 104 none
  statics := none }

/-- the primitive byte -/
def k19 : Class := { plain "byte" none with kind := .primitive 'B', accessFlags := 0x411 }
/-- [B -/
def k20 : Class := { plain "[B" (some 0) with kind := .array 19 .byte, interfaces := #[10, 11], accessFlags := 1041 }

/-- the primitive int -/
def k21 : Class := { plain "int" none with kind := .primitive 'I', accessFlags := 0x411 }
/-- [I -/
def k22 : Class := { plain "[I" (some 0) with kind := .array 21 .int, interfaces := #[10, 11], accessFlags := 1041 }

/-- the primitive long -/
def k23 : Class := { plain "long" none with kind := .primitive 'J', accessFlags := 0x411 }
/-- [J -/
def k24 : Class := { plain "[J" (some 0) with kind := .array 23 .long, interfaces := #[10, 11], accessFlags := 1041 }

/-- [Ljava/lang/Object; -/
def k25 : Class := { plain "[Ljava/lang/Object;" (some 0) with kind := .array 0 (.object "java/lang/Object"), interfaces := #[10, 11], accessFlags := 1041 }

def heap : Heap := #[{ cls := 12, slots := #[.long 0, .int 0, .ref 1, .ref 2], vm := .statics 12 },
  { cls := 25, slots := #[], vm := .none },
  { cls := 25, slots := #[], vm := .none }]
def classes : Array Class := #[k0, k1, k2, k3, k4, k5, k6, k7, k8, k9, k10, k11, k12, k13, k14, k15, k16, k17, k18, k19, k20, k21, k22, k23, k24, k25]
def interned : List (Array UInt16 × Addr) := []
def slotsUsed : Nat := 4
def theMethod : MethodId := ⟨1, 1⟩
def args0 : Array Value := #[.int 5, .int 3]
def aboutOver (below : List Frame) : State where
  vm := { classes := classes, interned := interned.toArray }
  heap := heap
  slotsUsed := slotsUsed
  threads := #[{ frames := .invoking theMethod args0 :: below }]
def below0 : List Frame := [.native { method := ⟨0, 0⟩, args := #[] }]
def about1 : State := aboutOver below0
def p0 : Program := .bare "" "" ""
def e0 : Env := launch0.env 0 0 0
theorem w_frames : about1.frames = Frame.invoking theMethod args0 :: below0 := rfl
set_option maxRecDepth 65536 in
theorem w_args : argsFit about1.vm theMethod args0 = true := by decide +kernel
set_option maxRecDepth 65536 in
theorem w_heap : heapFits about1 = true := by decide +kernel
set_option maxRecDepth 65536 in
theorem w_runnable : about1.curStatus? = some .runnable := by decide +kernel
set_option maxRecDepth 65536 in
theorem w_alone : about1.alone = true := by decide +kernel
set_option maxRecDepth 65536 in
theorem w_named : about1.methodNamed? x = some theMethod := by decide +kernel
set_option maxRecDepth 65536 in
theorem w_hears : about1.hears theMethod below0 = true := by decide +kernel
set_option maxRecDepth 65536 in
theorem w_ripe : about1.ripe theMethod args0 below0 = true := by decide +kernel
theorem w_running : about1.status = .running := rfl
set_option maxRecDepth 65536 in
theorem w_room : about1.hasRoom e0.platform room_1 = true :=
  launch0.hasRoom_least _ room_1 (by decide +kernel) (by decide +kernel) (by decide +kernel) (by decide +kernel) (by decide +kernel) (by decide +kernel)
theorem allAtoms_all (ts : List Jvm.Cond) (a : Array Jvm.Value) (st : Jvm.State) : (allAtoms ts).before a st = ts.all (fun c => c.before a st) := by
  induction ts with
  | nil => rfl
  | cons c t ih =>
    show (Jvm.Cond.and c (allAtoms t)).before a st = _
    rw [Jvm.Cond.before_and, ih, List.all_cons]
def words1 : List Jvm.Cond := Jvm.Cond.code x code maxLocals ret :: tables_1
/-- a 'code' word, met by the world's own term for the bytes: nothing is compared byte by byte -/
theorem code_word {y : MethodName} {bytes : ByteArray} {mx : Nat} {rt : Option FieldType} {a : Array Value} {s : State} {m : MethodId} {meth : Method} {c : Code} (h1 : s.methodNamed? y = some m) (h2 : s.vm.method? m = some meth) (h3 : meth.code = some c) (h4 : c.code = bytes)
    (h5 : (c.maxLocals == mx && c.exceptionTable.isEmpty && decide (c.maxStack ≤ mostOperands) && decide (meth.sig.returnType = rt) && !meth.locks && decide (parseMethodDescriptor y.desc = some meth.sig)) = true) : (Jvm.Cond.code y bytes mx rt).before a s = true := by
  simp only [Bool.and_eq_true, beq_iff_eq, Bool.not_eq_true', decide_eq_true_eq] at h5
  obtain ⟨⟨⟨⟨⟨g1, g2⟩, g3⟩, g4⟩, g5⟩, g6⟩ := h5
  simp [Cond.before, Cond.holds, Cond.value, h1, h2, h3, h4, g1, g2, g3, g4, g5, g6]
def isCode : Jvm.Cond → Bool
  | .code _ _ _ _ => true
  | _ => false
theorem all_split {L : List Jvm.Cond} {P : Jvm.Cond → Bool} (h1 : L.all (fun c => isCode c || P c) = true) (h2 : ∀ c ∈ L.filter isCode, P c = true) : L.all P = true := by
  refine List.all_eq_true.mpr fun c hc => ?_
  have h := List.all_eq_true.mp h1 c hc
  rcases Bool.eq_false_or_eq_true (isCode c) with hi | hi
  · exact h2 c (List.mem_filter.mpr ⟨hc, hi⟩)
  · simpa [hi] using h
set_option maxRecDepth 65536 in
theorem w_c0 : (Jvm.Cond.code x code maxLocals ret).before args0 about1 = true := code_word (m := ⟨1, 1⟩) (meth := k1m1) (c := k1c1) (by decide +kernel) rfl rfl rfl (by decide +kernel)
set_option maxRecDepth 65536 in
theorem w_c1 : (Jvm.Cond.code ({ cls := "com/example/wachter/wachter/sim/QueueOrder", name := "<init>", desc := "(II)V" } : Jvm.MethodName) prog_41_method_1_code (4 : Nat) (Option.none : Option Jvm.ClassFile.FieldType)).before args0 about1 = true := code_word (m := ⟨2, 0⟩) (meth := k2m0) (c := k2c0) (by decide +kernel) rfl rfl rfl (by decide +kernel)
set_option maxRecDepth 65536 in
theorem w_c2 : (Jvm.Cond.code ({ cls := "java/lang/Object", name := "<init>", desc := "()V" } : Jvm.MethodName) object_method_1_code (1 : Nat) (Option.none : Option Jvm.ClassFile.FieldType)).before args0 about1 = true := code_word (m := ⟨0, 0⟩) (meth := k0m0) (c := k0c0) (by decide +kernel) rfl rfl rfl (by decide +kernel)
set_option maxRecDepth 65536 in
theorem w_c3 : (Jvm.Cond.code ({ cls := "java/util/ArrayList", name := "<init>", desc := "(I)V" } : Jvm.MethodName) jdk_38_method_1_code (2 : Nat) (Option.none : Option Jvm.ClassFile.FieldType)).before args0 about1 = true := code_word (m := ⟨12, 0⟩) (meth := k12m0) (c := k12c0) (by decide +kernel) rfl rfl rfl (by decide +kernel)
set_option maxRecDepth 65536 in
theorem w_c4 : (Jvm.Cond.code ({ cls := "java/util/AbstractList", name := "<init>", desc := "()V" } : Jvm.MethodName) jdk_39_method_1_code (1 : Nat) (Option.none : Option Jvm.ClassFile.FieldType)).before args0 about1 = true := code_word (m := ⟨8, 0⟩) (meth := k8m0) (c := k8c0) (by decide +kernel) rfl rfl rfl (by decide +kernel)
set_option maxRecDepth 65536 in
theorem w_c5 : (Jvm.Cond.code ({ cls := "java/util/AbstractCollection", name := "<init>", desc := "()V" } : Jvm.MethodName) jdk_22_method_1_code (1 : Nat) (Option.none : Option Jvm.ClassFile.FieldType)).before args0 about1 = true := code_word (m := ⟨5, 0⟩) (meth := k5m0) (c := k5c0) (by decide +kernel) rfl rfl rfl (by decide +kernel)
set_option maxRecDepth 65536 in
theorem w_c6 : (Jvm.Cond.code ({ cls := "java/util/Arrays", name := "fill", desc := "([JJ)V" } : Jvm.MethodName) jdk_65_method_101_code (5 : Nat) (Option.none : Option Jvm.ClassFile.FieldType)).before args0 about1 = true := code_word (m := ⟨13, 1⟩) (meth := k13m1) (c := k13c1) (by decide +kernel) rfl rfl rfl (by decide +kernel)
set_option maxRecDepth 65536 in
theorem w_c7 : (Jvm.Cond.code ({ cls := "java/util/ArrayList", name := "<init>", desc := "()V" } : Jvm.MethodName) jdk_38_method_2_code (1 : Nat) (Option.none : Option Jvm.ClassFile.FieldType)).before args0 about1 = true := code_word (m := ⟨12, 1⟩) (meth := k12m1) (c := k12c1) (by decide +kernel) rfl rfl rfl (by decide +kernel)
set_option maxRecDepth 65536 in
theorem w_c8 : (Jvm.Cond.code ({ cls := "java/util/ArrayList", name := "add", desc := "(Ljava/lang/Object;)Z" } : Jvm.MethodName) jdk_38_method_25_code (2 : Nat) (Option.some Jvm.ClassFile.FieldType.boolean)).before args0 about1 = true := code_word (m := ⟨12, 7⟩) (meth := k12m7) (c := k12c7) (by decide +kernel) rfl rfl rfl (by decide +kernel)
set_option maxRecDepth 65536 in
theorem w_c9 : (Jvm.Cond.code ({ cls := "java/util/ArrayList", name := "add", desc := "(Ljava/lang/Object;[Ljava/lang/Object;I)V" } : Jvm.MethodName) jdk_38_method_24_code (4 : Nat) (Option.none : Option Jvm.ClassFile.FieldType)).before args0 about1 = true := code_word (m := ⟨12, 6⟩) (meth := k12m6) (c := k12c6) (by decide +kernel) rfl rfl rfl (by decide +kernel)
set_option maxRecDepth 65536 in
theorem w_c10 : (Jvm.Cond.code ({ cls := "com/example/wachter/wachter/sim/QueueOrder", name := "asked", desc := "(I)V" } : Jvm.MethodName) prog_41_method_2_code (2 : Nat) (Option.none : Option Jvm.ClassFile.FieldType)).before args0 about1 = true := code_word (m := ⟨2, 1⟩) (meth := k2m1) (c := k2c1) (by decide +kernel) rfl rfl rfl (by decide +kernel)
set_option maxRecDepth 65536 in
theorem w_c11 : (Jvm.Cond.code ({ cls := "com/example/wachter/wachter/sim/QueueOrder", name := "takenOn", desc := "(II)V" } : Jvm.MethodName) prog_41_method_3_code (3 : Nat) (Option.none : Option Jvm.ClassFile.FieldType)).before args0 about1 = true := code_word (m := ⟨2, 2⟩) (meth := k2m2) (c := k2c2) (by decide +kernel) rfl rfl rfl (by decide +kernel)
set_option maxRecDepth 65536 in
theorem w_c12 : (Jvm.Cond.code ({ cls := "java/util/ArrayList", name := "get", desc := "(I)Ljava/lang/Object;" } : Jvm.MethodName) jdk_38_method_20_code (2 : Nat) (Option.some (Jvm.ClassFile.FieldType.object "java/lang/Object"))).before args0 about1 = true := code_word (m := ⟨12, 5⟩) (meth := k12m5) (c := k12c5) (by decide +kernel) rfl rfl rfl (by decide +kernel)
set_option maxRecDepth 65536 in
theorem w_c13 : (Jvm.Cond.code ({ cls := "java/util/Objects", name := "checkIndex", desc := "(II)I" } : Jvm.MethodName) jdk_31_method_17_code (2 : Nat) (Option.some Jvm.ClassFile.FieldType.int)).before args0 about1 = true := code_word (m := ⟨14, 1⟩) (meth := k14m1) (c := k14c1) (by decide +kernel) rfl rfl rfl (by decide +kernel)
set_option maxRecDepth 65536 in
theorem w_c14 : (Jvm.Cond.code ({ cls := "jdk/internal/util/Preconditions", name := "checkIndex", desc := "(IILjava/util/function/BiFunction;)I" } : Jvm.MethodName) jdk_41_method_11_code (3 : Nat) (Option.some Jvm.ClassFile.FieldType.int)).before args0 about1 = true := code_word (m := ⟨15, 1⟩) (meth := k15m1) (c := k15c1) (by decide +kernel) rfl rfl rfl (by decide +kernel)
set_option maxRecDepth 65536 in
theorem w_c15 : (Jvm.Cond.code ({ cls := "java/util/ArrayList", name := "elementData", desc := "(I)Ljava/lang/Object;" } : Jvm.MethodName) jdk_38_method_18_code (2 : Nat) (Option.some (Jvm.ClassFile.FieldType.object "java/lang/Object"))).before args0 about1 = true := code_word (m := ⟨12, 4⟩) (meth := k12m4) (c := k12c4) (by decide +kernel) rfl rfl rfl (by decide +kernel)
set_option maxRecDepth 65536 in
theorem w_c16 : (Jvm.Cond.code ({ cls := "java/util/ArrayList", name := "grow", desc := "()[Ljava/lang/Object;" } : Jvm.MethodName) jdk_38_method_7_code (1 : Nat) (Option.some (Jvm.ClassFile.FieldType.array (Jvm.ClassFile.FieldType.object "java/lang/Object")))).before args0 about1 = true := code_word (m := ⟨12, 3⟩) (meth := k12m3) (c := k12c3) (by decide +kernel) rfl rfl rfl (by decide +kernel)
set_option maxRecDepth 65536 in
theorem w_c17 : (Jvm.Cond.code ({ cls := "java/util/ArrayList", name := "grow", desc := "(I)[Ljava/lang/Object;" } : Jvm.MethodName) jdk_38_method_6_code (4 : Nat) (Option.some (Jvm.ClassFile.FieldType.array (Jvm.ClassFile.FieldType.object "java/lang/Object")))).before args0 about1 = true := code_word (m := ⟨12, 2⟩) (meth := k12m2) (c := k12c2) (by decide +kernel) rfl rfl rfl (by decide +kernel)
set_option maxRecDepth 65536 in
theorem w_c18 : (Jvm.Cond.code ({ cls := "java/lang/Math", name := "max", desc := "(II)I" } : Jvm.MethodName) jdk_29_method_65_code (2 : Nat) (Option.some Jvm.ClassFile.FieldType.int)).before args0 about1 = true := code_word (m := ⟨16, 1⟩) (meth := k16m1) (c := k16c1) (by decide +kernel) rfl rfl rfl (by decide +kernel)
set_option maxRecDepth 65536 in
theorem w_c19 : (Jvm.Cond.code ({ cls := "com/example/wachter/wachter/sim/QueueOrder", name := "granted", desc := "(I)J" } : Jvm.MethodName) prog_41_method_4_code (2 : Nat) (Option.some Jvm.ClassFile.FieldType.long)).before args0 about1 = true := code_word (m := ⟨2, 3⟩) (meth := k2m3) (c := k2c3) (by decide +kernel) rfl rfl rfl (by decide +kernel)
set_option maxRecDepth 65536 in
theorem w_c20 : (Jvm.Cond.code ({ cls := "com/example/wachter/wachter/sim/QueueOrder", name := "join", desc := "(I)V" } : Jvm.MethodName) prog_41_method_5_code (6 : Nat) (Option.none : Option Jvm.ClassFile.FieldType)).before args0 about1 = true := code_word (m := ⟨2, 4⟩) (meth := k2m4) (c := k2c4) (by decide +kernel) rfl rfl rfl (by decide +kernel)
set_option maxRecDepth 65536 in
theorem w_c21 : (Jvm.Cond.code ({ cls := "java/util/ArrayList", name := "iterator", desc := "()Ljava/util/Iterator;" } : Jvm.MethodName) jdk_38_method_55_code (1 : Nat) (Option.some (Jvm.ClassFile.FieldType.object "java/util/Iterator"))).before args0 about1 = true := code_word (m := ⟨12, 9⟩) (meth := k12m9) (c := k12c9) (by decide +kernel) rfl rfl rfl (by decide +kernel)
set_option maxRecDepth 65536 in
theorem w_c22 : (Jvm.Cond.code ({ cls := "java/util/ArrayList$Itr", name := "<init>", desc := "(Ljava/util/ArrayList;)V" } : Jvm.MethodName) jdk_49_method_1_code (2 : Nat) (Option.none : Option Jvm.ClassFile.FieldType)).before args0 about1 = true := code_word (m := ⟨18, 0⟩) (meth := k18m0) (c := k18c0) (by decide +kernel) rfl rfl rfl (by decide +kernel)
set_option maxRecDepth 65536 in
theorem w_c23 : (Jvm.Cond.code ({ cls := "java/util/ArrayList$Itr", name := "hasNext", desc := "()Z" } : Jvm.MethodName) jdk_49_method_2_code (1 : Nat) (Option.some Jvm.ClassFile.FieldType.boolean)).before args0 about1 = true := code_word (m := ⟨18, 1⟩) (meth := k18m1) (c := k18c1) (by decide +kernel) rfl rfl rfl (by decide +kernel)
set_option maxRecDepth 65536 in
theorem w_c24 : (Jvm.Cond.code ({ cls := "java/util/ArrayList$Itr", name := "next", desc := "()Ljava/lang/Object;" } : Jvm.MethodName) jdk_49_method_3_code (3 : Nat) (Option.some (Jvm.ClassFile.FieldType.object "java/lang/Object"))).before args0 about1 = true := code_word (m := ⟨18, 2⟩) (meth := k18m2) (c := k18c2) (by decide +kernel) rfl rfl rfl (by decide +kernel)
set_option maxRecDepth 65536 in
theorem w_c25 : (Jvm.Cond.code ({ cls := "java/util/ArrayList$Itr", name := "checkForComodification", desc := "()V" } : Jvm.MethodName) jdk_49_method_6_code (1 : Nat) (Option.none : Option Jvm.ClassFile.FieldType)).before args0 about1 = true := code_word (m := ⟨18, 3⟩) (meth := k18m3) (c := k18c3) (by decide +kernel) rfl rfl rfl (by decide +kernel)
set_option maxRecDepth 65536 in
theorem w_c26 : (Jvm.Cond.code ({ cls := "java/util/ArrayList", name := "clear", desc := "()V" } : Jvm.MethodName) jdk_38_method_40_code (4 : Nat) (Option.none : Option Jvm.ClassFile.FieldType)).before args0 about1 = true := code_word (m := ⟨12, 8⟩) (meth := k12m8) (c := k12c8) (by decide +kernel) rfl rfl rfl (by decide +kernel)
def codes1 : List Jvm.Cond := [Jvm.Cond.code x code maxLocals ret, Jvm.Cond.code ({ cls := "com/example/wachter/wachter/sim/QueueOrder", name := "<init>", desc := "(II)V" } : Jvm.MethodName) prog_41_method_1_code (4 : Nat) (Option.none : Option Jvm.ClassFile.FieldType), Jvm.Cond.code ({ cls := "java/lang/Object", name := "<init>", desc := "()V" } : Jvm.MethodName) object_method_1_code (1 : Nat) (Option.none : Option Jvm.ClassFile.FieldType), Jvm.Cond.code ({ cls := "java/util/ArrayList", name := "<init>", desc := "(I)V" } : Jvm.MethodName) jdk_38_method_1_code (2 : Nat) (Option.none : Option Jvm.ClassFile.FieldType), Jvm.Cond.code ({ cls := "java/util/AbstractList", name := "<init>", desc := "()V" } : Jvm.MethodName) jdk_39_method_1_code (1 : Nat) (Option.none : Option Jvm.ClassFile.FieldType), Jvm.Cond.code ({ cls := "java/util/AbstractCollection", name := "<init>", desc := "()V" } : Jvm.MethodName) jdk_22_method_1_code (1 : Nat) (Option.none : Option Jvm.ClassFile.FieldType), Jvm.Cond.code ({ cls := "java/util/Arrays", name := "fill", desc := "([JJ)V" } : Jvm.MethodName) jdk_65_method_101_code (5 : Nat) (Option.none : Option Jvm.ClassFile.FieldType), Jvm.Cond.code ({ cls := "java/util/ArrayList", name := "<init>", desc := "()V" } : Jvm.MethodName) jdk_38_method_2_code (1 : Nat) (Option.none : Option Jvm.ClassFile.FieldType), Jvm.Cond.code ({ cls := "java/util/ArrayList", name := "add", desc := "(Ljava/lang/Object;)Z" } : Jvm.MethodName) jdk_38_method_25_code (2 : Nat) (Option.some Jvm.ClassFile.FieldType.boolean), Jvm.Cond.code ({ cls := "java/util/ArrayList", name := "add", desc := "(Ljava/lang/Object;[Ljava/lang/Object;I)V" } : Jvm.MethodName) jdk_38_method_24_code (4 : Nat) (Option.none : Option Jvm.ClassFile.FieldType), Jvm.Cond.code ({ cls := "com/example/wachter/wachter/sim/QueueOrder", name := "asked", desc := "(I)V" } : Jvm.MethodName) prog_41_method_2_code (2 : Nat) (Option.none : Option Jvm.ClassFile.FieldType), Jvm.Cond.code ({ cls := "com/example/wachter/wachter/sim/QueueOrder", name := "takenOn", desc := "(II)V" } : Jvm.MethodName) prog_41_method_3_code (3 : Nat) (Option.none : Option Jvm.ClassFile.FieldType), Jvm.Cond.code ({ cls := "java/util/ArrayList", name := "get", desc := "(I)Ljava/lang/Object;" } : Jvm.MethodName) jdk_38_method_20_code (2 : Nat) (Option.some (Jvm.ClassFile.FieldType.object "java/lang/Object")), Jvm.Cond.code ({ cls := "java/util/Objects", name := "checkIndex", desc := "(II)I" } : Jvm.MethodName) jdk_31_method_17_code (2 : Nat) (Option.some Jvm.ClassFile.FieldType.int), Jvm.Cond.code ({ cls := "jdk/internal/util/Preconditions", name := "checkIndex", desc := "(IILjava/util/function/BiFunction;)I" } : Jvm.MethodName) jdk_41_method_11_code (3 : Nat) (Option.some Jvm.ClassFile.FieldType.int), Jvm.Cond.code ({ cls := "java/util/ArrayList", name := "elementData", desc := "(I)Ljava/lang/Object;" } : Jvm.MethodName) jdk_38_method_18_code (2 : Nat) (Option.some (Jvm.ClassFile.FieldType.object "java/lang/Object")), Jvm.Cond.code ({ cls := "java/util/ArrayList", name := "grow", desc := "()[Ljava/lang/Object;" } : Jvm.MethodName) jdk_38_method_7_code (1 : Nat) (Option.some (Jvm.ClassFile.FieldType.array (Jvm.ClassFile.FieldType.object "java/lang/Object"))), Jvm.Cond.code ({ cls := "java/util/ArrayList", name := "grow", desc := "(I)[Ljava/lang/Object;" } : Jvm.MethodName) jdk_38_method_6_code (4 : Nat) (Option.some (Jvm.ClassFile.FieldType.array (Jvm.ClassFile.FieldType.object "java/lang/Object"))), Jvm.Cond.code ({ cls := "java/lang/Math", name := "max", desc := "(II)I" } : Jvm.MethodName) jdk_29_method_65_code (2 : Nat) (Option.some Jvm.ClassFile.FieldType.int), Jvm.Cond.code ({ cls := "com/example/wachter/wachter/sim/QueueOrder", name := "granted", desc := "(I)J" } : Jvm.MethodName) prog_41_method_4_code (2 : Nat) (Option.some Jvm.ClassFile.FieldType.long), Jvm.Cond.code ({ cls := "com/example/wachter/wachter/sim/QueueOrder", name := "join", desc := "(I)V" } : Jvm.MethodName) prog_41_method_5_code (6 : Nat) (Option.none : Option Jvm.ClassFile.FieldType), Jvm.Cond.code ({ cls := "java/util/ArrayList", name := "iterator", desc := "()Ljava/util/Iterator;" } : Jvm.MethodName) jdk_38_method_55_code (1 : Nat) (Option.some (Jvm.ClassFile.FieldType.object "java/util/Iterator")), Jvm.Cond.code ({ cls := "java/util/ArrayList$Itr", name := "<init>", desc := "(Ljava/util/ArrayList;)V" } : Jvm.MethodName) jdk_49_method_1_code (2 : Nat) (Option.none : Option Jvm.ClassFile.FieldType), Jvm.Cond.code ({ cls := "java/util/ArrayList$Itr", name := "hasNext", desc := "()Z" } : Jvm.MethodName) jdk_49_method_2_code (1 : Nat) (Option.some Jvm.ClassFile.FieldType.boolean), Jvm.Cond.code ({ cls := "java/util/ArrayList$Itr", name := "next", desc := "()Ljava/lang/Object;" } : Jvm.MethodName) jdk_49_method_3_code (3 : Nat) (Option.some (Jvm.ClassFile.FieldType.object "java/lang/Object")), Jvm.Cond.code ({ cls := "java/util/ArrayList$Itr", name := "checkForComodification", desc := "()V" } : Jvm.MethodName) jdk_49_method_6_code (1 : Nat) (Option.none : Option Jvm.ClassFile.FieldType), Jvm.Cond.code ({ cls := "java/util/ArrayList", name := "clear", desc := "()V" } : Jvm.MethodName) jdk_38_method_40_code (4 : Nat) (Option.none : Option Jvm.ClassFile.FieldType)]
set_option maxRecDepth 65536 in
theorem codes_eq : words1.filter isCode = codes1 := rfl
theorem w_codes : ∀ c ∈ words1.filter isCode, c.before args0 about1 = true := by
  rw [codes_eq]
  intro c hc
  simp only [codes1, List.mem_cons, List.not_mem_nil, or_false] at hc
  rcases hc with rfl | rfl | rfl | rfl | rfl | rfl | rfl | rfl | rfl | rfl | rfl | rfl | rfl | rfl | rfl | rfl | rfl | rfl | rfl | rfl | rfl | rfl | rfl | rfl | rfl | rfl | rfl
  · exact w_c0
  · exact w_c1
  · exact w_c2
  · exact w_c3
  · exact w_c4
  · exact w_c5
  · exact w_c6
  · exact w_c7
  · exact w_c8
  · exact w_c9
  · exact w_c10
  · exact w_c11
  · exact w_c12
  · exact w_c13
  · exact w_c14
  · exact w_c15
  · exact w_c16
  · exact w_c17
  · exact w_c18
  · exact w_c19
  · exact w_c20
  · exact w_c21
  · exact w_c22
  · exact w_c23
  · exact w_c24
  · exact w_c25
  · exact w_c26
set_option maxRecDepth 65536 in
theorem w_t1 : (words1.take 24).all (fun c => isCode c || c.before args0 about1) = true := by decide +kernel
set_option maxRecDepth 65536 in
theorem w_t2 : ((words1.drop 24).take 24).all (fun c => isCode c || c.before args0 about1) = true := by decide +kernel
set_option maxRecDepth 65536 in
theorem w_t3 : (((words1.drop 24).drop 24).take 24).all (fun c => isCode c || c.before args0 about1) = true := by decide +kernel
set_option maxRecDepth 65536 in
theorem w_t4 : ((((words1.drop 24).drop 24).drop 24).take 24).all (fun c => isCode c || c.before args0 about1) = true := by decide +kernel
set_option maxRecDepth 65536 in
theorem w_t5 : (((((words1.drop 24).drop 24).drop 24).drop 24).take 24).all (fun c => isCode c || c.before args0 about1) = true := by decide +kernel
set_option maxRecDepth 65536 in
theorem w_t6 : ((((((words1.drop 24).drop 24).drop 24).drop 24).drop 24).take 24).all (fun c => isCode c || c.before args0 about1) = true := by decide +kernel
set_option maxRecDepth 65536 in
theorem w_t7 : (((((((words1.drop 24).drop 24).drop 24).drop 24).drop 24).drop 24).take 24).all (fun c => isCode c || c.before args0 about1) = true := by decide +kernel
set_option maxRecDepth 65536 in
theorem w_t8 : (((((((words1.drop 24).drop 24).drop 24).drop 24).drop 24).drop 24).drop 24).all (fun c => isCode c || c.before args0 about1) = true := by decide +kernel
theorem w_tables : (allAtoms (Jvm.Cond.code x code maxLocals ret :: tables_1)).before args0 about1 = true := by
  rw [allAtoms_all]
  show words1.all (fun c => c.before args0 about1) = true
  refine all_split ?_ w_codes
  rw [← List.take_append_drop 24 words1, List.all_append, w_t1, ← List.take_append_drop 24 (words1.drop 24), List.all_append, w_t2, ← List.take_append_drop 24 ((words1.drop 24).drop 24), List.all_append, w_t3, ← List.take_append_drop 24 (((words1.drop 24).drop 24).drop 24), List.all_append, w_t4, ← List.take_append_drop 24 ((((words1.drop 24).drop 24).drop 24).drop 24), List.all_append, w_t5, ← List.take_append_drop 24 (((((words1.drop 24).drop 24).drop 24).drop 24).drop 24), List.all_append, w_t6, ← List.take_append_drop 24 ((((((words1.drop 24).drop 24).drop 24).drop 24).drop 24).drop 24), List.all_append, w_t7, w_t8]
  rfl
set_option maxRecDepth 65536 in
theorem w_rest : rest_1_c.before args0 about1 = true := by decide +kernel
set_option maxRecDepth 65536 in
theorem w_case : (Jvm.Cond.and given_1 narrow_1).before args0 about1 = true := by decide +kernel
theorem w_applies : (headSpec (Jvm.Cond.code x code maxLocals ret :: tables_1) room_1).applies x e0.platform about1 = true :=
  (Spec.applies_iff w_frames).mpr ⟨w_running, w_runnable, w_alone, w_named, w_hears, w_ripe, w_room, w_tables⟩
theorem atStart : AtStart classFile x code maxLocals ret World_1 tables_1 room_1 Calls_1 rest_1 Pre_1 launch0 p0 e0 about1 theMethod args0 below0 :=
  ⟨lists_1, trivial, launch0.admits_env _ _ _, launch0.least_env, fairChoices_fair.cas, fairChoices_fair.clock, w_frames, w_args, w_heap, w_applies, trivial, w_rest, w_case⟩
end start1
theorem witness_1 : WitnessClaimed_1 := ⟨start1.p0, start1.e0, start1.about1, start1.theMethod, start1.args0, start1.below0, start1.atStart⟩
end Jvm.Pilot.@@N@@
