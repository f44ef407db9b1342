import JvmDerived
import JvmDerived.Pilot.@@N@@Statement
import JvmDerived.Pilot.@@N@@Code
set_option linter.unusedVariables false
set_option linter.unusedSimpArgs false
@@BLOCK:NumsL.lean.txt@@
namespace Jvm.RoadKit
open Sem ClassFile Op Lib Jvm.Stand Jvm.Free Jvm.LawKit
section New
variable {p : Program} {l : Launch} {e : Env} {R : Room} {s : State} {m : MethodId} {args : Array Value} {below : List Frame} {meth : Method} {c : Code} {T : State} {locs : List Loc} {cells slots : Nat}
theorem retI (X : Stand p l e R s m args below meth c T locs cells slots) (hx : p.tables.exec = Jvm.exec) {pc : Nat} {Ls : Array Slot} {z : Int32} {rest : List Value} (hret : meth.sig.returnType = some .int) (hd : decode c.code pc = .ok (.ireturn, 1)) {fs : List Frame}
    (hl : ∀ (f : JFrame) (acts : List Action), f.method = m → f.locked = none → f.entered = [] → (doReturn e (T.setTop f) acts (some (.int z))).1 = T.setFrames fs) : Steps p.tables e below (T.setTop (mkF m pc Ls (.int z :: rest))) (T.setFrames fs) := by
  have hm' : T.vm.method? m = some meth := X.method'
  have hn : narrow .int (.int z) = .int z := rfl
  show Steps p.tables e below (T.setTop { method := m, pc := pc, locals := Ls, stack := _ :: rest, locked := none }) _
  jvm_step X.here [X.here.top, hx, hd, hm', hret, hn]
  first | (intro acts; rw [hl _ acts rfl rfl rfl]) | rw [hl _ _ rfl rfl rfl]
  exact Steps.refl _
end New
end Jvm.RoadKit
namespace Jvm.Pilot.@@N@@
open Jvm Jvm.ClassFile Sem Op Lib Jvm.Free Jvm.Stand Jvm.LawKit Jvm.RoadKit Bundle Jvm.Pilot.@@N@@.Jvm.D

def fMin (p1 : Int32) (p2 : Int32) : Int32 := (if p2 < p1 then p2 else p1)
def fMax (p1 : Int32) (p2 : Int32) : Int32 := (if p1 < p2 then p2 else p1)
def fX (p1 : Int32) (p2 : Int32) (p3 : Int32) (p4 : Int32) : Int64 := (if p2 = (0 : Int32) then (if (0 : Int32) < p1 then (1 : Int64) else (0 : Int64)) else (if (0 : Int32) < p1 then (p4.toInt64) else (p3.toInt64)))
/-! an int[] (a long[]) by its cell: n places, place j holds f j -/
def upd {α : Type} (f : Nat → α) (i : Nat) (v : α) : Nat → α := fun j => if j = i then v else f j
theorem upd_same {α : Type} (f : Nat → α) (i : Nat) (v : α) : upd f i v i = v := if_pos rfl
theorem upd_other {α : Type} (f : Nat → α) {i j : Nat} (v : α) (h : j ≠ i) : upd f i v j = f j := if_neg h
def ArI (Z : State) (h : Heap) (a : Addr) (n : Int32) (f : Nat → Int32) : Prop := ∃ c : Cell, Arr Z h a c .int ∧ c.slots.size = n.toNatClampNeg ∧ ∀ j, j < c.slots.size → c.slots[j]? = some (.int (f j))
def ArJ (Z : State) (h : Heap) (a : Addr) (n : Int32) (f : Nat → Int64) : Prop := ∃ c : Cell, Arr Z h a c .long ∧ c.slots.size = n.toNatClampNeg ∧ ∀ j, j < c.slots.size → c.slots[j]? = some (.long (f j))
section OwnArrays
variable {Z : State} {h h' : Heap} {a b : Addr} {n : Int32} {f : Nat → Int32} {g : Nat → Int64}
theorem ArI.lt (F : ArI Z h a n f) : a < h.size := by obtain ⟨c, A, -⟩ := F; exact A.lt
theorem ArJ.lt (F : ArJ Z h a n g) : a < h.size := by obtain ⟨c, A, -⟩ := F; exact A.lt
theorem ArI.ext (F : ArI Z h a n f) (E : Ext h h') : ArI Z h' a n f := by obtain ⟨c, A, r⟩ := F; exact ⟨c, A.ext E, r⟩
theorem ArJ.ext (F : ArJ Z h a n g) (E : Ext h h') : ArJ Z h' a n g := by obtain ⟨c, A, r⟩ := F; exact ⟨c, A.ext E, r⟩
theorem ArI.other {sl : Nat} {v : Value} (F : ArI Z h b n f) (W : Wr h h' a sl v) (q : b ≠ a) : ArI Z h' b n f := by obtain ⟨c, A, r⟩ := F; exact ⟨c, A.other W q, r⟩
theorem ArJ.other {sl : Nat} {v : Value} (F : ArJ Z h b n g) (W : Wr h h' a sl v) (q : b ≠ a) : ArJ Z h' b n g := by obtain ⟨c, A, r⟩ := F; exact ⟨c, A.other W q, r⟩
theorem ArI.keep {ws : List Addr} (F : ArI Z h a n f) (K : Keep h h' ws) (q : a ∉ ws) : ArI Z h' a n f := by obtain ⟨c, A, r⟩ := F; exact ⟨c, ⟨K.2.1 a c A.1 q, A.2⟩, r⟩
theorem ArJ.keep {ws : List Addr} (F : ArJ Z h a n g) (K : Keep h h' ws) (q : a ∉ ws) : ArJ Z h' a n g := by obtain ⟨c, A, r⟩ := F; exact ⟨c, ⟨K.2.1 a c A.1 q, A.2⟩, r⟩
theorem ArI.new {k : ClassId} (A : Arr Z h a (newA k .int n) .int) (q : ¬ n < 0) : ArI Z h a n (fun _ => 0) := by
  obtain ⟨c, A', -, s, -, H, -⟩ := Arv.new A q
  exact ⟨c, A', s, fun j hj => H j hj⟩
theorem ArJ.new {k : ClassId} (A : Arr Z h a (newA k .long n) .long) (q : ¬ n < 0) : ArJ Z h a n (fun _ => 0) := by
  obtain ⟨c, A', -, s, -, H, -⟩ := Arv.new A q
  exact ⟨c, A', s, fun j hj => H j hj⟩
theorem ArI.open {j : Int32} (F : ArI Z h a n f) (q : ¬ j < 0 ∧ j < n) : ∃ c : Cell, Arr Z h a c .int ∧ c.slots.size = n.toNatClampNeg ∧ ¬ (j < 0 ∨ c.slots.size ≤ j.toNatClampNeg) ∧ c.slots[j.toNatClampNeg]? = some (.int (f j.toNatClampNeg)) := by
  obtain ⟨c, A, s, H⟩ := F
  have hin := inb_of s q
  exact ⟨c, A, s, hin, H _ (Nat.lt_of_not_le fun y => hin (Or.inr y))⟩
theorem ArJ.open {j : Int32} (F : ArJ Z h a n g) (q : ¬ j < 0 ∧ j < n) : ∃ c : Cell, Arr Z h a c .long ∧ c.slots.size = n.toNatClampNeg ∧ ¬ (j < 0 ∨ c.slots.size ≤ j.toNatClampNeg) ∧ c.slots[j.toNatClampNeg]? = some (.long (g j.toNatClampNeg)) := by
  obtain ⟨c, A, s, H⟩ := F
  have hin := inb_of s q
  exact ⟨c, A, s, hin, H _ (Nat.lt_of_not_le fun y => hin (Or.inr y))⟩
theorem ArI.set {i : Nat} {x : Int32} (F : ArI Z h a n f) (W : Wr h h' a i (.int x)) : ArI Z h' a n (upd f i x) := by
  obtain ⟨c, A, s, H⟩ := F
  have A' := A.same W
  refine ⟨_, A', by rw [sz_set]; exact s, fun j hj => ?_⟩
  rw [sz_set] at hj
  show (c.slots.setIfInBounds i (.int x))[j]? = _
  rw [Array.getElem?_setIfInBounds]
  by_cases e : i = j
  · subst e; rw [if_pos rfl, if_pos hj, upd_same]
  · rw [if_neg e, upd_other _ _ (fun q => e q.symm)]; exact H j hj
theorem ArJ.set {i : Nat} {x : Int64} (F : ArJ Z h a n g) (W : Wr h h' a i (.long x)) : ArJ Z h' a n (upd g i x) := by
  obtain ⟨c, A, s, H⟩ := F
  have A' := A.same W
  refine ⟨_, A', by rw [sz_set]; exact s, fun j hj => ?_⟩
  rw [sz_set] at hj
  show (c.slots.setIfInBounds i (.long x))[j]? = _
  rw [Array.getElem?_setIfInBounds]
  by_cases e : i = j
  · subst e; rw [if_pos rfl, if_pos hj, upd_same]
  · rw [if_neg e, upd_other _ _ (fun q => e q.symm)]; exact H j hj
end OwnArrays
/-! an array of references by its cell: n places, place j holds f j; it may take objects of C -/
def ArR (Z : State) (h : Heap) (a : Addr) (k : ClassId) (C : String) (n : Int32) (f : Nat → Value) : Prop := Ovr Z k C ∧ ∃ c : Cell, Arr Z h a c (.object C) ∧ c.cls = k ∧ c.slots.size = n.toNatClampNeg ∧ ∀ j, j < c.slots.size → c.slots[j]? = some (f j)
section OwnRefArrays
variable {Z : State} {h h' : Heap} {a b : Addr} {n : Int32} {k : ClassId} {C : String} {f : Nat → Value}
theorem ArR.lt (F : ArR Z h a k C n f) : a < h.size := by obtain ⟨-, c, A, -⟩ := F; exact A.lt
theorem ArR.ext (F : ArR Z h a k C n f) (E : Ext h h') : ArR Z h' a k C n f := by obtain ⟨o, c, A, r⟩ := F; exact ⟨o, c, A.ext E, r⟩
theorem ArR.other {sl : Nat} {v : Value} (F : ArR Z h b k C n f) (W : Wr h h' a sl v) (q : b ≠ a) : ArR Z h' b k C n f := by obtain ⟨o, c, A, r⟩ := F; exact ⟨o, c, A.other W q, r⟩
theorem ArR.keep {ws : List Addr} (F : ArR Z h a k C n f) (K : Keep h h' ws) (q : a ∉ ws) : ArR Z h' a k C n f := by obtain ⟨o, c, A, r⟩ := F; exact ⟨o, c, ⟨K.2.1 a c A.1 q, A.2⟩, r⟩
theorem ArR.new (A : Arr Z h a (newA k (.object C) n) (.object C)) (o : Ovr Z k C) (q : ¬ n < 0) : ArR Z h a k C n (fun _ => .null) := by
  obtain ⟨c, A', hk, s, -, H, -⟩ := Arv.new A q
  exact ⟨o, c, A', hk, s, fun j hj => H j hj⟩
theorem ArR.open {j : Int32} (F : ArR Z h a k C n f) (q : ¬ j < 0 ∧ j < n) : ∃ c : Cell, Arr Z h a c (.object C) ∧ c.slots.size = n.toNatClampNeg ∧ ¬ (j < 0 ∨ c.slots.size ≤ j.toNatClampNeg) ∧ c.slots[j.toNatClampNeg]? = some (f j.toNatClampNeg) ∧ c.cls = k := by
  obtain ⟨-, c, A, hk, s, H⟩ := F
  have hin := inb_of s q
  exact ⟨c, A, s, hin, H _ (Nat.lt_of_not_le fun y => hin (Or.inr y)), hk⟩
theorem ArR.set {i : Nat} {x : Value} (F : ArR Z h a k C n f) (W : Wr h h' a i x) : ArR Z h' a k C n (upd f i x) := by
  obtain ⟨o, c, A, hk, s, H⟩ := F
  have A' := A.same W
  refine ⟨o, _, A', hk, by rw [sz_set]; exact s, fun j hj => ?_⟩
  rw [sz_set] at hj
  show (c.slots.setIfInBounds i x)[j]? = _
  rw [Array.getElem?_setIfInBounds]
  by_cases e : i = j
  · subst e; rw [if_pos rfl, if_pos hj, upd_same]
  · rw [if_neg e, upd_other _ _ (fun q => e q.symm)]; exact H j hj
theorem ArR.sto {y : Addr} (F : ArR Z h a k C n f) (I : Ins Z h y C true) : Sto Z h a (.ref y) := by
  obtain ⟨o, c, A, hk, s, H⟩ := F
  exact Sto.ofV A hk o I
theorem ArR.len (F : ArR Z h a k C n f) (q : ¬ n < 0) : ∃ c : Cell, Arr Z h a c (.object C) ∧ c.slots.size.toInt32 = n := by
  obtain ⟨o, c, A, hk, s, H⟩ := F
  exact ⟨c, A, len_of s q⟩
theorem ArI.len {g : Nat → Int32} (F : ArI Z h a n g) (q : ¬ n < 0) : ∃ c : Cell, Arr Z h a c .int ∧ c.slots.size.toInt32 = n := by
  obtain ⟨c, A, s, H⟩ := F
  exact ⟨c, A, len_of s q⟩
theorem ArJ.len {g : Nat → Int64} (F : ArJ Z h a n g) (q : ¬ n < 0) : ∃ c : Cell, Arr Z h a c .long ∧ c.slots.size.toInt32 = n := by
  obtain ⟨c, A, s, H⟩ := F
  exact ⟨c, A, len_of s q⟩
end OwnRefArrays
/-- an empty array of objects -/
def ArZ (Z : State) (h : Heap) (a : Addr) : Prop := ∃ c : Cell, Arr Z h a c (.object "java/lang/Object") ∧ c.slots.size = 0
theorem ArZ.ext {Z : State} {h h' : Heap} {a : Addr} (F : ArZ Z h a) (E : Ext h h') : ArZ Z h' a := by obtain ⟨c, A, r⟩ := F; exact ⟨c, A.ext E, r⟩
theorem ArZ.lt {Z : State} {h : Heap} {a : Addr} (F : ArZ Z h a) : a < h.size := by obtain ⟨c, A, r⟩ := F; exact A.lt
theorem ArZ.len {Z : State} {h : Heap} {a : Addr} (F : ArZ Z h a) (q : True) : ∃ c : Cell, Arr Z h a c (.object "java/lang/Object") ∧ c.slots.size.toInt32 = (0 : Int32) := by
  obtain ⟨c, A, r⟩ := F
  exact ⟨c, A, by rw [r]; rfl⟩
theorem own_len0 {args : Array Value} {s : State} {t : Term} {a : Addr} {c : Cell} (ev : t.eval args s none [] s = some (.ref a)) (A : Arr s s.heap a c (.object "java/lang/Object")) (h : (Jvm.Cond.eq (.length t) (.int 0)).value args s none s [] = some true) : c.slots.size = 0 := by
  have ha : s.arrayAt? a = some c := Arr.fin (Vm.Alike.refl _) A
  by_cases hl : c.slots.size < 2 ^ 31
  · have e1 : (Term.length t).eval args s none [] s = some (.int c.slots.size.toInt32) := len_f ev ha hl
    have e2 : (Term.int 0).eval args s none [] s = some (.int 0) := Term.int_eval 0
    have e3 : c.slots.size.toInt32 = 0 := by simpa [Cond.value, e1, e2] using h
    have e4 := len_toInt hl
    rw [e3] at e4
    have : (0 : Int32).toInt = 0 := rfl
    omega
  · have e1 : (Term.length t).eval args s none [] s = none := by simp [Term.eval, ev, ha, hl]
    simp [Cond.value, e1] at h
/-! a double[] of whole numbers by its cell: place j holds the double of f j -/
theorem own_dc0 : FP.dconst0 = FP.l2d 0 := by decide +kernel
theorem own_dc1 : FP.dconst1 = FP.l2d 1 := by decide +kernel
def ArD (Z : State) (h : Heap) (a : Addr) (n : Int32) (f : Nat → Int64) : Prop := ∃ c : Cell, Arr Z h a c .double ∧ c.slots.size = n.toNatClampNeg ∧ ∀ j, j < c.slots.size → c.slots[j]? = some (.double (FP.l2d (f j)))
section OwnDoubles
variable {Z : State} {h h' : Heap} {a b : Addr} {n : Int32} {g : Nat → Int64}
theorem ArD.lt (F : ArD Z h a n g) : a < h.size := by obtain ⟨c, A, -⟩ := F; exact A.lt
theorem ArD.ext (F : ArD Z h a n g) (E : Ext h h') : ArD Z h' a n g := by obtain ⟨c, A, r⟩ := F; exact ⟨c, A.ext E, r⟩
theorem ArD.other {sl : Nat} {v : Value} (F : ArD Z h b n g) (W : Wr h h' a sl v) (q : b ≠ a) : ArD Z h' b n g := by obtain ⟨c, A, r⟩ := F; exact ⟨c, A.other W q, r⟩
theorem ArD.keep {ws : List Addr} (F : ArD Z h a n g) (K : Keep h h' ws) (q : a ∉ ws) : ArD Z h' a n g := by obtain ⟨c, A, r⟩ := F; exact ⟨c, ⟨K.2.1 a c A.1 q, A.2⟩, r⟩
theorem ArD.new {k : ClassId} (A : Arr Z h a (newA k .double n) .double) (q : ¬ n < 0) : ArD Z h a n (fun _ => 0) := by
  obtain ⟨c, A', -, s, -, H, -⟩ := Arv.newD A q
  exact ⟨c, A', s, fun j hj => H j hj⟩
theorem ArD.open {j : Int32} (F : ArD Z h a n g) (q : ¬ j < 0 ∧ j < n) : ∃ c : Cell, Arr Z h a c .double ∧ c.slots.size = n.toNatClampNeg ∧ ¬ (j < 0 ∨ c.slots.size ≤ j.toNatClampNeg) ∧ c.slots[j.toNatClampNeg]? = some (.double (FP.l2d (g j.toNatClampNeg))) := by
  obtain ⟨c, A, s, H⟩ := F
  have hin := inb_of s q
  exact ⟨c, A, s, hin, H _ (Nat.lt_of_not_le fun y => hin (Or.inr y))⟩
theorem ArD.set {i : Nat} {x : Int64} (F : ArD Z h a n g) (W : Wr h h' a i (.double (FP.l2d x))) : ArD Z h' a n (upd g i x) := by
  obtain ⟨c, A, s, H⟩ := F
  have A' := A.same W
  refine ⟨_, A', by rw [sz_set]; exact s, fun j hj => ?_⟩
  rw [sz_set] at hj
  show (c.slots.setIfInBounds i (.double (FP.l2d x)))[j]? = _
  rw [Array.getElem?_setIfInBounds]
  by_cases e : i = j
  · subst e; rw [if_pos rfl, if_pos hj, upd_same]
  · rw [if_neg e, upd_other _ _ (fun q => e q.symm)]; exact H j hj
theorem ArD.len (F : ArD Z h a n g) (q : ¬ n < 0) : ∃ c : Cell, Arr Z h a c .double ∧ c.slots.size.toInt32 = n := by
  obtain ⟨c, A, s, H⟩ := F
  exact ⟨c, A, len_of s q⟩
theorem ArD.fit (F : ArD Z h a n g) : ∃ c : Cell, Arr Z h a c .double ∧ FitC Z c ∧ c.slots.size = n.toNatClampNeg ∧ ∀ {h2 : Heap} {b : Addr}, Arr Z h2 b (cloneOf c) .double → ArD Z h2 b n g := by
  obtain ⟨c, A, s, H⟩ := F
  exact ⟨c, A, fitC_of A fun i hi v hv => by rw [H i hi] at hv; cases hv; rfl, s, fun B => ⟨_, B, s, H⟩⟩
end OwnDoubles
/-- a private method is selected by itself (the sheet bears no such word) -/
theorem own_sel {Z s : State} {a0 args : Array Value} {y : MethodName} {n : Nat} (hZ : Z.Warmed39 s.vm) (wi : (Jvm.Cond.instantiable y.cls n).before a0 Z = true) (wp : (Jvm.Cond.privateMethod y).before a0 Z = true) (wm : (Jvm.Cond.instanceMethod y).before a0 Z = true)
    (hy : y.cls ≠ "java/lang/invoke/MethodHandle" ∧ y.cls ≠ "java/lang/invoke/VarHandle") : (Jvm.Cond.selects y.cls y y).before args s = true := by
  have wi' : (Jvm.Cond.instantiable y.cls n).before args s = true := mvT hZ wi
  obtain ⟨c, k, h1, h2, -, h4, -⟩ := Cond.instantiable_spec wi'
  rw [Bool.or_eq_false_iff] at h4
  exact Jvm.Stand.selects_self_of_private h1 h2 h4.1 (Cond.privateMethod_at (mvP hZ wp (args := args))) (mvT hZ wm) hy

/-- a small whole number -/
def Sm (x : Int64) : Prop := -1048576 ≤ x.toInt ∧ x.toInt ≤ 1048576
theorem own_b {x : Int64} (h : Sm x) : B53 x := ⟨by have := h.1; omega, by have := h.2; omega⟩
theorem own_b0 : B53 (0 : Int64) := ⟨by decide, by decide⟩
theorem own_bs {x y : Int64} (h : Sm x) (k : Sm y) : B53 (x - y) := by
  have e := sub64 (own_b h) (own_b k)
  have := h.1; have := h.2; have := k.1; have := k.2
  exact ⟨by rw [e]; omega, by rw [e]; omega⟩
theorem own_ite {x y z : Int64} {P : Prop} [Decidable P] (h : Sm x) (k : Sm y) (e : z = (if P then x else y)) : Sm z := by
  rw [e]; split
  · exact h
  · exact k
theorem own_prod {x y : Int64} (h : Sm x) (k : Sm y) : -1099511627776 ≤ x.toInt * y.toInt ∧ x.toInt * y.toInt ≤ 1099511627776 := by
  obtain ⟨a1, a2⟩ := h
  obtain ⟨b1, b2⟩ := k
  generalize x.toInt = a at *
  generalize y.toInt = b at *
  have h1 : 0 ≤ (1048576 - a) * (1048576 - b) := Int.mul_nonneg (by omega) (by omega)
  have h2 : 0 ≤ (1048576 + a) * (1048576 + b) := Int.mul_nonneg (by omega) (by omega)
  have h3 : 0 ≤ (1048576 - a) * (1048576 + b) := Int.mul_nonneg (by omega) (by omega)
  have h4 : 0 ≤ (1048576 + a) * (1048576 - b) := Int.mul_nonneg (by omega) (by omega)
  simp only [Int.sub_mul, Int.add_mul, Int.mul_sub, Int.mul_add] at h1 h2 h3 h4
  generalize a * b = t at *
  omega
theorem own_mul {x y : Int64} (h : Sm x) (k : Sm y) : (x * y).toInt = x.toInt * y.toInt := by
  have p := own_prod h k
  exact Jvm.Kit.i64_mul (by omega) (by omega)
/-- at most k products added up -/
def Bd (k : Int) (s : Int64) : Prop := -(k * 1099511627776) ≤ s.toInt ∧ s.toInt ≤ k * 1099511627776
theorem own_bd0 : Bd 0 (0 : Int64) := ⟨by decide, by decide⟩
theorem own_bd {k : Int} {s x y : Int64} (hs : Bd k s) (h : Sm x) (q : Sm y) (hk : 0 ≤ k ∧ k ≤ 8) : Bd (k + 1) (s + x * y) := by
  have p := own_prod h q
  have m := own_mul h q
  obtain ⟨s1, s2⟩ := hs
  have e : (s + x * y).toInt = s.toInt + x.toInt * y.toInt := by
    rw [Jvm.Kit.i64_add, m]
    · rw [m]; omega
    · rw [m]; omega
  exact ⟨by rw [e]; omega, by rw [e]; omega⟩
theorem own_bd53 {k : Int} {s : Int64} (hs : Bd k s) (hk : 0 ≤ k ∧ k ≤ 9) : B53 s := by
  obtain ⟨s1, s2⟩ := hs
  exact ⟨by omega, by omega⟩
theorem own_p53 {x y : Int64} (h : Sm x) (q : Sm y) : B53 (x * y) := by
  have p := own_prod h q
  have m := own_mul h q
  exact ⟨by rw [m]; omega, by rw [m]; omega⟩
theorem own_negz (a : UInt64) : FP.dadd a 9223372036854775808 = FP.dsub a (FP.l2d 0) := by
  have e : FP.Core.decode FP.Core.b64 (9223372036854775808 : UInt64).toNat = FP.Core.negate (FP.Core.decode FP.Core.b64 (FP.l2d 0).toNat) := by decide +kernel
  show UInt64.ofNat (FP.Core.encode FP.Core.b64 (FP.Core.round FP.Core.b64 (FP.Core.exactSum (FP.Core.decode FP.Core.b64 a.toNat) (FP.Core.decode FP.Core.b64 (9223372036854775808 : UInt64).toNat)))) = UInt64.ofNat (FP.Core.encode FP.Core.b64 (FP.Core.round FP.Core.b64 (FP.Core.exactSum (FP.Core.decode FP.Core.b64 a.toNat) (FP.Core.negate (FP.Core.decode FP.Core.b64 (FP.l2d 0).toNat)))))
  rw [e]
theorem own_nz : Jvm.Free.Fl.NoNaN64 (9223372036854775808 : UInt64) := by decide +kernel
theorem own_mulz {x y : Int64} (h : Sm x) (q : Sm y) : FP.dmul (FP.l2d x) (FP.l2d y) = FP.l2d (x * y) ∨ (FP.dmul (FP.l2d x) (FP.l2d y) = 9223372036854775808 ∧ x * y = 0) := by
  by_cases k : x = 0 ∨ y = 0
  · have z : x * y = 0 := by rcases k with rfl | rfl <;> simp
    have e := dmul_z (own_b h) (own_b q) k
    split at e
    · exact Or.inr ⟨e, z⟩
    · exact Or.inl (by rw [e, z])
  · have p := own_prod h q
    exact Or.inl (dmul_w (own_b h) (own_b q) (fun e => k (Or.inl e)) (fun e => k (Or.inr e)) (by omega) (by omega))
theorem own_nnm {x y : Int64} (h : Sm x) (q : Sm y) : Jvm.Free.Fl.NoNaN64 (FP.dmul (FP.l2d x) (FP.l2d y)) := by
  rcases own_mulz h q with e | ⟨e, -⟩
  · exact nn_w e
  · rw [e]; exact own_nz
theorem own_dadd {k : Int} {s x y : Int64} (hs : Bd k s) (h : Sm x) (q : Sm y) (hk : 0 ≤ k ∧ k ≤ 8) : FP.dadd (FP.l2d s) (FP.dmul (FP.l2d x) (FP.l2d y)) = FP.l2d (s + (x * y)) := by
  have hs53 := own_bd53 hs ⟨hk.1, by omega⟩
  rcases own_mulz h q with e | ⟨e, z⟩
  · rw [e]; exact dadd_w hs53 (own_p53 h q)
  · rw [e, z, own_negz, dsub_w hs53 own_b0, Int64.sub_zero, Int64.add_zero]
def own_z (r : Int64) (s : Int32) : Int32 := (if (0 : Int64) < r then (1 : Int32) else (if r = (0 : Int64) then (if s = (2 : Int32) then (1 : Int32) else (0 : Int32)) else (0 : Int32)))

abbrev F3 (c0 c1 c2 : Int64) : Nat → Int64 := (upd (upd (upd (fun _ => 0) (0 : Int32).toNatClampNeg c0) (1 : Int32).toNatClampNeg c1) (2 : Int32).toNatClampNeg c2)
abbrev VA3 (f : Nat → Int64) : Nat → Int64 := (upd (upd (upd (fun _ => 0) (0 : Int32).toNatClampNeg (if (0 : Int64) < (f (0 : Int32).toNatClampNeg) then (1 : Int64) else (0 : Int64))) (1 : Int32).toNatClampNeg (if (0 : Int64) < (f (1 : Int32).toNatClampNeg) then (1 : Int64) else (0 : Int64))) (2 : Int32).toNatClampNeg (if (0 : Int64) < (f (2 : Int32).toNatClampNeg) then (1 : Int64) else (0 : Int64)))
abbrev SA3 (f : Nat → Int64) : Nat → Int32 := (upd (upd (upd (fun _ => 0) (0 : Int32).toNatClampNeg (if (0 : Int64) < (f (0 : Int32).toNatClampNeg) then (2 : Int32) else (1 : Int32))) (1 : Int32).toNatClampNeg (if (0 : Int64) < (f (1 : Int32).toNatClampNeg) then (2 : Int32) else (1 : Int32))) (2 : Int32).toNatClampNeg (if (0 : Int64) < (f (2 : Int32).toNatClampNeg) then (2 : Int32) else (1 : Int32)))
abbrev RE3 (f : Nat → Int64) : Nat → Int64 := (upd (upd (upd (fun _ => 0) (0 : Int32).toNatClampNeg (f (0 : Int32).toNatClampNeg)) (1 : Int32).toNatClampNeg (f (1 : Int32).toNatClampNeg)) (2 : Int32).toNatClampNeg (f (2 : Int32).toNatClampNeg))
theorem own_n01 : (0 : Int32).toNatClampNeg ≠ (1 : Int32).toNatClampNeg := by decide
theorem own_n02 : (0 : Int32).toNatClampNeg ≠ (2 : Int32).toNatClampNeg := by decide
theorem own_n12 : (1 : Int32).toNatClampNeg ≠ (2 : Int32).toNatClampNeg := by decide
theorem own_at0 {α : Type} (z : Nat → α) (a b c : α) : (upd (upd (upd z (0 : Int32).toNatClampNeg a) (1 : Int32).toNatClampNeg b) (2 : Int32).toNatClampNeg c) (0 : Int32).toNatClampNeg = a := by rw [upd_other _ _ own_n02, upd_other _ _ own_n01, upd_same]
theorem own_at1 {α : Type} (z : Nat → α) (a b c : α) : (upd (upd (upd z (0 : Int32).toNatClampNeg a) (1 : Int32).toNatClampNeg b) (2 : Int32).toNatClampNeg c) (1 : Int32).toNatClampNeg = b := by rw [upd_other _ _ own_n12, upd_same]
theorem own_at2 {α : Type} (z : Nat → α) (a b c : α) : (upd (upd (upd z (0 : Int32).toNatClampNeg a) (1 : Int32).toNatClampNeg b) (2 : Int32).toNatClampNeg c) (2 : Int32).toNatClampNeg = c := upd_same _ _ _
theorem own_F0 (a b c : Int64) : F3 a b c (0 : Int32).toNatClampNeg = a := own_at0 _ _ _ _
theorem own_F1 (a b c : Int64) : F3 a b c (1 : Int32).toNatClampNeg = b := own_at1 _ _ _ _
theorem own_F2 (a b c : Int64) : F3 a b c (2 : Int32).toNatClampNeg = c := own_at2 _ _ _ _
theorem own_VA0 (f : Nat → Int64) : VA3 f (0 : Int32).toNatClampNeg = (if (0 : Int64) < (f (0 : Int32).toNatClampNeg) then (1 : Int64) else (0 : Int64)) := own_at0 _ _ _ _
theorem own_VA1 (f : Nat → Int64) : VA3 f (1 : Int32).toNatClampNeg = (if (0 : Int64) < (f (1 : Int32).toNatClampNeg) then (1 : Int64) else (0 : Int64)) := own_at1 _ _ _ _
theorem own_VA2 (f : Nat → Int64) : VA3 f (2 : Int32).toNatClampNeg = (if (0 : Int64) < (f (2 : Int32).toNatClampNeg) then (1 : Int64) else (0 : Int64)) := own_at2 _ _ _ _
theorem own_SB0 (f : Nat → Int64) : SA3 f (0 : Int32).toNatClampNeg = (if (0 : Int64) < (f (0 : Int32).toNatClampNeg) then (2 : Int32) else (1 : Int32)) := own_at0 _ _ _ _
theorem own_SB1 (f : Nat → Int64) : SA3 f (1 : Int32).toNatClampNeg = (if (0 : Int64) < (f (1 : Int32).toNatClampNeg) then (2 : Int32) else (1 : Int32)) := own_at1 _ _ _ _
theorem own_SB2 (f : Nat → Int64) : SA3 f (2 : Int32).toNatClampNeg = (if (0 : Int64) < (f (2 : Int32).toNatClampNeg) then (2 : Int32) else (1 : Int32)) := own_at2 _ _ _ _
theorem own_RB0 (f : Nat → Int64) : RE3 f (0 : Int32).toNatClampNeg = f (0 : Int32).toNatClampNeg := own_at0 _ _ _ _
theorem own_RB1 (f : Nat → Int64) : RE3 f (1 : Int32).toNatClampNeg = f (1 : Int32).toNatClampNeg := own_at1 _ _ _ _
theorem own_RB2 (f : Nat → Int64) : RE3 f (2 : Int32).toNatClampNeg = f (2 : Int32).toNatClampNeg := own_at2 _ _ _ _
theorem own_upd {f : Nat → Int64} {i : Nat} {x : Int64} (h : ∀ j, Sm (f j)) (k : Sm x) : ∀ j, Sm (upd f i x j) := fun j => by
  unfold upd; split
  · exact k
  · exact h j
theorem own_s0 : Sm (0 : Int64) := ⟨by decide, by decide⟩
theorem own_Z : ∀ j : Nat, Sm ((fun _ => (0 : Int64)) j) := fun _ => own_s0
theorem own_R3 {c0 c1 c2 : Int64} (h0 : Sm c0) (h1 : Sm c1) (h2 : Sm c2) : ∀ j, Sm (F3 c0 c1 c2 j) := own_upd (own_upd (own_upd own_Z h0) h1) h2
theorem own_REs {f : Nat → Int64} (h : ∀ j, Sm (f j)) : ∀ j, Sm (RE3 f j) := own_upd (own_upd (own_upd own_Z (h _)) (h _)) (h _)
theorem own_itS {x y : Int64} {P : Prop} [Decidable P] (h : Sm x) (k : Sm y) : Sm (if P then x else y) := own_ite h k rfl
theorem own_V3 {f : Nat → Int64} : ∀ j, Sm (VA3 f j) := own_upd (own_upd (own_upd own_Z (own_itS ⟨by decide, by decide⟩ ⟨by decide, by decide⟩)) (own_itS ⟨by decide, by decide⟩ ⟨by decide, by decide⟩)) (own_itS ⟨by decide, by decide⟩ ⟨by decide, by decide⟩)
theorem own_fite {f g z : Nat → Int64} {P : Prop} [Decidable P] (hz : z = (if P then f else g)) (h : ∀ j, Sm (f j)) (k : ∀ j, Sm (g j)) : ∀ j, Sm (z j) := fun j => by
  rw [hz]; split
  · exact h j
  · exact k j
theorem own_tmod (a : Int) : -1000 ≤ a.tmod 1001 ∧ a.tmod 1001 ≤ 1000 := by
  by_cases h : 0 ≤ a
  · rw [Int.tmod_eq_emod_of_nonneg h]; omega
  · have e := Int.neg_tmod (-a) 1001
    rw [Int.neg_neg, Int.tmod_eq_emod_of_nonneg (by omega : 0 ≤ -a)] at e
    omega
theorem own_c {p v : Int32} (h : v = (p % (1001 : Int32))) : -1000 ≤ v.toInt ∧ v.toInt ≤ 1000 := by
  rw [h, Jvm.Kit.i32_rem]; exact own_tmod _
theorem own_lo {p q l h v : Int32} (hl : l = (p % (1001 : Int32))) (hh : h = (q % (1001 : Int32))) (hv : v = fMin l h) : -1000 ≤ v.toInt ∧ v.toInt ≤ 1000 := by
  rw [hv]; unfold fMin; split
  · exact own_c hh
  · exact own_c hl
theorem own_hi {p q l h v : Int32} (hl : l = (p % (1001 : Int32))) (hh : h = (q % (1001 : Int32))) (hv : v = fMax l h) : -1000 ≤ v.toInt ∧ v.toInt ≤ 1000 := by
  rw [hv]; unfold fMax; split
  · exact own_c hh
  · exact own_c hl
theorem own_m1 {x v : Int32} (h : -1000 ≤ x.toInt ∧ x.toInt ≤ 1000) (hv : v = (x - (1 : Int32))) : -2000 ≤ v.toInt ∧ v.toInt ≤ 2000 := by
  have e : (1 : Int32).toInt = 1 := by decide
  rw [hv, Jvm.Kit.i32_sub (by omega) (by omega)]; omega
theorem own_pk {x v k : Int32} {n : Int} (hk : k.toInt = n) (hn : 0 ≤ n ∧ n ≤ 10) (h : -1000 ≤ x.toInt ∧ x.toInt ≤ 1000) (hv : v = (x + k)) : -2000 ≤ v.toInt ∧ v.toInt ≤ 2000 := by
  rw [hv, Jvm.Kit.i32_add (by omega) (by omega)]; omega
theorem own_sm {v : Int32} (h : -1000 ≤ v.toInt ∧ v.toInt ≤ 1000) : Sm v.toInt64 := by
  have e := Jvm.Kit.i64_of_i32 v
  exact ⟨by omega, by omega⟩
theorem own_smB {v : Int32} (h : -2000 ≤ v.toInt ∧ v.toInt ≤ 2000) : Sm v.toInt64 := by
  have e := Jvm.Kit.i64_of_i32 v
  exact ⟨by omega, by omega⟩
theorem own_21 {P : Prop} [Decidable P] : ¬ (if P then (2 : Int32) else (1 : Int32)) = (0 : Int32) := by split <;> decide
theorem own_SA0 {f : Nat → Int64} : ¬ (SA3 f (0 : Int32).toNatClampNeg) = (0 : Int32) := by rw [own_SB0]; exact own_21
theorem own_S1 {f : Nat → Int64} {z : Nat → Int32} {x : Int32} {P : Prop} [Decidable P] (hz : z = (if P then SA3 f else upd (SA3 f) (0 : Int32).toNatClampNeg x)) : z (1 : Int32).toNatClampNeg = SA3 f (1 : Int32).toNatClampNeg ∧ z (2 : Int32).toNatClampNeg = SA3 f (2 : Int32).toNatClampNeg := by
  rw [hz]; split
  · exact ⟨rfl, rfl⟩
  · exact ⟨upd_other _ _ own_n01.symm, upd_other _ _ own_n02.symm⟩
theorem own_S2 {z w : Nat → Int32} {x : Int32} {P : Prop} [Decidable P] (hw : w = (if P then z else upd z (1 : Int32).toNatClampNeg x)) : w (2 : Int32).toNatClampNeg = z (2 : Int32).toNatClampNeg := by
  rw [hw]; split
  · rfl
  · exact upd_other _ _ own_n12.symm
theorem own_SA1 {f : Nat → Int64} {z : Nat → Int32} {x : Int32} {P : Prop} [Decidable P] (hz : z = (if P then SA3 f else upd (SA3 f) (0 : Int32).toNatClampNeg x)) : ¬ (z (1 : Int32).toNatClampNeg) = (0 : Int32) := by
  rw [(own_S1 hz).1, own_SB1]; exact own_21
theorem own_SA2 {f : Nat → Int64} {z w : Nat → Int32} {x y : Int32} {P Q : Prop} [Decidable P] [Decidable Q] (hz : z = (if P then SA3 f else upd (SA3 f) (0 : Int32).toNatClampNeg x)) (hw : w = (if Q then z else upd z (1 : Int32).toNatClampNeg y)) : ¬ (w (2 : Int32).toNatClampNeg) = (0 : Int32) := by
  rw [own_S2 hw, (own_S1 hz).2, own_SB2]; exact own_21
theorem own_cast {a b : Int64} (h : a = b) (k : B53 a) : B53 b := h ▸ k
theorem own_pos (c : Int32) : ((0 : Int64) < c.toInt64) ↔ ((0 : Int32) < c) := by
  rw [Int64.lt_iff_toInt_lt, Int32.lt_iff_toInt_lt, Jvm.Kit.i64_of_i32, show (0 : Int64).toInt = 0 from by decide, show (0 : Int32).toInt = 0 from by decide]
theorem own_val (c b lo hi : Int32) : (if b = (0 : Int32) then (if (0 : Int64) < c.toInt64 then (1 : Int64) else (0 : Int64)) else (if own_z c.toInt64 (if (0 : Int64) < c.toInt64 then (2 : Int32) else (1 : Int32)) = (0 : Int32) then lo.toInt64 else hi.toInt64)) = fX c b lo hi := by
  unfold fX own_z
  simp only [own_pos]
  by_cases k : (0 : Int32) < c
  · simp only [if_pos k]
    rw [if_neg (by decide : ¬ (1 : Int32) = 0)]
  · simp only [if_neg k]
    rw [if_neg (by decide : ¬ (1 : Int32) = 2)]
    by_cases e : c.toInt64 = 0
    · rw [if_pos e, if_pos rfl]
    · rw [if_neg e, if_pos rfl]
theorem own_sum {v5 v12 v19 b0 b1 b2 lo hi l1 h1 l2 h2 : Int32} {va1 va2 va3 : Nat → Int64} {sa1 sa2 : Nat → Int32} {x0 x1 x2 e : Int64}
    (k1 : va1 = (if b0 = (0 : Int32) then VA3 (F3 v5.toInt64 v12.toInt64 v19.toInt64) else upd (VA3 (F3 v5.toInt64 v12.toInt64 v19.toInt64)) (0 : Int32).toNatClampNeg (if own_z (RE3 (F3 v5.toInt64 v12.toInt64 v19.toInt64) (0 : Int32).toNatClampNeg) (SA3 (F3 v5.toInt64 v12.toInt64 v19.toInt64) (0 : Int32).toNatClampNeg) = (0 : Int32) then lo.toInt64 else hi.toInt64)))
    (k2 : sa1 = (if b0 = (0 : Int32) then SA3 (F3 v5.toInt64 v12.toInt64 v19.toInt64) else upd (SA3 (F3 v5.toInt64 v12.toInt64 v19.toInt64)) (0 : Int32).toNatClampNeg (if own_z (RE3 (F3 v5.toInt64 v12.toInt64 v19.toInt64) (0 : Int32).toNatClampNeg) (SA3 (F3 v5.toInt64 v12.toInt64 v19.toInt64) (0 : Int32).toNatClampNeg) = (0 : Int32) then (1 : Int32) else (2 : Int32))))
    (k3 : va2 = (if b1 = (0 : Int32) then va1 else upd va1 (1 : Int32).toNatClampNeg (if own_z (RE3 (F3 v5.toInt64 v12.toInt64 v19.toInt64) (1 : Int32).toNatClampNeg) (sa1 (1 : Int32).toNatClampNeg) = (0 : Int32) then l1.toInt64 else h1.toInt64)))
    (k4 : sa2 = (if b1 = (0 : Int32) then sa1 else upd sa1 (1 : Int32).toNatClampNeg (if own_z (RE3 (F3 v5.toInt64 v12.toInt64 v19.toInt64) (1 : Int32).toNatClampNeg) (sa1 (1 : Int32).toNatClampNeg) = (0 : Int32) then (1 : Int32) else (2 : Int32))))
    (k5 : va3 = (if b2 = (0 : Int32) then va2 else upd va2 (2 : Int32).toNatClampNeg (if own_z (RE3 (F3 v5.toInt64 v12.toInt64 v19.toInt64) (2 : Int32).toNatClampNeg) (sa2 (2 : Int32).toNatClampNeg) = (0 : Int32) then l2.toInt64 else h2.toInt64)))
    (e0 : x0 = fX v5 b0 lo hi) (e1 : x1 = fX v12 b1 l1 h1) (e2 : x2 = fX v19 b2 l2 h2) (ee : e = (((v5.toInt64 * x0) + (v12.toInt64 * x1)) + (v19.toInt64 * x2))) :
    (((0 : Int64) + (F3 v5.toInt64 v12.toInt64 v19.toInt64 (0 : Int32).toNatClampNeg * va3 (0 : Int32).toNatClampNeg)) + (F3 v5.toInt64 v12.toInt64 v19.toInt64 (1 : Int32).toNatClampNeg * va3 (1 : Int32).toNatClampNeg)) + (F3 v5.toInt64 v12.toInt64 v19.toInt64 (2 : Int32).toNatClampNeg * va3 (2 : Int32).toNatClampNeg) = e := by
  have s1 := own_S1 k2
  have s2 : sa2 (2 : Int32).toNatClampNeg = SA3 (F3 v5.toInt64 v12.toInt64 v19.toInt64) (2 : Int32).toNatClampNeg := by rw [own_S2 k4, s1.2]
  have a0 : va3 (0 : Int32).toNatClampNeg = x0 := by
    have q1 : va3 (0 : Int32).toNatClampNeg = va2 (0 : Int32).toNatClampNeg := by
      rw [k5]; split
      · rfl
      · exact upd_other _ _ own_n02
    have q2 : va2 (0 : Int32).toNatClampNeg = va1 (0 : Int32).toNatClampNeg := by
      rw [k3]; split
      · rfl
      · exact upd_other _ _ own_n01
    rw [q1, q2, e0, ← own_val, k1]
    split
    · rw [own_VA0, own_F0]
    · rw [upd_same, own_RB0, own_SB0, own_F0]
  have a1 : va3 (1 : Int32).toNatClampNeg = x1 := by
    have q1 : va3 (1 : Int32).toNatClampNeg = va2 (1 : Int32).toNatClampNeg := by
      rw [k5]; split
      · rfl
      · exact upd_other _ _ own_n12
    have q2 : va1 (1 : Int32).toNatClampNeg = VA3 (F3 v5.toInt64 v12.toInt64 v19.toInt64) (1 : Int32).toNatClampNeg := by
      rw [k1]; split
      · rfl
      · exact upd_other _ _ own_n01.symm
    rw [q1, e1, ← own_val, k3, s1.1]
    split
    · rw [q2, own_VA1, own_F1]
    · rw [upd_same, own_RB1, own_SB1, own_F1]
  have a2 : va3 (2 : Int32).toNatClampNeg = x2 := by
    have q1 : va2 (2 : Int32).toNatClampNeg = va1 (2 : Int32).toNatClampNeg := by
      rw [k3]; split
      · rfl
      · exact upd_other _ _ own_n12.symm
    have q2 : va1 (2 : Int32).toNatClampNeg = VA3 (F3 v5.toInt64 v12.toInt64 v19.toInt64) (2 : Int32).toNatClampNeg := by
      rw [k1]; split
      · rfl
      · exact upd_other _ _ own_n02.symm
    rw [e2, ← own_val, k5, s2]
    split
    · rw [q1, q2, own_VA2, own_F2]
    · rw [upd_same, own_RB2, own_SB2, own_F2]
  rw [a0, a1, a2, ee, Int64.zero_add, own_F0, own_F1, own_F2]

theorem d1_0 : decode jdk_29_method_69_code 0 = .ok (.iload_n 0, 1) := by decide +kernel
theorem d1_1 : decode jdk_29_method_69_code 1 = .ok (.iload_n 1, 1) := by decide +kernel
theorem d1_2 : decode jdk_29_method_69_code 2 = .ok (.if_icmp .gt 7, 3) := by decide +kernel
theorem d1_9 : decode jdk_29_method_69_code 9 = .ok (.iload_n 1, 1) := by decide +kernel
theorem d1_10 : decode jdk_29_method_69_code 10 = .ok (.ireturn, 1) := by decide +kernel
theorem d1_5 : decode jdk_29_method_69_code 5 = .ok (.iload_n 0, 1) := by decide +kernel
theorem d1_6 : decode jdk_29_method_69_code 6 = .ok (.goto 4, 3) := by decide +kernel
theorem d2_0 : decode jdk_29_method_65_code 0 = .ok (.iload_n 0, 1) := by decide +kernel
theorem d2_1 : decode jdk_29_method_65_code 1 = .ok (.iload_n 1, 1) := by decide +kernel
theorem d2_2 : decode jdk_29_method_65_code 2 = .ok (.if_icmp .lt 7, 3) := by decide +kernel
theorem d2_9 : decode jdk_29_method_65_code 9 = .ok (.iload_n 1, 1) := by decide +kernel
theorem d2_10 : decode jdk_29_method_65_code 10 = .ok (.ireturn, 1) := by decide +kernel
theorem d2_5 : decode jdk_29_method_65_code 5 = .ok (.iload_n 0, 1) := by decide +kernel
theorem d2_6 : decode jdk_29_method_65_code 6 = .ok (.goto 4, 3) := by decide +kernel
theorem d7_0 : decode jdk_22_method_1_code 0 = .ok (.aload_n 0, 1) := by decide +kernel
theorem d7_1 : decode jdk_22_method_1_code 1 = .ok (.invokespecial 1, 3) := by decide +kernel
theorem d7_4 : decode jdk_22_method_1_code 4 = .ok (.return_, 1) := by decide +kernel
theorem d6_0 : decode jdk_39_method_1_code 0 = .ok (.aload_n 0, 1) := by decide +kernel
theorem d6_1 : decode jdk_39_method_1_code 1 = .ok (.invokespecial 1, 3) := by decide +kernel
theorem d6_4 : decode jdk_39_method_1_code 4 = .ok (.aload_n 0, 1) := by decide +kernel
theorem d6_5 : decode jdk_39_method_1_code 5 = .ok (.iconst 0, 1) := by decide +kernel
theorem d6_6 : decode jdk_39_method_1_code 6 = .ok (.putfield 7, 3) := by decide +kernel
theorem d6_9 : decode jdk_39_method_1_code 9 = .ok (.return_, 1) := by decide +kernel
theorem d5_0 : decode jdk_38_method_2_code 0 = .ok (.aload_n 0, 1) := by decide +kernel
theorem d5_1 : decode jdk_38_method_2_code 1 = .ok (.invokespecial 1, 3) := by decide +kernel
theorem d5_4 : decode jdk_38_method_2_code 4 = .ok (.aload_n 0, 1) := by decide +kernel
theorem d5_5 : decode jdk_38_method_2_code 5 = .ok (.getstatic 39, 3) := by decide +kernel
theorem d5_8 : decode jdk_38_method_2_code 8 = .ok (.putfield 9, 3) := by decide +kernel
theorem d5_11 : decode jdk_38_method_2_code 11 = .ok (.return_, 1) := by decide +kernel
theorem d13_0 : decode jdk_38_method_8_code 0 = .ok (.aload_n 0, 1) := by decide +kernel
theorem d13_1 : decode jdk_38_method_8_code 1 = .ok (.getfield 48, 3) := by decide +kernel
theorem d13_4 : decode jdk_38_method_8_code 4 = .ok (.ireturn, 1) := by decide +kernel
theorem d8_0 : decode jdk_65_method_113_code 0 = .ok (.iconst 0, 1) := by decide +kernel
theorem d8_1 : decode jdk_65_method_113_code 1 = .ok (.istore_n 3, 1) := by decide +kernel
theorem d8_2 : decode jdk_65_method_113_code 2 = .ok (.aload_n 0, 1) := by decide +kernel
theorem d8_3 : decode jdk_65_method_113_code 3 = .ok (.arraylength, 1) := by decide +kernel
theorem d8_4 : decode jdk_65_method_113_code 4 = .ok (.istore 4, 2) := by decide +kernel
theorem d8_6 : decode jdk_65_method_113_code 6 = .ok (.iload_n 3, 1) := by decide +kernel
theorem d8_7 : decode jdk_65_method_113_code 7 = .ok (.iload 4, 2) := by decide +kernel
theorem d8_9 : decode jdk_65_method_113_code 9 = .ok (.if_icmp .ge 13, 3) := by decide +kernel
theorem d8_12 : decode jdk_65_method_113_code 12 = .ok (.aload_n 0, 1) := by decide +kernel
theorem d8_13 : decode jdk_65_method_113_code 13 = .ok (.iload_n 3, 1) := by decide +kernel
theorem d8_14 : decode jdk_65_method_113_code 14 = .ok (.dload_n 1, 1) := by decide +kernel
theorem d8_15 : decode jdk_65_method_113_code 15 = .ok (.dastore, 1) := by decide +kernel
theorem d8_16 : decode jdk_65_method_113_code 16 = .ok (.iinc 3 1, 3) := by decide +kernel
theorem d8_19 : decode jdk_65_method_113_code 19 = .ok (.goto (-13), 3) := by decide +kernel
theorem d8_22 : decode jdk_65_method_113_code 22 = .ok (.return_, 1) := by decide +kernel
theorem d9_0 : decode jdk_65_method_103_code 0 = .ok (.iconst 0, 1) := by decide +kernel
theorem d9_1 : decode jdk_65_method_103_code 1 = .ok (.istore_n 2, 1) := by decide +kernel
theorem d9_2 : decode jdk_65_method_103_code 2 = .ok (.aload_n 0, 1) := by decide +kernel
theorem d9_3 : decode jdk_65_method_103_code 3 = .ok (.arraylength, 1) := by decide +kernel
theorem d9_4 : decode jdk_65_method_103_code 4 = .ok (.istore_n 3, 1) := by decide +kernel
theorem d9_5 : decode jdk_65_method_103_code 5 = .ok (.iload_n 2, 1) := by decide +kernel
theorem d9_6 : decode jdk_65_method_103_code 6 = .ok (.iload_n 3, 1) := by decide +kernel
theorem d9_7 : decode jdk_65_method_103_code 7 = .ok (.if_icmp .ge 13, 3) := by decide +kernel
theorem d9_10 : decode jdk_65_method_103_code 10 = .ok (.aload_n 0, 1) := by decide +kernel
theorem d9_11 : decode jdk_65_method_103_code 11 = .ok (.iload_n 2, 1) := by decide +kernel
theorem d9_12 : decode jdk_65_method_103_code 12 = .ok (.iload_n 1, 1) := by decide +kernel
theorem d9_13 : decode jdk_65_method_103_code 13 = .ok (.iastore, 1) := by decide +kernel
theorem d9_14 : decode jdk_65_method_103_code 14 = .ok (.iinc 2 1, 3) := by decide +kernel
theorem d9_17 : decode jdk_65_method_103_code 17 = .ok (.goto (-12), 3) := by decide +kernel
theorem d9_20 : decode jdk_65_method_103_code 20 = .ok (.return_, 1) := by decide +kernel
theorem d3_0 : decode prog_62_method_1_code 0 = .ok (.aload_n 0, 1) := by decide +kernel
theorem d3_1 : decode prog_62_method_1_code 1 = .ok (.invokespecial 1, 3) := by decide +kernel
theorem d3_4 : decode prog_62_method_1_code 4 = .ok (.aload_n 0, 1) := by decide +kernel
theorem d3_5 : decode prog_62_method_1_code 5 = .ok (.new 7, 3) := by decide +kernel
theorem d3_8 : decode prog_62_method_1_code 8 = .ok (.dup, 1) := by decide +kernel
theorem d3_9 : decode prog_62_method_1_code 9 = .ok (.invokespecial 9, 3) := by decide +kernel
theorem d3_12 : decode prog_62_method_1_code 12 = .ok (.putfield 10, 3) := by decide +kernel
theorem d3_15 : decode prog_62_method_1_code 15 = .ok (.aload_n 0, 1) := by decide +kernel
theorem d3_16 : decode prog_62_method_1_code 16 = .ok (.iconst 0, 1) := by decide +kernel
theorem d3_17 : decode prog_62_method_1_code 17 = .ok (.newarray .int, 2) := by decide +kernel
theorem d3_19 : decode prog_62_method_1_code 19 = .ok (.putfield 16, 3) := by decide +kernel
theorem d3_22 : decode prog_62_method_1_code 22 = .ok (.aload_n 0, 1) := by decide +kernel
theorem d3_23 : decode prog_62_method_1_code 23 = .ok (.iconst 0, 1) := by decide +kernel
theorem d3_24 : decode prog_62_method_1_code 24 = .ok (.newarray .double, 2) := by decide +kernel
theorem d3_26 : decode prog_62_method_1_code 26 = .ok (.putfield 20, 3) := by decide +kernel
theorem d3_29 : decode prog_62_method_1_code 29 = .ok (.aload_n 0, 1) := by decide +kernel
theorem d3_30 : decode prog_62_method_1_code 30 = .ok (.iconst 0, 1) := by decide +kernel
theorem d3_31 : decode prog_62_method_1_code 31 = .ok (.anewarray 24, 3) := by decide +kernel
theorem d3_34 : decode prog_62_method_1_code 34 = .ok (.putfield 25, 3) := by decide +kernel
theorem d3_37 : decode prog_62_method_1_code 37 = .ok (.aload_n 0, 1) := by decide +kernel
theorem d3_38 : decode prog_62_method_1_code 38 = .ok (.aload_n 1, 1) := by decide +kernel
theorem d3_39 : decode prog_62_method_1_code 39 = .ok (.arraylength, 1) := by decide +kernel
theorem d3_40 : decode prog_62_method_1_code 40 = .ok (.putfield 29, 3) := by decide +kernel
theorem d3_43 : decode prog_62_method_1_code 43 = .ok (.aload_n 0, 1) := by decide +kernel
theorem d3_44 : decode prog_62_method_1_code 44 = .ok (.aload_n 1, 1) := by decide +kernel
theorem d3_45 : decode prog_62_method_1_code 45 = .ok (.invokevirtual 33, 3) := by decide +kernel
theorem d3_48 : decode prog_62_method_1_code 48 = .ok (.checkcast 24, 3) := by decide +kernel
theorem d3_51 : decode prog_62_method_1_code 51 = .ok (.putfield 37, 3) := by decide +kernel
theorem d3_54 : decode prog_62_method_1_code 54 = .ok (.aload_n 0, 1) := by decide +kernel
theorem d3_55 : decode prog_62_method_1_code 55 = .ok (.aload_n 0, 1) := by decide +kernel
theorem d3_56 : decode prog_62_method_1_code 56 = .ok (.getfield 29, 3) := by decide +kernel
theorem d3_59 : decode prog_62_method_1_code 59 = .ok (.newarray .double, 2) := by decide +kernel
theorem d3_61 : decode prog_62_method_1_code 61 = .ok (.putfield 40, 3) := by decide +kernel
theorem d3_64 : decode prog_62_method_1_code 64 = .ok (.aload_n 0, 1) := by decide +kernel
theorem d3_65 : decode prog_62_method_1_code 65 = .ok (.aload_n 0, 1) := by decide +kernel
theorem d3_66 : decode prog_62_method_1_code 66 = .ok (.getfield 29, 3) := by decide +kernel
theorem d3_69 : decode prog_62_method_1_code 69 = .ok (.newarray .double, 2) := by decide +kernel
theorem d3_71 : decode prog_62_method_1_code 71 = .ok (.putfield 43, 3) := by decide +kernel
theorem d3_74 : decode prog_62_method_1_code 74 = .ok (.aload_n 0, 1) := by decide +kernel
theorem d3_75 : decode prog_62_method_1_code 75 = .ok (.aload_n 0, 1) := by decide +kernel
theorem d3_76 : decode prog_62_method_1_code 76 = .ok (.getfield 29, 3) := by decide +kernel
theorem d3_79 : decode prog_62_method_1_code 79 = .ok (.newarray .double, 2) := by decide +kernel
theorem d3_81 : decode prog_62_method_1_code 81 = .ok (.putfield 46, 3) := by decide +kernel
theorem d3_84 : decode prog_62_method_1_code 84 = .ok (.aload_n 0, 1) := by decide +kernel
theorem d3_85 : decode prog_62_method_1_code 85 = .ok (.aload_n 0, 1) := by decide +kernel
theorem d3_86 : decode prog_62_method_1_code 86 = .ok (.getfield 29, 3) := by decide +kernel
theorem d3_89 : decode prog_62_method_1_code 89 = .ok (.newarray .int, 2) := by decide +kernel
theorem d3_91 : decode prog_62_method_1_code 91 = .ok (.putfield 49, 3) := by decide +kernel
theorem d3_94 : decode prog_62_method_1_code 94 = .ok (.aload_n 0, 1) := by decide +kernel
theorem d3_95 : decode prog_62_method_1_code 95 = .ok (.aload_n 0, 1) := by decide +kernel
theorem d3_96 : decode prog_62_method_1_code 96 = .ok (.getfield 29, 3) := by decide +kernel
theorem d3_99 : decode prog_62_method_1_code 99 = .ok (.newarray .double, 2) := by decide +kernel
theorem d3_101 : decode prog_62_method_1_code 101 = .ok (.putfield 52, 3) := by decide +kernel
theorem d3_104 : decode prog_62_method_1_code 104 = .ok (.aload_n 0, 1) := by decide +kernel
theorem d3_105 : decode prog_62_method_1_code 105 = .ok (.aload_n 0, 1) := by decide +kernel
theorem d3_106 : decode prog_62_method_1_code 106 = .ok (.getfield 29, 3) := by decide +kernel
theorem d3_109 : decode prog_62_method_1_code 109 = .ok (.newarray .int, 2) := by decide +kernel
theorem d3_111 : decode prog_62_method_1_code 111 = .ok (.putfield 55, 3) := by decide +kernel
theorem d3_114 : decode prog_62_method_1_code 114 = .ok (.aload_n 0, 1) := by decide +kernel
theorem d3_115 : decode prog_62_method_1_code 115 = .ok (.getfield 43, 3) := by decide +kernel
theorem d3_118 : decode prog_62_method_1_code 118 = .ok (.dconst 1, 1) := by decide +kernel
theorem d3_119 : decode prog_62_method_1_code 119 = .ok (.invokestatic 58, 3) := by decide +kernel
theorem d3_122 : decode prog_62_method_1_code 122 = .ok (.aload_n 0, 1) := by decide +kernel
theorem d3_123 : decode prog_62_method_1_code 123 = .ok (.getfield 55, 3) := by decide +kernel
theorem d3_126 : decode prog_62_method_1_code 126 = .ok (.iconst (-1), 1) := by decide +kernel
theorem d3_127 : decode prog_62_method_1_code 127 = .ok (.invokestatic 64, 3) := by decide +kernel
theorem d3_130 : decode prog_62_method_1_code 130 = .ok (.iconst 0, 1) := by decide +kernel
theorem d3_131 : decode prog_62_method_1_code 131 = .ok (.istore_n 2, 1) := by decide +kernel
theorem d3_132 : decode prog_62_method_1_code 132 = .ok (.iload_n 2, 1) := by decide +kernel
theorem d3_133 : decode prog_62_method_1_code 133 = .ok (.aload_n 0, 1) := by decide +kernel
theorem d3_134 : decode prog_62_method_1_code 134 = .ok (.getfield 29, 3) := by decide +kernel
theorem d3_137 : decode prog_62_method_1_code 137 = .ok (.if_icmp .ge 56, 3) := by decide +kernel
theorem d3_140 : decode prog_62_method_1_code 140 = .ok (.aload_n 0, 1) := by decide +kernel
theorem d3_141 : decode prog_62_method_1_code 141 = .ok (.getfield 49, 3) := by decide +kernel
theorem d3_144 : decode prog_62_method_1_code 144 = .ok (.iload_n 2, 1) := by decide +kernel
theorem d3_145 : decode prog_62_method_1_code 145 = .ok (.aload_n 1, 1) := by decide +kernel
theorem d3_146 : decode prog_62_method_1_code 146 = .ok (.iload_n 2, 1) := by decide +kernel
theorem d3_147 : decode prog_62_method_1_code 147 = .ok (.daload, 1) := by decide +kernel
theorem d3_148 : decode prog_62_method_1_code 148 = .ok (.dconst 0, 1) := by decide +kernel
theorem d3_149 : decode prog_62_method_1_code 149 = .ok (.dcmp .l, 1) := by decide +kernel
theorem d3_150 : decode prog_62_method_1_code 150 = .ok (.ifCond .le 7, 3) := by decide +kernel
theorem d3_153 : decode prog_62_method_1_code 153 = .ok (.iconst 2, 1) := by decide +kernel
theorem d3_154 : decode prog_62_method_1_code 154 = .ok (.goto 4, 3) := by decide +kernel
theorem d3_157 : decode prog_62_method_1_code 157 = .ok (.iconst 1, 1) := by decide +kernel
theorem d3_158 : decode prog_62_method_1_code 158 = .ok (.iastore, 1) := by decide +kernel
theorem d3_159 : decode prog_62_method_1_code 159 = .ok (.aload_n 0, 1) := by decide +kernel
theorem d3_160 : decode prog_62_method_1_code 160 = .ok (.getfield 46, 3) := by decide +kernel
theorem d3_163 : decode prog_62_method_1_code 163 = .ok (.iload_n 2, 1) := by decide +kernel
theorem d3_164 : decode prog_62_method_1_code 164 = .ok (.aload_n 1, 1) := by decide +kernel
theorem d3_165 : decode prog_62_method_1_code 165 = .ok (.iload_n 2, 1) := by decide +kernel
theorem d3_166 : decode prog_62_method_1_code 166 = .ok (.daload, 1) := by decide +kernel
theorem d3_167 : decode prog_62_method_1_code 167 = .ok (.dconst 0, 1) := by decide +kernel
theorem d3_168 : decode prog_62_method_1_code 168 = .ok (.dcmp .l, 1) := by decide +kernel
theorem d3_169 : decode prog_62_method_1_code 169 = .ok (.ifCond .le 7, 3) := by decide +kernel
theorem d3_172 : decode prog_62_method_1_code 172 = .ok (.dconst 1, 1) := by decide +kernel
theorem d3_173 : decode prog_62_method_1_code 173 = .ok (.goto 4, 3) := by decide +kernel
theorem d3_176 : decode prog_62_method_1_code 176 = .ok (.dconst 0, 1) := by decide +kernel
theorem d3_177 : decode prog_62_method_1_code 177 = .ok (.dastore, 1) := by decide +kernel
theorem d3_178 : decode prog_62_method_1_code 178 = .ok (.aload_n 0, 1) := by decide +kernel
theorem d3_179 : decode prog_62_method_1_code 179 = .ok (.getfield 52, 3) := by decide +kernel
theorem d3_182 : decode prog_62_method_1_code 182 = .ok (.iload_n 2, 1) := by decide +kernel
theorem d3_183 : decode prog_62_method_1_code 183 = .ok (.aload_n 1, 1) := by decide +kernel
theorem d3_184 : decode prog_62_method_1_code 184 = .ok (.iload_n 2, 1) := by decide +kernel
theorem d3_185 : decode prog_62_method_1_code 185 = .ok (.daload, 1) := by decide +kernel
theorem d3_186 : decode prog_62_method_1_code 186 = .ok (.dastore, 1) := by decide +kernel
theorem d3_187 : decode prog_62_method_1_code 187 = .ok (.iinc 2 1, 3) := by decide +kernel
theorem d3_190 : decode prog_62_method_1_code 190 = .ok (.goto (-58), 3) := by decide +kernel
theorem d3_193 : decode prog_62_method_1_code 193 = .ok (.return_, 1) := by decide +kernel
theorem d12_0 : decode prog_62_method_2_code 0 = .ok (.aload_n 0, 1) := by decide +kernel
theorem d12_1 : decode prog_62_method_2_code 1 = .ok (.getfield 10, 3) := by decide +kernel
theorem d12_4 : decode prog_62_method_2_code 4 = .ok (.invokeinterface 67 1, 5) := by decide +kernel
theorem d12_9 : decode prog_62_method_2_code 9 = .ok (.ireturn, 1) := by decide +kernel
theorem d11_0 : decode prog_62_method_18_code 0 = .ok (.dload_n 2, 1) := by decide +kernel
theorem d11_1 : decode prog_62_method_18_code 1 = .ok (.aload_n 0, 1) := by decide +kernel
theorem d11_2 : decode prog_62_method_18_code 2 = .ok (.getfield 46, 3) := by decide +kernel
theorem d11_5 : decode prog_62_method_18_code 5 = .ok (.iload_n 1, 1) := by decide +kernel
theorem d11_6 : decode prog_62_method_18_code 6 = .ok (.daload, 1) := by decide +kernel
theorem d11_7 : decode prog_62_method_18_code 7 = .ok (.dsub, 1) := by decide +kernel
theorem d11_8 : decode prog_62_method_18_code 8 = .ok (.dstore 4, 2) := by decide +kernel
theorem d11_10 : decode prog_62_method_18_code 10 = .ok (.aload_n 0, 1) := by decide +kernel
theorem d11_11 : decode prog_62_method_18_code 11 = .ok (.getfield 46, 3) := by decide +kernel
theorem d11_14 : decode prog_62_method_18_code 14 = .ok (.iload_n 1, 1) := by decide +kernel
theorem d11_15 : decode prog_62_method_18_code 15 = .ok (.dload_n 2, 1) := by decide +kernel
theorem d11_16 : decode prog_62_method_18_code 16 = .ok (.dastore, 1) := by decide +kernel
theorem d11_17 : decode prog_62_method_18_code 17 = .ok (.dload 4, 2) := by decide +kernel
theorem d11_19 : decode prog_62_method_18_code 19 = .ok (.dconst 0, 1) := by decide +kernel
theorem d11_20 : decode prog_62_method_18_code 20 = .ok (.dcmp .l, 1) := by decide +kernel
theorem d11_21 : decode prog_62_method_18_code 21 = .ok (.ifCond .eq 10, 3) := by decide +kernel
theorem d11_31 : decode prog_62_method_18_code 31 = .ok (.return_, 1) := by decide +kernel
theorem d11_24 : decode prog_62_method_18_code 24 = .ok (.aload_n 0, 1) := by decide +kernel
theorem d11_25 : decode prog_62_method_18_code 25 = .ok (.invokevirtual 79, 3) := by decide +kernel
theorem d11_28 : decode prog_62_method_18_code 28 = .ok (.ifCond .ne 4, 3) := by decide +kernel
theorem d10_0 : decode prog_62_method_7_code 0 = .ok (.aload_n 0, 1) := by decide +kernel
theorem d10_1 : decode prog_62_method_7_code 1 = .ok (.getfield 40, 3) := by decide +kernel
theorem d10_4 : decode prog_62_method_7_code 4 = .ok (.iload_n 1, 1) := by decide +kernel
theorem d10_5 : decode prog_62_method_7_code 5 = .ok (.dload_n 2, 1) := by decide +kernel
theorem d10_6 : decode prog_62_method_7_code 6 = .ok (.dastore, 1) := by decide +kernel
theorem d10_7 : decode prog_62_method_7_code 7 = .ok (.aload_n 0, 1) := by decide +kernel
theorem d10_8 : decode prog_62_method_7_code 8 = .ok (.getfield 43, 3) := by decide +kernel
theorem d10_11 : decode prog_62_method_7_code 11 = .ok (.iload_n 1, 1) := by decide +kernel
theorem d10_12 : decode prog_62_method_7_code 12 = .ok (.dload 4, 2) := by decide +kernel
theorem d10_14 : decode prog_62_method_7_code 14 = .ok (.dastore, 1) := by decide +kernel
theorem d10_15 : decode prog_62_method_7_code 15 = .ok (.aload_n 0, 1) := by decide +kernel
theorem d10_16 : decode prog_62_method_7_code 16 = .ok (.getfield 49, 3) := by decide +kernel
theorem d10_19 : decode prog_62_method_7_code 19 = .ok (.iload_n 1, 1) := by decide +kernel
theorem d10_20 : decode prog_62_method_7_code 20 = .ok (.iaload, 1) := by decide +kernel
theorem d10_21 : decode prog_62_method_7_code 21 = .ok (.ifCond .ne 4, 3) := by decide +kernel
theorem d10_25 : decode prog_62_method_7_code 25 = .ok (.aload_n 0, 1) := by decide +kernel
theorem d10_26 : decode prog_62_method_7_code 26 = .ok (.getfield 52, 3) := by decide +kernel
theorem d10_29 : decode prog_62_method_7_code 29 = .ok (.iload_n 1, 1) := by decide +kernel
theorem d10_30 : decode prog_62_method_7_code 30 = .ok (.daload, 1) := by decide +kernel
theorem d10_31 : decode prog_62_method_7_code 31 = .ok (.dconst 0, 1) := by decide +kernel
theorem d10_32 : decode prog_62_method_7_code 32 = .ok (.dcmp .l, 1) := by decide +kernel
theorem d10_33 : decode prog_62_method_7_code 33 = .ok (.ifCond .gt 24, 3) := by decide +kernel
theorem d10_57 : decode prog_62_method_7_code 57 = .ok (.iconst 1, 1) := by decide +kernel
theorem d10_58 : decode prog_62_method_7_code 58 = .ok (.goto 4, 3) := by decide +kernel
theorem d10_36 : decode prog_62_method_7_code 36 = .ok (.aload_n 0, 1) := by decide +kernel
theorem d10_37 : decode prog_62_method_7_code 37 = .ok (.getfield 52, 3) := by decide +kernel
theorem d10_40 : decode prog_62_method_7_code 40 = .ok (.iload_n 1, 1) := by decide +kernel
theorem d10_41 : decode prog_62_method_7_code 41 = .ok (.daload, 1) := by decide +kernel
theorem d10_42 : decode prog_62_method_7_code 42 = .ok (.dconst 0, 1) := by decide +kernel
theorem d10_43 : decode prog_62_method_7_code 43 = .ok (.dcmp .l, 1) := by decide +kernel
theorem d10_44 : decode prog_62_method_7_code 44 = .ok (.ifCond .ne 17, 3) := by decide +kernel
theorem d10_47 : decode prog_62_method_7_code 47 = .ok (.aload_n 0, 1) := by decide +kernel
theorem d10_48 : decode prog_62_method_7_code 48 = .ok (.getfield 49, 3) := by decide +kernel
theorem d10_51 : decode prog_62_method_7_code 51 = .ok (.iload_n 1, 1) := by decide +kernel
theorem d10_52 : decode prog_62_method_7_code 52 = .ok (.iaload, 1) := by decide +kernel
theorem d10_53 : decode prog_62_method_7_code 53 = .ok (.iconst 2, 1) := by decide +kernel
theorem d10_54 : decode prog_62_method_7_code 54 = .ok (.if_icmp .ne 7, 3) := by decide +kernel
theorem d10_61 : decode prog_62_method_7_code 61 = .ok (.iconst 0, 1) := by decide +kernel
theorem d10_62 : decode prog_62_method_7_code 62 = .ok (.istore 6, 2) := by decide +kernel
theorem d10_64 : decode prog_62_method_7_code 64 = .ok (.aload_n 0, 1) := by decide +kernel
theorem d10_65 : decode prog_62_method_7_code 65 = .ok (.getfield 49, 3) := by decide +kernel
theorem d10_68 : decode prog_62_method_7_code 68 = .ok (.iload_n 1, 1) := by decide +kernel
theorem d10_69 : decode prog_62_method_7_code 69 = .ok (.iload 6, 2) := by decide +kernel
theorem d10_71 : decode prog_62_method_7_code 71 = .ok (.ifCond .eq 7, 3) := by decide +kernel
theorem d10_78 : decode prog_62_method_7_code 78 = .ok (.iconst 1, 1) := by decide +kernel
theorem d10_74 : decode prog_62_method_7_code 74 = .ok (.iconst 2, 1) := by decide +kernel
theorem d10_75 : decode prog_62_method_7_code 75 = .ok (.goto 4, 3) := by decide +kernel
theorem d10_79 : decode prog_62_method_7_code 79 = .ok (.iastore, 1) := by decide +kernel
theorem d10_80 : decode prog_62_method_7_code 80 = .ok (.aload_n 0, 1) := by decide +kernel
theorem d10_81 : decode prog_62_method_7_code 81 = .ok (.iload_n 1, 1) := by decide +kernel
theorem d10_82 : decode prog_62_method_7_code 82 = .ok (.iload 6, 2) := by decide +kernel
theorem d10_84 : decode prog_62_method_7_code 84 = .ok (.ifCond .eq 8, 3) := by decide +kernel
theorem d10_92 : decode prog_62_method_7_code 92 = .ok (.dload_n 2, 1) := by decide +kernel
theorem d10_87 : decode prog_62_method_7_code 87 = .ok (.dload 4, 2) := by decide +kernel
theorem d10_89 : decode prog_62_method_7_code 89 = .ok (.goto 4, 3) := by decide +kernel
theorem d10_93 : decode prog_62_method_7_code 93 = .ok (.invokevirtual 145, 3) := by decide +kernel
theorem d10_96 : decode prog_62_method_7_code 96 = .ok (.return_, 1) := by decide +kernel
theorem d15_0 : decode prog_62_method_9_code 0 = .ok (.dconst 0, 1) := by decide +kernel
theorem d15_1 : decode prog_62_method_9_code 1 = .ok (.dstore_n 1, 1) := by decide +kernel
theorem d15_2 : decode prog_62_method_9_code 2 = .ok (.iconst 0, 1) := by decide +kernel
theorem d15_3 : decode prog_62_method_9_code 3 = .ok (.istore_n 3, 1) := by decide +kernel
theorem d15_4 : decode prog_62_method_9_code 4 = .ok (.iload_n 3, 1) := by decide +kernel
theorem d15_5 : decode prog_62_method_9_code 5 = .ok (.aload_n 0, 1) := by decide +kernel
theorem d15_6 : decode prog_62_method_9_code 6 = .ok (.getfield 29, 3) := by decide +kernel
theorem d15_9 : decode prog_62_method_9_code 9 = .ok (.if_icmp .ge 25, 3) := by decide +kernel
theorem d15_12 : decode prog_62_method_9_code 12 = .ok (.dload_n 1, 1) := by decide +kernel
theorem d15_13 : decode prog_62_method_9_code 13 = .ok (.aload_n 0, 1) := by decide +kernel
theorem d15_14 : decode prog_62_method_9_code 14 = .ok (.getfield 37, 3) := by decide +kernel
theorem d15_17 : decode prog_62_method_9_code 17 = .ok (.iload_n 3, 1) := by decide +kernel
theorem d15_18 : decode prog_62_method_9_code 18 = .ok (.daload, 1) := by decide +kernel
theorem d15_19 : decode prog_62_method_9_code 19 = .ok (.aload_n 0, 1) := by decide +kernel
theorem d15_20 : decode prog_62_method_9_code 20 = .ok (.getfield 46, 3) := by decide +kernel
theorem d15_23 : decode prog_62_method_9_code 23 = .ok (.iload_n 3, 1) := by decide +kernel
theorem d15_24 : decode prog_62_method_9_code 24 = .ok (.daload, 1) := by decide +kernel
theorem d15_25 : decode prog_62_method_9_code 25 = .ok (.dmul, 1) := by decide +kernel
theorem d15_26 : decode prog_62_method_9_code 26 = .ok (.dadd, 1) := by decide +kernel
theorem d15_27 : decode prog_62_method_9_code 27 = .ok (.dstore_n 1, 1) := by decide +kernel
theorem d15_28 : decode prog_62_method_9_code 28 = .ok (.iinc 3 1, 3) := by decide +kernel
theorem d15_31 : decode prog_62_method_9_code 31 = .ok (.goto (-27), 3) := by decide +kernel
theorem d15_34 : decode prog_62_method_9_code 34 = .ok (.dload_n 1, 1) := by decide +kernel
theorem d15_35 : decode prog_62_method_9_code 35 = .ok (.dreturn, 1) := by decide +kernel
theorem d14_0 : decode method_3_code 0 = .ok (.iload_n 1, 1) := by decide +kernel
theorem d14_1 : decode method_3_code 1 = .ok (.ifCond .eq 15, 3) := by decide +kernel
theorem d14_16 : decode method_3_code 16 = .ok (.iload_n 0, 1) := by decide +kernel
theorem d14_17 : decode method_3_code 17 = .ok (.ifCond .le 7, 3) := by decide +kernel
theorem d14_20 : decode method_3_code 20 = .ok (.lconst 1, 1) := by decide +kernel
theorem d14_21 : decode method_3_code 21 = .ok (.goto 4, 3) := by decide +kernel
theorem d14_25 : decode method_3_code 25 = .ok (.lreturn, 1) := by decide +kernel
theorem d14_24 : decode method_3_code 24 = .ok (.lconst 0, 1) := by decide +kernel
theorem d14_4 : decode method_3_code 4 = .ok (.iload_n 0, 1) := by decide +kernel
theorem d14_5 : decode method_3_code 5 = .ok (.ifCond .le 8, 3) := by decide +kernel
theorem d14_8 : decode method_3_code 8 = .ok (.iload_n 3, 1) := by decide +kernel
theorem d14_9 : decode method_3_code 9 = .ok (.i2l, 1) := by decide +kernel
theorem d14_10 : decode method_3_code 10 = .ok (.goto 5, 3) := by decide +kernel
theorem d14_15 : decode method_3_code 15 = .ok (.lreturn, 1) := by decide +kernel
theorem d14_13 : decode method_3_code 13 = .ok (.iload_n 2, 1) := by decide +kernel
theorem d14_14 : decode method_3_code 14 = .ok (.i2l, 1) := by decide +kernel
theorem pn_0 : plainName "java/util/AbstractCollection" = true := by first | (simp [plainName, overriddenIn]; done) | decide +kernel
theorem pn_1 : plainName "java/util/AbstractList" = true := by first | (simp [plainName, overriddenIn]; done) | decide +kernel
theorem pn_2 : plainName "java/util/ArrayList" = true := by first | (simp [plainName, overriddenIn]; done) | decide +kernel
theorem pn_3 : plainName "java/util/Arrays" = true := by first | (simp [plainName, overriddenIn]; done) | decide +kernel
theorem pn_4 : plainName "com/example/regolo/regolo/engine/Relaxation" = true := by first | (simp [plainName, overriddenIn]; done) | decide +kernel
theorem pn_5 : plainName "com/example/regolo/regolo/engine/RelaxationObjectivePinLaw" = true := by first | (simp [plainName, overriddenIn]; done) | decide +kernel
theorem pd_0 : parseMethodDescriptor "()V" = some ⟨[], none⟩ := by decide +kernel
theorem pd_1 : parseMethodDescriptor "([DD)V" = some ⟨[(.array .double), .double], none⟩ := by decide +kernel
theorem pd_2 : parseMethodDescriptor "([II)V" = some ⟨[(.array .int), .int], none⟩ := by decide +kernel
theorem pd_3 : parseMethodDescriptor "()I" = some ⟨[], some .int⟩ := by decide +kernel
theorem pd_4 : parseMethodDescriptor "(ID)V" = some ⟨[.int, .double], none⟩ := by decide +kernel
theorem pd_5 : parseMethodDescriptor "(II)I" = some ⟨[.int, .int], some .int⟩ := by decide +kernel
theorem pd_6 : parseMethodDescriptor "([D)V" = some ⟨[(.array .double)], none⟩ := by decide +kernel
theorem pd_7 : parseMethodDescriptor "(IDD)V" = some ⟨[.int, .double, .double], none⟩ := by decide +kernel
theorem pd_8 : parseMethodDescriptor "(IZII)J" = some ⟨[.int, .boolean, .int, .int], some .long⟩ := by decide +kernel
theorem pd_9 : parseMethodDescriptor "()D" = some ⟨[], some .double⟩ := by decide +kernel
def QMin (Z : State) (p1 : Int32) (p2 : Int32) (h0 : Heap) (n0 : Nat) (v : Option Value) (h : Heap) (L : List Loc) : Prop := v = some (.int (fMin p1 p2)) ∧ Fr n0 L ∧ h = h0
theorem ef_Min (m : MethodId) (p1 : Int32) (p2 : Int32) : entryFrame m #[(.int p1), (.int p2)] 2 = mkF m 0 #[.val (.int p1), .val (.int p2)] [] := by first | (simp [entryFrame, mkF, argsToLocals, Value.category]; done) | rfl
set_option maxRecDepth 65536 in
set_option maxHeartbeats 40000000 in
theorem rmMin (l : Launch) (Z : State) (a0 : Array Value) (hw : ∀ d ∈ tables_1, d.before a0 Z = true) (ws : List Jvm.Cond) (p1 : Int32) (p2 : Int32) (h0 : Heap) (n0 : Nat) (Zs : n0 ≤ h0.size)  :
    MetFree l (⟨"java/lang/Math", "min", "(II)I"⟩ : MethodName) (head1 (Jvm.Cond.code (⟨"java/lang/Math", "min", "(II)I"⟩ : MethodName) jdk_29_method_69_code 2 (some .int) :: ws) ({ frames := 0, cells := 0, slots := 0, locals := 0 } : Room)) (fun a U => a = #[(.int p1), (.int p2)] ∧ Z.Warmed39 U.vm ∧ U.heap = h0) (fun _ _ _ _ _ => True) (fun _ U o U' => ∃ v L, o = .returned v ∧ QMin Z p1 p2 h0 n0 v U'.heap L ∧ FrameEnd U o U' L ({ frames := 0, cells := 0, slots := 0, locals := 0 } : Room).cells ({ frames := 0, cells := 0, slots := 0, locals := 0 } : Room).slots) := by
  refine MetFree.of_bodySF (Jvm.Free.JP.mathPlain rfl (by decide +kernel)) hisR ?_
  intro p e s m args below meth c s₁ Bd hml0 hP hK
  obtain ⟨rfl, hZ, hh⟩ := hP
  have hx := Bd.exec
  have hby := Bd.bytes
  have hml : c.maxLocals = 2 := hml0
  have hown : s.vm.findClass "java/lang/Math" = some m.cls := findClass_of_methodNamed Bd.named
  have hnm := (name_of_methodNamed Bd.named Bd.method).1
  have X0 : Stand p l e ({ frames := 0, cells := 0, slots := 0, locals := 0 } : Room) s m #[(.int p1), (.int p2)] below meth c s₁ [] 0 0 := Stand.of_body Bd
  have e0 : s₁.heap = h0 := by rw [← hh, Bd.state]; rfl
  have N0 := Fr.nil n0
  have pre0 : ∀ t, Steps p.tables e below (s₁.setTop (mkF m 0 #[.val (.int p1), .val (.int p2)] [])) t → Steps p.tables e below (s₁.setTop (entryFrame m #[(.int p1), (.int p2)] 2)) t := fun t k => castTop (ef_Min m p1 p2) k
  have pre1 : ∀ t, Steps p.tables e below (s₁.setTop (mkF m 2 #[.val (.int p1), .val (.int p2)] [(.int p2), (.int p1)])) t → Steps p.tables e below (s₁.setTop (entryFrame m #[(.int p1), (.int p2)] 2)) t := fun t k => pre0 t (by
    show Steps p.tables e below (s₁.setTop (mkF m 0 #[.val (.int p1), .val (.int p2)] [])) _
    refine XS.iloadN X0.here hx rfl (hb hby d1_0) rfl ?_
    show Steps p.tables e below (s₁.setTop (mkF m 1 #[.val (.int p1), .val (.int p2)] [(.int p1)])) _
    refine XS.iloadN X0.here hx rfl (hb hby d1_1) rfl ?_
    exact k)
  by_cases hc2 : p2 < p1
  ·
    obtain ⟨fs, hr, hrun, hended, hW, hsame⟩ := X0.leave (v := some (.int p2)) (fun h => by rw [Bd.returns] at h; cases h)
    refine ⟨_, _, pre1 _ ?_, hrun, hended, _, _, rfl, ?_, ⟨_, rfl⟩, hW, hsame.mono (by decide) (by decide)⟩
    · show Steps p.tables e below (s₁.setTop (mkF m 2 #[.val (.int p1), .val (.int p2)] [(.int p2), (.int p1)])) _
      refine XS.icmpYes X0.here hx rfl (pc0 := 2) (pc' := 9) rfl (hb hby d1_2) rfl (tlt hc2).2.2.1 (by decide) (by decide) ?_
      show Steps p.tables e below (s₁.setTop (mkF m 9 #[.val (.int p1), .val (.int p2)] [])) _
      refine XS.iloadN X0.here hx rfl (hb hby d1_9) rfl ?_
      show Steps p.tables e below (s₁.setTop (mkF m 10 #[.val (.int p1), .val (.int p2)] [(.int p2)])) _
      exact retI X0 hx Bd.returns (hb hby d1_10) hr
    · show QMin Z p1 p2 h0 n0 _ s₁.heap _
      rw [e0]
      exact ⟨congrArg some (congrArg Value.int (show p2 = (fMin p1 p2) from by rw [fMin, if_pos hc2])), N0, rfl⟩
  ·
    obtain ⟨fs, hr, hrun, hended, hW, hsame⟩ := X0.leave (v := some (.int p1)) (fun h => by rw [Bd.returns] at h; cases h)
    refine ⟨_, _, pre1 _ ?_, hrun, hended, _, _, rfl, ?_, ⟨_, rfl⟩, hW, hsame.mono (by decide) (by decide)⟩
    · show Steps p.tables e below (s₁.setTop (mkF m 2 #[.val (.int p1), .val (.int p2)] [(.int p2), (.int p1)])) _
      refine XS.icmpNo X0.here hx rfl (hb hby d1_2) rfl (flt hc2).2.2.1 ?_
      show Steps p.tables e below (s₁.setTop (mkF m 5 #[.val (.int p1), .val (.int p2)] [])) _
      refine XS.iloadN X0.here hx rfl (hb hby d1_5) rfl ?_
      show Steps p.tables e below (s₁.setTop (mkF m 6 #[.val (.int p1), .val (.int p2)] [(.int p1)])) _
      refine XS.goto X0.here hx rfl (pc0 := 6) (pc' := 10) rfl (hb hby d1_6) (by decide) (by decide) ?_
      show Steps p.tables e below (s₁.setTop (mkF m 10 #[.val (.int p1), .val (.int p2)] [(.int p1)])) _
      exact retI X0 hx Bd.returns (hb hby d1_10) hr
    · show QMin Z p1 p2 h0 n0 _ s₁.heap _
      rw [e0]
      exact ⟨congrArg some (congrArg Value.int (show p1 = (fMin p1 p2) from by rw [fMin, if_neg hc2])), N0, rfl⟩
def QMax (Z : State) (p1 : Int32) (p2 : Int32) (h0 : Heap) (n0 : Nat) (v : Option Value) (h : Heap) (L : List Loc) : Prop := v = some (.int (fMax p1 p2)) ∧ Fr n0 L ∧ h = h0
theorem ef_Max (m : MethodId) (p1 : Int32) (p2 : Int32) : entryFrame m #[(.int p1), (.int p2)] 2 = mkF m 0 #[.val (.int p1), .val (.int p2)] [] := by first | (simp [entryFrame, mkF, argsToLocals, Value.category]; done) | rfl
set_option maxRecDepth 65536 in
set_option maxHeartbeats 40000000 in
theorem rmMax (l : Launch) (Z : State) (a0 : Array Value) (hw : ∀ d ∈ tables_1, d.before a0 Z = true) (ws : List Jvm.Cond) (p1 : Int32) (p2 : Int32) (h0 : Heap) (n0 : Nat) (Zs : n0 ≤ h0.size)  :
    MetFree l (⟨"java/lang/Math", "max", "(II)I"⟩ : MethodName) (head1 (Jvm.Cond.code (⟨"java/lang/Math", "max", "(II)I"⟩ : MethodName) jdk_29_method_65_code 2 (some .int) :: ws) ({ frames := 0, cells := 0, slots := 0, locals := 0 } : Room)) (fun a U => a = #[(.int p1), (.int p2)] ∧ Z.Warmed39 U.vm ∧ U.heap = h0) (fun _ _ _ _ _ => True) (fun _ U o U' => ∃ v L, o = .returned v ∧ QMax Z p1 p2 h0 n0 v U'.heap L ∧ FrameEnd U o U' L ({ frames := 0, cells := 0, slots := 0, locals := 0 } : Room).cells ({ frames := 0, cells := 0, slots := 0, locals := 0 } : Room).slots) := by
  refine MetFree.of_bodySF (Jvm.Free.JP.mathPlain rfl (by decide +kernel)) hisR ?_
  intro p e s m args below meth c s₁ Bd hml0 hP hK
  obtain ⟨rfl, hZ, hh⟩ := hP
  have hx := Bd.exec
  have hby := Bd.bytes
  have hml : c.maxLocals = 2 := hml0
  have hown : s.vm.findClass "java/lang/Math" = some m.cls := findClass_of_methodNamed Bd.named
  have hnm := (name_of_methodNamed Bd.named Bd.method).1
  have X0 : Stand p l e ({ frames := 0, cells := 0, slots := 0, locals := 0 } : Room) s m #[(.int p1), (.int p2)] below meth c s₁ [] 0 0 := Stand.of_body Bd
  have e0 : s₁.heap = h0 := by rw [← hh, Bd.state]; rfl
  have N0 := Fr.nil n0
  have pre0 : ∀ t, Steps p.tables e below (s₁.setTop (mkF m 0 #[.val (.int p1), .val (.int p2)] [])) t → Steps p.tables e below (s₁.setTop (entryFrame m #[(.int p1), (.int p2)] 2)) t := fun t k => castTop (ef_Max m p1 p2) k
  have pre2 : ∀ t, Steps p.tables e below (s₁.setTop (mkF m 2 #[.val (.int p1), .val (.int p2)] [(.int p2), (.int p1)])) t → Steps p.tables e below (s₁.setTop (entryFrame m #[(.int p1), (.int p2)] 2)) t := fun t k => pre0 t (by
    show Steps p.tables e below (s₁.setTop (mkF m 0 #[.val (.int p1), .val (.int p2)] [])) _
    refine XS.iloadN X0.here hx rfl (hb hby d2_0) rfl ?_
    show Steps p.tables e below (s₁.setTop (mkF m 1 #[.val (.int p1), .val (.int p2)] [(.int p1)])) _
    refine XS.iloadN X0.here hx rfl (hb hby d2_1) rfl ?_
    exact k)
  by_cases hc2 : p1 < p2
  ·
    obtain ⟨fs, hr, hrun, hended, hW, hsame⟩ := X0.leave (v := some (.int p2)) (fun h => by rw [Bd.returns] at h; cases h)
    refine ⟨_, _, pre2 _ ?_, hrun, hended, _, _, rfl, ?_, ⟨_, rfl⟩, hW, hsame.mono (by decide) (by decide)⟩
    · show Steps p.tables e below (s₁.setTop (mkF m 2 #[.val (.int p1), .val (.int p2)] [(.int p2), (.int p1)])) _
      refine XS.icmpYes X0.here hx rfl (pc0 := 2) (pc' := 9) rfl (hb hby d2_2) rfl (tlt hc2).1 (by decide) (by decide) ?_
      show Steps p.tables e below (s₁.setTop (mkF m 9 #[.val (.int p1), .val (.int p2)] [])) _
      refine XS.iloadN X0.here hx rfl (hb hby d2_9) rfl ?_
      show Steps p.tables e below (s₁.setTop (mkF m 10 #[.val (.int p1), .val (.int p2)] [(.int p2)])) _
      exact retI X0 hx Bd.returns (hb hby d2_10) hr
    · show QMax Z p1 p2 h0 n0 _ s₁.heap _
      rw [e0]
      exact ⟨congrArg some (congrArg Value.int (show p2 = (fMax p1 p2) from by rw [fMax, if_pos hc2])), N0, rfl⟩
  ·
    obtain ⟨fs, hr, hrun, hended, hW, hsame⟩ := X0.leave (v := some (.int p1)) (fun h => by rw [Bd.returns] at h; cases h)
    refine ⟨_, _, pre2 _ ?_, hrun, hended, _, _, rfl, ?_, ⟨_, rfl⟩, hW, hsame.mono (by decide) (by decide)⟩
    · show Steps p.tables e below (s₁.setTop (mkF m 2 #[.val (.int p1), .val (.int p2)] [(.int p2), (.int p1)])) _
      refine XS.icmpNo X0.here hx rfl (hb hby d2_2) rfl (flt hc2).1 ?_
      show Steps p.tables e below (s₁.setTop (mkF m 5 #[.val (.int p1), .val (.int p2)] [])) _
      refine XS.iloadN X0.here hx rfl (hb hby d2_5) rfl ?_
      show Steps p.tables e below (s₁.setTop (mkF m 6 #[.val (.int p1), .val (.int p2)] [(.int p1)])) _
      refine XS.goto X0.here hx rfl (pc0 := 6) (pc' := 10) rfl (hb hby d2_6) (by decide) (by decide) ?_
      show Steps p.tables e below (s₁.setTop (mkF m 10 #[.val (.int p1), .val (.int p2)] [(.int p1)])) _
      exact retI X0 hx Bd.returns (hb hby d2_10) hr
    · show QMax Z p1 p2 h0 n0 _ s₁.heap _
      rw [e0]
      exact ⟨congrArg some (congrArg Value.int (show p1 = (fMax p1 p2) from by rw [fMax, if_neg hc2])), N0, rfl⟩
def QAC (Z : State) (a1 : Addr) (h0 : Heap) (n0 : Nat) (v : Option Value) (h : Heap) (L : List Loc) : Prop := v = none ∧ Fr n0 L ∧ h = h0
theorem ef_AC (m : MethodId) (a1 : Addr) : entryFrame m #[(.ref a1)] 1 = mkF m 0 #[.val (.ref a1)] [] := by first | (simp [entryFrame, mkF, argsToLocals, Value.category]; done) | rfl
set_option maxRecDepth 65536 in
set_option maxHeartbeats 40000000 in
theorem rmAC (l : Launch) (Z : State) (a0 : Array Value) (hw : ∀ d ∈ tables_1, d.before a0 Z = true) (ws : List Jvm.Cond) (a1 : Addr) (h0 : Heap) (n0 : Nat) (Zs : n0 ≤ h0.size)  :
    MetFree l (⟨"java/util/AbstractCollection", "<init>", "()V"⟩ : MethodName) (head1 (Jvm.Cond.code (⟨"java/util/AbstractCollection", "<init>", "()V"⟩ : MethodName) jdk_22_method_1_code 1 none :: ws) ({ frames := 1, cells := 0, slots := 0, locals := 12 } : Room)) (fun a U => a = #[(.ref a1)] ∧ Z.Warmed39 U.vm ∧ U.heap = h0) (fun _ _ _ _ _ => True) (fun _ U o U' => ∃ v L, o = .returned v ∧ QAC Z a1 h0 n0 v U'.heap L ∧ FrameEnd U o U' L ({ frames := 1, cells := 0, slots := 0, locals := 12 } : Room).cells ({ frames := 1, cells := 0, slots := 0, locals := 12 } : Room).slots) := by
  refine MetFree.of_bodySF (plainFor_of_name pn_0) hisR ?_
  intro p e s m args below meth c s₁ Bd hml0 hP hK
  obtain ⟨rfl, hZ, hh⟩ := hP
  have hx := Bd.exec
  have hby := Bd.bytes
  have hml : c.maxLocals = 1 := hml0
  have hown : s.vm.findClass "java/util/AbstractCollection" = some m.cls := findClass_of_methodNamed Bd.named
  have hnm := (name_of_methodNamed Bd.named Bd.method).1
  have X0 : Stand p l e ({ frames := 1, cells := 0, slots := 0, locals := 12 } : Room) s m #[(.ref a1)] below meth c s₁ [] 0 0 := Stand.of_body Bd
  have e0 : s₁.heap = h0 := by rw [← hh, Bd.state]; rfl
  have N0 := Fr.nil n0
  have pre0 : ∀ t, Steps p.tables e below (s₁.setTop (mkF m 0 #[.val (.ref a1)] [])) t → Steps p.tables e below (s₁.setTop (entryFrame m #[(.ref a1)] 1)) t := fun t k => castTop (ef_AC m a1) k
  obtain ⟨T3, X3, e3, st3⟩ := initO X0 hx hZ hown (hw _ (List.mem_of_getElem? (i := 35) rfl)) (hw _ (List.mem_of_getElem? (i := 15) rfl)) (hw _ (List.mem_of_getElem? (i := 16) rfl)) e0 (g := (mkF m 1 #[.val (.ref a1)] [(.ref a1)])) rfl (by rw [hml]; rfl) rfl (hb hby d7_1) (by decide) (W := 0) (by show 2 * 0 + _ ≤ _; exact Nat.le_of_eq rfl) (by decide)
  obtain ⟨fs, hr, hrun, hended, hW, hsame⟩ := X3.leave (v := none) (fun _ => rfl)
  refine ⟨_, _, pre0 _ ?_, hrun, hended, _, _, rfl, ?_, ⟨_, rfl⟩, hW, hsame.mono (by decide) (by decide)⟩
  · show Steps p.tables e below (s₁.setTop (mkF m 0 #[.val (.ref a1)] [])) _
    refine XS.aloadN X0.here hx rfl (hb hby d7_0) rfl rfl ?_
    show Steps p.tables e below (s₁.setTop (mkF m 1 #[.val (.ref a1)] [(.ref a1)])) _
    refine st3 _ ?_
    show Steps p.tables e below (T3.setTop (mkF m 4 #[.val (.ref a1)] [])) _
    exact X3.returnOut hx Bd.returns (hb hby d7_4) hr
  · show QAC Z a1 h0 n0 _ T3.heap _
    rw [e3]
    exact ⟨rfl, N0, rfl⟩
def QABL (Z : State) (a1 : Addr) (u2 : Int32) (u3 : Int32) (h0 : Heap) (n0 : Nat) (v : Option Value) (h : Heap) (L : List Loc) : Prop := v = none ∧ Fr n0 L ∧ (Keep h0 h [a1]) ∧ (Fld Z h a1 "java/util/ArrayList" "elementData" "[Ljava/lang/Object;" .null) ∧ (Fld Z h a1 "java/util/ArrayList" "size" "I" (.int u2)) ∧ (Fld Z h a1 "java/util/AbstractList" "modCount" "I" (.int (0 : Int32)))
theorem ef_ABL (m : MethodId) (a1 : Addr) : entryFrame m #[(.ref a1)] 1 = mkF m 0 #[.val (.ref a1)] [] := by first | (simp [entryFrame, mkF, argsToLocals, Value.category]; done) | rfl
set_option maxRecDepth 65536 in
set_option maxHeartbeats 40000000 in
theorem rmABL (l : Launch) (Z : State) (a0 : Array Value) (hw : ∀ d ∈ tables_1, d.before a0 Z = true) (ws : List Jvm.Cond) (a1 : Addr) (u2 : Int32) (u3 : Int32) (h0 : Heap) (n0 : Nat) (Zs : n0 ≤ h0.size) (E_a1 : Exa Z h0 a1 "java/util/ArrayList") (F_elementData_a1 : Fld Z h0 a1 "java/util/ArrayList" "elementData" "[Ljava/lang/Object;" .null) (F_size_a1 : Fld Z h0 a1 "java/util/ArrayList" "size" "I" (.int u2)) (F_modCount_a1 : Fld Z h0 a1 "java/util/AbstractList" "modCount" "I" (.int u3)) (g_a1 : n0 ≤ a1) :
    MetFree l (⟨"java/util/AbstractList", "<init>", "()V"⟩ : MethodName) (head1 (Jvm.Cond.code (⟨"java/util/AbstractList", "<init>", "()V"⟩ : MethodName) jdk_39_method_1_code 1 none :: ws) ({ frames := 2, cells := 0, slots := 0, locals := 24 } : Room)) (fun a U => a = #[(.ref a1)] ∧ Z.Warmed39 U.vm ∧ U.heap = h0) (fun _ _ _ _ _ => True) (fun _ U o U' => ∃ v L, o = .returned v ∧ QABL Z a1 u2 u3 h0 n0 v U'.heap L ∧ FrameEnd U o U' L ({ frames := 2, cells := 0, slots := 0, locals := 24 } : Room).cells ({ frames := 2, cells := 0, slots := 0, locals := 24 } : Room).slots) := by
  refine MetFree.of_bodySF (plainFor_of_name pn_1) hisR ?_
  intro p e s m args below meth c s₁ Bd hml0 hP hK
  obtain ⟨rfl, hZ, hh⟩ := hP
  have hx := Bd.exec
  have hby := Bd.bytes
  have hml : c.maxLocals = 1 := hml0
  have hown : s.vm.findClass "java/util/AbstractList" = some m.cls := findClass_of_methodNamed Bd.named
  have hnm := (name_of_methodNamed Bd.named Bd.method).1
  have X0 : Stand p l e ({ frames := 2, cells := 0, slots := 0, locals := 24 } : Room) s m #[(.ref a1)] below meth c s₁ [] 0 0 := Stand.of_body Bd
  have e0 : s₁.heap = h0 := by rw [← hh, Bd.state]; rfl
  have N0 := Fr.nil n0
  have pre0 : ∀ t, Steps p.tables e below (s₁.setTop (mkF m 0 #[.val (.ref a1)] [])) t → Steps p.tables e below (s₁.setTop (entryFrame m #[(.ref a1)] 1)) t := fun t k => castTop (ef_ABL m a1) k
  have Kp : Keep h0 h0 [a1] := Keep.refl h0 [a1]
  obtain ⟨_, _, ⟨T4, L4, k4, n4⟩, -, X4, ⟨Lc4, hQ4, l4, y4, z4⟩, st4⟩ := X0.specialBack hx (y := (⟨"java/util/AbstractCollection", "<init>", "()V"⟩ : MethodName)) rfl hown (mvT hZ (hw _ (List.mem_of_getElem? (i := 29) rfl))) (mvT hZ (hw _ (List.mem_of_getElem? (i := 30) rfl))) (mvT hZ (hw _ (List.mem_of_getElem? (i := 34) rfl))) (by decide) (backOf (W := 0) (rmAC l Z a0 hw [] a1 h0 n0 Zs ) hZ (hw _ (List.mem_of_getElem? (i := 34) rfl)) (hw _ (List.mem_of_getElem? (i := 33) rfl)) (by decide) (by decide)) (g := (mkF m 1 #[.val (.ref a1)] [(.ref a1)])) rfl (by rw [hml]; rfl) (Steps.refl _) (a := a1) (argsL := []) (rest := []) (lenOf pd_0 rfl) rfl (by show 2 * 0 + _ ≤ _; exact Nat.le_of_eq rfl) (hb hby d6_1) (fun _ _ => ⟨rfl, e0, (by decide : 0 + 0 ≤ _), (by decide : 0 + 0 ≤ _)⟩)
  dsimp only [Pt.U, Pt.locs, Pt.cells, Pt.slots] at X4 l4 y4 z4 st4 hQ4
  subst l4 y4 z4
  obtain ⟨rfl, N4q, e4⟩ := hQ4
  have N4 := Fr.app N0 N4q
  obtain ⟨T5, h5, X5, e5, W5, st5⟩ := putF X4 hx hZ hown (host := "") (Or.inl (hw _ (List.mem_of_getElem? (i := 36) rfl))) Via.refl e4 F_modCount_a1 E_a1 (Or.inl (hw _ (List.mem_of_getElem? (i := 37) rfl))) (hw _ (List.mem_of_getElem? (i := 18) rfl)) (ty := .int) (by decide) rfl rfl (g := (mkF m 6 #[.val (.ref a1)] [(.int (0 : Int32)), (.ref a1)])) rfl rfl (hb hby d6_6)
  have N5 := Fr.snoc X5 N4 g_a1
  have Zs : n0 ≤ h5.size := Nat.le_trans Zs (Keep.of_wr W5).1
  have E_a1 : Exa Z h5 a1 "java/util/ArrayList" := E_a1.wr W5
  have F_elementData_a1 : Fld Z h5 a1 "java/util/ArrayList" "elementData" "[Ljava/lang/Object;" .null := F_elementData_a1.other W5 (Or.inr (slot_ne (Or.inl (hw _ (List.mem_of_getElem? (i := 40) rfl))) (Or.inl (hw _ (List.mem_of_getElem? (i := 37) rfl))) (by decide) (t := (.array (.object "java/lang/Object"))) (t' := .int) (by decide) (by decide)))
  have F_size_a1 : Fld Z h5 a1 "java/util/ArrayList" "size" "I" (.int u2) := F_size_a1.other W5 (Or.inr (slot_ne (Or.inl (hw _ (List.mem_of_getElem? (i := 107) rfl))) (Or.inl (hw _ (List.mem_of_getElem? (i := 37) rfl))) (by decide) (t := .int) (t' := .int) (by decide) (by decide)))
  have F_modCount_a1 : Fld Z h5 a1 "java/util/AbstractList" "modCount" "I" (.int (0 : Int32)) := F_modCount_a1.same W5
  have Kp : Keep h0 h5 [a1] := Kp.wr W5 (Or.inl (List.mem_of_getElem? (i := 0) rfl))
  obtain ⟨fs, hr, hrun, hended, hW, hsame⟩ := X5.leave (v := none) (fun _ => rfl)
  refine ⟨_, _, pre0 _ ?_, hrun, hended, _, _, rfl, ?_, ⟨_, rfl⟩, hW, hsame.mono (by decide) (by decide)⟩
  · show Steps p.tables e below (s₁.setTop (mkF m 0 #[.val (.ref a1)] [])) _
    refine XS.aloadN X0.here hx rfl (hb hby d6_0) rfl rfl ?_
    show Steps p.tables e below (s₁.setTop (mkF m 1 #[.val (.ref a1)] [(.ref a1)])) _
    refine st4.trans ?_
    show Steps p.tables e below (T4.setTop (mkF m 4 #[.val (.ref a1)] [])) _
    refine XS.aloadN X4.here hx rfl (hb hby d6_4) rfl rfl ?_
    show Steps p.tables e below (T4.setTop (mkF m 5 #[.val (.ref a1)] [(.ref a1)])) _
    refine XS.iconst X4.here hx rfl (hb hby d6_5) ?_
    show Steps p.tables e below (T4.setTop (mkF m 6 #[.val (.ref a1)] [(.int (0 : Int32)), (.ref a1)])) _
    refine st5 _ ?_
    show Steps p.tables e below (T5.setTop (mkF m 9 #[.val (.ref a1)] [])) _
    exact X5.returnOut hx Bd.returns (hb hby d6_9) hr
  · show QABL Z a1 u2 u3 h0 n0 _ T5.heap _
    rw [e5]
    exact ⟨rfl, N5, Kp, F_elementData_a1, F_size_a1, F_modCount_a1⟩
def QAL0 (Z : State) (a1 : Addr) (u2 : Int32) (u3 : Int32) (dd : Addr) (h0 : Heap) (n0 : Nat) (v : Option Value) (h : Heap) (L : List Loc) : Prop := v = none ∧ Fr n0 L ∧ (Keep h0 h [a1]) ∧ (Fld Z h a1 "java/util/ArrayList" "elementData" "[Ljava/lang/Object;" (.ref dd)) ∧ (Fld Z h a1 "java/util/ArrayList" "size" "I" (.int u2)) ∧ (Fld Z h a1 "java/util/AbstractList" "modCount" "I" (.int (0 : Int32)))
theorem ef_AL0 (m : MethodId) (a1 : Addr) : entryFrame m #[(.ref a1)] 1 = mkF m 0 #[.val (.ref a1)] [] := by first | (simp [entryFrame, mkF, argsToLocals, Value.category]; done) | rfl
set_option maxRecDepth 65536 in
set_option maxHeartbeats 40000000 in
theorem rmAL0 (l : Launch) (Z : State) (a0 : Array Value) (hw : ∀ d ∈ tables_1, d.before a0 Z = true) (ws : List Jvm.Cond) (a1 : Addr) (u2 : Int32) (u3 : Int32) (dd : Addr) (h0 : Heap) (n0 : Nat) (Zs : n0 ≤ h0.size) (E_a1 : Exa Z h0 a1 "java/util/ArrayList") (F_elementData_a1 : Fld Z h0 a1 "java/util/ArrayList" "elementData" "[Ljava/lang/Object;" .null) (F_size_a1 : Fld Z h0 a1 "java/util/ArrayList" "size" "I" (.int u2)) (F_modCount_a1 : Fld Z h0 a1 "java/util/AbstractList" "modCount" "I" (.int u3)) (g_a1 : n0 ≤ a1) (Ol : Old Z n0 h0) (S_DEFAULTCAPACITY_EMPTY_ELEMENTDATA : Sta Z Z.heap "java/util/ArrayList" "DEFAULTCAPACITY_EMPTY_ELEMENTDATA" "[Ljava/lang/Object;" (.ref dd)) :
    MetFree l (⟨"java/util/ArrayList", "<init>", "()V"⟩ : MethodName) (head1 (Jvm.Cond.code (⟨"java/util/ArrayList", "<init>", "()V"⟩ : MethodName) jdk_38_method_2_code 1 none :: ws) ({ frames := 3, cells := 0, slots := 0, locals := 36 } : Room)) (fun a U => a = #[(.ref a1)] ∧ Z.Warmed39 U.vm ∧ U.heap = h0) (fun _ _ _ _ _ => True) (fun _ U o U' => ∃ v L, o = .returned v ∧ QAL0 Z a1 u2 u3 dd h0 n0 v U'.heap L ∧ FrameEnd U o U' L ({ frames := 3, cells := 0, slots := 0, locals := 36 } : Room).cells ({ frames := 3, cells := 0, slots := 0, locals := 36 } : Room).slots) := by
  refine MetFree.of_bodySF (plainFor_of_name pn_2) hisR ?_
  intro p e s m args below meth c s₁ Bd hml0 hP hK
  obtain ⟨rfl, hZ, hh⟩ := hP
  have hx := Bd.exec
  have hby := Bd.bytes
  have hml : c.maxLocals = 1 := hml0
  have hown : s.vm.findClass "java/util/ArrayList" = some m.cls := findClass_of_methodNamed Bd.named
  have hnm := (name_of_methodNamed Bd.named Bd.method).1
  have X0 : Stand p l e ({ frames := 3, cells := 0, slots := 0, locals := 36 } : Room) s m #[(.ref a1)] below meth c s₁ [] 0 0 := Stand.of_body Bd
  have e0 : s₁.heap = h0 := by rw [← hh, Bd.state]; rfl
  have N0 := Fr.nil n0
  have pre0 : ∀ t, Steps p.tables e below (s₁.setTop (mkF m 0 #[.val (.ref a1)] [])) t → Steps p.tables e below (s₁.setTop (entryFrame m #[(.ref a1)] 1)) t := fun t k => castTop (ef_AL0 m a1) k
  have Kp : Keep h0 h0 [a1] := Keep.refl h0 [a1]
  obtain ⟨_, _, ⟨T6, L6, k6, n6⟩, -, X6, ⟨Lc6, hQ6, l6, y6, z6⟩, st6⟩ := X0.specialBack hx (y := (⟨"java/util/AbstractList", "<init>", "()V"⟩ : MethodName)) rfl hown (mvT hZ (hw _ (List.mem_of_getElem? (i := 23) rfl))) (mvT hZ (hw _ (List.mem_of_getElem? (i := 24) rfl))) (mvT hZ (hw _ (List.mem_of_getElem? (i := 28) rfl))) (by decide) (backOf (W := 0) (rmABL l Z a0 hw [] a1 u2 u3 h0 n0 Zs E_a1 F_elementData_a1 F_size_a1 F_modCount_a1 g_a1) hZ (hw _ (List.mem_of_getElem? (i := 28) rfl)) (hw _ (List.mem_of_getElem? (i := 27) rfl)) (by decide) (by decide)) (g := (mkF m 1 #[.val (.ref a1)] [(.ref a1)])) rfl (by rw [hml]; rfl) (Steps.refl _) (a := a1) (argsL := []) (rest := []) (lenOf pd_0 rfl) rfl (by show 2 * 0 + _ ≤ _; exact Nat.le_of_eq rfl) (hb hby d5_1) (fun _ _ => ⟨rfl, e0, (by decide : 0 + 0 ≤ _), (by decide : 0 + 0 ≤ _)⟩)
  dsimp only [Pt.U, Pt.locs, Pt.cells, Pt.slots] at X6 l6 y6 z6 st6 hQ6
  subst l6 y6 z6
  obtain ⟨rfl, N6q, K6, P6_1, P6_2, P6_3⟩ := hQ6
  have Zs : n0 ≤ T6.heap.size := Nat.le_trans Zs K6.1
  have E_a1 : Exa Z T6.heap a1 "java/util/ArrayList" := E_a1.keep K6
  have Ol : Old Z n0 T6.heap := Ol.keep K6 (allS g_a1 all0)
  have Kp : Keep h0 T6.heap [a1] := Kp.trans K6 (allS (Or.inl (List.mem_of_getElem? (i := 0) rfl)) all0)
  have F_elementData_a1 : Fld Z T6.heap a1 "java/util/ArrayList" "elementData" "[Ljava/lang/Object;" .null := P6_1
  have F_size_a1 : Fld Z T6.heap a1 "java/util/ArrayList" "size" "I" (.int u2) := P6_2
  have F_modCount_a1 : Fld Z T6.heap a1 "java/util/AbstractList" "modCount" "I" (.int (0 : Int32)) := P6_3
  have N6 := Fr.app N0 N6q
  obtain ⟨T7, X7, e7, st7⟩ := getS2 X6 hx hZ hown (host := "") (Or.inl (hw _ (List.mem_of_getElem? (i := 38) rfl))) Via.refl rfl (Sta.ext Ol.2 S_DEFAULTCAPACITY_EMPTY_ELEMENTDATA) (g := (mkF m 5 #[.val (.ref a1)] [(.ref a1)])) rfl (hb hby d5_5)
  obtain ⟨T8, h8, X8, e8, W8, st8⟩ := putF X7 hx hZ hown (host := "") (Or.inl (hw _ (List.mem_of_getElem? (i := 39) rfl))) Via.refl e7 F_elementData_a1 E_a1 (Or.inl (hw _ (List.mem_of_getElem? (i := 40) rfl))) (hw _ (List.mem_of_getElem? (i := 18) rfl)) (ty := (.array (.object "java/lang/Object"))) (by decide) rfl rfl (g := (mkF m 8 #[.val (.ref a1)] [(.ref dd), (.ref a1)])) rfl rfl (hb hby d5_8)
  have N8 := Fr.snoc X8 N6 g_a1
  have Zs : n0 ≤ h8.size := Nat.le_trans Zs (Keep.of_wr W8).1
  have E_a1 : Exa Z h8 a1 "java/util/ArrayList" := E_a1.wr W8
  have Ol : Old Z n0 h8 := Ol.wr W8 g_a1
  have Kp : Keep h0 h8 [a1] := Kp.wr W8 (Or.inl (List.mem_of_getElem? (i := 0) rfl))
  have F_elementData_a1 : Fld Z h8 a1 "java/util/ArrayList" "elementData" "[Ljava/lang/Object;" (.ref dd) := F_elementData_a1.same W8
  have F_size_a1 : Fld Z h8 a1 "java/util/ArrayList" "size" "I" (.int u2) := F_size_a1.other W8 (Or.inr (slot_ne (Or.inl (hw _ (List.mem_of_getElem? (i := 107) rfl))) (Or.inl (hw _ (List.mem_of_getElem? (i := 40) rfl))) (by decide) (t := .int) (t' := (.array (.object "java/lang/Object"))) (by decide) (by decide)))
  have F_modCount_a1 : Fld Z h8 a1 "java/util/AbstractList" "modCount" "I" (.int (0 : Int32)) := F_modCount_a1.other W8 (Or.inr (slot_ne (Or.inl (hw _ (List.mem_of_getElem? (i := 37) rfl))) (Or.inl (hw _ (List.mem_of_getElem? (i := 40) rfl))) (by decide) (t := .int) (t' := (.array (.object "java/lang/Object"))) (by decide) (by decide)))
  obtain ⟨fs, hr, hrun, hended, hW, hsame⟩ := X8.leave (v := none) (fun _ => rfl)
  refine ⟨_, _, pre0 _ ?_, hrun, hended, _, _, rfl, ?_, ⟨_, rfl⟩, hW, hsame.mono (by decide) (by decide)⟩
  · show Steps p.tables e below (s₁.setTop (mkF m 0 #[.val (.ref a1)] [])) _
    refine XS.aloadN X0.here hx rfl (hb hby d5_0) rfl rfl ?_
    show Steps p.tables e below (s₁.setTop (mkF m 1 #[.val (.ref a1)] [(.ref a1)])) _
    refine st6.trans ?_
    show Steps p.tables e below (T6.setTop (mkF m 4 #[.val (.ref a1)] [])) _
    refine XS.aloadN X6.here hx rfl (hb hby d5_4) rfl rfl ?_
    show Steps p.tables e below (T6.setTop (mkF m 5 #[.val (.ref a1)] [(.ref a1)])) _
    refine st7 _ ?_
    show Steps p.tables e below (T7.setTop (mkF m 8 #[.val (.ref a1)] [(.ref dd), (.ref a1)])) _
    refine st8 _ ?_
    show Steps p.tables e below (T8.setTop (mkF m 11 #[.val (.ref a1)] [])) _
    exact X8.returnOut hx Bd.returns (hb hby d5_11) hr
  · show QAL0 Z a1 u2 u3 dd h0 n0 _ T8.heap _
    rw [e8]
    exact ⟨rfl, N8, Kp, F_elementData_a1, F_size_a1, F_modCount_a1⟩
def QSZ (Z : State) (a1 : Addr) (h0 : Heap) (n0 : Nat) (v : Option Value) (h : Heap) (L : List Loc) : Prop := v = some (.int (0 : Int32)) ∧ Fr n0 L ∧ h = h0
theorem ef_SZ (m : MethodId) (a1 : Addr) : entryFrame m #[(.ref a1)] 1 = mkF m 0 #[.val (.ref a1)] [] := by first | (simp [entryFrame, mkF, argsToLocals, Value.category]; done) | rfl
set_option maxRecDepth 65536 in
set_option maxHeartbeats 40000000 in
theorem rmSZ (l : Launch) (Z : State) (a0 : Array Value) (hw : ∀ d ∈ tables_1, d.before a0 Z = true) (ws : List Jvm.Cond) (a1 : Addr) (h0 : Heap) (n0 : Nat) (Zs : n0 ≤ h0.size) (F_size_a1 : Fld Z h0 a1 "java/util/ArrayList" "size" "I" (.int (0 : Int32))) :
    MetFree l (⟨"java/util/ArrayList", "size", "()I"⟩ : MethodName) (head1 (Jvm.Cond.code (⟨"java/util/ArrayList", "size", "()I"⟩ : MethodName) jdk_38_method_8_code 1 (some .int) :: ws) ({ frames := 0, cells := 0, slots := 0, locals := 0 } : Room)) (fun a U => a = #[(.ref a1)] ∧ Z.Warmed39 U.vm ∧ U.heap = h0) (fun _ _ _ _ _ => True) (fun _ U o U' => ∃ v L, o = .returned v ∧ QSZ Z a1 h0 n0 v U'.heap L ∧ FrameEnd U o U' L ({ frames := 0, cells := 0, slots := 0, locals := 0 } : Room).cells ({ frames := 0, cells := 0, slots := 0, locals := 0 } : Room).slots) := by
  refine MetFree.of_bodySF (plainFor_of_name pn_2) hisR ?_
  intro p e s m args below meth c s₁ Bd hml0 hP hK
  obtain ⟨rfl, hZ, hh⟩ := hP
  have hx := Bd.exec
  have hby := Bd.bytes
  have hml : c.maxLocals = 1 := hml0
  have hown : s.vm.findClass "java/util/ArrayList" = some m.cls := findClass_of_methodNamed Bd.named
  have hnm := (name_of_methodNamed Bd.named Bd.method).1
  have X0 : Stand p l e ({ frames := 0, cells := 0, slots := 0, locals := 0 } : Room) s m #[(.ref a1)] below meth c s₁ [] 0 0 := Stand.of_body Bd
  have e0 : s₁.heap = h0 := by rw [← hh, Bd.state]; rfl
  have N0 := Fr.nil n0
  have pre0 : ∀ t, Steps p.tables e below (s₁.setTop (mkF m 0 #[.val (.ref a1)] [])) t → Steps p.tables e below (s₁.setTop (entryFrame m #[(.ref a1)] 1)) t := fun t k => castTop (ef_SZ m a1) k
  obtain ⟨T9, X9, e9, st9⟩ := getF X0 hx hZ hown (host := "") (Or.inl (hw _ (List.mem_of_getElem? (i := 106) rfl))) Via.refl e0 F_size_a1 (g := (mkF m 1 #[.val (.ref a1)] [(.ref a1)])) rfl rfl (hb hby d13_1)
  obtain ⟨fs, hr, hrun, hended, hW, hsame⟩ := X9.leave (v := some (.int (0 : Int32))) (fun h => by rw [Bd.returns] at h; cases h)
  refine ⟨_, _, pre0 _ ?_, hrun, hended, _, _, rfl, ?_, ⟨_, rfl⟩, hW, hsame.mono (by decide) (by decide)⟩
  · show Steps p.tables e below (s₁.setTop (mkF m 0 #[.val (.ref a1)] [])) _
    refine XS.aloadN X0.here hx rfl (hb hby d13_0) rfl rfl ?_
    show Steps p.tables e below (s₁.setTop (mkF m 1 #[.val (.ref a1)] [(.ref a1)])) _
    refine st9 _ ?_
    show Steps p.tables e below (T9.setTop (mkF m 4 #[.val (.ref a1)] [(.int (0 : Int32))])) _
    exact retI X9 hx Bd.returns (hb hby d13_4) hr
  · show QSZ Z a1 h0 n0 _ T9.heap _
    rw [e9]
    exact ⟨rfl, N0, rfl⟩
def QFD (Z : State) (a1 : Addr) (q2 : Int64) (f : Nat → Int64) (h0 : Heap) (n0 : Nat) (v : Option Value) (h : Heap) (L : List Loc) : Prop := v = none ∧ Fr n0 L ∧ (Keep h0 h [a1]) ∧ (ArD Z h a1 (3 : Int32) (upd (upd (upd f (0 : Int32).toNatClampNeg q2) (1 : Int32).toNatClampNeg q2) (2 : Int32).toNatClampNeg q2))
theorem ef_FD (m : MethodId) (a1 : Addr) (xd1 : UInt64) : entryFrame m #[(.ref a1), (.double xd1)] 5 = mkF m 0 #[.val (.ref a1), .val (.double xd1), .second, .unset, .unset] [] := by first | (simp [entryFrame, mkF, argsToLocals, Value.category]; done) | rfl
set_option maxRecDepth 65536 in
set_option maxHeartbeats 40000000 in
theorem rmFD (l : Launch) (Z : State) (a0 : Array Value) (hw : ∀ d ∈ tables_1, d.before a0 Z = true) (ws : List Jvm.Cond) (a1 : Addr) (q2 : Int64) (f : Nat → Int64) (h0 : Heap) (n0 : Nat) (Zs : n0 ≤ h0.size) (A_a1 : ArD Z h0 a1 (3 : Int32) f) (g_a1 : n0 ≤ a1) :
    MetFree l (⟨"java/util/Arrays", "fill", "([DD)V"⟩ : MethodName) (head1 (Jvm.Cond.code (⟨"java/util/Arrays", "fill", "([DD)V"⟩ : MethodName) jdk_65_method_113_code 5 none :: ws) ({ frames := 0, cells := 0, slots := 0, locals := 0 } : Room)) (fun a U => a = #[(.ref a1), (.double (FP.l2d q2))] ∧ Z.Warmed39 U.vm ∧ U.heap = h0) (fun _ _ _ _ _ => True) (fun _ U o U' => ∃ v L, o = .returned v ∧ QFD Z a1 q2 f h0 n0 v U'.heap L ∧ FrameEnd U o U' L ({ frames := 0, cells := 0, slots := 0, locals := 0 } : Room).cells ({ frames := 0, cells := 0, slots := 0, locals := 0 } : Room).slots) := by
  refine MetFree.of_bodySF (plainFor_of_name pn_3) hisR ?_
  intro p e s m args below meth c s₁ Bd hml0 hP hK
  obtain ⟨rfl, hZ, hh⟩ := hP
  have hx := Bd.exec
  have hby := Bd.bytes
  have hml : c.maxLocals = 5 := hml0
  have hown : s.vm.findClass "java/util/Arrays" = some m.cls := findClass_of_methodNamed Bd.named
  have hnm := (name_of_methodNamed Bd.named Bd.method).1
  have X0 : Stand p l e ({ frames := 0, cells := 0, slots := 0, locals := 0 } : Room) s m #[(.ref a1), (.double (FP.l2d q2))] below meth c s₁ [] 0 0 := Stand.of_body Bd
  have e0 : s₁.heap = h0 := by rw [← hh, Bd.state]; rfl
  have N0 := Fr.nil n0
  have pre0 : ∀ t, Steps p.tables e below (s₁.setTop (mkF m 0 #[.val (.ref a1), .val (.double (FP.l2d q2)), .second, .unset, .unset] [])) t → Steps p.tables e below (s₁.setTop (entryFrame m #[(.ref a1), (.double (FP.l2d q2))] 5)) t := fun t k => castTop (ef_FD m a1 (FP.l2d q2)) k
  have Kp : Keep h0 h0 [a1] := Keep.refl h0 [a1]
  obtain ⟨cl10, Ar10, hl10⟩ := ArD.len A_a1 (by decide)
  obtain ⟨cl11, Ar11, hs11, hin11, hat11⟩ := ArD.open (j := (0 : Int32)) A_a1 (by decide)
  obtain ⟨T12, h12, X12, e12, W12, st12⟩ := stD X0 hx hZ e0 Ar11 (j := (0 : Int32)) hin11 (g := (mkF m 15 #[.val (.ref a1), .val (.double (FP.l2d q2)), .second, .val (.int (0 : Int32)), .val (.int (3 : Int32))] [(.double (FP.l2d q2)), (.int (0 : Int32)), (.ref a1)])) rfl rfl (hb hby d8_15)
  have N12 := Fr.snoc X12 N0 g_a1
  have Zs : n0 ≤ h12.size := Nat.le_trans Zs (Keep.of_wr W12).1
  have Kp : Keep h0 h12 [a1] := Kp.wr W12 (Or.inl (List.mem_of_getElem? (i := 0) rfl))
  have A_a1 : ArD Z h12 a1 (3 : Int32) (upd f (0 : Int32).toNatClampNeg q2) := ArD.set A_a1 W12
  obtain ⟨cl13, Ar13, hs13, hin13, hat13⟩ := ArD.open (j := (1 : Int32)) A_a1 (by decide)
  obtain ⟨T14, h14, X14, e14, W14, st14⟩ := stD X12 hx hZ e12 Ar13 (j := (1 : Int32)) hin13 (g := (mkF m 15 #[.val (.ref a1), .val (.double (FP.l2d q2)), .second, .val (.int (1 : Int32)), .val (.int (3 : Int32))] [(.double (FP.l2d q2)), (.int (1 : Int32)), (.ref a1)])) rfl rfl (hb hby d8_15)
  have N14 := Fr.snoc X14 N12 g_a1
  have Zs : n0 ≤ h14.size := Nat.le_trans Zs (Keep.of_wr W14).1
  have Kp : Keep h0 h14 [a1] := Kp.wr W14 (Or.inl (List.mem_of_getElem? (i := 0) rfl))
  have A_a1 : ArD Z h14 a1 (3 : Int32) (upd (upd f (0 : Int32).toNatClampNeg q2) (1 : Int32).toNatClampNeg q2) := ArD.set A_a1 W14
  obtain ⟨cl15, Ar15, hs15, hin15, hat15⟩ := ArD.open (j := (2 : Int32)) A_a1 (by decide)
  obtain ⟨T16, h16, X16, e16, W16, st16⟩ := stD X14 hx hZ e14 Ar15 (j := (2 : Int32)) hin15 (g := (mkF m 15 #[.val (.ref a1), .val (.double (FP.l2d q2)), .second, .val (.int (2 : Int32)), .val (.int (3 : Int32))] [(.double (FP.l2d q2)), (.int (2 : Int32)), (.ref a1)])) rfl rfl (hb hby d8_15)
  have N16 := Fr.snoc X16 N14 g_a1
  have Zs : n0 ≤ h16.size := Nat.le_trans Zs (Keep.of_wr W16).1
  have Kp : Keep h0 h16 [a1] := Kp.wr W16 (Or.inl (List.mem_of_getElem? (i := 0) rfl))
  have A_a1 : ArD Z h16 a1 (3 : Int32) (upd (upd (upd f (0 : Int32).toNatClampNeg q2) (1 : Int32).toNatClampNeg q2) (2 : Int32).toNatClampNeg q2) := ArD.set A_a1 W16
  obtain ⟨fs, hr, hrun, hended, hW, hsame⟩ := X16.leave (v := none) (fun _ => rfl)
  refine ⟨_, _, pre0 _ ?_, hrun, hended, _, _, rfl, ?_, ⟨_, rfl⟩, hW, hsame.mono (by decide) (by decide)⟩
  · show Steps p.tables e below (s₁.setTop (mkF m 0 #[.val (.ref a1), .val (.double (FP.l2d q2)), .second, .unset, .unset] [])) _
    refine XS.iconst X0.here hx rfl (hb hby d8_0) ?_
    show Steps p.tables e below (s₁.setTop (mkF m 1 #[.val (.ref a1), .val (.double (FP.l2d q2)), .second, .unset, .unset] [(.int (0 : Int32))])) _
    refine XS.istoreN X0.here hx rfl (hb hby d8_1) rfl (l' := #[.val (.ref a1), .val (.double (FP.l2d q2)), .second, .val (.int (0 : Int32)), .unset]) rfl ?_
    show Steps p.tables e below (s₁.setTop (mkF m 2 #[.val (.ref a1), .val (.double (FP.l2d q2)), .second, .val (.int (0 : Int32)), .unset] [])) _
    refine XS.aloadN X0.here hx rfl (hb hby d8_2) rfl rfl ?_
    show Steps p.tables e below (s₁.setTop (mkF m 3 #[.val (.ref a1), .val (.double (FP.l2d q2)), .second, .val (.int (0 : Int32)), .unset] [(.ref a1)])) _
    refine X0.arraylength hx (by rw [e0]; exact Ar10.1) (State.isArrayOf_alike hZ.alike Ar10.2.1) (g := (mkF m 3 #[.val (.ref a1), .val (.double (FP.l2d q2)), .second, .val (.int (0 : Int32)), .unset] [(.ref a1)])) rfl rfl (hb hby d8_3) _ ?_
    rw [hl10]
    show Steps p.tables e below (s₁.setTop (mkF m 4 #[.val (.ref a1), .val (.double (FP.l2d q2)), .second, .val (.int (0 : Int32)), .unset] [(.int (3 : Int32))])) _
    refine XS.istore X0.here hx rfl (hb hby d8_4) rfl (l' := #[.val (.ref a1), .val (.double (FP.l2d q2)), .second, .val (.int (0 : Int32)), .val (.int (3 : Int32))]) rfl ?_
    show Steps p.tables e below (s₁.setTop (mkF m 6 #[.val (.ref a1), .val (.double (FP.l2d q2)), .second, .val (.int (0 : Int32)), .val (.int (3 : Int32))] [])) _
    refine XS.iloadN X0.here hx rfl (hb hby d8_6) rfl ?_
    show Steps p.tables e below (s₁.setTop (mkF m 7 #[.val (.ref a1), .val (.double (FP.l2d q2)), .second, .val (.int (0 : Int32)), .val (.int (3 : Int32))] [(.int (0 : Int32))])) _
    refine XS.iload X0.here hx rfl (hb hby d8_7) rfl ?_
    show Steps p.tables e below (s₁.setTop (mkF m 9 #[.val (.ref a1), .val (.double (FP.l2d q2)), .second, .val (.int (0 : Int32)), .val (.int (3 : Int32))] [(.int (3 : Int32)), (.int (0 : Int32))])) _
    refine XS.icmpNo X0.here hx rfl (hb hby d8_9) rfl (tlt (by decide)).2.1 ?_
    show Steps p.tables e below (s₁.setTop (mkF m 12 #[.val (.ref a1), .val (.double (FP.l2d q2)), .second, .val (.int (0 : Int32)), .val (.int (3 : Int32))] [])) _
    refine XS.aloadN X0.here hx rfl (hb hby d8_12) rfl rfl ?_
    show Steps p.tables e below (s₁.setTop (mkF m 13 #[.val (.ref a1), .val (.double (FP.l2d q2)), .second, .val (.int (0 : Int32)), .val (.int (3 : Int32))] [(.ref a1)])) _
    refine XS.iloadN X0.here hx rfl (hb hby d8_13) rfl ?_
    show Steps p.tables e below (s₁.setTop (mkF m 14 #[.val (.ref a1), .val (.double (FP.l2d q2)), .second, .val (.int (0 : Int32)), .val (.int (3 : Int32))] [(.int (0 : Int32)), (.ref a1)])) _
    refine XS.dloadN X0.here hx rfl (hb hby d8_14) rfl ?_
    show Steps p.tables e below (s₁.setTop (mkF m 15 #[.val (.ref a1), .val (.double (FP.l2d q2)), .second, .val (.int (0 : Int32)), .val (.int (3 : Int32))] [(.double (FP.l2d q2)), (.int (0 : Int32)), (.ref a1)])) _
    refine st12 _ ?_
    show Steps p.tables e below (T12.setTop (mkF m 16 #[.val (.ref a1), .val (.double (FP.l2d q2)), .second, .val (.int (0 : Int32)), .val (.int (3 : Int32))] [])) _
    refine XS.iinc X12.here hx rfl (hb hby d8_16) rfl (l' := #[.val (.ref a1), .val (.double (FP.l2d q2)), .second, .val (.int (1 : Int32)), .val (.int (3 : Int32))]) rfl ?_
    show Steps p.tables e below (T12.setTop (mkF m 19 #[.val (.ref a1), .val (.double (FP.l2d q2)), .second, .val (.int (1 : Int32)), .val (.int (3 : Int32))] [])) _
    refine XS.goto X12.here hx rfl (pc0 := 19) (pc' := 6) rfl (hb hby d8_19) (by decide) (by decide) ?_
    show Steps p.tables e below (T12.setTop (mkF m 6 #[.val (.ref a1), .val (.double (FP.l2d q2)), .second, .val (.int (1 : Int32)), .val (.int (3 : Int32))] [])) _
    refine XS.iloadN X12.here hx rfl (hb hby d8_6) rfl ?_
    show Steps p.tables e below (T12.setTop (mkF m 7 #[.val (.ref a1), .val (.double (FP.l2d q2)), .second, .val (.int (1 : Int32)), .val (.int (3 : Int32))] [(.int (1 : Int32))])) _
    refine XS.iload X12.here hx rfl (hb hby d8_7) rfl ?_
    show Steps p.tables e below (T12.setTop (mkF m 9 #[.val (.ref a1), .val (.double (FP.l2d q2)), .second, .val (.int (1 : Int32)), .val (.int (3 : Int32))] [(.int (3 : Int32)), (.int (1 : Int32))])) _
    refine XS.icmpNo X12.here hx rfl (hb hby d8_9) rfl (tlt (by decide)).2.1 ?_
    show Steps p.tables e below (T12.setTop (mkF m 12 #[.val (.ref a1), .val (.double (FP.l2d q2)), .second, .val (.int (1 : Int32)), .val (.int (3 : Int32))] [])) _
    refine XS.aloadN X12.here hx rfl (hb hby d8_12) rfl rfl ?_
    show Steps p.tables e below (T12.setTop (mkF m 13 #[.val (.ref a1), .val (.double (FP.l2d q2)), .second, .val (.int (1 : Int32)), .val (.int (3 : Int32))] [(.ref a1)])) _
    refine XS.iloadN X12.here hx rfl (hb hby d8_13) rfl ?_
    show Steps p.tables e below (T12.setTop (mkF m 14 #[.val (.ref a1), .val (.double (FP.l2d q2)), .second, .val (.int (1 : Int32)), .val (.int (3 : Int32))] [(.int (1 : Int32)), (.ref a1)])) _
    refine XS.dloadN X12.here hx rfl (hb hby d8_14) rfl ?_
    show Steps p.tables e below (T12.setTop (mkF m 15 #[.val (.ref a1), .val (.double (FP.l2d q2)), .second, .val (.int (1 : Int32)), .val (.int (3 : Int32))] [(.double (FP.l2d q2)), (.int (1 : Int32)), (.ref a1)])) _
    refine st14 _ ?_
    show Steps p.tables e below (T14.setTop (mkF m 16 #[.val (.ref a1), .val (.double (FP.l2d q2)), .second, .val (.int (1 : Int32)), .val (.int (3 : Int32))] [])) _
    refine XS.iinc X14.here hx rfl (hb hby d8_16) rfl (l' := #[.val (.ref a1), .val (.double (FP.l2d q2)), .second, .val (.int (2 : Int32)), .val (.int (3 : Int32))]) rfl ?_
    show Steps p.tables e below (T14.setTop (mkF m 19 #[.val (.ref a1), .val (.double (FP.l2d q2)), .second, .val (.int (2 : Int32)), .val (.int (3 : Int32))] [])) _
    refine XS.goto X14.here hx rfl (pc0 := 19) (pc' := 6) rfl (hb hby d8_19) (by decide) (by decide) ?_
    show Steps p.tables e below (T14.setTop (mkF m 6 #[.val (.ref a1), .val (.double (FP.l2d q2)), .second, .val (.int (2 : Int32)), .val (.int (3 : Int32))] [])) _
    refine XS.iloadN X14.here hx rfl (hb hby d8_6) rfl ?_
    show Steps p.tables e below (T14.setTop (mkF m 7 #[.val (.ref a1), .val (.double (FP.l2d q2)), .second, .val (.int (2 : Int32)), .val (.int (3 : Int32))] [(.int (2 : Int32))])) _
    refine XS.iload X14.here hx rfl (hb hby d8_7) rfl ?_
    show Steps p.tables e below (T14.setTop (mkF m 9 #[.val (.ref a1), .val (.double (FP.l2d q2)), .second, .val (.int (2 : Int32)), .val (.int (3 : Int32))] [(.int (3 : Int32)), (.int (2 : Int32))])) _
    refine XS.icmpNo X14.here hx rfl (hb hby d8_9) rfl (tlt (by decide)).2.1 ?_
    show Steps p.tables e below (T14.setTop (mkF m 12 #[.val (.ref a1), .val (.double (FP.l2d q2)), .second, .val (.int (2 : Int32)), .val (.int (3 : Int32))] [])) _
    refine XS.aloadN X14.here hx rfl (hb hby d8_12) rfl rfl ?_
    show Steps p.tables e below (T14.setTop (mkF m 13 #[.val (.ref a1), .val (.double (FP.l2d q2)), .second, .val (.int (2 : Int32)), .val (.int (3 : Int32))] [(.ref a1)])) _
    refine XS.iloadN X14.here hx rfl (hb hby d8_13) rfl ?_
    show Steps p.tables e below (T14.setTop (mkF m 14 #[.val (.ref a1), .val (.double (FP.l2d q2)), .second, .val (.int (2 : Int32)), .val (.int (3 : Int32))] [(.int (2 : Int32)), (.ref a1)])) _
    refine XS.dloadN X14.here hx rfl (hb hby d8_14) rfl ?_
    show Steps p.tables e below (T14.setTop (mkF m 15 #[.val (.ref a1), .val (.double (FP.l2d q2)), .second, .val (.int (2 : Int32)), .val (.int (3 : Int32))] [(.double (FP.l2d q2)), (.int (2 : Int32)), (.ref a1)])) _
    refine st16 _ ?_
    show Steps p.tables e below (T16.setTop (mkF m 16 #[.val (.ref a1), .val (.double (FP.l2d q2)), .second, .val (.int (2 : Int32)), .val (.int (3 : Int32))] [])) _
    refine XS.iinc X16.here hx rfl (hb hby d8_16) rfl (l' := #[.val (.ref a1), .val (.double (FP.l2d q2)), .second, .val (.int (3 : Int32)), .val (.int (3 : Int32))]) rfl ?_
    show Steps p.tables e below (T16.setTop (mkF m 19 #[.val (.ref a1), .val (.double (FP.l2d q2)), .second, .val (.int (3 : Int32)), .val (.int (3 : Int32))] [])) _
    refine XS.goto X16.here hx rfl (pc0 := 19) (pc' := 6) rfl (hb hby d8_19) (by decide) (by decide) ?_
    show Steps p.tables e below (T16.setTop (mkF m 6 #[.val (.ref a1), .val (.double (FP.l2d q2)), .second, .val (.int (3 : Int32)), .val (.int (3 : Int32))] [])) _
    refine XS.iloadN X16.here hx rfl (hb hby d8_6) rfl ?_
    show Steps p.tables e below (T16.setTop (mkF m 7 #[.val (.ref a1), .val (.double (FP.l2d q2)), .second, .val (.int (3 : Int32)), .val (.int (3 : Int32))] [(.int (3 : Int32))])) _
    refine XS.iload X16.here hx rfl (hb hby d8_7) rfl ?_
    show Steps p.tables e below (T16.setTop (mkF m 9 #[.val (.ref a1), .val (.double (FP.l2d q2)), .second, .val (.int (3 : Int32)), .val (.int (3 : Int32))] [(.int (3 : Int32)), (.int (3 : Int32))])) _
    refine XS.icmpYes X16.here hx rfl (pc0 := 9) (pc' := 22) rfl (hb hby d8_9) rfl (flt (by decide)).2.1 (by decide) (by decide) ?_
    show Steps p.tables e below (T16.setTop (mkF m 22 #[.val (.ref a1), .val (.double (FP.l2d q2)), .second, .val (.int (3 : Int32)), .val (.int (3 : Int32))] [])) _
    exact X16.returnOut hx Bd.returns (hb hby d8_22) hr
  · show QFD Z a1 q2 f h0 n0 _ T16.heap _
    rw [e16]
    exact ⟨rfl, N16, Kp, A_a1⟩
def QFI (Z : State) (a1 : Addr) (p2 : Int32) (f : Nat → Int32) (h0 : Heap) (n0 : Nat) (v : Option Value) (h : Heap) (L : List Loc) : Prop := v = none ∧ Fr n0 L ∧ (Keep h0 h [a1]) ∧ (ArI Z h a1 (3 : Int32) (upd (upd (upd f (0 : Int32).toNatClampNeg p2) (1 : Int32).toNatClampNeg p2) (2 : Int32).toNatClampNeg p2))
theorem ef_FI (m : MethodId) (a1 : Addr) (p2 : Int32) : entryFrame m #[(.ref a1), (.int p2)] 4 = mkF m 0 #[.val (.ref a1), .val (.int p2), .unset, .unset] [] := by first | (simp [entryFrame, mkF, argsToLocals, Value.category]; done) | rfl
set_option maxRecDepth 65536 in
set_option maxHeartbeats 40000000 in
theorem rmFI (l : Launch) (Z : State) (a0 : Array Value) (hw : ∀ d ∈ tables_1, d.before a0 Z = true) (ws : List Jvm.Cond) (a1 : Addr) (p2 : Int32) (f : Nat → Int32) (h0 : Heap) (n0 : Nat) (Zs : n0 ≤ h0.size) (A_a1 : ArI Z h0 a1 (3 : Int32) f) (g_a1 : n0 ≤ a1) :
    MetFree l (⟨"java/util/Arrays", "fill", "([II)V"⟩ : MethodName) (head1 (Jvm.Cond.code (⟨"java/util/Arrays", "fill", "([II)V"⟩ : MethodName) jdk_65_method_103_code 4 none :: ws) ({ frames := 0, cells := 0, slots := 0, locals := 0 } : Room)) (fun a U => a = #[(.ref a1), (.int p2)] ∧ Z.Warmed39 U.vm ∧ U.heap = h0) (fun _ _ _ _ _ => True) (fun _ U o U' => ∃ v L, o = .returned v ∧ QFI Z a1 p2 f h0 n0 v U'.heap L ∧ FrameEnd U o U' L ({ frames := 0, cells := 0, slots := 0, locals := 0 } : Room).cells ({ frames := 0, cells := 0, slots := 0, locals := 0 } : Room).slots) := by
  refine MetFree.of_bodySF (plainFor_of_name pn_3) hisR ?_
  intro p e s m args below meth c s₁ Bd hml0 hP hK
  obtain ⟨rfl, hZ, hh⟩ := hP
  have hx := Bd.exec
  have hby := Bd.bytes
  have hml : c.maxLocals = 4 := hml0
  have hown : s.vm.findClass "java/util/Arrays" = some m.cls := findClass_of_methodNamed Bd.named
  have hnm := (name_of_methodNamed Bd.named Bd.method).1
  have X0 : Stand p l e ({ frames := 0, cells := 0, slots := 0, locals := 0 } : Room) s m #[(.ref a1), (.int p2)] below meth c s₁ [] 0 0 := Stand.of_body Bd
  have e0 : s₁.heap = h0 := by rw [← hh, Bd.state]; rfl
  have N0 := Fr.nil n0
  have pre0 : ∀ t, Steps p.tables e below (s₁.setTop (mkF m 0 #[.val (.ref a1), .val (.int p2), .unset, .unset] [])) t → Steps p.tables e below (s₁.setTop (entryFrame m #[(.ref a1), (.int p2)] 4)) t := fun t k => castTop (ef_FI m a1 p2) k
  have Kp : Keep h0 h0 [a1] := Keep.refl h0 [a1]
  obtain ⟨cl17, Ar17, hl17⟩ := ArI.len A_a1 (by decide)
  obtain ⟨cl18, Ar18, hs18, hin18, hat18⟩ := ArI.open (j := (0 : Int32)) A_a1 (by decide)
  obtain ⟨T19, h19, X19, e19, W19, st19⟩ := stI X0 hx hZ e0 Ar18 (j := (0 : Int32)) hin18 (g := (mkF m 13 #[.val (.ref a1), .val (.int p2), .val (.int (0 : Int32)), .val (.int (3 : Int32))] [(.int p2), (.int (0 : Int32)), (.ref a1)])) rfl rfl (hb hby d9_13)
  have N19 := Fr.snoc X19 N0 g_a1
  have Zs : n0 ≤ h19.size := Nat.le_trans Zs (Keep.of_wr W19).1
  have Kp : Keep h0 h19 [a1] := Kp.wr W19 (Or.inl (List.mem_of_getElem? (i := 0) rfl))
  have A_a1 : ArI Z h19 a1 (3 : Int32) (upd f (0 : Int32).toNatClampNeg p2) := ArI.set A_a1 W19
  obtain ⟨cl20, Ar20, hs20, hin20, hat20⟩ := ArI.open (j := (1 : Int32)) A_a1 (by decide)
  obtain ⟨T21, h21, X21, e21, W21, st21⟩ := stI X19 hx hZ e19 Ar20 (j := (1 : Int32)) hin20 (g := (mkF m 13 #[.val (.ref a1), .val (.int p2), .val (.int (1 : Int32)), .val (.int (3 : Int32))] [(.int p2), (.int (1 : Int32)), (.ref a1)])) rfl rfl (hb hby d9_13)
  have N21 := Fr.snoc X21 N19 g_a1
  have Zs : n0 ≤ h21.size := Nat.le_trans Zs (Keep.of_wr W21).1
  have Kp : Keep h0 h21 [a1] := Kp.wr W21 (Or.inl (List.mem_of_getElem? (i := 0) rfl))
  have A_a1 : ArI Z h21 a1 (3 : Int32) (upd (upd f (0 : Int32).toNatClampNeg p2) (1 : Int32).toNatClampNeg p2) := ArI.set A_a1 W21
  obtain ⟨cl22, Ar22, hs22, hin22, hat22⟩ := ArI.open (j := (2 : Int32)) A_a1 (by decide)
  obtain ⟨T23, h23, X23, e23, W23, st23⟩ := stI X21 hx hZ e21 Ar22 (j := (2 : Int32)) hin22 (g := (mkF m 13 #[.val (.ref a1), .val (.int p2), .val (.int (2 : Int32)), .val (.int (3 : Int32))] [(.int p2), (.int (2 : Int32)), (.ref a1)])) rfl rfl (hb hby d9_13)
  have N23 := Fr.snoc X23 N21 g_a1
  have Zs : n0 ≤ h23.size := Nat.le_trans Zs (Keep.of_wr W23).1
  have Kp : Keep h0 h23 [a1] := Kp.wr W23 (Or.inl (List.mem_of_getElem? (i := 0) rfl))
  have A_a1 : ArI Z h23 a1 (3 : Int32) (upd (upd (upd f (0 : Int32).toNatClampNeg p2) (1 : Int32).toNatClampNeg p2) (2 : Int32).toNatClampNeg p2) := ArI.set A_a1 W23
  obtain ⟨fs, hr, hrun, hended, hW, hsame⟩ := X23.leave (v := none) (fun _ => rfl)
  refine ⟨_, _, pre0 _ ?_, hrun, hended, _, _, rfl, ?_, ⟨_, rfl⟩, hW, hsame.mono (by decide) (by decide)⟩
  · show Steps p.tables e below (s₁.setTop (mkF m 0 #[.val (.ref a1), .val (.int p2), .unset, .unset] [])) _
    refine XS.iconst X0.here hx rfl (hb hby d9_0) ?_
    show Steps p.tables e below (s₁.setTop (mkF m 1 #[.val (.ref a1), .val (.int p2), .unset, .unset] [(.int (0 : Int32))])) _
    refine XS.istoreN X0.here hx rfl (hb hby d9_1) rfl (l' := #[.val (.ref a1), .val (.int p2), .val (.int (0 : Int32)), .unset]) rfl ?_
    show Steps p.tables e below (s₁.setTop (mkF m 2 #[.val (.ref a1), .val (.int p2), .val (.int (0 : Int32)), .unset] [])) _
    refine XS.aloadN X0.here hx rfl (hb hby d9_2) rfl rfl ?_
    show Steps p.tables e below (s₁.setTop (mkF m 3 #[.val (.ref a1), .val (.int p2), .val (.int (0 : Int32)), .unset] [(.ref a1)])) _
    refine X0.arraylength hx (by rw [e0]; exact Ar17.1) (State.isArrayOf_alike hZ.alike Ar17.2.1) (g := (mkF m 3 #[.val (.ref a1), .val (.int p2), .val (.int (0 : Int32)), .unset] [(.ref a1)])) rfl rfl (hb hby d9_3) _ ?_
    rw [hl17]
    show Steps p.tables e below (s₁.setTop (mkF m 4 #[.val (.ref a1), .val (.int p2), .val (.int (0 : Int32)), .unset] [(.int (3 : Int32))])) _
    refine XS.istoreN X0.here hx rfl (hb hby d9_4) rfl (l' := #[.val (.ref a1), .val (.int p2), .val (.int (0 : Int32)), .val (.int (3 : Int32))]) rfl ?_
    show Steps p.tables e below (s₁.setTop (mkF m 5 #[.val (.ref a1), .val (.int p2), .val (.int (0 : Int32)), .val (.int (3 : Int32))] [])) _
    refine XS.iloadN X0.here hx rfl (hb hby d9_5) rfl ?_
    show Steps p.tables e below (s₁.setTop (mkF m 6 #[.val (.ref a1), .val (.int p2), .val (.int (0 : Int32)), .val (.int (3 : Int32))] [(.int (0 : Int32))])) _
    refine XS.iloadN X0.here hx rfl (hb hby d9_6) rfl ?_
    show Steps p.tables e below (s₁.setTop (mkF m 7 #[.val (.ref a1), .val (.int p2), .val (.int (0 : Int32)), .val (.int (3 : Int32))] [(.int (3 : Int32)), (.int (0 : Int32))])) _
    refine XS.icmpNo X0.here hx rfl (hb hby d9_7) rfl (tlt (by decide)).2.1 ?_
    show Steps p.tables e below (s₁.setTop (mkF m 10 #[.val (.ref a1), .val (.int p2), .val (.int (0 : Int32)), .val (.int (3 : Int32))] [])) _
    refine XS.aloadN X0.here hx rfl (hb hby d9_10) rfl rfl ?_
    show Steps p.tables e below (s₁.setTop (mkF m 11 #[.val (.ref a1), .val (.int p2), .val (.int (0 : Int32)), .val (.int (3 : Int32))] [(.ref a1)])) _
    refine XS.iloadN X0.here hx rfl (hb hby d9_11) rfl ?_
    show Steps p.tables e below (s₁.setTop (mkF m 12 #[.val (.ref a1), .val (.int p2), .val (.int (0 : Int32)), .val (.int (3 : Int32))] [(.int (0 : Int32)), (.ref a1)])) _
    refine XS.iloadN X0.here hx rfl (hb hby d9_12) rfl ?_
    show Steps p.tables e below (s₁.setTop (mkF m 13 #[.val (.ref a1), .val (.int p2), .val (.int (0 : Int32)), .val (.int (3 : Int32))] [(.int p2), (.int (0 : Int32)), (.ref a1)])) _
    refine st19 _ ?_
    show Steps p.tables e below (T19.setTop (mkF m 14 #[.val (.ref a1), .val (.int p2), .val (.int (0 : Int32)), .val (.int (3 : Int32))] [])) _
    refine XS.iinc X19.here hx rfl (hb hby d9_14) rfl (l' := #[.val (.ref a1), .val (.int p2), .val (.int (1 : Int32)), .val (.int (3 : Int32))]) rfl ?_
    show Steps p.tables e below (T19.setTop (mkF m 17 #[.val (.ref a1), .val (.int p2), .val (.int (1 : Int32)), .val (.int (3 : Int32))] [])) _
    refine XS.goto X19.here hx rfl (pc0 := 17) (pc' := 5) rfl (hb hby d9_17) (by decide) (by decide) ?_
    show Steps p.tables e below (T19.setTop (mkF m 5 #[.val (.ref a1), .val (.int p2), .val (.int (1 : Int32)), .val (.int (3 : Int32))] [])) _
    refine XS.iloadN X19.here hx rfl (hb hby d9_5) rfl ?_
    show Steps p.tables e below (T19.setTop (mkF m 6 #[.val (.ref a1), .val (.int p2), .val (.int (1 : Int32)), .val (.int (3 : Int32))] [(.int (1 : Int32))])) _
    refine XS.iloadN X19.here hx rfl (hb hby d9_6) rfl ?_
    show Steps p.tables e below (T19.setTop (mkF m 7 #[.val (.ref a1), .val (.int p2), .val (.int (1 : Int32)), .val (.int (3 : Int32))] [(.int (3 : Int32)), (.int (1 : Int32))])) _
    refine XS.icmpNo X19.here hx rfl (hb hby d9_7) rfl (tlt (by decide)).2.1 ?_
    show Steps p.tables e below (T19.setTop (mkF m 10 #[.val (.ref a1), .val (.int p2), .val (.int (1 : Int32)), .val (.int (3 : Int32))] [])) _
    refine XS.aloadN X19.here hx rfl (hb hby d9_10) rfl rfl ?_
    show Steps p.tables e below (T19.setTop (mkF m 11 #[.val (.ref a1), .val (.int p2), .val (.int (1 : Int32)), .val (.int (3 : Int32))] [(.ref a1)])) _
    refine XS.iloadN X19.here hx rfl (hb hby d9_11) rfl ?_
    show Steps p.tables e below (T19.setTop (mkF m 12 #[.val (.ref a1), .val (.int p2), .val (.int (1 : Int32)), .val (.int (3 : Int32))] [(.int (1 : Int32)), (.ref a1)])) _
    refine XS.iloadN X19.here hx rfl (hb hby d9_12) rfl ?_
    show Steps p.tables e below (T19.setTop (mkF m 13 #[.val (.ref a1), .val (.int p2), .val (.int (1 : Int32)), .val (.int (3 : Int32))] [(.int p2), (.int (1 : Int32)), (.ref a1)])) _
    refine st21 _ ?_
    show Steps p.tables e below (T21.setTop (mkF m 14 #[.val (.ref a1), .val (.int p2), .val (.int (1 : Int32)), .val (.int (3 : Int32))] [])) _
    refine XS.iinc X21.here hx rfl (hb hby d9_14) rfl (l' := #[.val (.ref a1), .val (.int p2), .val (.int (2 : Int32)), .val (.int (3 : Int32))]) rfl ?_
    show Steps p.tables e below (T21.setTop (mkF m 17 #[.val (.ref a1), .val (.int p2), .val (.int (2 : Int32)), .val (.int (3 : Int32))] [])) _
    refine XS.goto X21.here hx rfl (pc0 := 17) (pc' := 5) rfl (hb hby d9_17) (by decide) (by decide) ?_
    show Steps p.tables e below (T21.setTop (mkF m 5 #[.val (.ref a1), .val (.int p2), .val (.int (2 : Int32)), .val (.int (3 : Int32))] [])) _
    refine XS.iloadN X21.here hx rfl (hb hby d9_5) rfl ?_
    show Steps p.tables e below (T21.setTop (mkF m 6 #[.val (.ref a1), .val (.int p2), .val (.int (2 : Int32)), .val (.int (3 : Int32))] [(.int (2 : Int32))])) _
    refine XS.iloadN X21.here hx rfl (hb hby d9_6) rfl ?_
    show Steps p.tables e below (T21.setTop (mkF m 7 #[.val (.ref a1), .val (.int p2), .val (.int (2 : Int32)), .val (.int (3 : Int32))] [(.int (3 : Int32)), (.int (2 : Int32))])) _
    refine XS.icmpNo X21.here hx rfl (hb hby d9_7) rfl (tlt (by decide)).2.1 ?_
    show Steps p.tables e below (T21.setTop (mkF m 10 #[.val (.ref a1), .val (.int p2), .val (.int (2 : Int32)), .val (.int (3 : Int32))] [])) _
    refine XS.aloadN X21.here hx rfl (hb hby d9_10) rfl rfl ?_
    show Steps p.tables e below (T21.setTop (mkF m 11 #[.val (.ref a1), .val (.int p2), .val (.int (2 : Int32)), .val (.int (3 : Int32))] [(.ref a1)])) _
    refine XS.iloadN X21.here hx rfl (hb hby d9_11) rfl ?_
    show Steps p.tables e below (T21.setTop (mkF m 12 #[.val (.ref a1), .val (.int p2), .val (.int (2 : Int32)), .val (.int (3 : Int32))] [(.int (2 : Int32)), (.ref a1)])) _
    refine XS.iloadN X21.here hx rfl (hb hby d9_12) rfl ?_
    show Steps p.tables e below (T21.setTop (mkF m 13 #[.val (.ref a1), .val (.int p2), .val (.int (2 : Int32)), .val (.int (3 : Int32))] [(.int p2), (.int (2 : Int32)), (.ref a1)])) _
    refine st23 _ ?_
    show Steps p.tables e below (T23.setTop (mkF m 14 #[.val (.ref a1), .val (.int p2), .val (.int (2 : Int32)), .val (.int (3 : Int32))] [])) _
    refine XS.iinc X23.here hx rfl (hb hby d9_14) rfl (l' := #[.val (.ref a1), .val (.int p2), .val (.int (3 : Int32)), .val (.int (3 : Int32))]) rfl ?_
    show Steps p.tables e below (T23.setTop (mkF m 17 #[.val (.ref a1), .val (.int p2), .val (.int (3 : Int32)), .val (.int (3 : Int32))] [])) _
    refine XS.goto X23.here hx rfl (pc0 := 17) (pc' := 5) rfl (hb hby d9_17) (by decide) (by decide) ?_
    show Steps p.tables e below (T23.setTop (mkF m 5 #[.val (.ref a1), .val (.int p2), .val (.int (3 : Int32)), .val (.int (3 : Int32))] [])) _
    refine XS.iloadN X23.here hx rfl (hb hby d9_5) rfl ?_
    show Steps p.tables e below (T23.setTop (mkF m 6 #[.val (.ref a1), .val (.int p2), .val (.int (3 : Int32)), .val (.int (3 : Int32))] [(.int (3 : Int32))])) _
    refine XS.iloadN X23.here hx rfl (hb hby d9_6) rfl ?_
    show Steps p.tables e below (T23.setTop (mkF m 7 #[.val (.ref a1), .val (.int p2), .val (.int (3 : Int32)), .val (.int (3 : Int32))] [(.int (3 : Int32)), (.int (3 : Int32))])) _
    refine XS.icmpYes X23.here hx rfl (pc0 := 7) (pc' := 20) rfl (hb hby d9_7) rfl (flt (by decide)).2.1 (by decide) (by decide) ?_
    show Steps p.tables e below (T23.setTop (mkF m 20 #[.val (.ref a1), .val (.int p2), .val (.int (3 : Int32)), .val (.int (3 : Int32))] [])) _
    exact X23.returnOut hx Bd.returns (hb hby d9_20) hr
  · show QFI Z a1 p2 f h0 n0 _ T23.heap _
    rw [e23]
    exact ⟨rfl, N23, Kp, A_a1⟩
def QR (Z : State) (a1 : Addr) (a2 : Addr) (f : Nat → Int64) (dd : Addr) (h0 : Heap) (n0 : Nat) (v : Option Value) (h : Heap) (L : List Loc) : Prop := ∃ rl : Addr, ∃ co : Addr, ∃ lo : Addr, ∃ up : Addr, ∃ va : Addr, ∃ sa : Addr, ∃ re : Addr, v = none ∧ Fr n0 L ∧ (Keep h0 h [a1]) ∧ (h0.size ≤ rl) ∧ (h0.size ≤ co) ∧ (h0.size ≤ lo) ∧ (h0.size ≤ up) ∧ (h0.size ≤ va) ∧ (h0.size ≤ sa) ∧ (h0.size ≤ re) ∧ (n0 ≤ rl) ∧ (n0 ≤ co) ∧ (n0 ≤ lo) ∧ (n0 ≤ up) ∧ (n0 ≤ va) ∧ (n0 ≤ sa) ∧ (n0 ≤ re) ∧ (rl ≠ co) ∧ (rl ≠ lo) ∧ (rl ≠ up) ∧ (rl ≠ va) ∧ (rl ≠ sa) ∧ (rl ≠ re) ∧ (co ≠ lo) ∧ (co ≠ up) ∧ (co ≠ va) ∧ (co ≠ sa) ∧ (co ≠ re) ∧ (lo ≠ up) ∧ (lo ≠ va) ∧ (lo ≠ sa) ∧ (lo ≠ re) ∧ (up ≠ va) ∧ (up ≠ sa) ∧ (up ≠ re) ∧ (va ≠ sa) ∧ (va ≠ re) ∧ (sa ≠ re) ∧ (Fld Z h a1 "com/example/regolo/regolo/engine/Relaxation" "rows" "Ljava/util/List;" (.ref rl)) ∧ (Fld Z h a1 "com/example/regolo/regolo/engine/Relaxation" "columns" "I" (.int (3 : Int32))) ∧ (Fld Z h a1 "com/example/regolo/regolo/engine/Relaxation" "cost" "[D" (.ref co)) ∧ (Fld Z h a1 "com/example/regolo/regolo/engine/Relaxation" "lower" "[D" (.ref lo)) ∧ (Fld Z h a1 "com/example/regolo/regolo/engine/Relaxation" "upper" "[D" (.ref up)) ∧ (Fld Z h a1 "com/example/regolo/regolo/engine/Relaxation" "value" "[D" (.ref va)) ∧ (Fld Z h a1 "com/example/regolo/regolo/engine/Relaxation" "status" "[I" (.ref sa)) ∧ (Fld Z h a1 "com/example/regolo/regolo/engine/Relaxation" "reduced" "[D" (.ref re)) ∧ (Exa Z h rl "java/util/ArrayList") ∧ (Fld Z h rl "java/util/ArrayList" "size" "I" (.int (0 : Int32))) ∧ (ArD Z h co (3 : Int32) f) ∧ (ArD Z h lo (3 : Int32) (fun _ => 0)) ∧ (ArD Z h up (3 : Int32) (upd (upd (upd (fun _ => 0) (0 : Int32).toNatClampNeg (1 : Int64)) (1 : Int32).toNatClampNeg (1 : Int64)) (2 : Int32).toNatClampNeg (1 : Int64))) ∧ (ArD Z h va (3 : Int32) (upd (upd (upd (fun _ => 0) (0 : Int32).toNatClampNeg (if (0 : Int64) < (f (0 : Int32).toNatClampNeg) then (1 : Int64) else (0 : Int64))) (1 : Int32).toNatClampNeg (if (0 : Int64) < (f (1 : Int32).toNatClampNeg) then (1 : Int64) else (0 : Int64))) (2 : Int32).toNatClampNeg (if (0 : Int64) < (f (2 : Int32).toNatClampNeg) then (1 : Int64) else (0 : Int64)))) ∧ (ArI Z h sa (3 : Int32) (upd (upd (upd (fun _ => 0) (0 : Int32).toNatClampNeg (if (0 : Int64) < (f (0 : Int32).toNatClampNeg) then (2 : Int32) else (1 : Int32))) (1 : Int32).toNatClampNeg (if (0 : Int64) < (f (1 : Int32).toNatClampNeg) then (2 : Int32) else (1 : Int32))) (2 : Int32).toNatClampNeg (if (0 : Int64) < (f (2 : Int32).toNatClampNeg) then (2 : Int32) else (1 : Int32)))) ∧ (ArD Z h re (3 : Int32) (upd (upd (upd (fun _ => 0) (0 : Int32).toNatClampNeg (f (0 : Int32).toNatClampNeg)) (1 : Int32).toNatClampNeg (f (1 : Int32).toNatClampNeg)) (2 : Int32).toNatClampNeg (f (2 : Int32).toNatClampNeg)))
theorem ef_R (m : MethodId) (a1 : Addr) (a2 : Addr) : entryFrame m #[(.ref a1), (.ref a2)] 3 = mkF m 0 #[.val (.ref a1), .val (.ref a2), .unset] [] := by first | (simp [entryFrame, mkF, argsToLocals, Value.category]; done) | rfl
set_option maxRecDepth 65536 in
set_option maxHeartbeats 40000000 in
theorem rmR (l : Launch) (Z : State) (a0 : Array Value) (hw : ∀ d ∈ tables_1, d.before a0 Z = true) (ws : List Jvm.Cond) (a1 : Addr) (a2 : Addr) (f : Nat → Int64) (dd : Addr) (h0 : Heap) (n0 : Nat) (Zs : n0 ≤ h0.size) (E_a1 : Exa Z h0 a1 "com/example/regolo/regolo/engine/Relaxation") (F_rows_a1 : Fld Z h0 a1 "com/example/regolo/regolo/engine/Relaxation" "rows" "Ljava/util/List;" .null) (F_head_a1 : Fld Z h0 a1 "com/example/regolo/regolo/engine/Relaxation" "head" "[I" .null) (F_weight_a1 : Fld Z h0 a1 "com/example/regolo/regolo/engine/Relaxation" "weight" "[D" .null) (F_inverse_a1 : Fld Z h0 a1 "com/example/regolo/regolo/engine/Relaxation" "inverse" "[[D" .null) (F_cost_a1 : Fld Z h0 a1 "com/example/regolo/regolo/engine/Relaxation" "cost" "[D" .null) (F_lower_a1 : Fld Z h0 a1 "com/example/regolo/regolo/engine/Relaxation" "lower" "[D" .null) (F_upper_a1 : Fld Z h0 a1 "com/example/regolo/regolo/engine/Relaxation" "upper" "[D" .null) (F_value_a1 : Fld Z h0 a1 "com/example/regolo/regolo/engine/Relaxation" "value" "[D" .null) (F_status_a1 : Fld Z h0 a1 "com/example/regolo/regolo/engine/Relaxation" "status" "[I" .null) (F_reduced_a1 : Fld Z h0 a1 "com/example/regolo/regolo/engine/Relaxation" "reduced" "[D" .null) (F_place_a1 : Fld Z h0 a1 "com/example/regolo/regolo/engine/Relaxation" "place" "[I" .null) (F_columns_a1 : Fld Z h0 a1 "com/example/regolo/regolo/engine/Relaxation" "columns" "I" (.int (0 : Int32))) (g_a1 : n0 ≤ a1) (A_a2 : ArD Z h0 a2 (3 : Int32) f) (E_a2 : Exa Z h0 a2 "[D") (ne_a1_a2 : a1 ≠ a2) (Ol : Old Z n0 h0) (S_DEFAULTCAPACITY_EMPTY_ELEMENTDATA : Sta Z Z.heap "java/util/ArrayList" "DEFAULTCAPACITY_EMPTY_ELEMENTDATA" "[Ljava/lang/Object;" (.ref dd)) (hS : ∀ j, Sm (f j)) :
    MetFree l (⟨"com/example/regolo/regolo/engine/Relaxation", "<init>", "([D)V"⟩ : MethodName) (head1 (Jvm.Cond.code (⟨"com/example/regolo/regolo/engine/Relaxation", "<init>", "([D)V"⟩ : MethodName) prog_62_method_1_code 3 none :: ws) ({ frames := 4, cells := 11, slots := 24, locals := 50 } : Room)) (fun a U => a = #[(.ref a1), (.ref a2)] ∧ Z.Warmed39 U.vm ∧ U.heap = h0) (fun _ _ _ _ _ => True) (fun _ U o U' => ∃ v L, o = .returned v ∧ QR Z a1 a2 f dd h0 n0 v U'.heap L ∧ FrameEnd U o U' L ({ frames := 4, cells := 11, slots := 24, locals := 50 } : Room).cells ({ frames := 4, cells := 11, slots := 24, locals := 50 } : Room).slots) := by
  refine MetFree.of_bodySF (plainFor_of_name pn_4) hisR ?_
  intro p e s m args below meth c s₁ Bd hml0 hP hK
  obtain ⟨rfl, hZ, hh⟩ := hP
  have hx := Bd.exec
  have hby := Bd.bytes
  have hml : c.maxLocals = 3 := hml0
  have hown : s.vm.findClass "com/example/regolo/regolo/engine/Relaxation" = some m.cls := findClass_of_methodNamed Bd.named
  have hnm := (name_of_methodNamed Bd.named Bd.method).1
  have X0 : Stand p l e ({ frames := 4, cells := 11, slots := 24, locals := 50 } : Room) s m #[(.ref a1), (.ref a2)] below meth c s₁ [] 0 0 := Stand.of_body Bd
  have e0 : s₁.heap = h0 := by rw [← hh, Bd.state]; rfl
  have N0 := Fr.nil n0
  have pre0 : ∀ t, Steps p.tables e below (s₁.setTop (mkF m 0 #[.val (.ref a1), .val (.ref a2), .unset] [])) t → Steps p.tables e below (s₁.setTop (entryFrame m #[(.ref a1), (.ref a2)] 3)) t := fun t k => castTop (ef_R m a1 a2) k
  have Kp : Keep h0 h0 [a1] := Keep.refl h0 [a1]
  obtain ⟨T24, X24, e24, st24⟩ := initO X0 hx hZ hown (hw _ (List.mem_of_getElem? (i := 14) rfl)) (hw _ (List.mem_of_getElem? (i := 15) rfl)) (hw _ (List.mem_of_getElem? (i := 16) rfl)) e0 (g := (mkF m 1 #[.val (.ref a1), .val (.ref a2), .unset] [(.ref a1)])) rfl (by rw [hml]; rfl) rfl (hb hby d3_1) (by decide) (W := 0) (by show 2 * 0 + _ ≤ _; exact Nat.le_of_eq rfl) (by decide)
  obtain ⟨T25, h25, X25, e25, E25, A25, D25, -, st25⟩ := newO X24 hx hZ hown (hw _ (List.mem_of_getElem? (i := 17) rfl)) (hw _ (List.mem_of_getElem? (i := 18) rfl)) (hw _ (List.mem_of_getElem? (i := 19) rfl)) e24 (g := (mkF m 5 #[.val (.ref a1), .val (.ref a2), .unset] [(.ref a1)])) rfl (hb hby d3_5) (by decide) (by decide)
  obtain ⟨b25, g25⟩ : ∃ z, z = h0.size := ⟨_, rfl⟩
  rw [← g25] at A25 D25 st25
  have g_b25 : n0 ≤ b25 := Nat.le_trans Zs (Nat.le_of_eq g25.symm)
  have sz_b25 : h0.size ≤ b25 := Nat.le_trans Kp.1 (Nat.le_of_eq g25.symm)
  have ne_a1_b25 : a1 ≠ b25 := Nat.ne_of_lt (Nat.lt_of_lt_of_le E_a1.lt (Nat.le_of_eq g25.symm))
  have ne_a2_b25 : a2 ≠ b25 := Nat.ne_of_lt (Nat.lt_of_lt_of_le A_a2.lt (Nat.le_of_eq g25.symm))
  have Zs : n0 ≤ h25.size := Nat.le_trans Zs E25.1
  have E_a1 : Exa Z h25 a1 "com/example/regolo/regolo/engine/Relaxation" := E_a1.ext E25
  have F_rows_a1 : Fld Z h25 a1 "com/example/regolo/regolo/engine/Relaxation" "rows" "Ljava/util/List;" .null := F_rows_a1.ext E25
  have F_head_a1 : Fld Z h25 a1 "com/example/regolo/regolo/engine/Relaxation" "head" "[I" .null := F_head_a1.ext E25
  have F_weight_a1 : Fld Z h25 a1 "com/example/regolo/regolo/engine/Relaxation" "weight" "[D" .null := F_weight_a1.ext E25
  have F_inverse_a1 : Fld Z h25 a1 "com/example/regolo/regolo/engine/Relaxation" "inverse" "[[D" .null := F_inverse_a1.ext E25
  have F_cost_a1 : Fld Z h25 a1 "com/example/regolo/regolo/engine/Relaxation" "cost" "[D" .null := F_cost_a1.ext E25
  have F_lower_a1 : Fld Z h25 a1 "com/example/regolo/regolo/engine/Relaxation" "lower" "[D" .null := F_lower_a1.ext E25
  have F_upper_a1 : Fld Z h25 a1 "com/example/regolo/regolo/engine/Relaxation" "upper" "[D" .null := F_upper_a1.ext E25
  have F_value_a1 : Fld Z h25 a1 "com/example/regolo/regolo/engine/Relaxation" "value" "[D" .null := F_value_a1.ext E25
  have F_status_a1 : Fld Z h25 a1 "com/example/regolo/regolo/engine/Relaxation" "status" "[I" .null := F_status_a1.ext E25
  have F_reduced_a1 : Fld Z h25 a1 "com/example/regolo/regolo/engine/Relaxation" "reduced" "[D" .null := F_reduced_a1.ext E25
  have F_place_a1 : Fld Z h25 a1 "com/example/regolo/regolo/engine/Relaxation" "place" "[I" .null := F_place_a1.ext E25
  have F_columns_a1 : Fld Z h25 a1 "com/example/regolo/regolo/engine/Relaxation" "columns" "I" (.int (0 : Int32)) := F_columns_a1.ext E25
  have A_a2 : ArD Z h25 a2 (3 : Int32) f := A_a2.ext E25
  have E_a2 : Exa Z h25 a2 "[D" := E_a2.ext E25
  have Ol : Old Z n0 h25 := Ol.ext E25
  have Kp : Keep h0 h25 [a1] := Kp.ext E25
  have E_b25 : Exa Z h25 b25 "java/util/ArrayList" := A25
  have F_modCount_b25 : Fld Z h25 b25 "java/util/AbstractList" "modCount" "I" (.int (0 : Int32)) := D25 (Or.inl (hw _ (List.mem_of_getElem? (i := 37) rfl))) (ty := .int) (by decide)
  have F_elementData_b25 : Fld Z h25 b25 "java/util/ArrayList" "elementData" "[Ljava/lang/Object;" .null := D25 (Or.inl (hw _ (List.mem_of_getElem? (i := 40) rfl))) (ty := (.array (.object "java/lang/Object"))) (by decide)
  have F_size_b25 : Fld Z h25 b25 "java/util/ArrayList" "size" "I" (.int (0 : Int32)) := D25 (Or.inl (hw _ (List.mem_of_getElem? (i := 107) rfl))) (ty := .int) (by decide)
  obtain ⟨_, _, ⟨T26, L26, k26, n26⟩, -, X26, ⟨Lc26, hQ26, l26, y26, z26⟩, st26⟩ := X25.specialBack hx (y := (⟨"java/util/ArrayList", "<init>", "()V"⟩ : MethodName)) rfl hown (mvT hZ (hw _ (List.mem_of_getElem? (i := 20) rfl))) (mvT hZ (hw _ (List.mem_of_getElem? (i := 21) rfl))) (mvT hZ (hw _ (List.mem_of_getElem? (i := 22) rfl))) (by decide) (backOf (W := 2) (rmAL0 l Z a0 hw [] b25 (0 : Int32) (0 : Int32) dd h25 n0 Zs E_b25 F_elementData_b25 F_size_b25 F_modCount_b25 g_b25 Ol S_DEFAULTCAPACITY_EMPTY_ELEMENTDATA) hZ (hw _ (List.mem_of_getElem? (i := 22) rfl)) (hw _ (List.mem_of_getElem? (i := 19) rfl)) (by decide) (by decide)) (g := (mkF m 9 #[.val (.ref a1), .val (.ref a2), .unset] [(.ref b25), (.ref b25), (.ref a1)])) rfl (by rw [hml]; rfl) (Steps.refl _) (a := b25) (argsL := []) (rest := [(.ref b25), (.ref a1)]) (lenOf pd_0 rfl) rfl (by show 2 * 0 + _ ≤ _; exact Nat.le_of_eq rfl) (hb hby d3_9) (fun _ _ => ⟨rfl, e25, (by decide : 1 + 0 ≤ _), (by decide : 3 + 0 ≤ _)⟩)
  dsimp only [Pt.U, Pt.locs, Pt.cells, Pt.slots] at X26 l26 y26 z26 st26 hQ26
  subst l26 y26 z26
  obtain ⟨rfl, N26q, K26, P26_1, P26_2, P26_3⟩ := hQ26
  have Zs : n0 ≤ T26.heap.size := Nat.le_trans Zs K26.1
  have E_a1 : Exa Z T26.heap a1 "com/example/regolo/regolo/engine/Relaxation" := E_a1.keep K26
  have F_rows_a1 : Fld Z T26.heap a1 "com/example/regolo/regolo/engine/Relaxation" "rows" "Ljava/util/List;" .null := F_rows_a1.keep K26 (ninS ne_a1_b25 nin0)
  have F_head_a1 : Fld Z T26.heap a1 "com/example/regolo/regolo/engine/Relaxation" "head" "[I" .null := F_head_a1.keep K26 (ninS ne_a1_b25 nin0)
  have F_weight_a1 : Fld Z T26.heap a1 "com/example/regolo/regolo/engine/Relaxation" "weight" "[D" .null := F_weight_a1.keep K26 (ninS ne_a1_b25 nin0)
  have F_inverse_a1 : Fld Z T26.heap a1 "com/example/regolo/regolo/engine/Relaxation" "inverse" "[[D" .null := F_inverse_a1.keep K26 (ninS ne_a1_b25 nin0)
  have F_cost_a1 : Fld Z T26.heap a1 "com/example/regolo/regolo/engine/Relaxation" "cost" "[D" .null := F_cost_a1.keep K26 (ninS ne_a1_b25 nin0)
  have F_lower_a1 : Fld Z T26.heap a1 "com/example/regolo/regolo/engine/Relaxation" "lower" "[D" .null := F_lower_a1.keep K26 (ninS ne_a1_b25 nin0)
  have F_upper_a1 : Fld Z T26.heap a1 "com/example/regolo/regolo/engine/Relaxation" "upper" "[D" .null := F_upper_a1.keep K26 (ninS ne_a1_b25 nin0)
  have F_value_a1 : Fld Z T26.heap a1 "com/example/regolo/regolo/engine/Relaxation" "value" "[D" .null := F_value_a1.keep K26 (ninS ne_a1_b25 nin0)
  have F_status_a1 : Fld Z T26.heap a1 "com/example/regolo/regolo/engine/Relaxation" "status" "[I" .null := F_status_a1.keep K26 (ninS ne_a1_b25 nin0)
  have F_reduced_a1 : Fld Z T26.heap a1 "com/example/regolo/regolo/engine/Relaxation" "reduced" "[D" .null := F_reduced_a1.keep K26 (ninS ne_a1_b25 nin0)
  have F_place_a1 : Fld Z T26.heap a1 "com/example/regolo/regolo/engine/Relaxation" "place" "[I" .null := F_place_a1.keep K26 (ninS ne_a1_b25 nin0)
  have F_columns_a1 : Fld Z T26.heap a1 "com/example/regolo/regolo/engine/Relaxation" "columns" "I" (.int (0 : Int32)) := F_columns_a1.keep K26 (ninS ne_a1_b25 nin0)
  have A_a2 : ArD Z T26.heap a2 (3 : Int32) f := A_a2.keep K26 (ninS ne_a2_b25 nin0)
  have E_a2 : Exa Z T26.heap a2 "[D" := E_a2.keep K26
  have Ol : Old Z n0 T26.heap := Ol.keep K26 (allS g_b25 all0)
  have Kp : Keep h0 T26.heap [a1] := Kp.trans K26 (allS (Or.inr sz_b25) all0)
  have E_b25 : Exa Z T26.heap b25 "java/util/ArrayList" := E_b25.keep K26
  have F_elementData_b25 : Fld Z T26.heap b25 "java/util/ArrayList" "elementData" "[Ljava/lang/Object;" (.ref dd) := P26_1
  have F_size_b25 : Fld Z T26.heap b25 "java/util/ArrayList" "size" "I" (.int (0 : Int32)) := P26_2
  have F_modCount_b25 : Fld Z T26.heap b25 "java/util/AbstractList" "modCount" "I" (.int (0 : Int32)) := P26_3
  have N26 := Fr.app N0 N26q
  obtain ⟨T27, h27, X27, e27, W27, st27⟩ := putF X26 hx hZ hown (host := "") (Or.inl (hw _ (List.mem_of_getElem? (i := 41) rfl))) Via.refl rfl F_rows_a1 E_a1 (Or.inr ⟨(hw _ (List.mem_of_getElem? (i := 42) rfl)), rfl, hnm⟩) (hw _ (List.mem_of_getElem? (i := 9) rfl)) (ty := (.object "java/util/List")) (by decide) rfl rfl (g := (mkF m 12 #[.val (.ref a1), .val (.ref a2), .unset] [(.ref b25), (.ref a1)])) rfl rfl (hb hby d3_12)
  have N27 := Fr.snoc X27 N26 g_a1
  have Zs : n0 ≤ h27.size := Nat.le_trans Zs (Keep.of_wr W27).1
  have E_a1 : Exa Z h27 a1 "com/example/regolo/regolo/engine/Relaxation" := E_a1.wr W27
  have F_rows_a1 : Fld Z h27 a1 "com/example/regolo/regolo/engine/Relaxation" "rows" "Ljava/util/List;" (.ref b25) := F_rows_a1.same W27
  have F_head_a1 : Fld Z h27 a1 "com/example/regolo/regolo/engine/Relaxation" "head" "[I" .null := F_head_a1.other W27 (Or.inr (slot_ne (Or.inl (hw _ (List.mem_of_getElem? (i := 45) rfl))) (Or.inr (hw _ (List.mem_of_getElem? (i := 42) rfl))) (by decide) (t := (.array .int)) (t' := (.object "java/util/List")) (by decide) (by decide)))
  have F_weight_a1 : Fld Z h27 a1 "com/example/regolo/regolo/engine/Relaxation" "weight" "[D" .null := F_weight_a1.other W27 (Or.inr (slot_ne (Or.inl (hw _ (List.mem_of_getElem? (i := 47) rfl))) (Or.inr (hw _ (List.mem_of_getElem? (i := 42) rfl))) (by decide) (t := (.array .double)) (t' := (.object "java/util/List")) (by decide) (by decide)))
  have F_inverse_a1 : Fld Z h27 a1 "com/example/regolo/regolo/engine/Relaxation" "inverse" "[[D" .null := F_inverse_a1.other W27 (Or.inr (slot_ne (Or.inl (hw _ (List.mem_of_getElem? (i := 51) rfl))) (Or.inr (hw _ (List.mem_of_getElem? (i := 42) rfl))) (by decide) (t := (.array (.array .double))) (t' := (.object "java/util/List")) (by decide) (by decide)))
  have F_cost_a1 : Fld Z h27 a1 "com/example/regolo/regolo/engine/Relaxation" "cost" "[D" .null := F_cost_a1.other W27 (Or.inr (slot_ne (Or.inr (hw _ (List.mem_of_getElem? (i := 63) rfl))) (Or.inr (hw _ (List.mem_of_getElem? (i := 42) rfl))) (by decide) (t := (.array .double)) (t' := (.object "java/util/List")) (by decide) (by decide)))
  have F_lower_a1 : Fld Z h27 a1 "com/example/regolo/regolo/engine/Relaxation" "lower" "[D" .null := F_lower_a1.other W27 (Or.inr (slot_ne (Or.inl (hw _ (List.mem_of_getElem? (i := 65) rfl))) (Or.inr (hw _ (List.mem_of_getElem? (i := 42) rfl))) (by decide) (t := (.array .double)) (t' := (.object "java/util/List")) (by decide) (by decide)))
  have F_upper_a1 : Fld Z h27 a1 "com/example/regolo/regolo/engine/Relaxation" "upper" "[D" .null := F_upper_a1.other W27 (Or.inr (slot_ne (Or.inl (hw _ (List.mem_of_getElem? (i := 67) rfl))) (Or.inr (hw _ (List.mem_of_getElem? (i := 42) rfl))) (by decide) (t := (.array .double)) (t' := (.object "java/util/List")) (by decide) (by decide)))
  have F_value_a1 : Fld Z h27 a1 "com/example/regolo/regolo/engine/Relaxation" "value" "[D" .null := F_value_a1.other W27 (Or.inr (slot_ne (Or.inl (hw _ (List.mem_of_getElem? (i := 69) rfl))) (Or.inr (hw _ (List.mem_of_getElem? (i := 42) rfl))) (by decide) (t := (.array .double)) (t' := (.object "java/util/List")) (by decide) (by decide)))
  have F_status_a1 : Fld Z h27 a1 "com/example/regolo/regolo/engine/Relaxation" "status" "[I" .null := F_status_a1.other W27 (Or.inr (slot_ne (Or.inl (hw _ (List.mem_of_getElem? (i := 71) rfl))) (Or.inr (hw _ (List.mem_of_getElem? (i := 42) rfl))) (by decide) (t := (.array .int)) (t' := (.object "java/util/List")) (by decide) (by decide)))
  have F_reduced_a1 : Fld Z h27 a1 "com/example/regolo/regolo/engine/Relaxation" "reduced" "[D" .null := F_reduced_a1.other W27 (Or.inr (slot_ne (Or.inl (hw _ (List.mem_of_getElem? (i := 73) rfl))) (Or.inr (hw _ (List.mem_of_getElem? (i := 42) rfl))) (by decide) (t := (.array .double)) (t' := (.object "java/util/List")) (by decide) (by decide)))
  have F_place_a1 : Fld Z h27 a1 "com/example/regolo/regolo/engine/Relaxation" "place" "[I" .null := F_place_a1.other W27 (Or.inr (slot_ne (Or.inl (hw _ (List.mem_of_getElem? (i := 75) rfl))) (Or.inr (hw _ (List.mem_of_getElem? (i := 42) rfl))) (by decide) (t := (.array .int)) (t' := (.object "java/util/List")) (by decide) (by decide)))
  have F_columns_a1 : Fld Z h27 a1 "com/example/regolo/regolo/engine/Relaxation" "columns" "I" (.int (0 : Int32)) := F_columns_a1.other W27 (Or.inr (slot_ne (Or.inr (hw _ (List.mem_of_getElem? (i := 53) rfl))) (Or.inr (hw _ (List.mem_of_getElem? (i := 42) rfl))) (by decide) (t := .int) (t' := (.object "java/util/List")) (by decide) (by decide)))
  have A_a2 : ArD Z h27 a2 (3 : Int32) f := A_a2.other W27 (Ne.symm ne_a1_a2)
  have E_a2 : Exa Z h27 a2 "[D" := E_a2.wr W27
  have Ol : Old Z n0 h27 := Ol.wr W27 g_a1
  have Kp : Keep h0 h27 [a1] := Kp.wr W27 (Or.inl (List.mem_of_getElem? (i := 0) rfl))
  have E_b25 : Exa Z h27 b25 "java/util/ArrayList" := E_b25.wr W27
  have F_elementData_b25 : Fld Z h27 b25 "java/util/ArrayList" "elementData" "[Ljava/lang/Object;" (.ref dd) := F_elementData_b25.other W27 (Or.inl (Ne.symm ne_a1_b25))
  have F_size_b25 : Fld Z h27 b25 "java/util/ArrayList" "size" "I" (.int (0 : Int32)) := F_size_b25.other W27 (Or.inl (Ne.symm ne_a1_b25))
  have F_modCount_b25 : Fld Z h27 b25 "java/util/AbstractList" "modCount" "I" (.int (0 : Int32)) := F_modCount_b25.other W27 (Or.inl (Ne.symm ne_a1_b25))
  obtain ⟨T28, h28, k28, X28, e28, E28, A28, B28, st28⟩ := newPE X27 hx hZ (hw _ (List.mem_of_getElem? (i := 43) rfl)) e27 (g := (mkF m 17 #[.val (.ref a1), .val (.ref a2), .unset] [(.int (0 : Int32)), (.ref a1)])) rfl (hb hby d3_17) rfl (by decide) (cap := 0) (by decide) (by decide) (by decide) (by decide) (ad := "[I") (by decide)
  obtain ⟨b28, g28⟩ : ∃ z, z = h27.size := ⟨_, rfl⟩
  rw [← g28] at A28 B28 st28
  have g_b28 : n0 ≤ b28 := Nat.le_trans Zs (Nat.le_of_eq g28.symm)
  have sz_b28 : h0.size ≤ b28 := Nat.le_trans Kp.1 (Nat.le_of_eq g28.symm)
  have ne_a1_b28 : a1 ≠ b28 := Nat.ne_of_lt (Nat.lt_of_lt_of_le E_a1.lt (Nat.le_of_eq g28.symm))
  have ne_a2_b28 : a2 ≠ b28 := Nat.ne_of_lt (Nat.lt_of_lt_of_le A_a2.lt (Nat.le_of_eq g28.symm))
  have ne_b25_b28 : b25 ≠ b28 := Nat.ne_of_lt (Nat.lt_of_lt_of_le E_b25.lt (Nat.le_of_eq g28.symm))
  have Zs : n0 ≤ h28.size := Nat.le_trans Zs E28.1
  have E_a1 : Exa Z h28 a1 "com/example/regolo/regolo/engine/Relaxation" := E_a1.ext E28
  have F_rows_a1 : Fld Z h28 a1 "com/example/regolo/regolo/engine/Relaxation" "rows" "Ljava/util/List;" (.ref b25) := F_rows_a1.ext E28
  have F_head_a1 : Fld Z h28 a1 "com/example/regolo/regolo/engine/Relaxation" "head" "[I" .null := F_head_a1.ext E28
  have F_weight_a1 : Fld Z h28 a1 "com/example/regolo/regolo/engine/Relaxation" "weight" "[D" .null := F_weight_a1.ext E28
  have F_inverse_a1 : Fld Z h28 a1 "com/example/regolo/regolo/engine/Relaxation" "inverse" "[[D" .null := F_inverse_a1.ext E28
  have F_cost_a1 : Fld Z h28 a1 "com/example/regolo/regolo/engine/Relaxation" "cost" "[D" .null := F_cost_a1.ext E28
  have F_lower_a1 : Fld Z h28 a1 "com/example/regolo/regolo/engine/Relaxation" "lower" "[D" .null := F_lower_a1.ext E28
  have F_upper_a1 : Fld Z h28 a1 "com/example/regolo/regolo/engine/Relaxation" "upper" "[D" .null := F_upper_a1.ext E28
  have F_value_a1 : Fld Z h28 a1 "com/example/regolo/regolo/engine/Relaxation" "value" "[D" .null := F_value_a1.ext E28
  have F_status_a1 : Fld Z h28 a1 "com/example/regolo/regolo/engine/Relaxation" "status" "[I" .null := F_status_a1.ext E28
  have F_reduced_a1 : Fld Z h28 a1 "com/example/regolo/regolo/engine/Relaxation" "reduced" "[D" .null := F_reduced_a1.ext E28
  have F_place_a1 : Fld Z h28 a1 "com/example/regolo/regolo/engine/Relaxation" "place" "[I" .null := F_place_a1.ext E28
  have F_columns_a1 : Fld Z h28 a1 "com/example/regolo/regolo/engine/Relaxation" "columns" "I" (.int (0 : Int32)) := F_columns_a1.ext E28
  have A_a2 : ArD Z h28 a2 (3 : Int32) f := A_a2.ext E28
  have E_a2 : Exa Z h28 a2 "[D" := E_a2.ext E28
  have Ol : Old Z n0 h28 := Ol.ext E28
  have Kp : Keep h0 h28 [a1] := Kp.ext E28
  have E_b25 : Exa Z h28 b25 "java/util/ArrayList" := E_b25.ext E28
  have F_elementData_b25 : Fld Z h28 b25 "java/util/ArrayList" "elementData" "[Ljava/lang/Object;" (.ref dd) := F_elementData_b25.ext E28
  have F_size_b25 : Fld Z h28 b25 "java/util/ArrayList" "size" "I" (.int (0 : Int32)) := F_size_b25.ext E28
  have F_modCount_b25 : Fld Z h28 b25 "java/util/AbstractList" "modCount" "I" (.int (0 : Int32)) := F_modCount_b25.ext E28
  have E_b28 : Exa Z h28 b28 "[I" := B28
  have A_b28 : ArI Z h28 b28 (0 : Int32) (fun _ => 0) := ArI.new A28 (by decide)
  obtain ⟨T29, h29, X29, e29, W29, st29⟩ := putF X28 hx hZ hown (host := "") (Or.inl (hw _ (List.mem_of_getElem? (i := 44) rfl))) Via.refl e28 F_head_a1 E_a1 (Or.inl (hw _ (List.mem_of_getElem? (i := 45) rfl))) (hw _ (List.mem_of_getElem? (i := 9) rfl)) (ty := (.array .int)) (by decide) rfl rfl (g := (mkF m 19 #[.val (.ref a1), .val (.ref a2), .unset] [(.ref b28), (.ref a1)])) rfl rfl (hb hby d3_19)
  have N29 := Fr.snoc X29 N27 g_a1
  have Zs : n0 ≤ h29.size := Nat.le_trans Zs (Keep.of_wr W29).1
  have E_a1 : Exa Z h29 a1 "com/example/regolo/regolo/engine/Relaxation" := E_a1.wr W29
  have F_rows_a1 : Fld Z h29 a1 "com/example/regolo/regolo/engine/Relaxation" "rows" "Ljava/util/List;" (.ref b25) := F_rows_a1.other W29 (Or.inr (slot_ne (Or.inr (hw _ (List.mem_of_getElem? (i := 42) rfl))) (Or.inl (hw _ (List.mem_of_getElem? (i := 45) rfl))) (by decide) (t := (.object "java/util/List")) (t' := (.array .int)) (by decide) (by decide)))
  have F_head_a1 : Fld Z h29 a1 "com/example/regolo/regolo/engine/Relaxation" "head" "[I" (.ref b28) := F_head_a1.same W29
  have F_weight_a1 : Fld Z h29 a1 "com/example/regolo/regolo/engine/Relaxation" "weight" "[D" .null := F_weight_a1.other W29 (Or.inr (slot_ne (Or.inl (hw _ (List.mem_of_getElem? (i := 47) rfl))) (Or.inl (hw _ (List.mem_of_getElem? (i := 45) rfl))) (by decide) (t := (.array .double)) (t' := (.array .int)) (by decide) (by decide)))
  have F_inverse_a1 : Fld Z h29 a1 "com/example/regolo/regolo/engine/Relaxation" "inverse" "[[D" .null := F_inverse_a1.other W29 (Or.inr (slot_ne (Or.inl (hw _ (List.mem_of_getElem? (i := 51) rfl))) (Or.inl (hw _ (List.mem_of_getElem? (i := 45) rfl))) (by decide) (t := (.array (.array .double))) (t' := (.array .int)) (by decide) (by decide)))
  have F_cost_a1 : Fld Z h29 a1 "com/example/regolo/regolo/engine/Relaxation" "cost" "[D" .null := F_cost_a1.other W29 (Or.inr (slot_ne (Or.inr (hw _ (List.mem_of_getElem? (i := 63) rfl))) (Or.inl (hw _ (List.mem_of_getElem? (i := 45) rfl))) (by decide) (t := (.array .double)) (t' := (.array .int)) (by decide) (by decide)))
  have F_lower_a1 : Fld Z h29 a1 "com/example/regolo/regolo/engine/Relaxation" "lower" "[D" .null := F_lower_a1.other W29 (Or.inr (slot_ne (Or.inl (hw _ (List.mem_of_getElem? (i := 65) rfl))) (Or.inl (hw _ (List.mem_of_getElem? (i := 45) rfl))) (by decide) (t := (.array .double)) (t' := (.array .int)) (by decide) (by decide)))
  have F_upper_a1 : Fld Z h29 a1 "com/example/regolo/regolo/engine/Relaxation" "upper" "[D" .null := F_upper_a1.other W29 (Or.inr (slot_ne (Or.inl (hw _ (List.mem_of_getElem? (i := 67) rfl))) (Or.inl (hw _ (List.mem_of_getElem? (i := 45) rfl))) (by decide) (t := (.array .double)) (t' := (.array .int)) (by decide) (by decide)))
  have F_value_a1 : Fld Z h29 a1 "com/example/regolo/regolo/engine/Relaxation" "value" "[D" .null := F_value_a1.other W29 (Or.inr (slot_ne (Or.inl (hw _ (List.mem_of_getElem? (i := 69) rfl))) (Or.inl (hw _ (List.mem_of_getElem? (i := 45) rfl))) (by decide) (t := (.array .double)) (t' := (.array .int)) (by decide) (by decide)))
  have F_status_a1 : Fld Z h29 a1 "com/example/regolo/regolo/engine/Relaxation" "status" "[I" .null := F_status_a1.other W29 (Or.inr (slot_ne (Or.inl (hw _ (List.mem_of_getElem? (i := 71) rfl))) (Or.inl (hw _ (List.mem_of_getElem? (i := 45) rfl))) (by decide) (t := (.array .int)) (t' := (.array .int)) (by decide) (by decide)))
  have F_reduced_a1 : Fld Z h29 a1 "com/example/regolo/regolo/engine/Relaxation" "reduced" "[D" .null := F_reduced_a1.other W29 (Or.inr (slot_ne (Or.inl (hw _ (List.mem_of_getElem? (i := 73) rfl))) (Or.inl (hw _ (List.mem_of_getElem? (i := 45) rfl))) (by decide) (t := (.array .double)) (t' := (.array .int)) (by decide) (by decide)))
  have F_place_a1 : Fld Z h29 a1 "com/example/regolo/regolo/engine/Relaxation" "place" "[I" .null := F_place_a1.other W29 (Or.inr (slot_ne (Or.inl (hw _ (List.mem_of_getElem? (i := 75) rfl))) (Or.inl (hw _ (List.mem_of_getElem? (i := 45) rfl))) (by decide) (t := (.array .int)) (t' := (.array .int)) (by decide) (by decide)))
  have F_columns_a1 : Fld Z h29 a1 "com/example/regolo/regolo/engine/Relaxation" "columns" "I" (.int (0 : Int32)) := F_columns_a1.other W29 (Or.inr (slot_ne (Or.inr (hw _ (List.mem_of_getElem? (i := 53) rfl))) (Or.inl (hw _ (List.mem_of_getElem? (i := 45) rfl))) (by decide) (t := .int) (t' := (.array .int)) (by decide) (by decide)))
  have A_a2 : ArD Z h29 a2 (3 : Int32) f := A_a2.other W29 (Ne.symm ne_a1_a2)
  have E_a2 : Exa Z h29 a2 "[D" := E_a2.wr W29
  have Ol : Old Z n0 h29 := Ol.wr W29 g_a1
  have Kp : Keep h0 h29 [a1] := Kp.wr W29 (Or.inl (List.mem_of_getElem? (i := 0) rfl))
  have E_b25 : Exa Z h29 b25 "java/util/ArrayList" := E_b25.wr W29
  have F_elementData_b25 : Fld Z h29 b25 "java/util/ArrayList" "elementData" "[Ljava/lang/Object;" (.ref dd) := F_elementData_b25.other W29 (Or.inl (Ne.symm ne_a1_b25))
  have F_size_b25 : Fld Z h29 b25 "java/util/ArrayList" "size" "I" (.int (0 : Int32)) := F_size_b25.other W29 (Or.inl (Ne.symm ne_a1_b25))
  have F_modCount_b25 : Fld Z h29 b25 "java/util/AbstractList" "modCount" "I" (.int (0 : Int32)) := F_modCount_b25.other W29 (Or.inl (Ne.symm ne_a1_b25))
  have E_b28 : Exa Z h29 b28 "[I" := E_b28.wr W29
  have A_b28 : ArI Z h29 b28 (0 : Int32) (fun _ => 0) := A_b28.other W29 (Ne.symm ne_a1_b28)
  obtain ⟨T30, h30, k30, X30, e30, E30, A30, B30, st30⟩ := newPE X29 hx hZ (hw _ (List.mem_of_getElem? (i := 7) rfl)) e29 (g := (mkF m 24 #[.val (.ref a1), .val (.ref a2), .unset] [(.int (0 : Int32)), (.ref a1)])) rfl (hb hby d3_24) rfl (by decide) (cap := 0) (by decide) (by decide) (by decide) (by decide) (ad := "[D") (by decide)
  obtain ⟨b30, g30⟩ : ∃ z, z = h29.size := ⟨_, rfl⟩
  rw [← g30] at A30 B30 st30
  have g_b30 : n0 ≤ b30 := Nat.le_trans Zs (Nat.le_of_eq g30.symm)
  have sz_b30 : h0.size ≤ b30 := Nat.le_trans Kp.1 (Nat.le_of_eq g30.symm)
  have ne_a1_b30 : a1 ≠ b30 := Nat.ne_of_lt (Nat.lt_of_lt_of_le E_a1.lt (Nat.le_of_eq g30.symm))
  have ne_a2_b30 : a2 ≠ b30 := Nat.ne_of_lt (Nat.lt_of_lt_of_le A_a2.lt (Nat.le_of_eq g30.symm))
  have ne_b25_b30 : b25 ≠ b30 := Nat.ne_of_lt (Nat.lt_of_lt_of_le E_b25.lt (Nat.le_of_eq g30.symm))
  have Zs : n0 ≤ h30.size := Nat.le_trans Zs E30.1
  have E_a1 : Exa Z h30 a1 "com/example/regolo/regolo/engine/Relaxation" := E_a1.ext E30
  have F_rows_a1 : Fld Z h30 a1 "com/example/regolo/regolo/engine/Relaxation" "rows" "Ljava/util/List;" (.ref b25) := F_rows_a1.ext E30
  have F_weight_a1 : Fld Z h30 a1 "com/example/regolo/regolo/engine/Relaxation" "weight" "[D" .null := F_weight_a1.ext E30
  have F_inverse_a1 : Fld Z h30 a1 "com/example/regolo/regolo/engine/Relaxation" "inverse" "[[D" .null := F_inverse_a1.ext E30
  have F_cost_a1 : Fld Z h30 a1 "com/example/regolo/regolo/engine/Relaxation" "cost" "[D" .null := F_cost_a1.ext E30
  have F_lower_a1 : Fld Z h30 a1 "com/example/regolo/regolo/engine/Relaxation" "lower" "[D" .null := F_lower_a1.ext E30
  have F_upper_a1 : Fld Z h30 a1 "com/example/regolo/regolo/engine/Relaxation" "upper" "[D" .null := F_upper_a1.ext E30
  have F_value_a1 : Fld Z h30 a1 "com/example/regolo/regolo/engine/Relaxation" "value" "[D" .null := F_value_a1.ext E30
  have F_status_a1 : Fld Z h30 a1 "com/example/regolo/regolo/engine/Relaxation" "status" "[I" .null := F_status_a1.ext E30
  have F_reduced_a1 : Fld Z h30 a1 "com/example/regolo/regolo/engine/Relaxation" "reduced" "[D" .null := F_reduced_a1.ext E30
  have F_place_a1 : Fld Z h30 a1 "com/example/regolo/regolo/engine/Relaxation" "place" "[I" .null := F_place_a1.ext E30
  have F_columns_a1 : Fld Z h30 a1 "com/example/regolo/regolo/engine/Relaxation" "columns" "I" (.int (0 : Int32)) := F_columns_a1.ext E30
  have A_a2 : ArD Z h30 a2 (3 : Int32) f := A_a2.ext E30
  have E_a2 : Exa Z h30 a2 "[D" := E_a2.ext E30
  have Ol : Old Z n0 h30 := Ol.ext E30
  have Kp : Keep h0 h30 [a1] := Kp.ext E30
  have E_b25 : Exa Z h30 b25 "java/util/ArrayList" := E_b25.ext E30
  have F_elementData_b25 : Fld Z h30 b25 "java/util/ArrayList" "elementData" "[Ljava/lang/Object;" (.ref dd) := F_elementData_b25.ext E30
  have F_size_b25 : Fld Z h30 b25 "java/util/ArrayList" "size" "I" (.int (0 : Int32)) := F_size_b25.ext E30
  have F_modCount_b25 : Fld Z h30 b25 "java/util/AbstractList" "modCount" "I" (.int (0 : Int32)) := F_modCount_b25.ext E30
  have E_b30 : Exa Z h30 b30 "[D" := B30
  have A_b30 : ArD Z h30 b30 (0 : Int32) (fun _ => 0) := ArD.new A30 (by decide)
  obtain ⟨T31, h31, X31, e31, W31, st31⟩ := putF X30 hx hZ hown (host := "") (Or.inl (hw _ (List.mem_of_getElem? (i := 46) rfl))) Via.refl e30 F_weight_a1 E_a1 (Or.inl (hw _ (List.mem_of_getElem? (i := 47) rfl))) (hw _ (List.mem_of_getElem? (i := 9) rfl)) (ty := (.array .double)) (by decide) rfl rfl (g := (mkF m 26 #[.val (.ref a1), .val (.ref a2), .unset] [(.ref b30), (.ref a1)])) rfl rfl (hb hby d3_26)
  have N31 := Fr.snoc X31 N29 g_a1
  have Zs : n0 ≤ h31.size := Nat.le_trans Zs (Keep.of_wr W31).1
  have E_a1 : Exa Z h31 a1 "com/example/regolo/regolo/engine/Relaxation" := E_a1.wr W31
  have F_rows_a1 : Fld Z h31 a1 "com/example/regolo/regolo/engine/Relaxation" "rows" "Ljava/util/List;" (.ref b25) := F_rows_a1.other W31 (Or.inr (slot_ne (Or.inr (hw _ (List.mem_of_getElem? (i := 42) rfl))) (Or.inl (hw _ (List.mem_of_getElem? (i := 47) rfl))) (by decide) (t := (.object "java/util/List")) (t' := (.array .double)) (by decide) (by decide)))
  have F_weight_a1 : Fld Z h31 a1 "com/example/regolo/regolo/engine/Relaxation" "weight" "[D" (.ref b30) := F_weight_a1.same W31
  have F_inverse_a1 : Fld Z h31 a1 "com/example/regolo/regolo/engine/Relaxation" "inverse" "[[D" .null := F_inverse_a1.other W31 (Or.inr (slot_ne (Or.inl (hw _ (List.mem_of_getElem? (i := 51) rfl))) (Or.inl (hw _ (List.mem_of_getElem? (i := 47) rfl))) (by decide) (t := (.array (.array .double))) (t' := (.array .double)) (by decide) (by decide)))
  have F_cost_a1 : Fld Z h31 a1 "com/example/regolo/regolo/engine/Relaxation" "cost" "[D" .null := F_cost_a1.other W31 (Or.inr (slot_ne (Or.inr (hw _ (List.mem_of_getElem? (i := 63) rfl))) (Or.inl (hw _ (List.mem_of_getElem? (i := 47) rfl))) (by decide) (t := (.array .double)) (t' := (.array .double)) (by decide) (by decide)))
  have F_lower_a1 : Fld Z h31 a1 "com/example/regolo/regolo/engine/Relaxation" "lower" "[D" .null := F_lower_a1.other W31 (Or.inr (slot_ne (Or.inl (hw _ (List.mem_of_getElem? (i := 65) rfl))) (Or.inl (hw _ (List.mem_of_getElem? (i := 47) rfl))) (by decide) (t := (.array .double)) (t' := (.array .double)) (by decide) (by decide)))
  have F_upper_a1 : Fld Z h31 a1 "com/example/regolo/regolo/engine/Relaxation" "upper" "[D" .null := F_upper_a1.other W31 (Or.inr (slot_ne (Or.inl (hw _ (List.mem_of_getElem? (i := 67) rfl))) (Or.inl (hw _ (List.mem_of_getElem? (i := 47) rfl))) (by decide) (t := (.array .double)) (t' := (.array .double)) (by decide) (by decide)))
  have F_value_a1 : Fld Z h31 a1 "com/example/regolo/regolo/engine/Relaxation" "value" "[D" .null := F_value_a1.other W31 (Or.inr (slot_ne (Or.inl (hw _ (List.mem_of_getElem? (i := 69) rfl))) (Or.inl (hw _ (List.mem_of_getElem? (i := 47) rfl))) (by decide) (t := (.array .double)) (t' := (.array .double)) (by decide) (by decide)))
  have F_status_a1 : Fld Z h31 a1 "com/example/regolo/regolo/engine/Relaxation" "status" "[I" .null := F_status_a1.other W31 (Or.inr (slot_ne (Or.inl (hw _ (List.mem_of_getElem? (i := 71) rfl))) (Or.inl (hw _ (List.mem_of_getElem? (i := 47) rfl))) (by decide) (t := (.array .int)) (t' := (.array .double)) (by decide) (by decide)))
  have F_reduced_a1 : Fld Z h31 a1 "com/example/regolo/regolo/engine/Relaxation" "reduced" "[D" .null := F_reduced_a1.other W31 (Or.inr (slot_ne (Or.inl (hw _ (List.mem_of_getElem? (i := 73) rfl))) (Or.inl (hw _ (List.mem_of_getElem? (i := 47) rfl))) (by decide) (t := (.array .double)) (t' := (.array .double)) (by decide) (by decide)))
  have F_place_a1 : Fld Z h31 a1 "com/example/regolo/regolo/engine/Relaxation" "place" "[I" .null := F_place_a1.other W31 (Or.inr (slot_ne (Or.inl (hw _ (List.mem_of_getElem? (i := 75) rfl))) (Or.inl (hw _ (List.mem_of_getElem? (i := 47) rfl))) (by decide) (t := (.array .int)) (t' := (.array .double)) (by decide) (by decide)))
  have F_columns_a1 : Fld Z h31 a1 "com/example/regolo/regolo/engine/Relaxation" "columns" "I" (.int (0 : Int32)) := F_columns_a1.other W31 (Or.inr (slot_ne (Or.inr (hw _ (List.mem_of_getElem? (i := 53) rfl))) (Or.inl (hw _ (List.mem_of_getElem? (i := 47) rfl))) (by decide) (t := .int) (t' := (.array .double)) (by decide) (by decide)))
  have A_a2 : ArD Z h31 a2 (3 : Int32) f := A_a2.other W31 (Ne.symm ne_a1_a2)
  have E_a2 : Exa Z h31 a2 "[D" := E_a2.wr W31
  have Ol : Old Z n0 h31 := Ol.wr W31 g_a1
  have Kp : Keep h0 h31 [a1] := Kp.wr W31 (Or.inl (List.mem_of_getElem? (i := 0) rfl))
  have E_b25 : Exa Z h31 b25 "java/util/ArrayList" := E_b25.wr W31
  have F_elementData_b25 : Fld Z h31 b25 "java/util/ArrayList" "elementData" "[Ljava/lang/Object;" (.ref dd) := F_elementData_b25.other W31 (Or.inl (Ne.symm ne_a1_b25))
  have F_size_b25 : Fld Z h31 b25 "java/util/ArrayList" "size" "I" (.int (0 : Int32)) := F_size_b25.other W31 (Or.inl (Ne.symm ne_a1_b25))
  have F_modCount_b25 : Fld Z h31 b25 "java/util/AbstractList" "modCount" "I" (.int (0 : Int32)) := F_modCount_b25.other W31 (Or.inl (Ne.symm ne_a1_b25))
  have E_b30 : Exa Z h31 b30 "[D" := E_b30.wr W31
  have A_b30 : ArD Z h31 b30 (0 : Int32) (fun _ => 0) := A_b30.other W31 (Ne.symm ne_a1_b30)
  obtain ⟨T32, h32, k32, X32, e32, E32, A32, B32, O32, st32⟩ := newRA X31 hx hZ hown (C := "[D") (ty := .double) (by decide) (hw _ (List.mem_of_getElem? (i := 48) rfl)) (hw _ (List.mem_of_getElem? (i := 49) rfl)) e31 (g := (mkF m 31 #[.val (.ref a1), .val (.ref a2), .unset] [(.int (0 : Int32)), (.ref a1)])) rfl (hb hby d3_31) rfl (by decide) (cap := 0) (by decide) (by decide) (by decide) (by decide) (ad := "[[D") (by decide)
  obtain ⟨b32, g32⟩ : ∃ z, z = h31.size := ⟨_, rfl⟩
  rw [← g32] at A32 B32 st32
  have g_b32 : n0 ≤ b32 := Nat.le_trans Zs (Nat.le_of_eq g32.symm)
  have sz_b32 : h0.size ≤ b32 := Nat.le_trans Kp.1 (Nat.le_of_eq g32.symm)
  have ne_a1_b32 : a1 ≠ b32 := Nat.ne_of_lt (Nat.lt_of_lt_of_le E_a1.lt (Nat.le_of_eq g32.symm))
  have ne_a2_b32 : a2 ≠ b32 := Nat.ne_of_lt (Nat.lt_of_lt_of_le A_a2.lt (Nat.le_of_eq g32.symm))
  have ne_b25_b32 : b25 ≠ b32 := Nat.ne_of_lt (Nat.lt_of_lt_of_le E_b25.lt (Nat.le_of_eq g32.symm))
  have Zs : n0 ≤ h32.size := Nat.le_trans Zs E32.1
  have E_a1 : Exa Z h32 a1 "com/example/regolo/regolo/engine/Relaxation" := E_a1.ext E32
  have F_rows_a1 : Fld Z h32 a1 "com/example/regolo/regolo/engine/Relaxation" "rows" "Ljava/util/List;" (.ref b25) := F_rows_a1.ext E32
  have F_inverse_a1 : Fld Z h32 a1 "com/example/regolo/regolo/engine/Relaxation" "inverse" "[[D" .null := F_inverse_a1.ext E32
  have F_cost_a1 : Fld Z h32 a1 "com/example/regolo/regolo/engine/Relaxation" "cost" "[D" .null := F_cost_a1.ext E32
  have F_lower_a1 : Fld Z h32 a1 "com/example/regolo/regolo/engine/Relaxation" "lower" "[D" .null := F_lower_a1.ext E32
  have F_upper_a1 : Fld Z h32 a1 "com/example/regolo/regolo/engine/Relaxation" "upper" "[D" .null := F_upper_a1.ext E32
  have F_value_a1 : Fld Z h32 a1 "com/example/regolo/regolo/engine/Relaxation" "value" "[D" .null := F_value_a1.ext E32
  have F_status_a1 : Fld Z h32 a1 "com/example/regolo/regolo/engine/Relaxation" "status" "[I" .null := F_status_a1.ext E32
  have F_reduced_a1 : Fld Z h32 a1 "com/example/regolo/regolo/engine/Relaxation" "reduced" "[D" .null := F_reduced_a1.ext E32
  have F_place_a1 : Fld Z h32 a1 "com/example/regolo/regolo/engine/Relaxation" "place" "[I" .null := F_place_a1.ext E32
  have F_columns_a1 : Fld Z h32 a1 "com/example/regolo/regolo/engine/Relaxation" "columns" "I" (.int (0 : Int32)) := F_columns_a1.ext E32
  have A_a2 : ArD Z h32 a2 (3 : Int32) f := A_a2.ext E32
  have E_a2 : Exa Z h32 a2 "[D" := E_a2.ext E32
  have Ol : Old Z n0 h32 := Ol.ext E32
  have Kp : Keep h0 h32 [a1] := Kp.ext E32
  have E_b25 : Exa Z h32 b25 "java/util/ArrayList" := E_b25.ext E32
  have F_elementData_b25 : Fld Z h32 b25 "java/util/ArrayList" "elementData" "[Ljava/lang/Object;" (.ref dd) := F_elementData_b25.ext E32
  have F_size_b25 : Fld Z h32 b25 "java/util/ArrayList" "size" "I" (.int (0 : Int32)) := F_size_b25.ext E32
  have F_modCount_b25 : Fld Z h32 b25 "java/util/AbstractList" "modCount" "I" (.int (0 : Int32)) := F_modCount_b25.ext E32
  have E_b32 : Exa Z h32 b32 "[[D" := B32
  obtain ⟨T33, h33, X33, e33, W33, st33⟩ := putF X32 hx hZ hown (host := "") (Or.inl (hw _ (List.mem_of_getElem? (i := 50) rfl))) Via.refl e32 F_inverse_a1 E_a1 (Or.inl (hw _ (List.mem_of_getElem? (i := 51) rfl))) (hw _ (List.mem_of_getElem? (i := 9) rfl)) (ty := (.array (.array .double))) (by decide) rfl rfl (g := (mkF m 34 #[.val (.ref a1), .val (.ref a2), .unset] [(.ref b32), (.ref a1)])) rfl rfl (hb hby d3_34)
  have N33 := Fr.snoc X33 N31 g_a1
  have Zs : n0 ≤ h33.size := Nat.le_trans Zs (Keep.of_wr W33).1
  have E_a1 : Exa Z h33 a1 "com/example/regolo/regolo/engine/Relaxation" := E_a1.wr W33
  have F_rows_a1 : Fld Z h33 a1 "com/example/regolo/regolo/engine/Relaxation" "rows" "Ljava/util/List;" (.ref b25) := F_rows_a1.other W33 (Or.inr (slot_ne (Or.inr (hw _ (List.mem_of_getElem? (i := 42) rfl))) (Or.inl (hw _ (List.mem_of_getElem? (i := 51) rfl))) (by decide) (t := (.object "java/util/List")) (t' := (.array (.array .double))) (by decide) (by decide)))
  have F_inverse_a1 : Fld Z h33 a1 "com/example/regolo/regolo/engine/Relaxation" "inverse" "[[D" (.ref b32) := F_inverse_a1.same W33
  have F_cost_a1 : Fld Z h33 a1 "com/example/regolo/regolo/engine/Relaxation" "cost" "[D" .null := F_cost_a1.other W33 (Or.inr (slot_ne (Or.inr (hw _ (List.mem_of_getElem? (i := 63) rfl))) (Or.inl (hw _ (List.mem_of_getElem? (i := 51) rfl))) (by decide) (t := (.array .double)) (t' := (.array (.array .double))) (by decide) (by decide)))
  have F_lower_a1 : Fld Z h33 a1 "com/example/regolo/regolo/engine/Relaxation" "lower" "[D" .null := F_lower_a1.other W33 (Or.inr (slot_ne (Or.inl (hw _ (List.mem_of_getElem? (i := 65) rfl))) (Or.inl (hw _ (List.mem_of_getElem? (i := 51) rfl))) (by decide) (t := (.array .double)) (t' := (.array (.array .double))) (by decide) (by decide)))
  have F_upper_a1 : Fld Z h33 a1 "com/example/regolo/regolo/engine/Relaxation" "upper" "[D" .null := F_upper_a1.other W33 (Or.inr (slot_ne (Or.inl (hw _ (List.mem_of_getElem? (i := 67) rfl))) (Or.inl (hw _ (List.mem_of_getElem? (i := 51) rfl))) (by decide) (t := (.array .double)) (t' := (.array (.array .double))) (by decide) (by decide)))
  have F_value_a1 : Fld Z h33 a1 "com/example/regolo/regolo/engine/Relaxation" "value" "[D" .null := F_value_a1.other W33 (Or.inr (slot_ne (Or.inl (hw _ (List.mem_of_getElem? (i := 69) rfl))) (Or.inl (hw _ (List.mem_of_getElem? (i := 51) rfl))) (by decide) (t := (.array .double)) (t' := (.array (.array .double))) (by decide) (by decide)))
  have F_status_a1 : Fld Z h33 a1 "com/example/regolo/regolo/engine/Relaxation" "status" "[I" .null := F_status_a1.other W33 (Or.inr (slot_ne (Or.inl (hw _ (List.mem_of_getElem? (i := 71) rfl))) (Or.inl (hw _ (List.mem_of_getElem? (i := 51) rfl))) (by decide) (t := (.array .int)) (t' := (.array (.array .double))) (by decide) (by decide)))
  have F_reduced_a1 : Fld Z h33 a1 "com/example/regolo/regolo/engine/Relaxation" "reduced" "[D" .null := F_reduced_a1.other W33 (Or.inr (slot_ne (Or.inl (hw _ (List.mem_of_getElem? (i := 73) rfl))) (Or.inl (hw _ (List.mem_of_getElem? (i := 51) rfl))) (by decide) (t := (.array .double)) (t' := (.array (.array .double))) (by decide) (by decide)))
  have F_place_a1 : Fld Z h33 a1 "com/example/regolo/regolo/engine/Relaxation" "place" "[I" .null := F_place_a1.other W33 (Or.inr (slot_ne (Or.inl (hw _ (List.mem_of_getElem? (i := 75) rfl))) (Or.inl (hw _ (List.mem_of_getElem? (i := 51) rfl))) (by decide) (t := (.array .int)) (t' := (.array (.array .double))) (by decide) (by decide)))
  have F_columns_a1 : Fld Z h33 a1 "com/example/regolo/regolo/engine/Relaxation" "columns" "I" (.int (0 : Int32)) := F_columns_a1.other W33 (Or.inr (slot_ne (Or.inr (hw _ (List.mem_of_getElem? (i := 53) rfl))) (Or.inl (hw _ (List.mem_of_getElem? (i := 51) rfl))) (by decide) (t := .int) (t' := (.array (.array .double))) (by decide) (by decide)))
  have A_a2 : ArD Z h33 a2 (3 : Int32) f := A_a2.other W33 (Ne.symm ne_a1_a2)
  have E_a2 : Exa Z h33 a2 "[D" := E_a2.wr W33
  have Ol : Old Z n0 h33 := Ol.wr W33 g_a1
  have Kp : Keep h0 h33 [a1] := Kp.wr W33 (Or.inl (List.mem_of_getElem? (i := 0) rfl))
  have E_b25 : Exa Z h33 b25 "java/util/ArrayList" := E_b25.wr W33
  have F_elementData_b25 : Fld Z h33 b25 "java/util/ArrayList" "elementData" "[Ljava/lang/Object;" (.ref dd) := F_elementData_b25.other W33 (Or.inl (Ne.symm ne_a1_b25))
  have F_size_b25 : Fld Z h33 b25 "java/util/ArrayList" "size" "I" (.int (0 : Int32)) := F_size_b25.other W33 (Or.inl (Ne.symm ne_a1_b25))
  have F_modCount_b25 : Fld Z h33 b25 "java/util/AbstractList" "modCount" "I" (.int (0 : Int32)) := F_modCount_b25.other W33 (Or.inl (Ne.symm ne_a1_b25))
  have E_b32 : Exa Z h33 b32 "[[D" := E_b32.wr W33
  obtain ⟨cl34, Ar34, hl34⟩ := ArD.len A_a2 (by decide)
  obtain ⟨T35, h35, X35, e35, W35, st35⟩ := putF X33 hx hZ hown (host := "") (Or.inl (hw _ (List.mem_of_getElem? (i := 52) rfl))) Via.refl e33 F_columns_a1 E_a1 (Or.inr ⟨(hw _ (List.mem_of_getElem? (i := 53) rfl)), rfl, hnm⟩) (hw _ (List.mem_of_getElem? (i := 9) rfl)) (ty := .int) (by decide) rfl rfl (g := (mkF m 40 #[.val (.ref a1), .val (.ref a2), .unset] [(.int (3 : Int32)), (.ref a1)])) rfl rfl (hb hby d3_40)
  have N35 := Fr.snoc X35 N33 g_a1
  have Zs : n0 ≤ h35.size := Nat.le_trans Zs (Keep.of_wr W35).1
  have E_a1 : Exa Z h35 a1 "com/example/regolo/regolo/engine/Relaxation" := E_a1.wr W35
  have F_rows_a1 : Fld Z h35 a1 "com/example/regolo/regolo/engine/Relaxation" "rows" "Ljava/util/List;" (.ref b25) := F_rows_a1.other W35 (Or.inr (slot_ne (Or.inr (hw _ (List.mem_of_getElem? (i := 42) rfl))) (Or.inr (hw _ (List.mem_of_getElem? (i := 53) rfl))) (by decide) (t := (.object "java/util/List")) (t' := .int) (by decide) (by decide)))
  have F_cost_a1 : Fld Z h35 a1 "com/example/regolo/regolo/engine/Relaxation" "cost" "[D" .null := F_cost_a1.other W35 (Or.inr (slot_ne (Or.inr (hw _ (List.mem_of_getElem? (i := 63) rfl))) (Or.inr (hw _ (List.mem_of_getElem? (i := 53) rfl))) (by decide) (t := (.array .double)) (t' := .int) (by decide) (by decide)))
  have F_lower_a1 : Fld Z h35 a1 "com/example/regolo/regolo/engine/Relaxation" "lower" "[D" .null := F_lower_a1.other W35 (Or.inr (slot_ne (Or.inl (hw _ (List.mem_of_getElem? (i := 65) rfl))) (Or.inr (hw _ (List.mem_of_getElem? (i := 53) rfl))) (by decide) (t := (.array .double)) (t' := .int) (by decide) (by decide)))
  have F_upper_a1 : Fld Z h35 a1 "com/example/regolo/regolo/engine/Relaxation" "upper" "[D" .null := F_upper_a1.other W35 (Or.inr (slot_ne (Or.inl (hw _ (List.mem_of_getElem? (i := 67) rfl))) (Or.inr (hw _ (List.mem_of_getElem? (i := 53) rfl))) (by decide) (t := (.array .double)) (t' := .int) (by decide) (by decide)))
  have F_value_a1 : Fld Z h35 a1 "com/example/regolo/regolo/engine/Relaxation" "value" "[D" .null := F_value_a1.other W35 (Or.inr (slot_ne (Or.inl (hw _ (List.mem_of_getElem? (i := 69) rfl))) (Or.inr (hw _ (List.mem_of_getElem? (i := 53) rfl))) (by decide) (t := (.array .double)) (t' := .int) (by decide) (by decide)))
  have F_status_a1 : Fld Z h35 a1 "com/example/regolo/regolo/engine/Relaxation" "status" "[I" .null := F_status_a1.other W35 (Or.inr (slot_ne (Or.inl (hw _ (List.mem_of_getElem? (i := 71) rfl))) (Or.inr (hw _ (List.mem_of_getElem? (i := 53) rfl))) (by decide) (t := (.array .int)) (t' := .int) (by decide) (by decide)))
  have F_reduced_a1 : Fld Z h35 a1 "com/example/regolo/regolo/engine/Relaxation" "reduced" "[D" .null := F_reduced_a1.other W35 (Or.inr (slot_ne (Or.inl (hw _ (List.mem_of_getElem? (i := 73) rfl))) (Or.inr (hw _ (List.mem_of_getElem? (i := 53) rfl))) (by decide) (t := (.array .double)) (t' := .int) (by decide) (by decide)))
  have F_place_a1 : Fld Z h35 a1 "com/example/regolo/regolo/engine/Relaxation" "place" "[I" .null := F_place_a1.other W35 (Or.inr (slot_ne (Or.inl (hw _ (List.mem_of_getElem? (i := 75) rfl))) (Or.inr (hw _ (List.mem_of_getElem? (i := 53) rfl))) (by decide) (t := (.array .int)) (t' := .int) (by decide) (by decide)))
  have F_columns_a1 : Fld Z h35 a1 "com/example/regolo/regolo/engine/Relaxation" "columns" "I" (.int (3 : Int32)) := F_columns_a1.same W35
  have A_a2 : ArD Z h35 a2 (3 : Int32) f := A_a2.other W35 (Ne.symm ne_a1_a2)
  have E_a2 : Exa Z h35 a2 "[D" := E_a2.wr W35
  have Ol : Old Z n0 h35 := Ol.wr W35 g_a1
  have Kp : Keep h0 h35 [a1] := Kp.wr W35 (Or.inl (List.mem_of_getElem? (i := 0) rfl))
  have E_b25 : Exa Z h35 b25 "java/util/ArrayList" := E_b25.wr W35
  have F_elementData_b25 : Fld Z h35 b25 "java/util/ArrayList" "elementData" "[Ljava/lang/Object;" (.ref dd) := F_elementData_b25.other W35 (Or.inl (Ne.symm ne_a1_b25))
  have F_size_b25 : Fld Z h35 b25 "java/util/ArrayList" "size" "I" (.int (0 : Int32)) := F_size_b25.other W35 (Or.inl (Ne.symm ne_a1_b25))
  have F_modCount_b25 : Fld Z h35 b25 "java/util/AbstractList" "modCount" "I" (.int (0 : Int32)) := F_modCount_b25.other W35 (Or.inl (Ne.symm ne_a1_b25))
  obtain ⟨cl36, Ar36, fc36, hs36, mk36⟩ := A_a2.fit
  obtain ⟨T37, h37, X37, e37, E37, A37, B37, st37⟩ := cloneA X35 hx hZ hown (hw _ (List.mem_of_getElem? (i := 54) rfl)) (hw _ (List.mem_of_getElem? (i := 55) rfl)) (hw _ (List.mem_of_getElem? (i := 59) rfl)) (hw _ (List.mem_of_getElem? (i := 57) rfl)) (hw _ (List.mem_of_getElem? (i := 58) rfl)) (hw _ (List.mem_of_getElem? (i := 60) rfl)) e35 Ar36 E_a2 fc36 (g := (mkF m 45 #[.val (.ref a1), .val (.ref a2), .unset] [(.ref a2), (.ref a1)])) rfl (by rw [hml]; rfl) rfl (hb hby d3_45) (by decide) (W := 1) (cap := 3) (by show 2 * 0 + _ ≤ _; exact Nat.le_of_eq rfl) (by decide) (by rw [hs36]; decide) (by decide) (by decide)
  obtain ⟨b37, g37⟩ : ∃ z, z = h35.size := ⟨_, rfl⟩
  rw [← g37] at A37 B37 st37
  have g_b37 : n0 ≤ b37 := Nat.le_trans Zs (Nat.le_of_eq g37.symm)
  have sz_b37 : h0.size ≤ b37 := Nat.le_trans Kp.1 (Nat.le_of_eq g37.symm)
  have ne_a1_b37 : a1 ≠ b37 := Nat.ne_of_lt (Nat.lt_of_lt_of_le E_a1.lt (Nat.le_of_eq g37.symm))
  have ne_a2_b37 : a2 ≠ b37 := Nat.ne_of_lt (Nat.lt_of_lt_of_le A_a2.lt (Nat.le_of_eq g37.symm))
  have ne_b25_b37 : b25 ≠ b37 := Nat.ne_of_lt (Nat.lt_of_lt_of_le E_b25.lt (Nat.le_of_eq g37.symm))
  have Zs : n0 ≤ h37.size := Nat.le_trans Zs E37.1
  have E_a1 : Exa Z h37 a1 "com/example/regolo/regolo/engine/Relaxation" := E_a1.ext E37
  have F_rows_a1 : Fld Z h37 a1 "com/example/regolo/regolo/engine/Relaxation" "rows" "Ljava/util/List;" (.ref b25) := F_rows_a1.ext E37
  have F_cost_a1 : Fld Z h37 a1 "com/example/regolo/regolo/engine/Relaxation" "cost" "[D" .null := F_cost_a1.ext E37
  have F_lower_a1 : Fld Z h37 a1 "com/example/regolo/regolo/engine/Relaxation" "lower" "[D" .null := F_lower_a1.ext E37
  have F_upper_a1 : Fld Z h37 a1 "com/example/regolo/regolo/engine/Relaxation" "upper" "[D" .null := F_upper_a1.ext E37
  have F_value_a1 : Fld Z h37 a1 "com/example/regolo/regolo/engine/Relaxation" "value" "[D" .null := F_value_a1.ext E37
  have F_status_a1 : Fld Z h37 a1 "com/example/regolo/regolo/engine/Relaxation" "status" "[I" .null := F_status_a1.ext E37
  have F_reduced_a1 : Fld Z h37 a1 "com/example/regolo/regolo/engine/Relaxation" "reduced" "[D" .null := F_reduced_a1.ext E37
  have F_place_a1 : Fld Z h37 a1 "com/example/regolo/regolo/engine/Relaxation" "place" "[I" .null := F_place_a1.ext E37
  have F_columns_a1 : Fld Z h37 a1 "com/example/regolo/regolo/engine/Relaxation" "columns" "I" (.int (3 : Int32)) := F_columns_a1.ext E37
  have A_a2 : ArD Z h37 a2 (3 : Int32) f := A_a2.ext E37
  have E_a2 : Exa Z h37 a2 "[D" := E_a2.ext E37
  have Ol : Old Z n0 h37 := Ol.ext E37
  have Kp : Keep h0 h37 [a1] := Kp.ext E37
  have E_b25 : Exa Z h37 b25 "java/util/ArrayList" := E_b25.ext E37
  have F_elementData_b25 : Fld Z h37 b25 "java/util/ArrayList" "elementData" "[Ljava/lang/Object;" (.ref dd) := F_elementData_b25.ext E37
  have F_size_b25 : Fld Z h37 b25 "java/util/ArrayList" "size" "I" (.int (0 : Int32)) := F_size_b25.ext E37
  have F_modCount_b25 : Fld Z h37 b25 "java/util/AbstractList" "modCount" "I" (.int (0 : Int32)) := F_modCount_b25.ext E37
  have E_b37 : Exa Z h37 b37 "[D" := B37
  have A_b37 : ArD Z h37 b37 (3 : Int32) f := mk36 A37
  obtain ⟨T38, X38, e38, st38⟩ := castY X37 hx hZ hown (hw _ (List.mem_of_getElem? (i := 48) rfl)) e37 (Ins.self E_b37) (g := (mkF m 48 #[.val (.ref a1), .val (.ref a2), .unset] [(.ref b37), (.ref a1)])) rfl rfl (hb hby d3_48)
  obtain ⟨T39, h39, X39, e39, W39, st39⟩ := putF X38 hx hZ hown (host := "") (Or.inl (hw _ (List.mem_of_getElem? (i := 62) rfl))) Via.refl e38 F_cost_a1 E_a1 (Or.inr ⟨(hw _ (List.mem_of_getElem? (i := 63) rfl)), rfl, hnm⟩) (hw _ (List.mem_of_getElem? (i := 9) rfl)) (ty := (.array .double)) (by decide) rfl rfl (g := (mkF m 51 #[.val (.ref a1), .val (.ref a2), .unset] [(.ref b37), (.ref a1)])) rfl rfl (hb hby d3_51)
  have N39 := Fr.snoc X39 N35 g_a1
  have Zs : n0 ≤ h39.size := Nat.le_trans Zs (Keep.of_wr W39).1
  have E_a1 : Exa Z h39 a1 "com/example/regolo/regolo/engine/Relaxation" := E_a1.wr W39
  have F_rows_a1 : Fld Z h39 a1 "com/example/regolo/regolo/engine/Relaxation" "rows" "Ljava/util/List;" (.ref b25) := F_rows_a1.other W39 (Or.inr (slot_ne (Or.inr (hw _ (List.mem_of_getElem? (i := 42) rfl))) (Or.inr (hw _ (List.mem_of_getElem? (i := 63) rfl))) (by decide) (t := (.object "java/util/List")) (t' := (.array .double)) (by decide) (by decide)))
  have F_cost_a1 : Fld Z h39 a1 "com/example/regolo/regolo/engine/Relaxation" "cost" "[D" (.ref b37) := F_cost_a1.same W39
  have F_lower_a1 : Fld Z h39 a1 "com/example/regolo/regolo/engine/Relaxation" "lower" "[D" .null := F_lower_a1.other W39 (Or.inr (slot_ne (Or.inl (hw _ (List.mem_of_getElem? (i := 65) rfl))) (Or.inr (hw _ (List.mem_of_getElem? (i := 63) rfl))) (by decide) (t := (.array .double)) (t' := (.array .double)) (by decide) (by decide)))
  have F_upper_a1 : Fld Z h39 a1 "com/example/regolo/regolo/engine/Relaxation" "upper" "[D" .null := F_upper_a1.other W39 (Or.inr (slot_ne (Or.inl (hw _ (List.mem_of_getElem? (i := 67) rfl))) (Or.inr (hw _ (List.mem_of_getElem? (i := 63) rfl))) (by decide) (t := (.array .double)) (t' := (.array .double)) (by decide) (by decide)))
  have F_value_a1 : Fld Z h39 a1 "com/example/regolo/regolo/engine/Relaxation" "value" "[D" .null := F_value_a1.other W39 (Or.inr (slot_ne (Or.inl (hw _ (List.mem_of_getElem? (i := 69) rfl))) (Or.inr (hw _ (List.mem_of_getElem? (i := 63) rfl))) (by decide) (t := (.array .double)) (t' := (.array .double)) (by decide) (by decide)))
  have F_status_a1 : Fld Z h39 a1 "com/example/regolo/regolo/engine/Relaxation" "status" "[I" .null := F_status_a1.other W39 (Or.inr (slot_ne (Or.inl (hw _ (List.mem_of_getElem? (i := 71) rfl))) (Or.inr (hw _ (List.mem_of_getElem? (i := 63) rfl))) (by decide) (t := (.array .int)) (t' := (.array .double)) (by decide) (by decide)))
  have F_reduced_a1 : Fld Z h39 a1 "com/example/regolo/regolo/engine/Relaxation" "reduced" "[D" .null := F_reduced_a1.other W39 (Or.inr (slot_ne (Or.inl (hw _ (List.mem_of_getElem? (i := 73) rfl))) (Or.inr (hw _ (List.mem_of_getElem? (i := 63) rfl))) (by decide) (t := (.array .double)) (t' := (.array .double)) (by decide) (by decide)))
  have F_place_a1 : Fld Z h39 a1 "com/example/regolo/regolo/engine/Relaxation" "place" "[I" .null := F_place_a1.other W39 (Or.inr (slot_ne (Or.inl (hw _ (List.mem_of_getElem? (i := 75) rfl))) (Or.inr (hw _ (List.mem_of_getElem? (i := 63) rfl))) (by decide) (t := (.array .int)) (t' := (.array .double)) (by decide) (by decide)))
  have F_columns_a1 : Fld Z h39 a1 "com/example/regolo/regolo/engine/Relaxation" "columns" "I" (.int (3 : Int32)) := F_columns_a1.other W39 (Or.inr (slot_ne (Or.inr (hw _ (List.mem_of_getElem? (i := 53) rfl))) (Or.inr (hw _ (List.mem_of_getElem? (i := 63) rfl))) (by decide) (t := .int) (t' := (.array .double)) (by decide) (by decide)))
  have A_a2 : ArD Z h39 a2 (3 : Int32) f := A_a2.other W39 (Ne.symm ne_a1_a2)
  have E_a2 : Exa Z h39 a2 "[D" := E_a2.wr W39
  have Ol : Old Z n0 h39 := Ol.wr W39 g_a1
  have Kp : Keep h0 h39 [a1] := Kp.wr W39 (Or.inl (List.mem_of_getElem? (i := 0) rfl))
  have E_b25 : Exa Z h39 b25 "java/util/ArrayList" := E_b25.wr W39
  have F_elementData_b25 : Fld Z h39 b25 "java/util/ArrayList" "elementData" "[Ljava/lang/Object;" (.ref dd) := F_elementData_b25.other W39 (Or.inl (Ne.symm ne_a1_b25))
  have F_size_b25 : Fld Z h39 b25 "java/util/ArrayList" "size" "I" (.int (0 : Int32)) := F_size_b25.other W39 (Or.inl (Ne.symm ne_a1_b25))
  have F_modCount_b25 : Fld Z h39 b25 "java/util/AbstractList" "modCount" "I" (.int (0 : Int32)) := F_modCount_b25.other W39 (Or.inl (Ne.symm ne_a1_b25))
  have E_b37 : Exa Z h39 b37 "[D" := E_b37.wr W39
  have A_b37 : ArD Z h39 b37 (3 : Int32) f := A_b37.other W39 (Ne.symm ne_a1_b37)
  obtain ⟨T40, X40, e40, st40⟩ := getF X39 hx hZ hown (host := "") (Or.inl (hw _ (List.mem_of_getElem? (i := 52) rfl))) Via.refl e39 F_columns_a1 (g := (mkF m 56 #[.val (.ref a1), .val (.ref a2), .unset] [(.ref a1), (.ref a1)])) rfl rfl (hb hby d3_56)
  obtain ⟨T41, h41, k41, X41, e41, E41, A41, B41, st41⟩ := newPE X40 hx hZ (hw _ (List.mem_of_getElem? (i := 7) rfl)) e40 (g := (mkF m 59 #[.val (.ref a1), .val (.ref a2), .unset] [(.int (3 : Int32)), (.ref a1)])) rfl (hb hby d3_59) rfl (by decide) (cap := 3) (by decide) (by decide) (by decide) (by decide) (ad := "[D") (by decide)
  obtain ⟨b41, g41⟩ : ∃ z, z = h39.size := ⟨_, rfl⟩
  rw [← g41] at A41 B41 st41
  have g_b41 : n0 ≤ b41 := Nat.le_trans Zs (Nat.le_of_eq g41.symm)
  have sz_b41 : h0.size ≤ b41 := Nat.le_trans Kp.1 (Nat.le_of_eq g41.symm)
  have ne_a1_b41 : a1 ≠ b41 := Nat.ne_of_lt (Nat.lt_of_lt_of_le E_a1.lt (Nat.le_of_eq g41.symm))
  have ne_a2_b41 : a2 ≠ b41 := Nat.ne_of_lt (Nat.lt_of_lt_of_le A_a2.lt (Nat.le_of_eq g41.symm))
  have ne_b25_b41 : b25 ≠ b41 := Nat.ne_of_lt (Nat.lt_of_lt_of_le E_b25.lt (Nat.le_of_eq g41.symm))
  have ne_b37_b41 : b37 ≠ b41 := Nat.ne_of_lt (Nat.lt_of_lt_of_le E_b37.lt (Nat.le_of_eq g41.symm))
  have Zs : n0 ≤ h41.size := Nat.le_trans Zs E41.1
  have E_a1 : Exa Z h41 a1 "com/example/regolo/regolo/engine/Relaxation" := E_a1.ext E41
  have F_rows_a1 : Fld Z h41 a1 "com/example/regolo/regolo/engine/Relaxation" "rows" "Ljava/util/List;" (.ref b25) := F_rows_a1.ext E41
  have F_cost_a1 : Fld Z h41 a1 "com/example/regolo/regolo/engine/Relaxation" "cost" "[D" (.ref b37) := F_cost_a1.ext E41
  have F_lower_a1 : Fld Z h41 a1 "com/example/regolo/regolo/engine/Relaxation" "lower" "[D" .null := F_lower_a1.ext E41
  have F_upper_a1 : Fld Z h41 a1 "com/example/regolo/regolo/engine/Relaxation" "upper" "[D" .null := F_upper_a1.ext E41
  have F_value_a1 : Fld Z h41 a1 "com/example/regolo/regolo/engine/Relaxation" "value" "[D" .null := F_value_a1.ext E41
  have F_status_a1 : Fld Z h41 a1 "com/example/regolo/regolo/engine/Relaxation" "status" "[I" .null := F_status_a1.ext E41
  have F_reduced_a1 : Fld Z h41 a1 "com/example/regolo/regolo/engine/Relaxation" "reduced" "[D" .null := F_reduced_a1.ext E41
  have F_place_a1 : Fld Z h41 a1 "com/example/regolo/regolo/engine/Relaxation" "place" "[I" .null := F_place_a1.ext E41
  have F_columns_a1 : Fld Z h41 a1 "com/example/regolo/regolo/engine/Relaxation" "columns" "I" (.int (3 : Int32)) := F_columns_a1.ext E41
  have A_a2 : ArD Z h41 a2 (3 : Int32) f := A_a2.ext E41
  have E_a2 : Exa Z h41 a2 "[D" := E_a2.ext E41
  have Ol : Old Z n0 h41 := Ol.ext E41
  have Kp : Keep h0 h41 [a1] := Kp.ext E41
  have E_b25 : Exa Z h41 b25 "java/util/ArrayList" := E_b25.ext E41
  have F_elementData_b25 : Fld Z h41 b25 "java/util/ArrayList" "elementData" "[Ljava/lang/Object;" (.ref dd) := F_elementData_b25.ext E41
  have F_size_b25 : Fld Z h41 b25 "java/util/ArrayList" "size" "I" (.int (0 : Int32)) := F_size_b25.ext E41
  have F_modCount_b25 : Fld Z h41 b25 "java/util/AbstractList" "modCount" "I" (.int (0 : Int32)) := F_modCount_b25.ext E41
  have E_b37 : Exa Z h41 b37 "[D" := E_b37.ext E41
  have A_b37 : ArD Z h41 b37 (3 : Int32) f := A_b37.ext E41
  have E_b41 : Exa Z h41 b41 "[D" := B41
  have A_b41 : ArD Z h41 b41 (3 : Int32) (fun _ => 0) := ArD.new A41 (by decide)
  obtain ⟨T42, h42, X42, e42, W42, st42⟩ := putF X41 hx hZ hown (host := "") (Or.inl (hw _ (List.mem_of_getElem? (i := 64) rfl))) Via.refl e41 F_lower_a1 E_a1 (Or.inl (hw _ (List.mem_of_getElem? (i := 65) rfl))) (hw _ (List.mem_of_getElem? (i := 9) rfl)) (ty := (.array .double)) (by decide) rfl rfl (g := (mkF m 61 #[.val (.ref a1), .val (.ref a2), .unset] [(.ref b41), (.ref a1)])) rfl rfl (hb hby d3_61)
  have N42 := Fr.snoc X42 N39 g_a1
  have Zs : n0 ≤ h42.size := Nat.le_trans Zs (Keep.of_wr W42).1
  have E_a1 : Exa Z h42 a1 "com/example/regolo/regolo/engine/Relaxation" := E_a1.wr W42
  have F_rows_a1 : Fld Z h42 a1 "com/example/regolo/regolo/engine/Relaxation" "rows" "Ljava/util/List;" (.ref b25) := F_rows_a1.other W42 (Or.inr (slot_ne (Or.inr (hw _ (List.mem_of_getElem? (i := 42) rfl))) (Or.inl (hw _ (List.mem_of_getElem? (i := 65) rfl))) (by decide) (t := (.object "java/util/List")) (t' := (.array .double)) (by decide) (by decide)))
  have F_cost_a1 : Fld Z h42 a1 "com/example/regolo/regolo/engine/Relaxation" "cost" "[D" (.ref b37) := F_cost_a1.other W42 (Or.inr (slot_ne (Or.inr (hw _ (List.mem_of_getElem? (i := 63) rfl))) (Or.inl (hw _ (List.mem_of_getElem? (i := 65) rfl))) (by decide) (t := (.array .double)) (t' := (.array .double)) (by decide) (by decide)))
  have F_lower_a1 : Fld Z h42 a1 "com/example/regolo/regolo/engine/Relaxation" "lower" "[D" (.ref b41) := F_lower_a1.same W42
  have F_upper_a1 : Fld Z h42 a1 "com/example/regolo/regolo/engine/Relaxation" "upper" "[D" .null := F_upper_a1.other W42 (Or.inr (slot_ne (Or.inl (hw _ (List.mem_of_getElem? (i := 67) rfl))) (Or.inl (hw _ (List.mem_of_getElem? (i := 65) rfl))) (by decide) (t := (.array .double)) (t' := (.array .double)) (by decide) (by decide)))
  have F_value_a1 : Fld Z h42 a1 "com/example/regolo/regolo/engine/Relaxation" "value" "[D" .null := F_value_a1.other W42 (Or.inr (slot_ne (Or.inl (hw _ (List.mem_of_getElem? (i := 69) rfl))) (Or.inl (hw _ (List.mem_of_getElem? (i := 65) rfl))) (by decide) (t := (.array .double)) (t' := (.array .double)) (by decide) (by decide)))
  have F_status_a1 : Fld Z h42 a1 "com/example/regolo/regolo/engine/Relaxation" "status" "[I" .null := F_status_a1.other W42 (Or.inr (slot_ne (Or.inl (hw _ (List.mem_of_getElem? (i := 71) rfl))) (Or.inl (hw _ (List.mem_of_getElem? (i := 65) rfl))) (by decide) (t := (.array .int)) (t' := (.array .double)) (by decide) (by decide)))
  have F_reduced_a1 : Fld Z h42 a1 "com/example/regolo/regolo/engine/Relaxation" "reduced" "[D" .null := F_reduced_a1.other W42 (Or.inr (slot_ne (Or.inl (hw _ (List.mem_of_getElem? (i := 73) rfl))) (Or.inl (hw _ (List.mem_of_getElem? (i := 65) rfl))) (by decide) (t := (.array .double)) (t' := (.array .double)) (by decide) (by decide)))
  have F_place_a1 : Fld Z h42 a1 "com/example/regolo/regolo/engine/Relaxation" "place" "[I" .null := F_place_a1.other W42 (Or.inr (slot_ne (Or.inl (hw _ (List.mem_of_getElem? (i := 75) rfl))) (Or.inl (hw _ (List.mem_of_getElem? (i := 65) rfl))) (by decide) (t := (.array .int)) (t' := (.array .double)) (by decide) (by decide)))
  have F_columns_a1 : Fld Z h42 a1 "com/example/regolo/regolo/engine/Relaxation" "columns" "I" (.int (3 : Int32)) := F_columns_a1.other W42 (Or.inr (slot_ne (Or.inr (hw _ (List.mem_of_getElem? (i := 53) rfl))) (Or.inl (hw _ (List.mem_of_getElem? (i := 65) rfl))) (by decide) (t := .int) (t' := (.array .double)) (by decide) (by decide)))
  have A_a2 : ArD Z h42 a2 (3 : Int32) f := A_a2.other W42 (Ne.symm ne_a1_a2)
  have E_a2 : Exa Z h42 a2 "[D" := E_a2.wr W42
  have Ol : Old Z n0 h42 := Ol.wr W42 g_a1
  have Kp : Keep h0 h42 [a1] := Kp.wr W42 (Or.inl (List.mem_of_getElem? (i := 0) rfl))
  have E_b25 : Exa Z h42 b25 "java/util/ArrayList" := E_b25.wr W42
  have F_elementData_b25 : Fld Z h42 b25 "java/util/ArrayList" "elementData" "[Ljava/lang/Object;" (.ref dd) := F_elementData_b25.other W42 (Or.inl (Ne.symm ne_a1_b25))
  have F_size_b25 : Fld Z h42 b25 "java/util/ArrayList" "size" "I" (.int (0 : Int32)) := F_size_b25.other W42 (Or.inl (Ne.symm ne_a1_b25))
  have F_modCount_b25 : Fld Z h42 b25 "java/util/AbstractList" "modCount" "I" (.int (0 : Int32)) := F_modCount_b25.other W42 (Or.inl (Ne.symm ne_a1_b25))
  have E_b37 : Exa Z h42 b37 "[D" := E_b37.wr W42
  have A_b37 : ArD Z h42 b37 (3 : Int32) f := A_b37.other W42 (Ne.symm ne_a1_b37)
  have E_b41 : Exa Z h42 b41 "[D" := E_b41.wr W42
  have A_b41 : ArD Z h42 b41 (3 : Int32) (fun _ => 0) := A_b41.other W42 (Ne.symm ne_a1_b41)
  obtain ⟨T43, X43, e43, st43⟩ := getF X42 hx hZ hown (host := "") (Or.inl (hw _ (List.mem_of_getElem? (i := 52) rfl))) Via.refl e42 F_columns_a1 (g := (mkF m 66 #[.val (.ref a1), .val (.ref a2), .unset] [(.ref a1), (.ref a1)])) rfl rfl (hb hby d3_66)
  obtain ⟨T44, h44, k44, X44, e44, E44, A44, B44, st44⟩ := newPE X43 hx hZ (hw _ (List.mem_of_getElem? (i := 7) rfl)) e43 (g := (mkF m 69 #[.val (.ref a1), .val (.ref a2), .unset] [(.int (3 : Int32)), (.ref a1)])) rfl (hb hby d3_69) rfl (by decide) (cap := 3) (by decide) (by decide) (by decide) (by decide) (ad := "[D") (by decide)
  obtain ⟨b44, g44⟩ : ∃ z, z = h42.size := ⟨_, rfl⟩
  rw [← g44] at A44 B44 st44
  have g_b44 : n0 ≤ b44 := Nat.le_trans Zs (Nat.le_of_eq g44.symm)
  have sz_b44 : h0.size ≤ b44 := Nat.le_trans Kp.1 (Nat.le_of_eq g44.symm)
  have ne_a1_b44 : a1 ≠ b44 := Nat.ne_of_lt (Nat.lt_of_lt_of_le E_a1.lt (Nat.le_of_eq g44.symm))
  have ne_a2_b44 : a2 ≠ b44 := Nat.ne_of_lt (Nat.lt_of_lt_of_le A_a2.lt (Nat.le_of_eq g44.symm))
  have ne_b25_b44 : b25 ≠ b44 := Nat.ne_of_lt (Nat.lt_of_lt_of_le E_b25.lt (Nat.le_of_eq g44.symm))
  have ne_b37_b44 : b37 ≠ b44 := Nat.ne_of_lt (Nat.lt_of_lt_of_le E_b37.lt (Nat.le_of_eq g44.symm))
  have ne_b41_b44 : b41 ≠ b44 := Nat.ne_of_lt (Nat.lt_of_lt_of_le E_b41.lt (Nat.le_of_eq g44.symm))
  have Zs : n0 ≤ h44.size := Nat.le_trans Zs E44.1
  have E_a1 : Exa Z h44 a1 "com/example/regolo/regolo/engine/Relaxation" := E_a1.ext E44
  have F_rows_a1 : Fld Z h44 a1 "com/example/regolo/regolo/engine/Relaxation" "rows" "Ljava/util/List;" (.ref b25) := F_rows_a1.ext E44
  have F_cost_a1 : Fld Z h44 a1 "com/example/regolo/regolo/engine/Relaxation" "cost" "[D" (.ref b37) := F_cost_a1.ext E44
  have F_lower_a1 : Fld Z h44 a1 "com/example/regolo/regolo/engine/Relaxation" "lower" "[D" (.ref b41) := F_lower_a1.ext E44
  have F_upper_a1 : Fld Z h44 a1 "com/example/regolo/regolo/engine/Relaxation" "upper" "[D" .null := F_upper_a1.ext E44
  have F_value_a1 : Fld Z h44 a1 "com/example/regolo/regolo/engine/Relaxation" "value" "[D" .null := F_value_a1.ext E44
  have F_status_a1 : Fld Z h44 a1 "com/example/regolo/regolo/engine/Relaxation" "status" "[I" .null := F_status_a1.ext E44
  have F_reduced_a1 : Fld Z h44 a1 "com/example/regolo/regolo/engine/Relaxation" "reduced" "[D" .null := F_reduced_a1.ext E44
  have F_place_a1 : Fld Z h44 a1 "com/example/regolo/regolo/engine/Relaxation" "place" "[I" .null := F_place_a1.ext E44
  have F_columns_a1 : Fld Z h44 a1 "com/example/regolo/regolo/engine/Relaxation" "columns" "I" (.int (3 : Int32)) := F_columns_a1.ext E44
  have A_a2 : ArD Z h44 a2 (3 : Int32) f := A_a2.ext E44
  have E_a2 : Exa Z h44 a2 "[D" := E_a2.ext E44
  have Ol : Old Z n0 h44 := Ol.ext E44
  have Kp : Keep h0 h44 [a1] := Kp.ext E44
  have E_b25 : Exa Z h44 b25 "java/util/ArrayList" := E_b25.ext E44
  have F_elementData_b25 : Fld Z h44 b25 "java/util/ArrayList" "elementData" "[Ljava/lang/Object;" (.ref dd) := F_elementData_b25.ext E44
  have F_size_b25 : Fld Z h44 b25 "java/util/ArrayList" "size" "I" (.int (0 : Int32)) := F_size_b25.ext E44
  have F_modCount_b25 : Fld Z h44 b25 "java/util/AbstractList" "modCount" "I" (.int (0 : Int32)) := F_modCount_b25.ext E44
  have E_b37 : Exa Z h44 b37 "[D" := E_b37.ext E44
  have A_b37 : ArD Z h44 b37 (3 : Int32) f := A_b37.ext E44
  have E_b41 : Exa Z h44 b41 "[D" := E_b41.ext E44
  have A_b41 : ArD Z h44 b41 (3 : Int32) (fun _ => 0) := A_b41.ext E44
  have E_b44 : Exa Z h44 b44 "[D" := B44
  have A_b44 : ArD Z h44 b44 (3 : Int32) (fun _ => 0) := ArD.new A44 (by decide)
  obtain ⟨T45, h45, X45, e45, W45, st45⟩ := putF X44 hx hZ hown (host := "") (Or.inl (hw _ (List.mem_of_getElem? (i := 66) rfl))) Via.refl e44 F_upper_a1 E_a1 (Or.inl (hw _ (List.mem_of_getElem? (i := 67) rfl))) (hw _ (List.mem_of_getElem? (i := 9) rfl)) (ty := (.array .double)) (by decide) rfl rfl (g := (mkF m 71 #[.val (.ref a1), .val (.ref a2), .unset] [(.ref b44), (.ref a1)])) rfl rfl (hb hby d3_71)
  have N45 := Fr.snoc X45 N42 g_a1
  have Zs : n0 ≤ h45.size := Nat.le_trans Zs (Keep.of_wr W45).1
  have E_a1 : Exa Z h45 a1 "com/example/regolo/regolo/engine/Relaxation" := E_a1.wr W45
  have F_rows_a1 : Fld Z h45 a1 "com/example/regolo/regolo/engine/Relaxation" "rows" "Ljava/util/List;" (.ref b25) := F_rows_a1.other W45 (Or.inr (slot_ne (Or.inr (hw _ (List.mem_of_getElem? (i := 42) rfl))) (Or.inl (hw _ (List.mem_of_getElem? (i := 67) rfl))) (by decide) (t := (.object "java/util/List")) (t' := (.array .double)) (by decide) (by decide)))
  have F_cost_a1 : Fld Z h45 a1 "com/example/regolo/regolo/engine/Relaxation" "cost" "[D" (.ref b37) := F_cost_a1.other W45 (Or.inr (slot_ne (Or.inr (hw _ (List.mem_of_getElem? (i := 63) rfl))) (Or.inl (hw _ (List.mem_of_getElem? (i := 67) rfl))) (by decide) (t := (.array .double)) (t' := (.array .double)) (by decide) (by decide)))
  have F_lower_a1 : Fld Z h45 a1 "com/example/regolo/regolo/engine/Relaxation" "lower" "[D" (.ref b41) := F_lower_a1.other W45 (Or.inr (slot_ne (Or.inl (hw _ (List.mem_of_getElem? (i := 65) rfl))) (Or.inl (hw _ (List.mem_of_getElem? (i := 67) rfl))) (by decide) (t := (.array .double)) (t' := (.array .double)) (by decide) (by decide)))
  have F_upper_a1 : Fld Z h45 a1 "com/example/regolo/regolo/engine/Relaxation" "upper" "[D" (.ref b44) := F_upper_a1.same W45
  have F_value_a1 : Fld Z h45 a1 "com/example/regolo/regolo/engine/Relaxation" "value" "[D" .null := F_value_a1.other W45 (Or.inr (slot_ne (Or.inl (hw _ (List.mem_of_getElem? (i := 69) rfl))) (Or.inl (hw _ (List.mem_of_getElem? (i := 67) rfl))) (by decide) (t := (.array .double)) (t' := (.array .double)) (by decide) (by decide)))
  have F_status_a1 : Fld Z h45 a1 "com/example/regolo/regolo/engine/Relaxation" "status" "[I" .null := F_status_a1.other W45 (Or.inr (slot_ne (Or.inl (hw _ (List.mem_of_getElem? (i := 71) rfl))) (Or.inl (hw _ (List.mem_of_getElem? (i := 67) rfl))) (by decide) (t := (.array .int)) (t' := (.array .double)) (by decide) (by decide)))
  have F_reduced_a1 : Fld Z h45 a1 "com/example/regolo/regolo/engine/Relaxation" "reduced" "[D" .null := F_reduced_a1.other W45 (Or.inr (slot_ne (Or.inl (hw _ (List.mem_of_getElem? (i := 73) rfl))) (Or.inl (hw _ (List.mem_of_getElem? (i := 67) rfl))) (by decide) (t := (.array .double)) (t' := (.array .double)) (by decide) (by decide)))
  have F_place_a1 : Fld Z h45 a1 "com/example/regolo/regolo/engine/Relaxation" "place" "[I" .null := F_place_a1.other W45 (Or.inr (slot_ne (Or.inl (hw _ (List.mem_of_getElem? (i := 75) rfl))) (Or.inl (hw _ (List.mem_of_getElem? (i := 67) rfl))) (by decide) (t := (.array .int)) (t' := (.array .double)) (by decide) (by decide)))
  have F_columns_a1 : Fld Z h45 a1 "com/example/regolo/regolo/engine/Relaxation" "columns" "I" (.int (3 : Int32)) := F_columns_a1.other W45 (Or.inr (slot_ne (Or.inr (hw _ (List.mem_of_getElem? (i := 53) rfl))) (Or.inl (hw _ (List.mem_of_getElem? (i := 67) rfl))) (by decide) (t := .int) (t' := (.array .double)) (by decide) (by decide)))
  have A_a2 : ArD Z h45 a2 (3 : Int32) f := A_a2.other W45 (Ne.symm ne_a1_a2)
  have E_a2 : Exa Z h45 a2 "[D" := E_a2.wr W45
  have Ol : Old Z n0 h45 := Ol.wr W45 g_a1
  have Kp : Keep h0 h45 [a1] := Kp.wr W45 (Or.inl (List.mem_of_getElem? (i := 0) rfl))
  have E_b25 : Exa Z h45 b25 "java/util/ArrayList" := E_b25.wr W45
  have F_elementData_b25 : Fld Z h45 b25 "java/util/ArrayList" "elementData" "[Ljava/lang/Object;" (.ref dd) := F_elementData_b25.other W45 (Or.inl (Ne.symm ne_a1_b25))
  have F_size_b25 : Fld Z h45 b25 "java/util/ArrayList" "size" "I" (.int (0 : Int32)) := F_size_b25.other W45 (Or.inl (Ne.symm ne_a1_b25))
  have F_modCount_b25 : Fld Z h45 b25 "java/util/AbstractList" "modCount" "I" (.int (0 : Int32)) := F_modCount_b25.other W45 (Or.inl (Ne.symm ne_a1_b25))
  have E_b37 : Exa Z h45 b37 "[D" := E_b37.wr W45
  have A_b37 : ArD Z h45 b37 (3 : Int32) f := A_b37.other W45 (Ne.symm ne_a1_b37)
  have E_b41 : Exa Z h45 b41 "[D" := E_b41.wr W45
  have A_b41 : ArD Z h45 b41 (3 : Int32) (fun _ => 0) := A_b41.other W45 (Ne.symm ne_a1_b41)
  have E_b44 : Exa Z h45 b44 "[D" := E_b44.wr W45
  have A_b44 : ArD Z h45 b44 (3 : Int32) (fun _ => 0) := A_b44.other W45 (Ne.symm ne_a1_b44)
  obtain ⟨T46, X46, e46, st46⟩ := getF X45 hx hZ hown (host := "") (Or.inl (hw _ (List.mem_of_getElem? (i := 52) rfl))) Via.refl e45 F_columns_a1 (g := (mkF m 76 #[.val (.ref a1), .val (.ref a2), .unset] [(.ref a1), (.ref a1)])) rfl rfl (hb hby d3_76)
  obtain ⟨T47, h47, k47, X47, e47, E47, A47, B47, st47⟩ := newPE X46 hx hZ (hw _ (List.mem_of_getElem? (i := 7) rfl)) e46 (g := (mkF m 79 #[.val (.ref a1), .val (.ref a2), .unset] [(.int (3 : Int32)), (.ref a1)])) rfl (hb hby d3_79) rfl (by decide) (cap := 3) (by decide) (by decide) (by decide) (by decide) (ad := "[D") (by decide)
  obtain ⟨b47, g47⟩ : ∃ z, z = h45.size := ⟨_, rfl⟩
  rw [← g47] at A47 B47 st47
  have g_b47 : n0 ≤ b47 := Nat.le_trans Zs (Nat.le_of_eq g47.symm)
  have sz_b47 : h0.size ≤ b47 := Nat.le_trans Kp.1 (Nat.le_of_eq g47.symm)
  have ne_a1_b47 : a1 ≠ b47 := Nat.ne_of_lt (Nat.lt_of_lt_of_le E_a1.lt (Nat.le_of_eq g47.symm))
  have ne_a2_b47 : a2 ≠ b47 := Nat.ne_of_lt (Nat.lt_of_lt_of_le A_a2.lt (Nat.le_of_eq g47.symm))
  have ne_b25_b47 : b25 ≠ b47 := Nat.ne_of_lt (Nat.lt_of_lt_of_le E_b25.lt (Nat.le_of_eq g47.symm))
  have ne_b37_b47 : b37 ≠ b47 := Nat.ne_of_lt (Nat.lt_of_lt_of_le E_b37.lt (Nat.le_of_eq g47.symm))
  have ne_b41_b47 : b41 ≠ b47 := Nat.ne_of_lt (Nat.lt_of_lt_of_le E_b41.lt (Nat.le_of_eq g47.symm))
  have ne_b44_b47 : b44 ≠ b47 := Nat.ne_of_lt (Nat.lt_of_lt_of_le E_b44.lt (Nat.le_of_eq g47.symm))
  have Zs : n0 ≤ h47.size := Nat.le_trans Zs E47.1
  have E_a1 : Exa Z h47 a1 "com/example/regolo/regolo/engine/Relaxation" := E_a1.ext E47
  have F_rows_a1 : Fld Z h47 a1 "com/example/regolo/regolo/engine/Relaxation" "rows" "Ljava/util/List;" (.ref b25) := F_rows_a1.ext E47
  have F_cost_a1 : Fld Z h47 a1 "com/example/regolo/regolo/engine/Relaxation" "cost" "[D" (.ref b37) := F_cost_a1.ext E47
  have F_lower_a1 : Fld Z h47 a1 "com/example/regolo/regolo/engine/Relaxation" "lower" "[D" (.ref b41) := F_lower_a1.ext E47
  have F_upper_a1 : Fld Z h47 a1 "com/example/regolo/regolo/engine/Relaxation" "upper" "[D" (.ref b44) := F_upper_a1.ext E47
  have F_value_a1 : Fld Z h47 a1 "com/example/regolo/regolo/engine/Relaxation" "value" "[D" .null := F_value_a1.ext E47
  have F_status_a1 : Fld Z h47 a1 "com/example/regolo/regolo/engine/Relaxation" "status" "[I" .null := F_status_a1.ext E47
  have F_reduced_a1 : Fld Z h47 a1 "com/example/regolo/regolo/engine/Relaxation" "reduced" "[D" .null := F_reduced_a1.ext E47
  have F_place_a1 : Fld Z h47 a1 "com/example/regolo/regolo/engine/Relaxation" "place" "[I" .null := F_place_a1.ext E47
  have F_columns_a1 : Fld Z h47 a1 "com/example/regolo/regolo/engine/Relaxation" "columns" "I" (.int (3 : Int32)) := F_columns_a1.ext E47
  have A_a2 : ArD Z h47 a2 (3 : Int32) f := A_a2.ext E47
  have E_a2 : Exa Z h47 a2 "[D" := E_a2.ext E47
  have Ol : Old Z n0 h47 := Ol.ext E47
  have Kp : Keep h0 h47 [a1] := Kp.ext E47
  have E_b25 : Exa Z h47 b25 "java/util/ArrayList" := E_b25.ext E47
  have F_elementData_b25 : Fld Z h47 b25 "java/util/ArrayList" "elementData" "[Ljava/lang/Object;" (.ref dd) := F_elementData_b25.ext E47
  have F_size_b25 : Fld Z h47 b25 "java/util/ArrayList" "size" "I" (.int (0 : Int32)) := F_size_b25.ext E47
  have F_modCount_b25 : Fld Z h47 b25 "java/util/AbstractList" "modCount" "I" (.int (0 : Int32)) := F_modCount_b25.ext E47
  have E_b37 : Exa Z h47 b37 "[D" := E_b37.ext E47
  have A_b37 : ArD Z h47 b37 (3 : Int32) f := A_b37.ext E47
  have E_b41 : Exa Z h47 b41 "[D" := E_b41.ext E47
  have A_b41 : ArD Z h47 b41 (3 : Int32) (fun _ => 0) := A_b41.ext E47
  have E_b44 : Exa Z h47 b44 "[D" := E_b44.ext E47
  have A_b44 : ArD Z h47 b44 (3 : Int32) (fun _ => 0) := A_b44.ext E47
  have E_b47 : Exa Z h47 b47 "[D" := B47
  have A_b47 : ArD Z h47 b47 (3 : Int32) (fun _ => 0) := ArD.new A47 (by decide)
  obtain ⟨T48, h48, X48, e48, W48, st48⟩ := putF X47 hx hZ hown (host := "") (Or.inl (hw _ (List.mem_of_getElem? (i := 68) rfl))) Via.refl e47 F_value_a1 E_a1 (Or.inl (hw _ (List.mem_of_getElem? (i := 69) rfl))) (hw _ (List.mem_of_getElem? (i := 9) rfl)) (ty := (.array .double)) (by decide) rfl rfl (g := (mkF m 81 #[.val (.ref a1), .val (.ref a2), .unset] [(.ref b47), (.ref a1)])) rfl rfl (hb hby d3_81)
  have N48 := Fr.snoc X48 N45 g_a1
  have Zs : n0 ≤ h48.size := Nat.le_trans Zs (Keep.of_wr W48).1
  have E_a1 : Exa Z h48 a1 "com/example/regolo/regolo/engine/Relaxation" := E_a1.wr W48
  have F_rows_a1 : Fld Z h48 a1 "com/example/regolo/regolo/engine/Relaxation" "rows" "Ljava/util/List;" (.ref b25) := F_rows_a1.other W48 (Or.inr (slot_ne (Or.inr (hw _ (List.mem_of_getElem? (i := 42) rfl))) (Or.inl (hw _ (List.mem_of_getElem? (i := 69) rfl))) (by decide) (t := (.object "java/util/List")) (t' := (.array .double)) (by decide) (by decide)))
  have F_cost_a1 : Fld Z h48 a1 "com/example/regolo/regolo/engine/Relaxation" "cost" "[D" (.ref b37) := F_cost_a1.other W48 (Or.inr (slot_ne (Or.inr (hw _ (List.mem_of_getElem? (i := 63) rfl))) (Or.inl (hw _ (List.mem_of_getElem? (i := 69) rfl))) (by decide) (t := (.array .double)) (t' := (.array .double)) (by decide) (by decide)))
  have F_lower_a1 : Fld Z h48 a1 "com/example/regolo/regolo/engine/Relaxation" "lower" "[D" (.ref b41) := F_lower_a1.other W48 (Or.inr (slot_ne (Or.inl (hw _ (List.mem_of_getElem? (i := 65) rfl))) (Or.inl (hw _ (List.mem_of_getElem? (i := 69) rfl))) (by decide) (t := (.array .double)) (t' := (.array .double)) (by decide) (by decide)))
  have F_upper_a1 : Fld Z h48 a1 "com/example/regolo/regolo/engine/Relaxation" "upper" "[D" (.ref b44) := F_upper_a1.other W48 (Or.inr (slot_ne (Or.inl (hw _ (List.mem_of_getElem? (i := 67) rfl))) (Or.inl (hw _ (List.mem_of_getElem? (i := 69) rfl))) (by decide) (t := (.array .double)) (t' := (.array .double)) (by decide) (by decide)))
  have F_value_a1 : Fld Z h48 a1 "com/example/regolo/regolo/engine/Relaxation" "value" "[D" (.ref b47) := F_value_a1.same W48
  have F_status_a1 : Fld Z h48 a1 "com/example/regolo/regolo/engine/Relaxation" "status" "[I" .null := F_status_a1.other W48 (Or.inr (slot_ne (Or.inl (hw _ (List.mem_of_getElem? (i := 71) rfl))) (Or.inl (hw _ (List.mem_of_getElem? (i := 69) rfl))) (by decide) (t := (.array .int)) (t' := (.array .double)) (by decide) (by decide)))
  have F_reduced_a1 : Fld Z h48 a1 "com/example/regolo/regolo/engine/Relaxation" "reduced" "[D" .null := F_reduced_a1.other W48 (Or.inr (slot_ne (Or.inl (hw _ (List.mem_of_getElem? (i := 73) rfl))) (Or.inl (hw _ (List.mem_of_getElem? (i := 69) rfl))) (by decide) (t := (.array .double)) (t' := (.array .double)) (by decide) (by decide)))
  have F_place_a1 : Fld Z h48 a1 "com/example/regolo/regolo/engine/Relaxation" "place" "[I" .null := F_place_a1.other W48 (Or.inr (slot_ne (Or.inl (hw _ (List.mem_of_getElem? (i := 75) rfl))) (Or.inl (hw _ (List.mem_of_getElem? (i := 69) rfl))) (by decide) (t := (.array .int)) (t' := (.array .double)) (by decide) (by decide)))
  have F_columns_a1 : Fld Z h48 a1 "com/example/regolo/regolo/engine/Relaxation" "columns" "I" (.int (3 : Int32)) := F_columns_a1.other W48 (Or.inr (slot_ne (Or.inr (hw _ (List.mem_of_getElem? (i := 53) rfl))) (Or.inl (hw _ (List.mem_of_getElem? (i := 69) rfl))) (by decide) (t := .int) (t' := (.array .double)) (by decide) (by decide)))
  have A_a2 : ArD Z h48 a2 (3 : Int32) f := A_a2.other W48 (Ne.symm ne_a1_a2)
  have E_a2 : Exa Z h48 a2 "[D" := E_a2.wr W48
  have Ol : Old Z n0 h48 := Ol.wr W48 g_a1
  have Kp : Keep h0 h48 [a1] := Kp.wr W48 (Or.inl (List.mem_of_getElem? (i := 0) rfl))
  have E_b25 : Exa Z h48 b25 "java/util/ArrayList" := E_b25.wr W48
  have F_elementData_b25 : Fld Z h48 b25 "java/util/ArrayList" "elementData" "[Ljava/lang/Object;" (.ref dd) := F_elementData_b25.other W48 (Or.inl (Ne.symm ne_a1_b25))
  have F_size_b25 : Fld Z h48 b25 "java/util/ArrayList" "size" "I" (.int (0 : Int32)) := F_size_b25.other W48 (Or.inl (Ne.symm ne_a1_b25))
  have F_modCount_b25 : Fld Z h48 b25 "java/util/AbstractList" "modCount" "I" (.int (0 : Int32)) := F_modCount_b25.other W48 (Or.inl (Ne.symm ne_a1_b25))
  have E_b37 : Exa Z h48 b37 "[D" := E_b37.wr W48
  have A_b37 : ArD Z h48 b37 (3 : Int32) f := A_b37.other W48 (Ne.symm ne_a1_b37)
  have E_b41 : Exa Z h48 b41 "[D" := E_b41.wr W48
  have A_b41 : ArD Z h48 b41 (3 : Int32) (fun _ => 0) := A_b41.other W48 (Ne.symm ne_a1_b41)
  have E_b44 : Exa Z h48 b44 "[D" := E_b44.wr W48
  have A_b44 : ArD Z h48 b44 (3 : Int32) (fun _ => 0) := A_b44.other W48 (Ne.symm ne_a1_b44)
  have E_b47 : Exa Z h48 b47 "[D" := E_b47.wr W48
  have A_b47 : ArD Z h48 b47 (3 : Int32) (fun _ => 0) := A_b47.other W48 (Ne.symm ne_a1_b47)
  obtain ⟨T49, X49, e49, st49⟩ := getF X48 hx hZ hown (host := "") (Or.inl (hw _ (List.mem_of_getElem? (i := 52) rfl))) Via.refl e48 F_columns_a1 (g := (mkF m 86 #[.val (.ref a1), .val (.ref a2), .unset] [(.ref a1), (.ref a1)])) rfl rfl (hb hby d3_86)
  obtain ⟨T50, h50, k50, X50, e50, E50, A50, B50, st50⟩ := newPE X49 hx hZ (hw _ (List.mem_of_getElem? (i := 43) rfl)) e49 (g := (mkF m 89 #[.val (.ref a1), .val (.ref a2), .unset] [(.int (3 : Int32)), (.ref a1)])) rfl (hb hby d3_89) rfl (by decide) (cap := 3) (by decide) (by decide) (by decide) (by decide) (ad := "[I") (by decide)
  obtain ⟨b50, g50⟩ : ∃ z, z = h48.size := ⟨_, rfl⟩
  rw [← g50] at A50 B50 st50
  have g_b50 : n0 ≤ b50 := Nat.le_trans Zs (Nat.le_of_eq g50.symm)
  have sz_b50 : h0.size ≤ b50 := Nat.le_trans Kp.1 (Nat.le_of_eq g50.symm)
  have ne_a1_b50 : a1 ≠ b50 := Nat.ne_of_lt (Nat.lt_of_lt_of_le E_a1.lt (Nat.le_of_eq g50.symm))
  have ne_a2_b50 : a2 ≠ b50 := Nat.ne_of_lt (Nat.lt_of_lt_of_le A_a2.lt (Nat.le_of_eq g50.symm))
  have ne_b25_b50 : b25 ≠ b50 := Nat.ne_of_lt (Nat.lt_of_lt_of_le E_b25.lt (Nat.le_of_eq g50.symm))
  have ne_b37_b50 : b37 ≠ b50 := Nat.ne_of_lt (Nat.lt_of_lt_of_le E_b37.lt (Nat.le_of_eq g50.symm))
  have ne_b41_b50 : b41 ≠ b50 := Nat.ne_of_lt (Nat.lt_of_lt_of_le E_b41.lt (Nat.le_of_eq g50.symm))
  have ne_b44_b50 : b44 ≠ b50 := Nat.ne_of_lt (Nat.lt_of_lt_of_le E_b44.lt (Nat.le_of_eq g50.symm))
  have ne_b47_b50 : b47 ≠ b50 := Nat.ne_of_lt (Nat.lt_of_lt_of_le E_b47.lt (Nat.le_of_eq g50.symm))
  have Zs : n0 ≤ h50.size := Nat.le_trans Zs E50.1
  have E_a1 : Exa Z h50 a1 "com/example/regolo/regolo/engine/Relaxation" := E_a1.ext E50
  have F_rows_a1 : Fld Z h50 a1 "com/example/regolo/regolo/engine/Relaxation" "rows" "Ljava/util/List;" (.ref b25) := F_rows_a1.ext E50
  have F_cost_a1 : Fld Z h50 a1 "com/example/regolo/regolo/engine/Relaxation" "cost" "[D" (.ref b37) := F_cost_a1.ext E50
  have F_lower_a1 : Fld Z h50 a1 "com/example/regolo/regolo/engine/Relaxation" "lower" "[D" (.ref b41) := F_lower_a1.ext E50
  have F_upper_a1 : Fld Z h50 a1 "com/example/regolo/regolo/engine/Relaxation" "upper" "[D" (.ref b44) := F_upper_a1.ext E50
  have F_value_a1 : Fld Z h50 a1 "com/example/regolo/regolo/engine/Relaxation" "value" "[D" (.ref b47) := F_value_a1.ext E50
  have F_status_a1 : Fld Z h50 a1 "com/example/regolo/regolo/engine/Relaxation" "status" "[I" .null := F_status_a1.ext E50
  have F_reduced_a1 : Fld Z h50 a1 "com/example/regolo/regolo/engine/Relaxation" "reduced" "[D" .null := F_reduced_a1.ext E50
  have F_place_a1 : Fld Z h50 a1 "com/example/regolo/regolo/engine/Relaxation" "place" "[I" .null := F_place_a1.ext E50
  have F_columns_a1 : Fld Z h50 a1 "com/example/regolo/regolo/engine/Relaxation" "columns" "I" (.int (3 : Int32)) := F_columns_a1.ext E50
  have A_a2 : ArD Z h50 a2 (3 : Int32) f := A_a2.ext E50
  have E_a2 : Exa Z h50 a2 "[D" := E_a2.ext E50
  have Ol : Old Z n0 h50 := Ol.ext E50
  have Kp : Keep h0 h50 [a1] := Kp.ext E50
  have E_b25 : Exa Z h50 b25 "java/util/ArrayList" := E_b25.ext E50
  have F_elementData_b25 : Fld Z h50 b25 "java/util/ArrayList" "elementData" "[Ljava/lang/Object;" (.ref dd) := F_elementData_b25.ext E50
  have F_size_b25 : Fld Z h50 b25 "java/util/ArrayList" "size" "I" (.int (0 : Int32)) := F_size_b25.ext E50
  have F_modCount_b25 : Fld Z h50 b25 "java/util/AbstractList" "modCount" "I" (.int (0 : Int32)) := F_modCount_b25.ext E50
  have E_b37 : Exa Z h50 b37 "[D" := E_b37.ext E50
  have A_b37 : ArD Z h50 b37 (3 : Int32) f := A_b37.ext E50
  have E_b41 : Exa Z h50 b41 "[D" := E_b41.ext E50
  have A_b41 : ArD Z h50 b41 (3 : Int32) (fun _ => 0) := A_b41.ext E50
  have E_b44 : Exa Z h50 b44 "[D" := E_b44.ext E50
  have A_b44 : ArD Z h50 b44 (3 : Int32) (fun _ => 0) := A_b44.ext E50
  have E_b47 : Exa Z h50 b47 "[D" := E_b47.ext E50
  have A_b47 : ArD Z h50 b47 (3 : Int32) (fun _ => 0) := A_b47.ext E50
  have E_b50 : Exa Z h50 b50 "[I" := B50
  have A_b50 : ArI Z h50 b50 (3 : Int32) (fun _ => 0) := ArI.new A50 (by decide)
  obtain ⟨T51, h51, X51, e51, W51, st51⟩ := putF X50 hx hZ hown (host := "") (Or.inl (hw _ (List.mem_of_getElem? (i := 70) rfl))) Via.refl e50 F_status_a1 E_a1 (Or.inl (hw _ (List.mem_of_getElem? (i := 71) rfl))) (hw _ (List.mem_of_getElem? (i := 9) rfl)) (ty := (.array .int)) (by decide) rfl rfl (g := (mkF m 91 #[.val (.ref a1), .val (.ref a2), .unset] [(.ref b50), (.ref a1)])) rfl rfl (hb hby d3_91)
  have N51 := Fr.snoc X51 N48 g_a1
  have Zs : n0 ≤ h51.size := Nat.le_trans Zs (Keep.of_wr W51).1
  have E_a1 : Exa Z h51 a1 "com/example/regolo/regolo/engine/Relaxation" := E_a1.wr W51
  have F_rows_a1 : Fld Z h51 a1 "com/example/regolo/regolo/engine/Relaxation" "rows" "Ljava/util/List;" (.ref b25) := F_rows_a1.other W51 (Or.inr (slot_ne (Or.inr (hw _ (List.mem_of_getElem? (i := 42) rfl))) (Or.inl (hw _ (List.mem_of_getElem? (i := 71) rfl))) (by decide) (t := (.object "java/util/List")) (t' := (.array .int)) (by decide) (by decide)))
  have F_cost_a1 : Fld Z h51 a1 "com/example/regolo/regolo/engine/Relaxation" "cost" "[D" (.ref b37) := F_cost_a1.other W51 (Or.inr (slot_ne (Or.inr (hw _ (List.mem_of_getElem? (i := 63) rfl))) (Or.inl (hw _ (List.mem_of_getElem? (i := 71) rfl))) (by decide) (t := (.array .double)) (t' := (.array .int)) (by decide) (by decide)))
  have F_lower_a1 : Fld Z h51 a1 "com/example/regolo/regolo/engine/Relaxation" "lower" "[D" (.ref b41) := F_lower_a1.other W51 (Or.inr (slot_ne (Or.inl (hw _ (List.mem_of_getElem? (i := 65) rfl))) (Or.inl (hw _ (List.mem_of_getElem? (i := 71) rfl))) (by decide) (t := (.array .double)) (t' := (.array .int)) (by decide) (by decide)))
  have F_upper_a1 : Fld Z h51 a1 "com/example/regolo/regolo/engine/Relaxation" "upper" "[D" (.ref b44) := F_upper_a1.other W51 (Or.inr (slot_ne (Or.inl (hw _ (List.mem_of_getElem? (i := 67) rfl))) (Or.inl (hw _ (List.mem_of_getElem? (i := 71) rfl))) (by decide) (t := (.array .double)) (t' := (.array .int)) (by decide) (by decide)))
  have F_value_a1 : Fld Z h51 a1 "com/example/regolo/regolo/engine/Relaxation" "value" "[D" (.ref b47) := F_value_a1.other W51 (Or.inr (slot_ne (Or.inl (hw _ (List.mem_of_getElem? (i := 69) rfl))) (Or.inl (hw _ (List.mem_of_getElem? (i := 71) rfl))) (by decide) (t := (.array .double)) (t' := (.array .int)) (by decide) (by decide)))
  have F_status_a1 : Fld Z h51 a1 "com/example/regolo/regolo/engine/Relaxation" "status" "[I" (.ref b50) := F_status_a1.same W51
  have F_reduced_a1 : Fld Z h51 a1 "com/example/regolo/regolo/engine/Relaxation" "reduced" "[D" .null := F_reduced_a1.other W51 (Or.inr (slot_ne (Or.inl (hw _ (List.mem_of_getElem? (i := 73) rfl))) (Or.inl (hw _ (List.mem_of_getElem? (i := 71) rfl))) (by decide) (t := (.array .double)) (t' := (.array .int)) (by decide) (by decide)))
  have F_place_a1 : Fld Z h51 a1 "com/example/regolo/regolo/engine/Relaxation" "place" "[I" .null := F_place_a1.other W51 (Or.inr (slot_ne (Or.inl (hw _ (List.mem_of_getElem? (i := 75) rfl))) (Or.inl (hw _ (List.mem_of_getElem? (i := 71) rfl))) (by decide) (t := (.array .int)) (t' := (.array .int)) (by decide) (by decide)))
  have F_columns_a1 : Fld Z h51 a1 "com/example/regolo/regolo/engine/Relaxation" "columns" "I" (.int (3 : Int32)) := F_columns_a1.other W51 (Or.inr (slot_ne (Or.inr (hw _ (List.mem_of_getElem? (i := 53) rfl))) (Or.inl (hw _ (List.mem_of_getElem? (i := 71) rfl))) (by decide) (t := .int) (t' := (.array .int)) (by decide) (by decide)))
  have A_a2 : ArD Z h51 a2 (3 : Int32) f := A_a2.other W51 (Ne.symm ne_a1_a2)
  have E_a2 : Exa Z h51 a2 "[D" := E_a2.wr W51
  have Ol : Old Z n0 h51 := Ol.wr W51 g_a1
  have Kp : Keep h0 h51 [a1] := Kp.wr W51 (Or.inl (List.mem_of_getElem? (i := 0) rfl))
  have E_b25 : Exa Z h51 b25 "java/util/ArrayList" := E_b25.wr W51
  have F_elementData_b25 : Fld Z h51 b25 "java/util/ArrayList" "elementData" "[Ljava/lang/Object;" (.ref dd) := F_elementData_b25.other W51 (Or.inl (Ne.symm ne_a1_b25))
  have F_size_b25 : Fld Z h51 b25 "java/util/ArrayList" "size" "I" (.int (0 : Int32)) := F_size_b25.other W51 (Or.inl (Ne.symm ne_a1_b25))
  have F_modCount_b25 : Fld Z h51 b25 "java/util/AbstractList" "modCount" "I" (.int (0 : Int32)) := F_modCount_b25.other W51 (Or.inl (Ne.symm ne_a1_b25))
  have E_b37 : Exa Z h51 b37 "[D" := E_b37.wr W51
  have A_b37 : ArD Z h51 b37 (3 : Int32) f := A_b37.other W51 (Ne.symm ne_a1_b37)
  have E_b41 : Exa Z h51 b41 "[D" := E_b41.wr W51
  have A_b41 : ArD Z h51 b41 (3 : Int32) (fun _ => 0) := A_b41.other W51 (Ne.symm ne_a1_b41)
  have E_b44 : Exa Z h51 b44 "[D" := E_b44.wr W51
  have A_b44 : ArD Z h51 b44 (3 : Int32) (fun _ => 0) := A_b44.other W51 (Ne.symm ne_a1_b44)
  have E_b47 : Exa Z h51 b47 "[D" := E_b47.wr W51
  have A_b47 : ArD Z h51 b47 (3 : Int32) (fun _ => 0) := A_b47.other W51 (Ne.symm ne_a1_b47)
  have E_b50 : Exa Z h51 b50 "[I" := E_b50.wr W51
  have A_b50 : ArI Z h51 b50 (3 : Int32) (fun _ => 0) := A_b50.other W51 (Ne.symm ne_a1_b50)
  obtain ⟨T52, X52, e52, st52⟩ := getF X51 hx hZ hown (host := "") (Or.inl (hw _ (List.mem_of_getElem? (i := 52) rfl))) Via.refl e51 F_columns_a1 (g := (mkF m 96 #[.val (.ref a1), .val (.ref a2), .unset] [(.ref a1), (.ref a1)])) rfl rfl (hb hby d3_96)
  obtain ⟨T53, h53, k53, X53, e53, E53, A53, B53, st53⟩ := newPE X52 hx hZ (hw _ (List.mem_of_getElem? (i := 7) rfl)) e52 (g := (mkF m 99 #[.val (.ref a1), .val (.ref a2), .unset] [(.int (3 : Int32)), (.ref a1)])) rfl (hb hby d3_99) rfl (by decide) (cap := 3) (by decide) (by decide) (by decide) (by decide) (ad := "[D") (by decide)
  obtain ⟨b53, g53⟩ : ∃ z, z = h51.size := ⟨_, rfl⟩
  rw [← g53] at A53 B53 st53
  have g_b53 : n0 ≤ b53 := Nat.le_trans Zs (Nat.le_of_eq g53.symm)
  have sz_b53 : h0.size ≤ b53 := Nat.le_trans Kp.1 (Nat.le_of_eq g53.symm)
  have ne_a1_b53 : a1 ≠ b53 := Nat.ne_of_lt (Nat.lt_of_lt_of_le E_a1.lt (Nat.le_of_eq g53.symm))
  have ne_a2_b53 : a2 ≠ b53 := Nat.ne_of_lt (Nat.lt_of_lt_of_le A_a2.lt (Nat.le_of_eq g53.symm))
  have ne_b25_b53 : b25 ≠ b53 := Nat.ne_of_lt (Nat.lt_of_lt_of_le E_b25.lt (Nat.le_of_eq g53.symm))
  have ne_b37_b53 : b37 ≠ b53 := Nat.ne_of_lt (Nat.lt_of_lt_of_le E_b37.lt (Nat.le_of_eq g53.symm))
  have ne_b41_b53 : b41 ≠ b53 := Nat.ne_of_lt (Nat.lt_of_lt_of_le E_b41.lt (Nat.le_of_eq g53.symm))
  have ne_b44_b53 : b44 ≠ b53 := Nat.ne_of_lt (Nat.lt_of_lt_of_le E_b44.lt (Nat.le_of_eq g53.symm))
  have ne_b47_b53 : b47 ≠ b53 := Nat.ne_of_lt (Nat.lt_of_lt_of_le E_b47.lt (Nat.le_of_eq g53.symm))
  have ne_b50_b53 : b50 ≠ b53 := Nat.ne_of_lt (Nat.lt_of_lt_of_le E_b50.lt (Nat.le_of_eq g53.symm))
  have Zs : n0 ≤ h53.size := Nat.le_trans Zs E53.1
  have E_a1 : Exa Z h53 a1 "com/example/regolo/regolo/engine/Relaxation" := E_a1.ext E53
  have F_rows_a1 : Fld Z h53 a1 "com/example/regolo/regolo/engine/Relaxation" "rows" "Ljava/util/List;" (.ref b25) := F_rows_a1.ext E53
  have F_cost_a1 : Fld Z h53 a1 "com/example/regolo/regolo/engine/Relaxation" "cost" "[D" (.ref b37) := F_cost_a1.ext E53
  have F_lower_a1 : Fld Z h53 a1 "com/example/regolo/regolo/engine/Relaxation" "lower" "[D" (.ref b41) := F_lower_a1.ext E53
  have F_upper_a1 : Fld Z h53 a1 "com/example/regolo/regolo/engine/Relaxation" "upper" "[D" (.ref b44) := F_upper_a1.ext E53
  have F_value_a1 : Fld Z h53 a1 "com/example/regolo/regolo/engine/Relaxation" "value" "[D" (.ref b47) := F_value_a1.ext E53
  have F_status_a1 : Fld Z h53 a1 "com/example/regolo/regolo/engine/Relaxation" "status" "[I" (.ref b50) := F_status_a1.ext E53
  have F_reduced_a1 : Fld Z h53 a1 "com/example/regolo/regolo/engine/Relaxation" "reduced" "[D" .null := F_reduced_a1.ext E53
  have F_place_a1 : Fld Z h53 a1 "com/example/regolo/regolo/engine/Relaxation" "place" "[I" .null := F_place_a1.ext E53
  have F_columns_a1 : Fld Z h53 a1 "com/example/regolo/regolo/engine/Relaxation" "columns" "I" (.int (3 : Int32)) := F_columns_a1.ext E53
  have A_a2 : ArD Z h53 a2 (3 : Int32) f := A_a2.ext E53
  have E_a2 : Exa Z h53 a2 "[D" := E_a2.ext E53
  have Ol : Old Z n0 h53 := Ol.ext E53
  have Kp : Keep h0 h53 [a1] := Kp.ext E53
  have E_b25 : Exa Z h53 b25 "java/util/ArrayList" := E_b25.ext E53
  have F_elementData_b25 : Fld Z h53 b25 "java/util/ArrayList" "elementData" "[Ljava/lang/Object;" (.ref dd) := F_elementData_b25.ext E53
  have F_size_b25 : Fld Z h53 b25 "java/util/ArrayList" "size" "I" (.int (0 : Int32)) := F_size_b25.ext E53
  have F_modCount_b25 : Fld Z h53 b25 "java/util/AbstractList" "modCount" "I" (.int (0 : Int32)) := F_modCount_b25.ext E53
  have E_b37 : Exa Z h53 b37 "[D" := E_b37.ext E53
  have A_b37 : ArD Z h53 b37 (3 : Int32) f := A_b37.ext E53
  have E_b41 : Exa Z h53 b41 "[D" := E_b41.ext E53
  have A_b41 : ArD Z h53 b41 (3 : Int32) (fun _ => 0) := A_b41.ext E53
  have E_b44 : Exa Z h53 b44 "[D" := E_b44.ext E53
  have A_b44 : ArD Z h53 b44 (3 : Int32) (fun _ => 0) := A_b44.ext E53
  have E_b47 : Exa Z h53 b47 "[D" := E_b47.ext E53
  have A_b47 : ArD Z h53 b47 (3 : Int32) (fun _ => 0) := A_b47.ext E53
  have E_b50 : Exa Z h53 b50 "[I" := E_b50.ext E53
  have A_b50 : ArI Z h53 b50 (3 : Int32) (fun _ => 0) := A_b50.ext E53
  have E_b53 : Exa Z h53 b53 "[D" := B53
  have A_b53 : ArD Z h53 b53 (3 : Int32) (fun _ => 0) := ArD.new A53 (by decide)
  obtain ⟨T54, h54, X54, e54, W54, st54⟩ := putF X53 hx hZ hown (host := "") (Or.inl (hw _ (List.mem_of_getElem? (i := 72) rfl))) Via.refl e53 F_reduced_a1 E_a1 (Or.inl (hw _ (List.mem_of_getElem? (i := 73) rfl))) (hw _ (List.mem_of_getElem? (i := 9) rfl)) (ty := (.array .double)) (by decide) rfl rfl (g := (mkF m 101 #[.val (.ref a1), .val (.ref a2), .unset] [(.ref b53), (.ref a1)])) rfl rfl (hb hby d3_101)
  have N54 := Fr.snoc X54 N51 g_a1
  have Zs : n0 ≤ h54.size := Nat.le_trans Zs (Keep.of_wr W54).1
  have E_a1 : Exa Z h54 a1 "com/example/regolo/regolo/engine/Relaxation" := E_a1.wr W54
  have F_rows_a1 : Fld Z h54 a1 "com/example/regolo/regolo/engine/Relaxation" "rows" "Ljava/util/List;" (.ref b25) := F_rows_a1.other W54 (Or.inr (slot_ne (Or.inr (hw _ (List.mem_of_getElem? (i := 42) rfl))) (Or.inl (hw _ (List.mem_of_getElem? (i := 73) rfl))) (by decide) (t := (.object "java/util/List")) (t' := (.array .double)) (by decide) (by decide)))
  have F_cost_a1 : Fld Z h54 a1 "com/example/regolo/regolo/engine/Relaxation" "cost" "[D" (.ref b37) := F_cost_a1.other W54 (Or.inr (slot_ne (Or.inr (hw _ (List.mem_of_getElem? (i := 63) rfl))) (Or.inl (hw _ (List.mem_of_getElem? (i := 73) rfl))) (by decide) (t := (.array .double)) (t' := (.array .double)) (by decide) (by decide)))
  have F_lower_a1 : Fld Z h54 a1 "com/example/regolo/regolo/engine/Relaxation" "lower" "[D" (.ref b41) := F_lower_a1.other W54 (Or.inr (slot_ne (Or.inl (hw _ (List.mem_of_getElem? (i := 65) rfl))) (Or.inl (hw _ (List.mem_of_getElem? (i := 73) rfl))) (by decide) (t := (.array .double)) (t' := (.array .double)) (by decide) (by decide)))
  have F_upper_a1 : Fld Z h54 a1 "com/example/regolo/regolo/engine/Relaxation" "upper" "[D" (.ref b44) := F_upper_a1.other W54 (Or.inr (slot_ne (Or.inl (hw _ (List.mem_of_getElem? (i := 67) rfl))) (Or.inl (hw _ (List.mem_of_getElem? (i := 73) rfl))) (by decide) (t := (.array .double)) (t' := (.array .double)) (by decide) (by decide)))
  have F_value_a1 : Fld Z h54 a1 "com/example/regolo/regolo/engine/Relaxation" "value" "[D" (.ref b47) := F_value_a1.other W54 (Or.inr (slot_ne (Or.inl (hw _ (List.mem_of_getElem? (i := 69) rfl))) (Or.inl (hw _ (List.mem_of_getElem? (i := 73) rfl))) (by decide) (t := (.array .double)) (t' := (.array .double)) (by decide) (by decide)))
  have F_status_a1 : Fld Z h54 a1 "com/example/regolo/regolo/engine/Relaxation" "status" "[I" (.ref b50) := F_status_a1.other W54 (Or.inr (slot_ne (Or.inl (hw _ (List.mem_of_getElem? (i := 71) rfl))) (Or.inl (hw _ (List.mem_of_getElem? (i := 73) rfl))) (by decide) (t := (.array .int)) (t' := (.array .double)) (by decide) (by decide)))
  have F_reduced_a1 : Fld Z h54 a1 "com/example/regolo/regolo/engine/Relaxation" "reduced" "[D" (.ref b53) := F_reduced_a1.same W54
  have F_place_a1 : Fld Z h54 a1 "com/example/regolo/regolo/engine/Relaxation" "place" "[I" .null := F_place_a1.other W54 (Or.inr (slot_ne (Or.inl (hw _ (List.mem_of_getElem? (i := 75) rfl))) (Or.inl (hw _ (List.mem_of_getElem? (i := 73) rfl))) (by decide) (t := (.array .int)) (t' := (.array .double)) (by decide) (by decide)))
  have F_columns_a1 : Fld Z h54 a1 "com/example/regolo/regolo/engine/Relaxation" "columns" "I" (.int (3 : Int32)) := F_columns_a1.other W54 (Or.inr (slot_ne (Or.inr (hw _ (List.mem_of_getElem? (i := 53) rfl))) (Or.inl (hw _ (List.mem_of_getElem? (i := 73) rfl))) (by decide) (t := .int) (t' := (.array .double)) (by decide) (by decide)))
  have A_a2 : ArD Z h54 a2 (3 : Int32) f := A_a2.other W54 (Ne.symm ne_a1_a2)
  have E_a2 : Exa Z h54 a2 "[D" := E_a2.wr W54
  have Ol : Old Z n0 h54 := Ol.wr W54 g_a1
  have Kp : Keep h0 h54 [a1] := Kp.wr W54 (Or.inl (List.mem_of_getElem? (i := 0) rfl))
  have E_b25 : Exa Z h54 b25 "java/util/ArrayList" := E_b25.wr W54
  have F_elementData_b25 : Fld Z h54 b25 "java/util/ArrayList" "elementData" "[Ljava/lang/Object;" (.ref dd) := F_elementData_b25.other W54 (Or.inl (Ne.symm ne_a1_b25))
  have F_size_b25 : Fld Z h54 b25 "java/util/ArrayList" "size" "I" (.int (0 : Int32)) := F_size_b25.other W54 (Or.inl (Ne.symm ne_a1_b25))
  have F_modCount_b25 : Fld Z h54 b25 "java/util/AbstractList" "modCount" "I" (.int (0 : Int32)) := F_modCount_b25.other W54 (Or.inl (Ne.symm ne_a1_b25))
  have E_b37 : Exa Z h54 b37 "[D" := E_b37.wr W54
  have A_b37 : ArD Z h54 b37 (3 : Int32) f := A_b37.other W54 (Ne.symm ne_a1_b37)
  have E_b41 : Exa Z h54 b41 "[D" := E_b41.wr W54
  have A_b41 : ArD Z h54 b41 (3 : Int32) (fun _ => 0) := A_b41.other W54 (Ne.symm ne_a1_b41)
  have E_b44 : Exa Z h54 b44 "[D" := E_b44.wr W54
  have A_b44 : ArD Z h54 b44 (3 : Int32) (fun _ => 0) := A_b44.other W54 (Ne.symm ne_a1_b44)
  have E_b47 : Exa Z h54 b47 "[D" := E_b47.wr W54
  have A_b47 : ArD Z h54 b47 (3 : Int32) (fun _ => 0) := A_b47.other W54 (Ne.symm ne_a1_b47)
  have E_b50 : Exa Z h54 b50 "[I" := E_b50.wr W54
  have A_b50 : ArI Z h54 b50 (3 : Int32) (fun _ => 0) := A_b50.other W54 (Ne.symm ne_a1_b50)
  have E_b53 : Exa Z h54 b53 "[D" := E_b53.wr W54
  have A_b53 : ArD Z h54 b53 (3 : Int32) (fun _ => 0) := A_b53.other W54 (Ne.symm ne_a1_b53)
  obtain ⟨T55, X55, e55, st55⟩ := getF X54 hx hZ hown (host := "") (Or.inl (hw _ (List.mem_of_getElem? (i := 52) rfl))) Via.refl e54 F_columns_a1 (g := (mkF m 106 #[.val (.ref a1), .val (.ref a2), .unset] [(.ref a1), (.ref a1)])) rfl rfl (hb hby d3_106)
  obtain ⟨T56, h56, k56, X56, e56, E56, A56, B56, st56⟩ := newPE X55 hx hZ (hw _ (List.mem_of_getElem? (i := 43) rfl)) e55 (g := (mkF m 109 #[.val (.ref a1), .val (.ref a2), .unset] [(.int (3 : Int32)), (.ref a1)])) rfl (hb hby d3_109) rfl (by decide) (cap := 3) (by decide) (by decide) (by decide) (by decide) (ad := "[I") (by decide)
  obtain ⟨b56, g56⟩ : ∃ z, z = h54.size := ⟨_, rfl⟩
  rw [← g56] at A56 B56 st56
  have g_b56 : n0 ≤ b56 := Nat.le_trans Zs (Nat.le_of_eq g56.symm)
  have sz_b56 : h0.size ≤ b56 := Nat.le_trans Kp.1 (Nat.le_of_eq g56.symm)
  have ne_a1_b56 : a1 ≠ b56 := Nat.ne_of_lt (Nat.lt_of_lt_of_le E_a1.lt (Nat.le_of_eq g56.symm))
  have ne_a2_b56 : a2 ≠ b56 := Nat.ne_of_lt (Nat.lt_of_lt_of_le A_a2.lt (Nat.le_of_eq g56.symm))
  have ne_b25_b56 : b25 ≠ b56 := Nat.ne_of_lt (Nat.lt_of_lt_of_le E_b25.lt (Nat.le_of_eq g56.symm))
  have ne_b37_b56 : b37 ≠ b56 := Nat.ne_of_lt (Nat.lt_of_lt_of_le E_b37.lt (Nat.le_of_eq g56.symm))
  have ne_b41_b56 : b41 ≠ b56 := Nat.ne_of_lt (Nat.lt_of_lt_of_le E_b41.lt (Nat.le_of_eq g56.symm))
  have ne_b44_b56 : b44 ≠ b56 := Nat.ne_of_lt (Nat.lt_of_lt_of_le E_b44.lt (Nat.le_of_eq g56.symm))
  have ne_b47_b56 : b47 ≠ b56 := Nat.ne_of_lt (Nat.lt_of_lt_of_le E_b47.lt (Nat.le_of_eq g56.symm))
  have ne_b50_b56 : b50 ≠ b56 := Nat.ne_of_lt (Nat.lt_of_lt_of_le E_b50.lt (Nat.le_of_eq g56.symm))
  have ne_b53_b56 : b53 ≠ b56 := Nat.ne_of_lt (Nat.lt_of_lt_of_le E_b53.lt (Nat.le_of_eq g56.symm))
  have Zs : n0 ≤ h56.size := Nat.le_trans Zs E56.1
  have E_a1 : Exa Z h56 a1 "com/example/regolo/regolo/engine/Relaxation" := E_a1.ext E56
  have F_rows_a1 : Fld Z h56 a1 "com/example/regolo/regolo/engine/Relaxation" "rows" "Ljava/util/List;" (.ref b25) := F_rows_a1.ext E56
  have F_cost_a1 : Fld Z h56 a1 "com/example/regolo/regolo/engine/Relaxation" "cost" "[D" (.ref b37) := F_cost_a1.ext E56
  have F_lower_a1 : Fld Z h56 a1 "com/example/regolo/regolo/engine/Relaxation" "lower" "[D" (.ref b41) := F_lower_a1.ext E56
  have F_upper_a1 : Fld Z h56 a1 "com/example/regolo/regolo/engine/Relaxation" "upper" "[D" (.ref b44) := F_upper_a1.ext E56
  have F_value_a1 : Fld Z h56 a1 "com/example/regolo/regolo/engine/Relaxation" "value" "[D" (.ref b47) := F_value_a1.ext E56
  have F_status_a1 : Fld Z h56 a1 "com/example/regolo/regolo/engine/Relaxation" "status" "[I" (.ref b50) := F_status_a1.ext E56
  have F_reduced_a1 : Fld Z h56 a1 "com/example/regolo/regolo/engine/Relaxation" "reduced" "[D" (.ref b53) := F_reduced_a1.ext E56
  have F_place_a1 : Fld Z h56 a1 "com/example/regolo/regolo/engine/Relaxation" "place" "[I" .null := F_place_a1.ext E56
  have F_columns_a1 : Fld Z h56 a1 "com/example/regolo/regolo/engine/Relaxation" "columns" "I" (.int (3 : Int32)) := F_columns_a1.ext E56
  have A_a2 : ArD Z h56 a2 (3 : Int32) f := A_a2.ext E56
  have E_a2 : Exa Z h56 a2 "[D" := E_a2.ext E56
  have Ol : Old Z n0 h56 := Ol.ext E56
  have Kp : Keep h0 h56 [a1] := Kp.ext E56
  have E_b25 : Exa Z h56 b25 "java/util/ArrayList" := E_b25.ext E56
  have F_elementData_b25 : Fld Z h56 b25 "java/util/ArrayList" "elementData" "[Ljava/lang/Object;" (.ref dd) := F_elementData_b25.ext E56
  have F_size_b25 : Fld Z h56 b25 "java/util/ArrayList" "size" "I" (.int (0 : Int32)) := F_size_b25.ext E56
  have F_modCount_b25 : Fld Z h56 b25 "java/util/AbstractList" "modCount" "I" (.int (0 : Int32)) := F_modCount_b25.ext E56
  have E_b37 : Exa Z h56 b37 "[D" := E_b37.ext E56
  have A_b37 : ArD Z h56 b37 (3 : Int32) f := A_b37.ext E56
  have E_b41 : Exa Z h56 b41 "[D" := E_b41.ext E56
  have A_b41 : ArD Z h56 b41 (3 : Int32) (fun _ => 0) := A_b41.ext E56
  have E_b44 : Exa Z h56 b44 "[D" := E_b44.ext E56
  have A_b44 : ArD Z h56 b44 (3 : Int32) (fun _ => 0) := A_b44.ext E56
  have E_b47 : Exa Z h56 b47 "[D" := E_b47.ext E56
  have A_b47 : ArD Z h56 b47 (3 : Int32) (fun _ => 0) := A_b47.ext E56
  have E_b50 : Exa Z h56 b50 "[I" := E_b50.ext E56
  have A_b50 : ArI Z h56 b50 (3 : Int32) (fun _ => 0) := A_b50.ext E56
  have E_b53 : Exa Z h56 b53 "[D" := E_b53.ext E56
  have A_b53 : ArD Z h56 b53 (3 : Int32) (fun _ => 0) := A_b53.ext E56
  have E_b56 : Exa Z h56 b56 "[I" := B56
  have A_b56 : ArI Z h56 b56 (3 : Int32) (fun _ => 0) := ArI.new A56 (by decide)
  obtain ⟨T57, h57, X57, e57, W57, st57⟩ := putF X56 hx hZ hown (host := "") (Or.inl (hw _ (List.mem_of_getElem? (i := 74) rfl))) Via.refl e56 F_place_a1 E_a1 (Or.inl (hw _ (List.mem_of_getElem? (i := 75) rfl))) (hw _ (List.mem_of_getElem? (i := 9) rfl)) (ty := (.array .int)) (by decide) rfl rfl (g := (mkF m 111 #[.val (.ref a1), .val (.ref a2), .unset] [(.ref b56), (.ref a1)])) rfl rfl (hb hby d3_111)
  have N57 := Fr.snoc X57 N54 g_a1
  have Zs : n0 ≤ h57.size := Nat.le_trans Zs (Keep.of_wr W57).1
  have E_a1 : Exa Z h57 a1 "com/example/regolo/regolo/engine/Relaxation" := E_a1.wr W57
  have F_rows_a1 : Fld Z h57 a1 "com/example/regolo/regolo/engine/Relaxation" "rows" "Ljava/util/List;" (.ref b25) := F_rows_a1.other W57 (Or.inr (slot_ne (Or.inr (hw _ (List.mem_of_getElem? (i := 42) rfl))) (Or.inl (hw _ (List.mem_of_getElem? (i := 75) rfl))) (by decide) (t := (.object "java/util/List")) (t' := (.array .int)) (by decide) (by decide)))
  have F_cost_a1 : Fld Z h57 a1 "com/example/regolo/regolo/engine/Relaxation" "cost" "[D" (.ref b37) := F_cost_a1.other W57 (Or.inr (slot_ne (Or.inr (hw _ (List.mem_of_getElem? (i := 63) rfl))) (Or.inl (hw _ (List.mem_of_getElem? (i := 75) rfl))) (by decide) (t := (.array .double)) (t' := (.array .int)) (by decide) (by decide)))
  have F_lower_a1 : Fld Z h57 a1 "com/example/regolo/regolo/engine/Relaxation" "lower" "[D" (.ref b41) := F_lower_a1.other W57 (Or.inr (slot_ne (Or.inl (hw _ (List.mem_of_getElem? (i := 65) rfl))) (Or.inl (hw _ (List.mem_of_getElem? (i := 75) rfl))) (by decide) (t := (.array .double)) (t' := (.array .int)) (by decide) (by decide)))
  have F_upper_a1 : Fld Z h57 a1 "com/example/regolo/regolo/engine/Relaxation" "upper" "[D" (.ref b44) := F_upper_a1.other W57 (Or.inr (slot_ne (Or.inl (hw _ (List.mem_of_getElem? (i := 67) rfl))) (Or.inl (hw _ (List.mem_of_getElem? (i := 75) rfl))) (by decide) (t := (.array .double)) (t' := (.array .int)) (by decide) (by decide)))
  have F_value_a1 : Fld Z h57 a1 "com/example/regolo/regolo/engine/Relaxation" "value" "[D" (.ref b47) := F_value_a1.other W57 (Or.inr (slot_ne (Or.inl (hw _ (List.mem_of_getElem? (i := 69) rfl))) (Or.inl (hw _ (List.mem_of_getElem? (i := 75) rfl))) (by decide) (t := (.array .double)) (t' := (.array .int)) (by decide) (by decide)))
  have F_status_a1 : Fld Z h57 a1 "com/example/regolo/regolo/engine/Relaxation" "status" "[I" (.ref b50) := F_status_a1.other W57 (Or.inr (slot_ne (Or.inl (hw _ (List.mem_of_getElem? (i := 71) rfl))) (Or.inl (hw _ (List.mem_of_getElem? (i := 75) rfl))) (by decide) (t := (.array .int)) (t' := (.array .int)) (by decide) (by decide)))
  have F_reduced_a1 : Fld Z h57 a1 "com/example/regolo/regolo/engine/Relaxation" "reduced" "[D" (.ref b53) := F_reduced_a1.other W57 (Or.inr (slot_ne (Or.inl (hw _ (List.mem_of_getElem? (i := 73) rfl))) (Or.inl (hw _ (List.mem_of_getElem? (i := 75) rfl))) (by decide) (t := (.array .double)) (t' := (.array .int)) (by decide) (by decide)))
  have F_place_a1 : Fld Z h57 a1 "com/example/regolo/regolo/engine/Relaxation" "place" "[I" (.ref b56) := F_place_a1.same W57
  have F_columns_a1 : Fld Z h57 a1 "com/example/regolo/regolo/engine/Relaxation" "columns" "I" (.int (3 : Int32)) := F_columns_a1.other W57 (Or.inr (slot_ne (Or.inr (hw _ (List.mem_of_getElem? (i := 53) rfl))) (Or.inl (hw _ (List.mem_of_getElem? (i := 75) rfl))) (by decide) (t := .int) (t' := (.array .int)) (by decide) (by decide)))
  have A_a2 : ArD Z h57 a2 (3 : Int32) f := A_a2.other W57 (Ne.symm ne_a1_a2)
  have E_a2 : Exa Z h57 a2 "[D" := E_a2.wr W57
  have Ol : Old Z n0 h57 := Ol.wr W57 g_a1
  have Kp : Keep h0 h57 [a1] := Kp.wr W57 (Or.inl (List.mem_of_getElem? (i := 0) rfl))
  have E_b25 : Exa Z h57 b25 "java/util/ArrayList" := E_b25.wr W57
  have F_elementData_b25 : Fld Z h57 b25 "java/util/ArrayList" "elementData" "[Ljava/lang/Object;" (.ref dd) := F_elementData_b25.other W57 (Or.inl (Ne.symm ne_a1_b25))
  have F_size_b25 : Fld Z h57 b25 "java/util/ArrayList" "size" "I" (.int (0 : Int32)) := F_size_b25.other W57 (Or.inl (Ne.symm ne_a1_b25))
  have F_modCount_b25 : Fld Z h57 b25 "java/util/AbstractList" "modCount" "I" (.int (0 : Int32)) := F_modCount_b25.other W57 (Or.inl (Ne.symm ne_a1_b25))
  have E_b37 : Exa Z h57 b37 "[D" := E_b37.wr W57
  have A_b37 : ArD Z h57 b37 (3 : Int32) f := A_b37.other W57 (Ne.symm ne_a1_b37)
  have E_b41 : Exa Z h57 b41 "[D" := E_b41.wr W57
  have A_b41 : ArD Z h57 b41 (3 : Int32) (fun _ => 0) := A_b41.other W57 (Ne.symm ne_a1_b41)
  have E_b44 : Exa Z h57 b44 "[D" := E_b44.wr W57
  have A_b44 : ArD Z h57 b44 (3 : Int32) (fun _ => 0) := A_b44.other W57 (Ne.symm ne_a1_b44)
  have E_b47 : Exa Z h57 b47 "[D" := E_b47.wr W57
  have A_b47 : ArD Z h57 b47 (3 : Int32) (fun _ => 0) := A_b47.other W57 (Ne.symm ne_a1_b47)
  have E_b50 : Exa Z h57 b50 "[I" := E_b50.wr W57
  have A_b50 : ArI Z h57 b50 (3 : Int32) (fun _ => 0) := A_b50.other W57 (Ne.symm ne_a1_b50)
  have E_b53 : Exa Z h57 b53 "[D" := E_b53.wr W57
  have A_b53 : ArD Z h57 b53 (3 : Int32) (fun _ => 0) := A_b53.other W57 (Ne.symm ne_a1_b53)
  have E_b56 : Exa Z h57 b56 "[I" := E_b56.wr W57
  have A_b56 : ArI Z h57 b56 (3 : Int32) (fun _ => 0) := A_b56.other W57 (Ne.symm ne_a1_b56)
  obtain ⟨T58, X58, e58, st58⟩ := getF X57 hx hZ hown (host := "") (Or.inl (hw _ (List.mem_of_getElem? (i := 66) rfl))) Via.refl e57 F_upper_a1 (g := (mkF m 115 #[.val (.ref a1), .val (.ref a2), .unset] [(.ref a1)])) rfl rfl (hb hby d3_115)
  obtain ⟨_, _, ⟨T59, L59, k59, n59⟩, -, X59, ⟨Lc59, hQ59, l59, y59, z59⟩, st59⟩ := Jvm.LawKit.callS X58 hx (y := (⟨"java/util/Arrays", "fill", "([DD)V"⟩ : MethodName)) hown (mvT hZ (hw _ (List.mem_of_getElem? (i := 76) rfl))) (mvT hZ (hw _ (List.mem_of_getElem? (i := 77) rfl))) (mvT hZ (hw _ (List.mem_of_getElem? (i := 78) rfl))) (mvT hZ (hw _ (List.mem_of_getElem? (i := 79) rfl))) (by decide) (backOf (W := 0) (rmFD l Z a0 hw [] b44 (1 : Int64) (fun _ => 0) h57 n0 Zs A_b44 g_b44) hZ (hw _ (List.mem_of_getElem? (i := 79) rfl)) (hw _ (List.mem_of_getElem? (i := 78) rfl)) (by decide) (by decide)) (g := (mkF m 119 #[.val (.ref a1), .val (.ref a2), .unset] [(.double (FP.l2d (1 : Int64))), (.ref b44)])) rfl (by rw [hml]; rfl) (argsL := [(.ref b44), (.double (FP.l2d (1 : Int64)))]) (rest := []) (lenOf pd_1 rfl) rfl (by show 2 * 0 + _ ≤ _; exact Nat.le_of_eq rfl) (hb hby d3_119) (fun _ _ => ⟨rfl, e58, (by decide : 11 + 0 ≤ _), (by decide : 24 + 0 ≤ _)⟩)
  dsimp only [Pt.U, Pt.locs, Pt.cells, Pt.slots] at X59 l59 y59 z59 st59 hQ59
  subst l59 y59 z59
  obtain ⟨rfl, N59q, K59, P59_1⟩ := hQ59
  have Zs : n0 ≤ T59.heap.size := Nat.le_trans Zs K59.1
  have E_a1 : Exa Z T59.heap a1 "com/example/regolo/regolo/engine/Relaxation" := E_a1.keep K59
  have F_rows_a1 : Fld Z T59.heap a1 "com/example/regolo/regolo/engine/Relaxation" "rows" "Ljava/util/List;" (.ref b25) := F_rows_a1.keep K59 (ninS ne_a1_b44 nin0)
  have F_cost_a1 : Fld Z T59.heap a1 "com/example/regolo/regolo/engine/Relaxation" "cost" "[D" (.ref b37) := F_cost_a1.keep K59 (ninS ne_a1_b44 nin0)
  have F_lower_a1 : Fld Z T59.heap a1 "com/example/regolo/regolo/engine/Relaxation" "lower" "[D" (.ref b41) := F_lower_a1.keep K59 (ninS ne_a1_b44 nin0)
  have F_upper_a1 : Fld Z T59.heap a1 "com/example/regolo/regolo/engine/Relaxation" "upper" "[D" (.ref b44) := F_upper_a1.keep K59 (ninS ne_a1_b44 nin0)
  have F_value_a1 : Fld Z T59.heap a1 "com/example/regolo/regolo/engine/Relaxation" "value" "[D" (.ref b47) := F_value_a1.keep K59 (ninS ne_a1_b44 nin0)
  have F_status_a1 : Fld Z T59.heap a1 "com/example/regolo/regolo/engine/Relaxation" "status" "[I" (.ref b50) := F_status_a1.keep K59 (ninS ne_a1_b44 nin0)
  have F_reduced_a1 : Fld Z T59.heap a1 "com/example/regolo/regolo/engine/Relaxation" "reduced" "[D" (.ref b53) := F_reduced_a1.keep K59 (ninS ne_a1_b44 nin0)
  have F_place_a1 : Fld Z T59.heap a1 "com/example/regolo/regolo/engine/Relaxation" "place" "[I" (.ref b56) := F_place_a1.keep K59 (ninS ne_a1_b44 nin0)
  have F_columns_a1 : Fld Z T59.heap a1 "com/example/regolo/regolo/engine/Relaxation" "columns" "I" (.int (3 : Int32)) := F_columns_a1.keep K59 (ninS ne_a1_b44 nin0)
  have A_a2 : ArD Z T59.heap a2 (3 : Int32) f := A_a2.keep K59 (ninS ne_a2_b44 nin0)
  have E_a2 : Exa Z T59.heap a2 "[D" := E_a2.keep K59
  have Ol : Old Z n0 T59.heap := Ol.keep K59 (allS g_b44 all0)
  have Kp : Keep h0 T59.heap [a1] := Kp.trans K59 (allS (Or.inr sz_b44) all0)
  have E_b25 : Exa Z T59.heap b25 "java/util/ArrayList" := E_b25.keep K59
  have F_elementData_b25 : Fld Z T59.heap b25 "java/util/ArrayList" "elementData" "[Ljava/lang/Object;" (.ref dd) := F_elementData_b25.keep K59 (ninS ne_b25_b44 nin0)
  have F_size_b25 : Fld Z T59.heap b25 "java/util/ArrayList" "size" "I" (.int (0 : Int32)) := F_size_b25.keep K59 (ninS ne_b25_b44 nin0)
  have F_modCount_b25 : Fld Z T59.heap b25 "java/util/AbstractList" "modCount" "I" (.int (0 : Int32)) := F_modCount_b25.keep K59 (ninS ne_b25_b44 nin0)
  have E_b37 : Exa Z T59.heap b37 "[D" := E_b37.keep K59
  have A_b37 : ArD Z T59.heap b37 (3 : Int32) f := A_b37.keep K59 (ninS ne_b37_b44 nin0)
  have E_b41 : Exa Z T59.heap b41 "[D" := E_b41.keep K59
  have A_b41 : ArD Z T59.heap b41 (3 : Int32) (fun _ => 0) := A_b41.keep K59 (ninS ne_b41_b44 nin0)
  have E_b44 : Exa Z T59.heap b44 "[D" := E_b44.keep K59
  have E_b47 : Exa Z T59.heap b47 "[D" := E_b47.keep K59
  have A_b47 : ArD Z T59.heap b47 (3 : Int32) (fun _ => 0) := A_b47.keep K59 (ninS (Ne.symm ne_b44_b47) nin0)
  have E_b50 : Exa Z T59.heap b50 "[I" := E_b50.keep K59
  have A_b50 : ArI Z T59.heap b50 (3 : Int32) (fun _ => 0) := A_b50.keep K59 (ninS (Ne.symm ne_b44_b50) nin0)
  have E_b53 : Exa Z T59.heap b53 "[D" := E_b53.keep K59
  have A_b53 : ArD Z T59.heap b53 (3 : Int32) (fun _ => 0) := A_b53.keep K59 (ninS (Ne.symm ne_b44_b53) nin0)
  have E_b56 : Exa Z T59.heap b56 "[I" := E_b56.keep K59
  have A_b56 : ArI Z T59.heap b56 (3 : Int32) (fun _ => 0) := A_b56.keep K59 (ninS (Ne.symm ne_b44_b56) nin0)
  have A_b44 : ArD Z T59.heap b44 (3 : Int32) (upd (upd (upd (fun _ => 0) (0 : Int32).toNatClampNeg (1 : Int64)) (1 : Int32).toNatClampNeg (1 : Int64)) (2 : Int32).toNatClampNeg (1 : Int64)) := P59_1
  have N59 := Fr.app N57 N59q
  obtain ⟨T60, X60, e60, st60⟩ := getF X59 hx hZ hown (host := "") (Or.inl (hw _ (List.mem_of_getElem? (i := 74) rfl))) Via.refl rfl F_place_a1 (g := (mkF m 123 #[.val (.ref a1), .val (.ref a2), .unset] [(.ref a1)])) rfl rfl (hb hby d3_123)
  obtain ⟨_, _, ⟨T61, L61, k61, n61⟩, -, X61, ⟨Lc61, hQ61, l61, y61, z61⟩, st61⟩ := Jvm.LawKit.callS X60 hx (y := (⟨"java/util/Arrays", "fill", "([II)V"⟩ : MethodName)) hown (mvT hZ (hw _ (List.mem_of_getElem? (i := 80) rfl))) (mvT hZ (hw _ (List.mem_of_getElem? (i := 81) rfl))) (mvT hZ (hw _ (List.mem_of_getElem? (i := 78) rfl))) (mvT hZ (hw _ (List.mem_of_getElem? (i := 82) rfl))) (by decide) (backOf (W := 0) (rmFI l Z a0 hw [] b56 (-1 : Int32) (fun _ => 0) T59.heap n0 Zs A_b56 g_b56) hZ (hw _ (List.mem_of_getElem? (i := 82) rfl)) (hw _ (List.mem_of_getElem? (i := 78) rfl)) (by decide) (by decide)) (g := (mkF m 127 #[.val (.ref a1), .val (.ref a2), .unset] [(.int (-1 : Int32)), (.ref b56)])) rfl (by rw [hml]; rfl) (argsL := [(.ref b56), (.int (-1 : Int32))]) (rest := []) (lenOf pd_2 rfl) rfl (by show 2 * 0 + _ ≤ _; exact Nat.le_of_eq rfl) (hb hby d3_127) (fun _ _ => ⟨rfl, e60, (by decide : 11 + 0 ≤ _), (by decide : 24 + 0 ≤ _)⟩)
  dsimp only [Pt.U, Pt.locs, Pt.cells, Pt.slots] at X61 l61 y61 z61 st61 hQ61
  subst l61 y61 z61
  obtain ⟨rfl, N61q, K61, P61_1⟩ := hQ61
  have Zs : n0 ≤ T61.heap.size := Nat.le_trans Zs K61.1
  have E_a1 : Exa Z T61.heap a1 "com/example/regolo/regolo/engine/Relaxation" := E_a1.keep K61
  have F_rows_a1 : Fld Z T61.heap a1 "com/example/regolo/regolo/engine/Relaxation" "rows" "Ljava/util/List;" (.ref b25) := F_rows_a1.keep K61 (ninS ne_a1_b56 nin0)
  have F_cost_a1 : Fld Z T61.heap a1 "com/example/regolo/regolo/engine/Relaxation" "cost" "[D" (.ref b37) := F_cost_a1.keep K61 (ninS ne_a1_b56 nin0)
  have F_lower_a1 : Fld Z T61.heap a1 "com/example/regolo/regolo/engine/Relaxation" "lower" "[D" (.ref b41) := F_lower_a1.keep K61 (ninS ne_a1_b56 nin0)
  have F_upper_a1 : Fld Z T61.heap a1 "com/example/regolo/regolo/engine/Relaxation" "upper" "[D" (.ref b44) := F_upper_a1.keep K61 (ninS ne_a1_b56 nin0)
  have F_value_a1 : Fld Z T61.heap a1 "com/example/regolo/regolo/engine/Relaxation" "value" "[D" (.ref b47) := F_value_a1.keep K61 (ninS ne_a1_b56 nin0)
  have F_status_a1 : Fld Z T61.heap a1 "com/example/regolo/regolo/engine/Relaxation" "status" "[I" (.ref b50) := F_status_a1.keep K61 (ninS ne_a1_b56 nin0)
  have F_reduced_a1 : Fld Z T61.heap a1 "com/example/regolo/regolo/engine/Relaxation" "reduced" "[D" (.ref b53) := F_reduced_a1.keep K61 (ninS ne_a1_b56 nin0)
  have F_place_a1 : Fld Z T61.heap a1 "com/example/regolo/regolo/engine/Relaxation" "place" "[I" (.ref b56) := F_place_a1.keep K61 (ninS ne_a1_b56 nin0)
  have F_columns_a1 : Fld Z T61.heap a1 "com/example/regolo/regolo/engine/Relaxation" "columns" "I" (.int (3 : Int32)) := F_columns_a1.keep K61 (ninS ne_a1_b56 nin0)
  have A_a2 : ArD Z T61.heap a2 (3 : Int32) f := A_a2.keep K61 (ninS ne_a2_b56 nin0)
  have E_a2 : Exa Z T61.heap a2 "[D" := E_a2.keep K61
  have Ol : Old Z n0 T61.heap := Ol.keep K61 (allS g_b56 all0)
  have Kp : Keep h0 T61.heap [a1] := Kp.trans K61 (allS (Or.inr sz_b56) all0)
  have E_b25 : Exa Z T61.heap b25 "java/util/ArrayList" := E_b25.keep K61
  have F_elementData_b25 : Fld Z T61.heap b25 "java/util/ArrayList" "elementData" "[Ljava/lang/Object;" (.ref dd) := F_elementData_b25.keep K61 (ninS ne_b25_b56 nin0)
  have F_size_b25 : Fld Z T61.heap b25 "java/util/ArrayList" "size" "I" (.int (0 : Int32)) := F_size_b25.keep K61 (ninS ne_b25_b56 nin0)
  have F_modCount_b25 : Fld Z T61.heap b25 "java/util/AbstractList" "modCount" "I" (.int (0 : Int32)) := F_modCount_b25.keep K61 (ninS ne_b25_b56 nin0)
  have E_b37 : Exa Z T61.heap b37 "[D" := E_b37.keep K61
  have A_b37 : ArD Z T61.heap b37 (3 : Int32) f := A_b37.keep K61 (ninS ne_b37_b56 nin0)
  have E_b41 : Exa Z T61.heap b41 "[D" := E_b41.keep K61
  have A_b41 : ArD Z T61.heap b41 (3 : Int32) (fun _ => 0) := A_b41.keep K61 (ninS ne_b41_b56 nin0)
  have E_b44 : Exa Z T61.heap b44 "[D" := E_b44.keep K61
  have E_b47 : Exa Z T61.heap b47 "[D" := E_b47.keep K61
  have A_b47 : ArD Z T61.heap b47 (3 : Int32) (fun _ => 0) := A_b47.keep K61 (ninS ne_b47_b56 nin0)
  have E_b50 : Exa Z T61.heap b50 "[I" := E_b50.keep K61
  have A_b50 : ArI Z T61.heap b50 (3 : Int32) (fun _ => 0) := A_b50.keep K61 (ninS ne_b50_b56 nin0)
  have E_b53 : Exa Z T61.heap b53 "[D" := E_b53.keep K61
  have A_b53 : ArD Z T61.heap b53 (3 : Int32) (fun _ => 0) := A_b53.keep K61 (ninS ne_b53_b56 nin0)
  have E_b56 : Exa Z T61.heap b56 "[I" := E_b56.keep K61
  have A_b44 : ArD Z T61.heap b44 (3 : Int32) (upd (upd (upd (fun _ => 0) (0 : Int32).toNatClampNeg (1 : Int64)) (1 : Int32).toNatClampNeg (1 : Int64)) (2 : Int32).toNatClampNeg (1 : Int64)) := A_b44.keep K61 (ninS ne_b44_b56 nin0)
  have A_b56 : ArI Z T61.heap b56 (3 : Int32) (upd (upd (upd (fun _ => 0) (0 : Int32).toNatClampNeg (-1 : Int32)) (1 : Int32).toNatClampNeg (-1 : Int32)) (2 : Int32).toNatClampNeg (-1 : Int32)) := P61_1
  have N61 := Fr.app N59 N61q
  obtain ⟨T62, X62, e62, st62⟩ := getF X61 hx hZ hown (host := "") (Or.inl (hw _ (List.mem_of_getElem? (i := 52) rfl))) Via.refl rfl F_columns_a1 (g := (mkF m 134 #[.val (.ref a1), .val (.ref a2), .val (.int (0 : Int32))] [(.ref a1), (.int (0 : Int32))])) rfl rfl (hb hby d3_134)
  obtain ⟨T63, X63, e63, st63⟩ := getF X62 hx hZ hown (host := "") (Or.inl (hw _ (List.mem_of_getElem? (i := 70) rfl))) Via.refl e62 F_status_a1 (g := (mkF m 141 #[.val (.ref a1), .val (.ref a2), .val (.int (0 : Int32))] [(.ref a1)])) rfl rfl (hb hby d3_141)
  obtain ⟨cl64, Ar64, hs64, hin64, hat64⟩ := ArD.open (j := (0 : Int32)) A_a2 (by decide)
  have pre65 : ∀ t, Steps p.tables e below (T63.setTop (mkF m 150 #[.val (.ref a1), .val (.ref a2), .val (.int (0 : Int32))] [(.int (lcmpW (f (0 : Int32).toNatClampNeg) (0 : Int64))), (.int (0 : Int32)), (.ref b50)])) t → Steps p.tables e below (s₁.setTop (entryFrame m #[(.ref a1), (.ref a2)] 3)) t := fun t k => pre0 t (by
    show Steps p.tables e below (s₁.setTop (mkF m 0 #[.val (.ref a1), .val (.ref a2), .unset] [])) _
    refine XS.aloadN X0.here hx rfl (hb hby d3_0) rfl rfl ?_
    show Steps p.tables e below (s₁.setTop (mkF m 1 #[.val (.ref a1), .val (.ref a2), .unset] [(.ref a1)])) _
    refine st24 _ ?_
    show Steps p.tables e below (T24.setTop (mkF m 4 #[.val (.ref a1), .val (.ref a2), .unset] [])) _
    refine XS.aloadN X24.here hx rfl (hb hby d3_4) rfl rfl ?_
    show Steps p.tables e below (T24.setTop (mkF m 5 #[.val (.ref a1), .val (.ref a2), .unset] [(.ref a1)])) _
    refine st25 _ ?_
    show Steps p.tables e below (T25.setTop (mkF m 8 #[.val (.ref a1), .val (.ref a2), .unset] [(.ref b25), (.ref a1)])) _
    refine XS.dup X25.here hx rfl (hb hby d3_8) rfl rfl ?_
    show Steps p.tables e below (T25.setTop (mkF m 9 #[.val (.ref a1), .val (.ref a2), .unset] [(.ref b25), (.ref b25), (.ref a1)])) _
    refine st26.trans ?_
    show Steps p.tables e below (T26.setTop (mkF m 12 #[.val (.ref a1), .val (.ref a2), .unset] [(.ref b25), (.ref a1)])) _
    refine st27 _ ?_
    show Steps p.tables e below (T27.setTop (mkF m 15 #[.val (.ref a1), .val (.ref a2), .unset] [])) _
    refine XS.aloadN X27.here hx rfl (hb hby d3_15) rfl rfl ?_
    show Steps p.tables e below (T27.setTop (mkF m 16 #[.val (.ref a1), .val (.ref a2), .unset] [(.ref a1)])) _
    refine XS.iconst X27.here hx rfl (hb hby d3_16) ?_
    show Steps p.tables e below (T27.setTop (mkF m 17 #[.val (.ref a1), .val (.ref a2), .unset] [(.int (0 : Int32)), (.ref a1)])) _
    refine st28 _ ?_
    show Steps p.tables e below (T28.setTop (mkF m 19 #[.val (.ref a1), .val (.ref a2), .unset] [(.ref b28), (.ref a1)])) _
    refine st29 _ ?_
    show Steps p.tables e below (T29.setTop (mkF m 22 #[.val (.ref a1), .val (.ref a2), .unset] [])) _
    refine XS.aloadN X29.here hx rfl (hb hby d3_22) rfl rfl ?_
    show Steps p.tables e below (T29.setTop (mkF m 23 #[.val (.ref a1), .val (.ref a2), .unset] [(.ref a1)])) _
    refine XS.iconst X29.here hx rfl (hb hby d3_23) ?_
    show Steps p.tables e below (T29.setTop (mkF m 24 #[.val (.ref a1), .val (.ref a2), .unset] [(.int (0 : Int32)), (.ref a1)])) _
    refine st30 _ ?_
    show Steps p.tables e below (T30.setTop (mkF m 26 #[.val (.ref a1), .val (.ref a2), .unset] [(.ref b30), (.ref a1)])) _
    refine st31 _ ?_
    show Steps p.tables e below (T31.setTop (mkF m 29 #[.val (.ref a1), .val (.ref a2), .unset] [])) _
    refine XS.aloadN X31.here hx rfl (hb hby d3_29) rfl rfl ?_
    show Steps p.tables e below (T31.setTop (mkF m 30 #[.val (.ref a1), .val (.ref a2), .unset] [(.ref a1)])) _
    refine XS.iconst X31.here hx rfl (hb hby d3_30) ?_
    show Steps p.tables e below (T31.setTop (mkF m 31 #[.val (.ref a1), .val (.ref a2), .unset] [(.int (0 : Int32)), (.ref a1)])) _
    refine st32 _ ?_
    show Steps p.tables e below (T32.setTop (mkF m 34 #[.val (.ref a1), .val (.ref a2), .unset] [(.ref b32), (.ref a1)])) _
    refine st33 _ ?_
    show Steps p.tables e below (T33.setTop (mkF m 37 #[.val (.ref a1), .val (.ref a2), .unset] [])) _
    refine XS.aloadN X33.here hx rfl (hb hby d3_37) rfl rfl ?_
    show Steps p.tables e below (T33.setTop (mkF m 38 #[.val (.ref a1), .val (.ref a2), .unset] [(.ref a1)])) _
    refine XS.aloadN X33.here hx rfl (hb hby d3_38) rfl rfl ?_
    show Steps p.tables e below (T33.setTop (mkF m 39 #[.val (.ref a1), .val (.ref a2), .unset] [(.ref a2), (.ref a1)])) _
    refine X33.arraylength hx (by rw [e33]; exact Ar34.1) (State.isArrayOf_alike hZ.alike Ar34.2.1) (g := (mkF m 39 #[.val (.ref a1), .val (.ref a2), .unset] [(.ref a2), (.ref a1)])) rfl rfl (hb hby d3_39) _ ?_
    rw [hl34]
    show Steps p.tables e below (T33.setTop (mkF m 40 #[.val (.ref a1), .val (.ref a2), .unset] [(.int (3 : Int32)), (.ref a1)])) _
    refine st35 _ ?_
    show Steps p.tables e below (T35.setTop (mkF m 43 #[.val (.ref a1), .val (.ref a2), .unset] [])) _
    refine XS.aloadN X35.here hx rfl (hb hby d3_43) rfl rfl ?_
    show Steps p.tables e below (T35.setTop (mkF m 44 #[.val (.ref a1), .val (.ref a2), .unset] [(.ref a1)])) _
    refine XS.aloadN X35.here hx rfl (hb hby d3_44) rfl rfl ?_
    show Steps p.tables e below (T35.setTop (mkF m 45 #[.val (.ref a1), .val (.ref a2), .unset] [(.ref a2), (.ref a1)])) _
    refine st37 _ ?_
    show Steps p.tables e below (T37.setTop (mkF m 48 #[.val (.ref a1), .val (.ref a2), .unset] [(.ref b37), (.ref a1)])) _
    refine st38 _ ?_
    show Steps p.tables e below (T38.setTop (mkF m 51 #[.val (.ref a1), .val (.ref a2), .unset] [(.ref b37), (.ref a1)])) _
    refine st39 _ ?_
    show Steps p.tables e below (T39.setTop (mkF m 54 #[.val (.ref a1), .val (.ref a2), .unset] [])) _
    refine XS.aloadN X39.here hx rfl (hb hby d3_54) rfl rfl ?_
    show Steps p.tables e below (T39.setTop (mkF m 55 #[.val (.ref a1), .val (.ref a2), .unset] [(.ref a1)])) _
    refine XS.aloadN X39.here hx rfl (hb hby d3_55) rfl rfl ?_
    show Steps p.tables e below (T39.setTop (mkF m 56 #[.val (.ref a1), .val (.ref a2), .unset] [(.ref a1), (.ref a1)])) _
    refine st40 _ ?_
    show Steps p.tables e below (T40.setTop (mkF m 59 #[.val (.ref a1), .val (.ref a2), .unset] [(.int (3 : Int32)), (.ref a1)])) _
    refine st41 _ ?_
    show Steps p.tables e below (T41.setTop (mkF m 61 #[.val (.ref a1), .val (.ref a2), .unset] [(.ref b41), (.ref a1)])) _
    refine st42 _ ?_
    show Steps p.tables e below (T42.setTop (mkF m 64 #[.val (.ref a1), .val (.ref a2), .unset] [])) _
    refine XS.aloadN X42.here hx rfl (hb hby d3_64) rfl rfl ?_
    show Steps p.tables e below (T42.setTop (mkF m 65 #[.val (.ref a1), .val (.ref a2), .unset] [(.ref a1)])) _
    refine XS.aloadN X42.here hx rfl (hb hby d3_65) rfl rfl ?_
    show Steps p.tables e below (T42.setTop (mkF m 66 #[.val (.ref a1), .val (.ref a2), .unset] [(.ref a1), (.ref a1)])) _
    refine st43 _ ?_
    show Steps p.tables e below (T43.setTop (mkF m 69 #[.val (.ref a1), .val (.ref a2), .unset] [(.int (3 : Int32)), (.ref a1)])) _
    refine st44 _ ?_
    show Steps p.tables e below (T44.setTop (mkF m 71 #[.val (.ref a1), .val (.ref a2), .unset] [(.ref b44), (.ref a1)])) _
    refine st45 _ ?_
    show Steps p.tables e below (T45.setTop (mkF m 74 #[.val (.ref a1), .val (.ref a2), .unset] [])) _
    refine XS.aloadN X45.here hx rfl (hb hby d3_74) rfl rfl ?_
    show Steps p.tables e below (T45.setTop (mkF m 75 #[.val (.ref a1), .val (.ref a2), .unset] [(.ref a1)])) _
    refine XS.aloadN X45.here hx rfl (hb hby d3_75) rfl rfl ?_
    show Steps p.tables e below (T45.setTop (mkF m 76 #[.val (.ref a1), .val (.ref a2), .unset] [(.ref a1), (.ref a1)])) _
    refine st46 _ ?_
    show Steps p.tables e below (T46.setTop (mkF m 79 #[.val (.ref a1), .val (.ref a2), .unset] [(.int (3 : Int32)), (.ref a1)])) _
    refine st47 _ ?_
    show Steps p.tables e below (T47.setTop (mkF m 81 #[.val (.ref a1), .val (.ref a2), .unset] [(.ref b47), (.ref a1)])) _
    refine st48 _ ?_
    show Steps p.tables e below (T48.setTop (mkF m 84 #[.val (.ref a1), .val (.ref a2), .unset] [])) _
    refine XS.aloadN X48.here hx rfl (hb hby d3_84) rfl rfl ?_
    show Steps p.tables e below (T48.setTop (mkF m 85 #[.val (.ref a1), .val (.ref a2), .unset] [(.ref a1)])) _
    refine XS.aloadN X48.here hx rfl (hb hby d3_85) rfl rfl ?_
    show Steps p.tables e below (T48.setTop (mkF m 86 #[.val (.ref a1), .val (.ref a2), .unset] [(.ref a1), (.ref a1)])) _
    refine st49 _ ?_
    show Steps p.tables e below (T49.setTop (mkF m 89 #[.val (.ref a1), .val (.ref a2), .unset] [(.int (3 : Int32)), (.ref a1)])) _
    refine st50 _ ?_
    show Steps p.tables e below (T50.setTop (mkF m 91 #[.val (.ref a1), .val (.ref a2), .unset] [(.ref b50), (.ref a1)])) _
    refine st51 _ ?_
    show Steps p.tables e below (T51.setTop (mkF m 94 #[.val (.ref a1), .val (.ref a2), .unset] [])) _
    refine XS.aloadN X51.here hx rfl (hb hby d3_94) rfl rfl ?_
    show Steps p.tables e below (T51.setTop (mkF m 95 #[.val (.ref a1), .val (.ref a2), .unset] [(.ref a1)])) _
    refine XS.aloadN X51.here hx rfl (hb hby d3_95) rfl rfl ?_
    show Steps p.tables e below (T51.setTop (mkF m 96 #[.val (.ref a1), .val (.ref a2), .unset] [(.ref a1), (.ref a1)])) _
    refine st52 _ ?_
    show Steps p.tables e below (T52.setTop (mkF m 99 #[.val (.ref a1), .val (.ref a2), .unset] [(.int (3 : Int32)), (.ref a1)])) _
    refine st53 _ ?_
    show Steps p.tables e below (T53.setTop (mkF m 101 #[.val (.ref a1), .val (.ref a2), .unset] [(.ref b53), (.ref a1)])) _
    refine st54 _ ?_
    show Steps p.tables e below (T54.setTop (mkF m 104 #[.val (.ref a1), .val (.ref a2), .unset] [])) _
    refine XS.aloadN X54.here hx rfl (hb hby d3_104) rfl rfl ?_
    show Steps p.tables e below (T54.setTop (mkF m 105 #[.val (.ref a1), .val (.ref a2), .unset] [(.ref a1)])) _
    refine XS.aloadN X54.here hx rfl (hb hby d3_105) rfl rfl ?_
    show Steps p.tables e below (T54.setTop (mkF m 106 #[.val (.ref a1), .val (.ref a2), .unset] [(.ref a1), (.ref a1)])) _
    refine st55 _ ?_
    show Steps p.tables e below (T55.setTop (mkF m 109 #[.val (.ref a1), .val (.ref a2), .unset] [(.int (3 : Int32)), (.ref a1)])) _
    refine st56 _ ?_
    show Steps p.tables e below (T56.setTop (mkF m 111 #[.val (.ref a1), .val (.ref a2), .unset] [(.ref b56), (.ref a1)])) _
    refine st57 _ ?_
    show Steps p.tables e below (T57.setTop (mkF m 114 #[.val (.ref a1), .val (.ref a2), .unset] [])) _
    refine XS.aloadN X57.here hx rfl (hb hby d3_114) rfl rfl ?_
    show Steps p.tables e below (T57.setTop (mkF m 115 #[.val (.ref a1), .val (.ref a2), .unset] [(.ref a1)])) _
    refine st58 _ ?_
    show Steps p.tables e below (T58.setTop (mkF m 118 #[.val (.ref a1), .val (.ref a2), .unset] [(.ref b44)])) _
    refine XS.dconst1 X58.here hx rfl (hb hby d3_118) own_dc1 ?_
    show Steps p.tables e below (T58.setTop (mkF m 119 #[.val (.ref a1), .val (.ref a2), .unset] [(.double (FP.l2d (1 : Int64))), (.ref b44)])) _
    refine st59 _ ?_
    show Steps p.tables e below (T59.setTop (mkF m 122 #[.val (.ref a1), .val (.ref a2), .unset] [])) _
    refine XS.aloadN X59.here hx rfl (hb hby d3_122) rfl rfl ?_
    show Steps p.tables e below (T59.setTop (mkF m 123 #[.val (.ref a1), .val (.ref a2), .unset] [(.ref a1)])) _
    refine st60 _ ?_
    show Steps p.tables e below (T60.setTop (mkF m 126 #[.val (.ref a1), .val (.ref a2), .unset] [(.ref b56)])) _
    refine XS.iconst X60.here hx rfl (hb hby d3_126) ?_
    show Steps p.tables e below (T60.setTop (mkF m 127 #[.val (.ref a1), .val (.ref a2), .unset] [(.int (-1 : Int32)), (.ref b56)])) _
    refine st61 _ ?_
    show Steps p.tables e below (T61.setTop (mkF m 130 #[.val (.ref a1), .val (.ref a2), .unset] [])) _
    refine XS.iconst X61.here hx rfl (hb hby d3_130) ?_
    show Steps p.tables e below (T61.setTop (mkF m 131 #[.val (.ref a1), .val (.ref a2), .unset] [(.int (0 : Int32))])) _
    refine XS.istoreN X61.here hx rfl (hb hby d3_131) rfl (l' := #[.val (.ref a1), .val (.ref a2), .val (.int (0 : Int32))]) rfl ?_
    show Steps p.tables e below (T61.setTop (mkF m 132 #[.val (.ref a1), .val (.ref a2), .val (.int (0 : Int32))] [])) _
    refine XS.iloadN X61.here hx rfl (hb hby d3_132) rfl ?_
    show Steps p.tables e below (T61.setTop (mkF m 133 #[.val (.ref a1), .val (.ref a2), .val (.int (0 : Int32))] [(.int (0 : Int32))])) _
    refine XS.aloadN X61.here hx rfl (hb hby d3_133) rfl rfl ?_
    show Steps p.tables e below (T61.setTop (mkF m 134 #[.val (.ref a1), .val (.ref a2), .val (.int (0 : Int32))] [(.ref a1), (.int (0 : Int32))])) _
    refine st62 _ ?_
    show Steps p.tables e below (T62.setTop (mkF m 137 #[.val (.ref a1), .val (.ref a2), .val (.int (0 : Int32))] [(.int (3 : Int32)), (.int (0 : Int32))])) _
    refine XS.icmpNo X62.here hx rfl (hb hby d3_137) rfl (tlt (by decide)).2.1 ?_
    show Steps p.tables e below (T62.setTop (mkF m 140 #[.val (.ref a1), .val (.ref a2), .val (.int (0 : Int32))] [])) _
    refine XS.aloadN X62.here hx rfl (hb hby d3_140) rfl rfl ?_
    show Steps p.tables e below (T62.setTop (mkF m 141 #[.val (.ref a1), .val (.ref a2), .val (.int (0 : Int32))] [(.ref a1)])) _
    refine st63 _ ?_
    show Steps p.tables e below (T63.setTop (mkF m 144 #[.val (.ref a1), .val (.ref a2), .val (.int (0 : Int32))] [(.ref b50)])) _
    refine XS.iloadN X63.here hx rfl (hb hby d3_144) rfl ?_
    show Steps p.tables e below (T63.setTop (mkF m 145 #[.val (.ref a1), .val (.ref a2), .val (.int (0 : Int32))] [(.int (0 : Int32)), (.ref b50)])) _
    refine XS.aloadN X63.here hx rfl (hb hby d3_145) rfl rfl ?_
    show Steps p.tables e below (T63.setTop (mkF m 146 #[.val (.ref a1), .val (.ref a2), .val (.int (0 : Int32))] [(.ref a2), (.int (0 : Int32)), (.ref b50)])) _
    refine XS.iloadN X63.here hx rfl (hb hby d3_146) rfl ?_
    show Steps p.tables e below (T63.setTop (mkF m 147 #[.val (.ref a1), .val (.ref a2), .val (.int (0 : Int32))] [(.int (0 : Int32)), (.ref a2), (.int (0 : Int32)), (.ref b50)])) _
    refine X63.daload hx (j := (0 : Int32)) (v := (.double (FP.l2d (f (0 : Int32).toNatClampNeg)))) (by rw [e63]; exact Ar64.1) (State.isArrayOf_alike hZ.alike Ar64.2.1) Ar64.2.2 hin64 hat64 (g := (mkF m 147 #[.val (.ref a1), .val (.ref a2), .val (.int (0 : Int32))] [(.int (0 : Int32)), (.ref a2), (.int (0 : Int32)), (.ref b50)])) rfl rfl (hb hby d3_147) _ ?_
    show Steps p.tables e below (T63.setTop (mkF m 148 #[.val (.ref a1), .val (.ref a2), .val (.int (0 : Int32))] [(.double (FP.l2d (f (0 : Int32).toNatClampNeg))), (.int (0 : Int32)), (.ref b50)])) _
    refine XS.dconst0 X63.here hx rfl (hb hby d3_148) own_dc0 ?_
    show Steps p.tables e below (T63.setTop (mkF m 149 #[.val (.ref a1), .val (.ref a2), .val (.int (0 : Int32))] [(.double (FP.l2d (0 : Int64))), (.double (FP.l2d (f (0 : Int32).toNatClampNeg))), (.int (0 : Int32)), (.ref b50)])) _
    refine XS.dcmpS X63.here hx rfl (hb hby d3_149) rfl (dcmpV_w (own_b (hS _)) own_b0 .l) ?_
    exact k)
  obtain ⟨z158_s0, hz158_s0⟩ : ∃ z : Int32, z = (if (0 : Int64) < (f (0 : Int32).toNatClampNeg) then (2 : Int32) else (1 : Int32)) := ⟨_, rfl⟩
  obtain ⟨T68, Lc68, X68, e68, N68, pre68⟩ : ∃ (T' : State) (locs' : List Loc), Stand p l e ({ frames := 4, cells := 11, slots := 24, locals := 50 } : Room) s m #[(.ref a1), (.ref a2)] below meth c T' locs' 11 24 ∧ T'.heap = T61.heap ∧ Fr n0 locs' ∧ ∀ t, Steps p.tables e below (T'.setTop (mkF m 158 #[.val (.ref a1), .val (.ref a2), .val (.int (0 : Int32))] [(.int z158_s0), (.int (0 : Int32)), (.ref b50)])) t → Steps p.tables e below (s₁.setTop (entryFrame m #[(.ref a1), (.ref a2)] 3)) t := by
    by_cases hc150 : (0 : Int64) < (f (0 : Int32).toNatClampNeg)
    ·
      have pre66 : ∀ t, Steps p.tables e below (T63.setTop (mkF m 158 #[.val (.ref a1), .val (.ref a2), .val (.int (0 : Int32))] [(.int (2 : Int32)), (.int (0 : Int32)), (.ref b50)])) t → Steps p.tables e below (s₁.setTop (entryFrame m #[(.ref a1), (.ref a2)] 3)) t := fun t k => pre65 t (by
        show Steps p.tables e below (T63.setTop (mkF m 150 #[.val (.ref a1), .val (.ref a2), .val (.int (0 : Int32))] [(.int (lcmpW (f (0 : Int32).toNatClampNeg) (0 : Int64))), (.int (0 : Int32)), (.ref b50)])) _
        refine XS.ifNo X63.here hx rfl (hb hby d3_150) rfl ((if0 _ _).trans (tlt ((lw_gt (f (0 : Int32).toNatClampNeg) (0 : Int64)).mpr hc150)).2.2.2) ?_
        show Steps p.tables e below (T63.setTop (mkF m 153 #[.val (.ref a1), .val (.ref a2), .val (.int (0 : Int32))] [(.int (0 : Int32)), (.ref b50)])) _
        refine XS.iconst X63.here hx rfl (hb hby d3_153) ?_
        show Steps p.tables e below (T63.setTop (mkF m 154 #[.val (.ref a1), .val (.ref a2), .val (.int (0 : Int32))] [(.int (2 : Int32)), (.int (0 : Int32)), (.ref b50)])) _
        refine XS.goto X63.here hx rfl (pc0 := 154) (pc' := 158) rfl (hb hby d3_154) (by decide) (by decide) ?_
        exact k)
      have q_z158_s0 : z158_s0 = (2 : Int32) := by rw [hz158_s0, if_pos hc150]
      refine ⟨_, _, X63, e63, N61, fun t k => ?_⟩
      rw [q_z158_s0] at k
      exact pre66 t k
    ·
      have pre67 : ∀ t, Steps p.tables e below (T63.setTop (mkF m 158 #[.val (.ref a1), .val (.ref a2), .val (.int (0 : Int32))] [(.int (1 : Int32)), (.int (0 : Int32)), (.ref b50)])) t → Steps p.tables e below (s₁.setTop (entryFrame m #[(.ref a1), (.ref a2)] 3)) t := fun t k => pre65 t (by
        show Steps p.tables e below (T63.setTop (mkF m 150 #[.val (.ref a1), .val (.ref a2), .val (.int (0 : Int32))] [(.int (lcmpW (f (0 : Int32).toNatClampNeg) (0 : Int64))), (.int (0 : Int32)), (.ref b50)])) _
        refine XS.ifYes X63.here hx rfl (pc0 := 150) (pc' := 157) rfl (hb hby d3_150) rfl ((if0 _ _).trans (flt (fun q => hc150 ((lw_gt (f (0 : Int32).toNatClampNeg) (0 : Int64)).mp q))).2.2.2) (by decide) (by decide) ?_
        show Steps p.tables e below (T63.setTop (mkF m 157 #[.val (.ref a1), .val (.ref a2), .val (.int (0 : Int32))] [(.int (0 : Int32)), (.ref b50)])) _
        refine XS.iconst X63.here hx rfl (hb hby d3_157) ?_
        exact k)
      have q_z158_s0 : z158_s0 = (1 : Int32) := by rw [hz158_s0, if_neg hc150]
      refine ⟨_, _, X63, e63, N61, fun t k => ?_⟩
      rw [q_z158_s0] at k
      exact pre67 t k
  obtain ⟨cl69, Ar69, hs69, hin69, hat69⟩ := ArI.open (j := (0 : Int32)) A_b50 (by decide)
  obtain ⟨T70, h70, X70, e70, W70, st70⟩ := stI X68 hx hZ e68 Ar69 (j := (0 : Int32)) hin69 (g := (mkF m 158 #[.val (.ref a1), .val (.ref a2), .val (.int (0 : Int32))] [(.int z158_s0), (.int (0 : Int32)), (.ref b50)])) rfl rfl (hb hby d3_158)
  have N70 := Fr.snoc X70 N68 g_b50
  have Zs : n0 ≤ h70.size := Nat.le_trans Zs (Keep.of_wr W70).1
  have E_a1 : Exa Z h70 a1 "com/example/regolo/regolo/engine/Relaxation" := E_a1.wr W70
  have F_rows_a1 : Fld Z h70 a1 "com/example/regolo/regolo/engine/Relaxation" "rows" "Ljava/util/List;" (.ref b25) := F_rows_a1.other W70 (Or.inl ne_a1_b50)
  have F_cost_a1 : Fld Z h70 a1 "com/example/regolo/regolo/engine/Relaxation" "cost" "[D" (.ref b37) := F_cost_a1.other W70 (Or.inl ne_a1_b50)
  have F_lower_a1 : Fld Z h70 a1 "com/example/regolo/regolo/engine/Relaxation" "lower" "[D" (.ref b41) := F_lower_a1.other W70 (Or.inl ne_a1_b50)
  have F_upper_a1 : Fld Z h70 a1 "com/example/regolo/regolo/engine/Relaxation" "upper" "[D" (.ref b44) := F_upper_a1.other W70 (Or.inl ne_a1_b50)
  have F_value_a1 : Fld Z h70 a1 "com/example/regolo/regolo/engine/Relaxation" "value" "[D" (.ref b47) := F_value_a1.other W70 (Or.inl ne_a1_b50)
  have F_status_a1 : Fld Z h70 a1 "com/example/regolo/regolo/engine/Relaxation" "status" "[I" (.ref b50) := F_status_a1.other W70 (Or.inl ne_a1_b50)
  have F_reduced_a1 : Fld Z h70 a1 "com/example/regolo/regolo/engine/Relaxation" "reduced" "[D" (.ref b53) := F_reduced_a1.other W70 (Or.inl ne_a1_b50)
  have F_columns_a1 : Fld Z h70 a1 "com/example/regolo/regolo/engine/Relaxation" "columns" "I" (.int (3 : Int32)) := F_columns_a1.other W70 (Or.inl ne_a1_b50)
  have A_a2 : ArD Z h70 a2 (3 : Int32) f := A_a2.other W70 ne_a2_b50
  have E_a2 : Exa Z h70 a2 "[D" := E_a2.wr W70
  have Ol : Old Z n0 h70 := Ol.wr W70 g_b50
  have Kp : Keep h0 h70 [a1] := Kp.wr W70 (Or.inr sz_b50)
  have E_b25 : Exa Z h70 b25 "java/util/ArrayList" := E_b25.wr W70
  have F_elementData_b25 : Fld Z h70 b25 "java/util/ArrayList" "elementData" "[Ljava/lang/Object;" (.ref dd) := F_elementData_b25.other W70 (Or.inl ne_b25_b50)
  have F_size_b25 : Fld Z h70 b25 "java/util/ArrayList" "size" "I" (.int (0 : Int32)) := F_size_b25.other W70 (Or.inl ne_b25_b50)
  have F_modCount_b25 : Fld Z h70 b25 "java/util/AbstractList" "modCount" "I" (.int (0 : Int32)) := F_modCount_b25.other W70 (Or.inl ne_b25_b50)
  have E_b37 : Exa Z h70 b37 "[D" := E_b37.wr W70
  have A_b37 : ArD Z h70 b37 (3 : Int32) f := A_b37.other W70 ne_b37_b50
  have E_b41 : Exa Z h70 b41 "[D" := E_b41.wr W70
  have A_b41 : ArD Z h70 b41 (3 : Int32) (fun _ => 0) := A_b41.other W70 ne_b41_b50
  have E_b44 : Exa Z h70 b44 "[D" := E_b44.wr W70
  have E_b47 : Exa Z h70 b47 "[D" := E_b47.wr W70
  have A_b47 : ArD Z h70 b47 (3 : Int32) (fun _ => 0) := A_b47.other W70 ne_b47_b50
  have E_b50 : Exa Z h70 b50 "[I" := E_b50.wr W70
  have E_b53 : Exa Z h70 b53 "[D" := E_b53.wr W70
  have A_b53 : ArD Z h70 b53 (3 : Int32) (fun _ => 0) := A_b53.other W70 (Ne.symm ne_b50_b53)
  have A_b44 : ArD Z h70 b44 (3 : Int32) (upd (upd (upd (fun _ => 0) (0 : Int32).toNatClampNeg (1 : Int64)) (1 : Int32).toNatClampNeg (1 : Int64)) (2 : Int32).toNatClampNeg (1 : Int64)) := A_b44.other W70 ne_b44_b50
  have A_b50 : ArI Z h70 b50 (3 : Int32) (upd (fun _ => 0) (0 : Int32).toNatClampNeg z158_s0) := ArI.set A_b50 W70
  obtain ⟨T71, X71, e71, st71⟩ := getF X70 hx hZ hown (host := "") (Or.inl (hw _ (List.mem_of_getElem? (i := 68) rfl))) Via.refl e70 F_value_a1 (g := (mkF m 160 #[.val (.ref a1), .val (.ref a2), .val (.int (0 : Int32))] [(.ref a1)])) rfl rfl (hb hby d3_160)
  obtain ⟨cl72, Ar72, hs72, hin72, hat72⟩ := ArD.open (j := (0 : Int32)) A_a2 (by decide)
  have pre73 : ∀ t, Steps p.tables e below (T71.setTop (mkF m 169 #[.val (.ref a1), .val (.ref a2), .val (.int (0 : Int32))] [(.int (lcmpW (f (0 : Int32).toNatClampNeg) (0 : Int64))), (.int (0 : Int32)), (.ref b47)])) t → Steps p.tables e below (s₁.setTop (entryFrame m #[(.ref a1), (.ref a2)] 3)) t := fun t k => pre68 t (by
    show Steps p.tables e below (T68.setTop (mkF m 158 #[.val (.ref a1), .val (.ref a2), .val (.int (0 : Int32))] [(.int z158_s0), (.int (0 : Int32)), (.ref b50)])) _
    refine st70 _ ?_
    show Steps p.tables e below (T70.setTop (mkF m 159 #[.val (.ref a1), .val (.ref a2), .val (.int (0 : Int32))] [])) _
    refine XS.aloadN X70.here hx rfl (hb hby d3_159) rfl rfl ?_
    show Steps p.tables e below (T70.setTop (mkF m 160 #[.val (.ref a1), .val (.ref a2), .val (.int (0 : Int32))] [(.ref a1)])) _
    refine st71 _ ?_
    show Steps p.tables e below (T71.setTop (mkF m 163 #[.val (.ref a1), .val (.ref a2), .val (.int (0 : Int32))] [(.ref b47)])) _
    refine XS.iloadN X71.here hx rfl (hb hby d3_163) rfl ?_
    show Steps p.tables e below (T71.setTop (mkF m 164 #[.val (.ref a1), .val (.ref a2), .val (.int (0 : Int32))] [(.int (0 : Int32)), (.ref b47)])) _
    refine XS.aloadN X71.here hx rfl (hb hby d3_164) rfl rfl ?_
    show Steps p.tables e below (T71.setTop (mkF m 165 #[.val (.ref a1), .val (.ref a2), .val (.int (0 : Int32))] [(.ref a2), (.int (0 : Int32)), (.ref b47)])) _
    refine XS.iloadN X71.here hx rfl (hb hby d3_165) rfl ?_
    show Steps p.tables e below (T71.setTop (mkF m 166 #[.val (.ref a1), .val (.ref a2), .val (.int (0 : Int32))] [(.int (0 : Int32)), (.ref a2), (.int (0 : Int32)), (.ref b47)])) _
    refine X71.daload hx (j := (0 : Int32)) (v := (.double (FP.l2d (f (0 : Int32).toNatClampNeg)))) (by rw [e71]; exact Ar72.1) (State.isArrayOf_alike hZ.alike Ar72.2.1) Ar72.2.2 hin72 hat72 (g := (mkF m 166 #[.val (.ref a1), .val (.ref a2), .val (.int (0 : Int32))] [(.int (0 : Int32)), (.ref a2), (.int (0 : Int32)), (.ref b47)])) rfl rfl (hb hby d3_166) _ ?_
    show Steps p.tables e below (T71.setTop (mkF m 167 #[.val (.ref a1), .val (.ref a2), .val (.int (0 : Int32))] [(.double (FP.l2d (f (0 : Int32).toNatClampNeg))), (.int (0 : Int32)), (.ref b47)])) _
    refine XS.dconst0 X71.here hx rfl (hb hby d3_167) own_dc0 ?_
    show Steps p.tables e below (T71.setTop (mkF m 168 #[.val (.ref a1), .val (.ref a2), .val (.int (0 : Int32))] [(.double (FP.l2d (0 : Int64))), (.double (FP.l2d (f (0 : Int32).toNatClampNeg))), (.int (0 : Int32)), (.ref b47)])) _
    refine XS.dcmpS X71.here hx rfl (hb hby d3_168) rfl (dcmpV_w (own_b (hS _)) own_b0 .l) ?_
    exact k)
  obtain ⟨z177_s0, hz177_s0⟩ : ∃ z : Int64, z = (if (0 : Int64) < (f (0 : Int32).toNatClampNeg) then (1 : Int64) else (0 : Int64)) := ⟨_, rfl⟩
  obtain ⟨T76, Lc76, X76, e76, N76, pre76⟩ : ∃ (T' : State) (locs' : List Loc), Stand p l e ({ frames := 4, cells := 11, slots := 24, locals := 50 } : Room) s m #[(.ref a1), (.ref a2)] below meth c T' locs' 11 24 ∧ T'.heap = h70 ∧ Fr n0 locs' ∧ ∀ t, Steps p.tables e below (T'.setTop (mkF m 177 #[.val (.ref a1), .val (.ref a2), .val (.int (0 : Int32))] [(.double (FP.l2d z177_s0)), (.int (0 : Int32)), (.ref b47)])) t → Steps p.tables e below (s₁.setTop (entryFrame m #[(.ref a1), (.ref a2)] 3)) t := by
    by_cases hc169 : (0 : Int64) < (f (0 : Int32).toNatClampNeg)
    ·
      have pre74 : ∀ t, Steps p.tables e below (T71.setTop (mkF m 177 #[.val (.ref a1), .val (.ref a2), .val (.int (0 : Int32))] [(.double (FP.l2d (1 : Int64))), (.int (0 : Int32)), (.ref b47)])) t → Steps p.tables e below (s₁.setTop (entryFrame m #[(.ref a1), (.ref a2)] 3)) t := fun t k => pre73 t (by
        show Steps p.tables e below (T71.setTop (mkF m 169 #[.val (.ref a1), .val (.ref a2), .val (.int (0 : Int32))] [(.int (lcmpW (f (0 : Int32).toNatClampNeg) (0 : Int64))), (.int (0 : Int32)), (.ref b47)])) _
        refine XS.ifNo X71.here hx rfl (hb hby d3_169) rfl ((if0 _ _).trans (tlt ((lw_gt (f (0 : Int32).toNatClampNeg) (0 : Int64)).mpr hc169)).2.2.2) ?_
        show Steps p.tables e below (T71.setTop (mkF m 172 #[.val (.ref a1), .val (.ref a2), .val (.int (0 : Int32))] [(.int (0 : Int32)), (.ref b47)])) _
        refine XS.dconst1 X71.here hx rfl (hb hby d3_172) own_dc1 ?_
        show Steps p.tables e below (T71.setTop (mkF m 173 #[.val (.ref a1), .val (.ref a2), .val (.int (0 : Int32))] [(.double (FP.l2d (1 : Int64))), (.int (0 : Int32)), (.ref b47)])) _
        refine XS.goto X71.here hx rfl (pc0 := 173) (pc' := 177) rfl (hb hby d3_173) (by decide) (by decide) ?_
        exact k)
      have q_z177_s0 : z177_s0 = (1 : Int64) := by rw [hz177_s0, if_pos hc169]
      refine ⟨_, _, X71, e71, N70, fun t k => ?_⟩
      rw [q_z177_s0] at k
      exact pre74 t k
    ·
      have pre75 : ∀ t, Steps p.tables e below (T71.setTop (mkF m 177 #[.val (.ref a1), .val (.ref a2), .val (.int (0 : Int32))] [(.double (FP.l2d (0 : Int64))), (.int (0 : Int32)), (.ref b47)])) t → Steps p.tables e below (s₁.setTop (entryFrame m #[(.ref a1), (.ref a2)] 3)) t := fun t k => pre73 t (by
        show Steps p.tables e below (T71.setTop (mkF m 169 #[.val (.ref a1), .val (.ref a2), .val (.int (0 : Int32))] [(.int (lcmpW (f (0 : Int32).toNatClampNeg) (0 : Int64))), (.int (0 : Int32)), (.ref b47)])) _
        refine XS.ifYes X71.here hx rfl (pc0 := 169) (pc' := 176) rfl (hb hby d3_169) rfl ((if0 _ _).trans (flt (fun q => hc169 ((lw_gt (f (0 : Int32).toNatClampNeg) (0 : Int64)).mp q))).2.2.2) (by decide) (by decide) ?_
        show Steps p.tables e below (T71.setTop (mkF m 176 #[.val (.ref a1), .val (.ref a2), .val (.int (0 : Int32))] [(.int (0 : Int32)), (.ref b47)])) _
        refine XS.dconst0 X71.here hx rfl (hb hby d3_176) own_dc0 ?_
        exact k)
      have q_z177_s0 : z177_s0 = (0 : Int64) := by rw [hz177_s0, if_neg hc169]
      refine ⟨_, _, X71, e71, N70, fun t k => ?_⟩
      rw [q_z177_s0] at k
      exact pre75 t k
  obtain ⟨cl77, Ar77, hs77, hin77, hat77⟩ := ArD.open (j := (0 : Int32)) A_b47 (by decide)
  obtain ⟨T78, h78, X78, e78, W78, st78⟩ := stD X76 hx hZ e76 Ar77 (j := (0 : Int32)) hin77 (g := (mkF m 177 #[.val (.ref a1), .val (.ref a2), .val (.int (0 : Int32))] [(.double (FP.l2d z177_s0)), (.int (0 : Int32)), (.ref b47)])) rfl rfl (hb hby d3_177)
  have N78 := Fr.snoc X78 N76 g_b47
  have Zs : n0 ≤ h78.size := Nat.le_trans Zs (Keep.of_wr W78).1
  have E_a1 : Exa Z h78 a1 "com/example/regolo/regolo/engine/Relaxation" := E_a1.wr W78
  have F_rows_a1 : Fld Z h78 a1 "com/example/regolo/regolo/engine/Relaxation" "rows" "Ljava/util/List;" (.ref b25) := F_rows_a1.other W78 (Or.inl ne_a1_b47)
  have F_cost_a1 : Fld Z h78 a1 "com/example/regolo/regolo/engine/Relaxation" "cost" "[D" (.ref b37) := F_cost_a1.other W78 (Or.inl ne_a1_b47)
  have F_lower_a1 : Fld Z h78 a1 "com/example/regolo/regolo/engine/Relaxation" "lower" "[D" (.ref b41) := F_lower_a1.other W78 (Or.inl ne_a1_b47)
  have F_upper_a1 : Fld Z h78 a1 "com/example/regolo/regolo/engine/Relaxation" "upper" "[D" (.ref b44) := F_upper_a1.other W78 (Or.inl ne_a1_b47)
  have F_value_a1 : Fld Z h78 a1 "com/example/regolo/regolo/engine/Relaxation" "value" "[D" (.ref b47) := F_value_a1.other W78 (Or.inl ne_a1_b47)
  have F_status_a1 : Fld Z h78 a1 "com/example/regolo/regolo/engine/Relaxation" "status" "[I" (.ref b50) := F_status_a1.other W78 (Or.inl ne_a1_b47)
  have F_reduced_a1 : Fld Z h78 a1 "com/example/regolo/regolo/engine/Relaxation" "reduced" "[D" (.ref b53) := F_reduced_a1.other W78 (Or.inl ne_a1_b47)
  have F_columns_a1 : Fld Z h78 a1 "com/example/regolo/regolo/engine/Relaxation" "columns" "I" (.int (3 : Int32)) := F_columns_a1.other W78 (Or.inl ne_a1_b47)
  have A_a2 : ArD Z h78 a2 (3 : Int32) f := A_a2.other W78 ne_a2_b47
  have E_a2 : Exa Z h78 a2 "[D" := E_a2.wr W78
  have Ol : Old Z n0 h78 := Ol.wr W78 g_b47
  have Kp : Keep h0 h78 [a1] := Kp.wr W78 (Or.inr sz_b47)
  have E_b25 : Exa Z h78 b25 "java/util/ArrayList" := E_b25.wr W78
  have F_elementData_b25 : Fld Z h78 b25 "java/util/ArrayList" "elementData" "[Ljava/lang/Object;" (.ref dd) := F_elementData_b25.other W78 (Or.inl ne_b25_b47)
  have F_size_b25 : Fld Z h78 b25 "java/util/ArrayList" "size" "I" (.int (0 : Int32)) := F_size_b25.other W78 (Or.inl ne_b25_b47)
  have F_modCount_b25 : Fld Z h78 b25 "java/util/AbstractList" "modCount" "I" (.int (0 : Int32)) := F_modCount_b25.other W78 (Or.inl ne_b25_b47)
  have E_b37 : Exa Z h78 b37 "[D" := E_b37.wr W78
  have A_b37 : ArD Z h78 b37 (3 : Int32) f := A_b37.other W78 ne_b37_b47
  have E_b41 : Exa Z h78 b41 "[D" := E_b41.wr W78
  have A_b41 : ArD Z h78 b41 (3 : Int32) (fun _ => 0) := A_b41.other W78 ne_b41_b47
  have E_b44 : Exa Z h78 b44 "[D" := E_b44.wr W78
  have E_b47 : Exa Z h78 b47 "[D" := E_b47.wr W78
  have E_b50 : Exa Z h78 b50 "[I" := E_b50.wr W78
  have A_b50 : ArI Z h78 b50 (3 : Int32) (upd (fun _ => 0) (0 : Int32).toNatClampNeg z158_s0) := A_b50.other W78 (Ne.symm ne_b47_b50)
  have E_b53 : Exa Z h78 b53 "[D" := E_b53.wr W78
  have A_b53 : ArD Z h78 b53 (3 : Int32) (fun _ => 0) := A_b53.other W78 (Ne.symm ne_b47_b53)
  have A_b44 : ArD Z h78 b44 (3 : Int32) (upd (upd (upd (fun _ => 0) (0 : Int32).toNatClampNeg (1 : Int64)) (1 : Int32).toNatClampNeg (1 : Int64)) (2 : Int32).toNatClampNeg (1 : Int64)) := A_b44.other W78 ne_b44_b47
  have A_b47 : ArD Z h78 b47 (3 : Int32) (upd (fun _ => 0) (0 : Int32).toNatClampNeg z177_s0) := ArD.set A_b47 W78
  obtain ⟨T79, X79, e79, st79⟩ := getF X78 hx hZ hown (host := "") (Or.inl (hw _ (List.mem_of_getElem? (i := 72) rfl))) Via.refl e78 F_reduced_a1 (g := (mkF m 179 #[.val (.ref a1), .val (.ref a2), .val (.int (0 : Int32))] [(.ref a1)])) rfl rfl (hb hby d3_179)
  obtain ⟨cl80, Ar80, hs80, hin80, hat80⟩ := ArD.open (j := (0 : Int32)) A_a2 (by decide)
  obtain ⟨cl81, Ar81, hs81, hin81, hat81⟩ := ArD.open (j := (0 : Int32)) A_b53 (by decide)
  obtain ⟨T82, h82, X82, e82, W82, st82⟩ := stD X79 hx hZ e79 Ar81 (j := (0 : Int32)) hin81 (g := (mkF m 186 #[.val (.ref a1), .val (.ref a2), .val (.int (0 : Int32))] [(.double (FP.l2d (f (0 : Int32).toNatClampNeg))), (.int (0 : Int32)), (.ref b53)])) rfl rfl (hb hby d3_186)
  have N82 := Fr.snoc X82 N78 g_b53
  have Zs : n0 ≤ h82.size := Nat.le_trans Zs (Keep.of_wr W82).1
  have E_a1 : Exa Z h82 a1 "com/example/regolo/regolo/engine/Relaxation" := E_a1.wr W82
  have F_rows_a1 : Fld Z h82 a1 "com/example/regolo/regolo/engine/Relaxation" "rows" "Ljava/util/List;" (.ref b25) := F_rows_a1.other W82 (Or.inl ne_a1_b53)
  have F_cost_a1 : Fld Z h82 a1 "com/example/regolo/regolo/engine/Relaxation" "cost" "[D" (.ref b37) := F_cost_a1.other W82 (Or.inl ne_a1_b53)
  have F_lower_a1 : Fld Z h82 a1 "com/example/regolo/regolo/engine/Relaxation" "lower" "[D" (.ref b41) := F_lower_a1.other W82 (Or.inl ne_a1_b53)
  have F_upper_a1 : Fld Z h82 a1 "com/example/regolo/regolo/engine/Relaxation" "upper" "[D" (.ref b44) := F_upper_a1.other W82 (Or.inl ne_a1_b53)
  have F_value_a1 : Fld Z h82 a1 "com/example/regolo/regolo/engine/Relaxation" "value" "[D" (.ref b47) := F_value_a1.other W82 (Or.inl ne_a1_b53)
  have F_status_a1 : Fld Z h82 a1 "com/example/regolo/regolo/engine/Relaxation" "status" "[I" (.ref b50) := F_status_a1.other W82 (Or.inl ne_a1_b53)
  have F_reduced_a1 : Fld Z h82 a1 "com/example/regolo/regolo/engine/Relaxation" "reduced" "[D" (.ref b53) := F_reduced_a1.other W82 (Or.inl ne_a1_b53)
  have F_columns_a1 : Fld Z h82 a1 "com/example/regolo/regolo/engine/Relaxation" "columns" "I" (.int (3 : Int32)) := F_columns_a1.other W82 (Or.inl ne_a1_b53)
  have A_a2 : ArD Z h82 a2 (3 : Int32) f := A_a2.other W82 ne_a2_b53
  have E_a2 : Exa Z h82 a2 "[D" := E_a2.wr W82
  have Ol : Old Z n0 h82 := Ol.wr W82 g_b53
  have Kp : Keep h0 h82 [a1] := Kp.wr W82 (Or.inr sz_b53)
  have E_b25 : Exa Z h82 b25 "java/util/ArrayList" := E_b25.wr W82
  have F_elementData_b25 : Fld Z h82 b25 "java/util/ArrayList" "elementData" "[Ljava/lang/Object;" (.ref dd) := F_elementData_b25.other W82 (Or.inl ne_b25_b53)
  have F_size_b25 : Fld Z h82 b25 "java/util/ArrayList" "size" "I" (.int (0 : Int32)) := F_size_b25.other W82 (Or.inl ne_b25_b53)
  have F_modCount_b25 : Fld Z h82 b25 "java/util/AbstractList" "modCount" "I" (.int (0 : Int32)) := F_modCount_b25.other W82 (Or.inl ne_b25_b53)
  have E_b37 : Exa Z h82 b37 "[D" := E_b37.wr W82
  have A_b37 : ArD Z h82 b37 (3 : Int32) f := A_b37.other W82 ne_b37_b53
  have E_b41 : Exa Z h82 b41 "[D" := E_b41.wr W82
  have A_b41 : ArD Z h82 b41 (3 : Int32) (fun _ => 0) := A_b41.other W82 ne_b41_b53
  have E_b44 : Exa Z h82 b44 "[D" := E_b44.wr W82
  have E_b47 : Exa Z h82 b47 "[D" := E_b47.wr W82
  have A_b47 : ArD Z h82 b47 (3 : Int32) (upd (fun _ => 0) (0 : Int32).toNatClampNeg z177_s0) := A_b47.other W82 ne_b47_b53
  have E_b50 : Exa Z h82 b50 "[I" := E_b50.wr W82
  have A_b50 : ArI Z h82 b50 (3 : Int32) (upd (fun _ => 0) (0 : Int32).toNatClampNeg z158_s0) := A_b50.other W82 ne_b50_b53
  have E_b53 : Exa Z h82 b53 "[D" := E_b53.wr W82
  have A_b44 : ArD Z h82 b44 (3 : Int32) (upd (upd (upd (fun _ => 0) (0 : Int32).toNatClampNeg (1 : Int64)) (1 : Int32).toNatClampNeg (1 : Int64)) (2 : Int32).toNatClampNeg (1 : Int64)) := A_b44.other W82 ne_b44_b53
  have A_b53 : ArD Z h82 b53 (3 : Int32) (upd (fun _ => 0) (0 : Int32).toNatClampNeg (f (0 : Int32).toNatClampNeg)) := ArD.set A_b53 W82
  obtain ⟨T83, X83, e83, st83⟩ := getF X82 hx hZ hown (host := "") (Or.inl (hw _ (List.mem_of_getElem? (i := 52) rfl))) Via.refl e82 F_columns_a1 (g := (mkF m 134 #[.val (.ref a1), .val (.ref a2), .val (.int (1 : Int32))] [(.ref a1), (.int (1 : Int32))])) rfl rfl (hb hby d3_134)
  obtain ⟨T84, X84, e84, st84⟩ := getF X83 hx hZ hown (host := "") (Or.inl (hw _ (List.mem_of_getElem? (i := 70) rfl))) Via.refl e83 F_status_a1 (g := (mkF m 141 #[.val (.ref a1), .val (.ref a2), .val (.int (1 : Int32))] [(.ref a1)])) rfl rfl (hb hby d3_141)
  obtain ⟨cl85, Ar85, hs85, hin85, hat85⟩ := ArD.open (j := (1 : Int32)) A_a2 (by decide)
  have pre86 : ∀ t, Steps p.tables e below (T84.setTop (mkF m 150 #[.val (.ref a1), .val (.ref a2), .val (.int (1 : Int32))] [(.int (lcmpW (f (1 : Int32).toNatClampNeg) (0 : Int64))), (.int (1 : Int32)), (.ref b50)])) t → Steps p.tables e below (s₁.setTop (entryFrame m #[(.ref a1), (.ref a2)] 3)) t := fun t k => pre76 t (by
    show Steps p.tables e below (T76.setTop (mkF m 177 #[.val (.ref a1), .val (.ref a2), .val (.int (0 : Int32))] [(.double (FP.l2d z177_s0)), (.int (0 : Int32)), (.ref b47)])) _
    refine st78 _ ?_
    show Steps p.tables e below (T78.setTop (mkF m 178 #[.val (.ref a1), .val (.ref a2), .val (.int (0 : Int32))] [])) _
    refine XS.aloadN X78.here hx rfl (hb hby d3_178) rfl rfl ?_
    show Steps p.tables e below (T78.setTop (mkF m 179 #[.val (.ref a1), .val (.ref a2), .val (.int (0 : Int32))] [(.ref a1)])) _
    refine st79 _ ?_
    show Steps p.tables e below (T79.setTop (mkF m 182 #[.val (.ref a1), .val (.ref a2), .val (.int (0 : Int32))] [(.ref b53)])) _
    refine XS.iloadN X79.here hx rfl (hb hby d3_182) rfl ?_
    show Steps p.tables e below (T79.setTop (mkF m 183 #[.val (.ref a1), .val (.ref a2), .val (.int (0 : Int32))] [(.int (0 : Int32)), (.ref b53)])) _
    refine XS.aloadN X79.here hx rfl (hb hby d3_183) rfl rfl ?_
    show Steps p.tables e below (T79.setTop (mkF m 184 #[.val (.ref a1), .val (.ref a2), .val (.int (0 : Int32))] [(.ref a2), (.int (0 : Int32)), (.ref b53)])) _
    refine XS.iloadN X79.here hx rfl (hb hby d3_184) rfl ?_
    show Steps p.tables e below (T79.setTop (mkF m 185 #[.val (.ref a1), .val (.ref a2), .val (.int (0 : Int32))] [(.int (0 : Int32)), (.ref a2), (.int (0 : Int32)), (.ref b53)])) _
    refine X79.daload hx (j := (0 : Int32)) (v := (.double (FP.l2d (f (0 : Int32).toNatClampNeg)))) (by rw [e79]; exact Ar80.1) (State.isArrayOf_alike hZ.alike Ar80.2.1) Ar80.2.2 hin80 hat80 (g := (mkF m 185 #[.val (.ref a1), .val (.ref a2), .val (.int (0 : Int32))] [(.int (0 : Int32)), (.ref a2), (.int (0 : Int32)), (.ref b53)])) rfl rfl (hb hby d3_185) _ ?_
    show Steps p.tables e below (T79.setTop (mkF m 186 #[.val (.ref a1), .val (.ref a2), .val (.int (0 : Int32))] [(.double (FP.l2d (f (0 : Int32).toNatClampNeg))), (.int (0 : Int32)), (.ref b53)])) _
    refine st82 _ ?_
    show Steps p.tables e below (T82.setTop (mkF m 187 #[.val (.ref a1), .val (.ref a2), .val (.int (0 : Int32))] [])) _
    refine XS.iinc X82.here hx rfl (hb hby d3_187) rfl (l' := #[.val (.ref a1), .val (.ref a2), .val (.int (1 : Int32))]) rfl ?_
    show Steps p.tables e below (T82.setTop (mkF m 190 #[.val (.ref a1), .val (.ref a2), .val (.int (1 : Int32))] [])) _
    refine XS.goto X82.here hx rfl (pc0 := 190) (pc' := 132) rfl (hb hby d3_190) (by decide) (by decide) ?_
    show Steps p.tables e below (T82.setTop (mkF m 132 #[.val (.ref a1), .val (.ref a2), .val (.int (1 : Int32))] [])) _
    refine XS.iloadN X82.here hx rfl (hb hby d3_132) rfl ?_
    show Steps p.tables e below (T82.setTop (mkF m 133 #[.val (.ref a1), .val (.ref a2), .val (.int (1 : Int32))] [(.int (1 : Int32))])) _
    refine XS.aloadN X82.here hx rfl (hb hby d3_133) rfl rfl ?_
    show Steps p.tables e below (T82.setTop (mkF m 134 #[.val (.ref a1), .val (.ref a2), .val (.int (1 : Int32))] [(.ref a1), (.int (1 : Int32))])) _
    refine st83 _ ?_
    show Steps p.tables e below (T83.setTop (mkF m 137 #[.val (.ref a1), .val (.ref a2), .val (.int (1 : Int32))] [(.int (3 : Int32)), (.int (1 : Int32))])) _
    refine XS.icmpNo X83.here hx rfl (hb hby d3_137) rfl (tlt (by decide)).2.1 ?_
    show Steps p.tables e below (T83.setTop (mkF m 140 #[.val (.ref a1), .val (.ref a2), .val (.int (1 : Int32))] [])) _
    refine XS.aloadN X83.here hx rfl (hb hby d3_140) rfl rfl ?_
    show Steps p.tables e below (T83.setTop (mkF m 141 #[.val (.ref a1), .val (.ref a2), .val (.int (1 : Int32))] [(.ref a1)])) _
    refine st84 _ ?_
    show Steps p.tables e below (T84.setTop (mkF m 144 #[.val (.ref a1), .val (.ref a2), .val (.int (1 : Int32))] [(.ref b50)])) _
    refine XS.iloadN X84.here hx rfl (hb hby d3_144) rfl ?_
    show Steps p.tables e below (T84.setTop (mkF m 145 #[.val (.ref a1), .val (.ref a2), .val (.int (1 : Int32))] [(.int (1 : Int32)), (.ref b50)])) _
    refine XS.aloadN X84.here hx rfl (hb hby d3_145) rfl rfl ?_
    show Steps p.tables e below (T84.setTop (mkF m 146 #[.val (.ref a1), .val (.ref a2), .val (.int (1 : Int32))] [(.ref a2), (.int (1 : Int32)), (.ref b50)])) _
    refine XS.iloadN X84.here hx rfl (hb hby d3_146) rfl ?_
    show Steps p.tables e below (T84.setTop (mkF m 147 #[.val (.ref a1), .val (.ref a2), .val (.int (1 : Int32))] [(.int (1 : Int32)), (.ref a2), (.int (1 : Int32)), (.ref b50)])) _
    refine X84.daload hx (j := (1 : Int32)) (v := (.double (FP.l2d (f (1 : Int32).toNatClampNeg)))) (by rw [e84]; exact Ar85.1) (State.isArrayOf_alike hZ.alike Ar85.2.1) Ar85.2.2 hin85 hat85 (g := (mkF m 147 #[.val (.ref a1), .val (.ref a2), .val (.int (1 : Int32))] [(.int (1 : Int32)), (.ref a2), (.int (1 : Int32)), (.ref b50)])) rfl rfl (hb hby d3_147) _ ?_
    show Steps p.tables e below (T84.setTop (mkF m 148 #[.val (.ref a1), .val (.ref a2), .val (.int (1 : Int32))] [(.double (FP.l2d (f (1 : Int32).toNatClampNeg))), (.int (1 : Int32)), (.ref b50)])) _
    refine XS.dconst0 X84.here hx rfl (hb hby d3_148) own_dc0 ?_
    show Steps p.tables e below (T84.setTop (mkF m 149 #[.val (.ref a1), .val (.ref a2), .val (.int (1 : Int32))] [(.double (FP.l2d (0 : Int64))), (.double (FP.l2d (f (1 : Int32).toNatClampNeg))), (.int (1 : Int32)), (.ref b50)])) _
    refine XS.dcmpS X84.here hx rfl (hb hby d3_149) rfl (dcmpV_w (own_b (hS _)) own_b0 .l) ?_
    exact k)
  obtain ⟨z158_s0_2, hz158_s0_2⟩ : ∃ z : Int32, z = (if (0 : Int64) < (f (1 : Int32).toNatClampNeg) then (2 : Int32) else (1 : Int32)) := ⟨_, rfl⟩
  obtain ⟨T89, Lc89, X89, e89, N89, pre89⟩ : ∃ (T' : State) (locs' : List Loc), Stand p l e ({ frames := 4, cells := 11, slots := 24, locals := 50 } : Room) s m #[(.ref a1), (.ref a2)] below meth c T' locs' 11 24 ∧ T'.heap = h82 ∧ Fr n0 locs' ∧ ∀ t, Steps p.tables e below (T'.setTop (mkF m 158 #[.val (.ref a1), .val (.ref a2), .val (.int (1 : Int32))] [(.int z158_s0_2), (.int (1 : Int32)), (.ref b50)])) t → Steps p.tables e below (s₁.setTop (entryFrame m #[(.ref a1), (.ref a2)] 3)) t := by
    by_cases hc150 : (0 : Int64) < (f (1 : Int32).toNatClampNeg)
    ·
      have pre87 : ∀ t, Steps p.tables e below (T84.setTop (mkF m 158 #[.val (.ref a1), .val (.ref a2), .val (.int (1 : Int32))] [(.int (2 : Int32)), (.int (1 : Int32)), (.ref b50)])) t → Steps p.tables e below (s₁.setTop (entryFrame m #[(.ref a1), (.ref a2)] 3)) t := fun t k => pre86 t (by
        show Steps p.tables e below (T84.setTop (mkF m 150 #[.val (.ref a1), .val (.ref a2), .val (.int (1 : Int32))] [(.int (lcmpW (f (1 : Int32).toNatClampNeg) (0 : Int64))), (.int (1 : Int32)), (.ref b50)])) _
        refine XS.ifNo X84.here hx rfl (hb hby d3_150) rfl ((if0 _ _).trans (tlt ((lw_gt (f (1 : Int32).toNatClampNeg) (0 : Int64)).mpr hc150)).2.2.2) ?_
        show Steps p.tables e below (T84.setTop (mkF m 153 #[.val (.ref a1), .val (.ref a2), .val (.int (1 : Int32))] [(.int (1 : Int32)), (.ref b50)])) _
        refine XS.iconst X84.here hx rfl (hb hby d3_153) ?_
        show Steps p.tables e below (T84.setTop (mkF m 154 #[.val (.ref a1), .val (.ref a2), .val (.int (1 : Int32))] [(.int (2 : Int32)), (.int (1 : Int32)), (.ref b50)])) _
        refine XS.goto X84.here hx rfl (pc0 := 154) (pc' := 158) rfl (hb hby d3_154) (by decide) (by decide) ?_
        exact k)
      have q_z158_s0_2 : z158_s0_2 = (2 : Int32) := by rw [hz158_s0_2, if_pos hc150]
      refine ⟨_, _, X84, e84, N82, fun t k => ?_⟩
      rw [q_z158_s0_2] at k
      exact pre87 t k
    ·
      have pre88 : ∀ t, Steps p.tables e below (T84.setTop (mkF m 158 #[.val (.ref a1), .val (.ref a2), .val (.int (1 : Int32))] [(.int (1 : Int32)), (.int (1 : Int32)), (.ref b50)])) t → Steps p.tables e below (s₁.setTop (entryFrame m #[(.ref a1), (.ref a2)] 3)) t := fun t k => pre86 t (by
        show Steps p.tables e below (T84.setTop (mkF m 150 #[.val (.ref a1), .val (.ref a2), .val (.int (1 : Int32))] [(.int (lcmpW (f (1 : Int32).toNatClampNeg) (0 : Int64))), (.int (1 : Int32)), (.ref b50)])) _
        refine XS.ifYes X84.here hx rfl (pc0 := 150) (pc' := 157) rfl (hb hby d3_150) rfl ((if0 _ _).trans (flt (fun q => hc150 ((lw_gt (f (1 : Int32).toNatClampNeg) (0 : Int64)).mp q))).2.2.2) (by decide) (by decide) ?_
        show Steps p.tables e below (T84.setTop (mkF m 157 #[.val (.ref a1), .val (.ref a2), .val (.int (1 : Int32))] [(.int (1 : Int32)), (.ref b50)])) _
        refine XS.iconst X84.here hx rfl (hb hby d3_157) ?_
        exact k)
      have q_z158_s0_2 : z158_s0_2 = (1 : Int32) := by rw [hz158_s0_2, if_neg hc150]
      refine ⟨_, _, X84, e84, N82, fun t k => ?_⟩
      rw [q_z158_s0_2] at k
      exact pre88 t k
  obtain ⟨cl90, Ar90, hs90, hin90, hat90⟩ := ArI.open (j := (1 : Int32)) A_b50 (by decide)
  obtain ⟨T91, h91, X91, e91, W91, st91⟩ := stI X89 hx hZ e89 Ar90 (j := (1 : Int32)) hin90 (g := (mkF m 158 #[.val (.ref a1), .val (.ref a2), .val (.int (1 : Int32))] [(.int z158_s0_2), (.int (1 : Int32)), (.ref b50)])) rfl rfl (hb hby d3_158)
  have N91 := Fr.snoc X91 N89 g_b50
  have Zs : n0 ≤ h91.size := Nat.le_trans Zs (Keep.of_wr W91).1
  have E_a1 : Exa Z h91 a1 "com/example/regolo/regolo/engine/Relaxation" := E_a1.wr W91
  have F_rows_a1 : Fld Z h91 a1 "com/example/regolo/regolo/engine/Relaxation" "rows" "Ljava/util/List;" (.ref b25) := F_rows_a1.other W91 (Or.inl ne_a1_b50)
  have F_cost_a1 : Fld Z h91 a1 "com/example/regolo/regolo/engine/Relaxation" "cost" "[D" (.ref b37) := F_cost_a1.other W91 (Or.inl ne_a1_b50)
  have F_lower_a1 : Fld Z h91 a1 "com/example/regolo/regolo/engine/Relaxation" "lower" "[D" (.ref b41) := F_lower_a1.other W91 (Or.inl ne_a1_b50)
  have F_upper_a1 : Fld Z h91 a1 "com/example/regolo/regolo/engine/Relaxation" "upper" "[D" (.ref b44) := F_upper_a1.other W91 (Or.inl ne_a1_b50)
  have F_value_a1 : Fld Z h91 a1 "com/example/regolo/regolo/engine/Relaxation" "value" "[D" (.ref b47) := F_value_a1.other W91 (Or.inl ne_a1_b50)
  have F_status_a1 : Fld Z h91 a1 "com/example/regolo/regolo/engine/Relaxation" "status" "[I" (.ref b50) := F_status_a1.other W91 (Or.inl ne_a1_b50)
  have F_reduced_a1 : Fld Z h91 a1 "com/example/regolo/regolo/engine/Relaxation" "reduced" "[D" (.ref b53) := F_reduced_a1.other W91 (Or.inl ne_a1_b50)
  have F_columns_a1 : Fld Z h91 a1 "com/example/regolo/regolo/engine/Relaxation" "columns" "I" (.int (3 : Int32)) := F_columns_a1.other W91 (Or.inl ne_a1_b50)
  have A_a2 : ArD Z h91 a2 (3 : Int32) f := A_a2.other W91 ne_a2_b50
  have E_a2 : Exa Z h91 a2 "[D" := E_a2.wr W91
  have Ol : Old Z n0 h91 := Ol.wr W91 g_b50
  have Kp : Keep h0 h91 [a1] := Kp.wr W91 (Or.inr sz_b50)
  have E_b25 : Exa Z h91 b25 "java/util/ArrayList" := E_b25.wr W91
  have F_elementData_b25 : Fld Z h91 b25 "java/util/ArrayList" "elementData" "[Ljava/lang/Object;" (.ref dd) := F_elementData_b25.other W91 (Or.inl ne_b25_b50)
  have F_size_b25 : Fld Z h91 b25 "java/util/ArrayList" "size" "I" (.int (0 : Int32)) := F_size_b25.other W91 (Or.inl ne_b25_b50)
  have F_modCount_b25 : Fld Z h91 b25 "java/util/AbstractList" "modCount" "I" (.int (0 : Int32)) := F_modCount_b25.other W91 (Or.inl ne_b25_b50)
  have E_b37 : Exa Z h91 b37 "[D" := E_b37.wr W91
  have A_b37 : ArD Z h91 b37 (3 : Int32) f := A_b37.other W91 ne_b37_b50
  have E_b41 : Exa Z h91 b41 "[D" := E_b41.wr W91
  have A_b41 : ArD Z h91 b41 (3 : Int32) (fun _ => 0) := A_b41.other W91 ne_b41_b50
  have E_b44 : Exa Z h91 b44 "[D" := E_b44.wr W91
  have E_b47 : Exa Z h91 b47 "[D" := E_b47.wr W91
  have A_b47 : ArD Z h91 b47 (3 : Int32) (upd (fun _ => 0) (0 : Int32).toNatClampNeg z177_s0) := A_b47.other W91 ne_b47_b50
  have E_b50 : Exa Z h91 b50 "[I" := E_b50.wr W91
  have E_b53 : Exa Z h91 b53 "[D" := E_b53.wr W91
  have A_b53 : ArD Z h91 b53 (3 : Int32) (upd (fun _ => 0) (0 : Int32).toNatClampNeg (f (0 : Int32).toNatClampNeg)) := A_b53.other W91 (Ne.symm ne_b50_b53)
  have A_b44 : ArD Z h91 b44 (3 : Int32) (upd (upd (upd (fun _ => 0) (0 : Int32).toNatClampNeg (1 : Int64)) (1 : Int32).toNatClampNeg (1 : Int64)) (2 : Int32).toNatClampNeg (1 : Int64)) := A_b44.other W91 ne_b44_b50
  have A_b50 : ArI Z h91 b50 (3 : Int32) (upd (upd (fun _ => 0) (0 : Int32).toNatClampNeg z158_s0) (1 : Int32).toNatClampNeg z158_s0_2) := ArI.set A_b50 W91
  obtain ⟨T92, X92, e92, st92⟩ := getF X91 hx hZ hown (host := "") (Or.inl (hw _ (List.mem_of_getElem? (i := 68) rfl))) Via.refl e91 F_value_a1 (g := (mkF m 160 #[.val (.ref a1), .val (.ref a2), .val (.int (1 : Int32))] [(.ref a1)])) rfl rfl (hb hby d3_160)
  obtain ⟨cl93, Ar93, hs93, hin93, hat93⟩ := ArD.open (j := (1 : Int32)) A_a2 (by decide)
  have pre94 : ∀ t, Steps p.tables e below (T92.setTop (mkF m 169 #[.val (.ref a1), .val (.ref a2), .val (.int (1 : Int32))] [(.int (lcmpW (f (1 : Int32).toNatClampNeg) (0 : Int64))), (.int (1 : Int32)), (.ref b47)])) t → Steps p.tables e below (s₁.setTop (entryFrame m #[(.ref a1), (.ref a2)] 3)) t := fun t k => pre89 t (by
    show Steps p.tables e below (T89.setTop (mkF m 158 #[.val (.ref a1), .val (.ref a2), .val (.int (1 : Int32))] [(.int z158_s0_2), (.int (1 : Int32)), (.ref b50)])) _
    refine st91 _ ?_
    show Steps p.tables e below (T91.setTop (mkF m 159 #[.val (.ref a1), .val (.ref a2), .val (.int (1 : Int32))] [])) _
    refine XS.aloadN X91.here hx rfl (hb hby d3_159) rfl rfl ?_
    show Steps p.tables e below (T91.setTop (mkF m 160 #[.val (.ref a1), .val (.ref a2), .val (.int (1 : Int32))] [(.ref a1)])) _
    refine st92 _ ?_
    show Steps p.tables e below (T92.setTop (mkF m 163 #[.val (.ref a1), .val (.ref a2), .val (.int (1 : Int32))] [(.ref b47)])) _
    refine XS.iloadN X92.here hx rfl (hb hby d3_163) rfl ?_
    show Steps p.tables e below (T92.setTop (mkF m 164 #[.val (.ref a1), .val (.ref a2), .val (.int (1 : Int32))] [(.int (1 : Int32)), (.ref b47)])) _
    refine XS.aloadN X92.here hx rfl (hb hby d3_164) rfl rfl ?_
    show Steps p.tables e below (T92.setTop (mkF m 165 #[.val (.ref a1), .val (.ref a2), .val (.int (1 : Int32))] [(.ref a2), (.int (1 : Int32)), (.ref b47)])) _
    refine XS.iloadN X92.here hx rfl (hb hby d3_165) rfl ?_
    show Steps p.tables e below (T92.setTop (mkF m 166 #[.val (.ref a1), .val (.ref a2), .val (.int (1 : Int32))] [(.int (1 : Int32)), (.ref a2), (.int (1 : Int32)), (.ref b47)])) _
    refine X92.daload hx (j := (1 : Int32)) (v := (.double (FP.l2d (f (1 : Int32).toNatClampNeg)))) (by rw [e92]; exact Ar93.1) (State.isArrayOf_alike hZ.alike Ar93.2.1) Ar93.2.2 hin93 hat93 (g := (mkF m 166 #[.val (.ref a1), .val (.ref a2), .val (.int (1 : Int32))] [(.int (1 : Int32)), (.ref a2), (.int (1 : Int32)), (.ref b47)])) rfl rfl (hb hby d3_166) _ ?_
    show Steps p.tables e below (T92.setTop (mkF m 167 #[.val (.ref a1), .val (.ref a2), .val (.int (1 : Int32))] [(.double (FP.l2d (f (1 : Int32).toNatClampNeg))), (.int (1 : Int32)), (.ref b47)])) _
    refine XS.dconst0 X92.here hx rfl (hb hby d3_167) own_dc0 ?_
    show Steps p.tables e below (T92.setTop (mkF m 168 #[.val (.ref a1), .val (.ref a2), .val (.int (1 : Int32))] [(.double (FP.l2d (0 : Int64))), (.double (FP.l2d (f (1 : Int32).toNatClampNeg))), (.int (1 : Int32)), (.ref b47)])) _
    refine XS.dcmpS X92.here hx rfl (hb hby d3_168) rfl (dcmpV_w (own_b (hS _)) own_b0 .l) ?_
    exact k)
  obtain ⟨z177_s0_2, hz177_s0_2⟩ : ∃ z : Int64, z = (if (0 : Int64) < (f (1 : Int32).toNatClampNeg) then (1 : Int64) else (0 : Int64)) := ⟨_, rfl⟩
  obtain ⟨T97, Lc97, X97, e97, N97, pre97⟩ : ∃ (T' : State) (locs' : List Loc), Stand p l e ({ frames := 4, cells := 11, slots := 24, locals := 50 } : Room) s m #[(.ref a1), (.ref a2)] below meth c T' locs' 11 24 ∧ T'.heap = h91 ∧ Fr n0 locs' ∧ ∀ t, Steps p.tables e below (T'.setTop (mkF m 177 #[.val (.ref a1), .val (.ref a2), .val (.int (1 : Int32))] [(.double (FP.l2d z177_s0_2)), (.int (1 : Int32)), (.ref b47)])) t → Steps p.tables e below (s₁.setTop (entryFrame m #[(.ref a1), (.ref a2)] 3)) t := by
    by_cases hc169 : (0 : Int64) < (f (1 : Int32).toNatClampNeg)
    ·
      have pre95 : ∀ t, Steps p.tables e below (T92.setTop (mkF m 177 #[.val (.ref a1), .val (.ref a2), .val (.int (1 : Int32))] [(.double (FP.l2d (1 : Int64))), (.int (1 : Int32)), (.ref b47)])) t → Steps p.tables e below (s₁.setTop (entryFrame m #[(.ref a1), (.ref a2)] 3)) t := fun t k => pre94 t (by
        show Steps p.tables e below (T92.setTop (mkF m 169 #[.val (.ref a1), .val (.ref a2), .val (.int (1 : Int32))] [(.int (lcmpW (f (1 : Int32).toNatClampNeg) (0 : Int64))), (.int (1 : Int32)), (.ref b47)])) _
        refine XS.ifNo X92.here hx rfl (hb hby d3_169) rfl ((if0 _ _).trans (tlt ((lw_gt (f (1 : Int32).toNatClampNeg) (0 : Int64)).mpr hc169)).2.2.2) ?_
        show Steps p.tables e below (T92.setTop (mkF m 172 #[.val (.ref a1), .val (.ref a2), .val (.int (1 : Int32))] [(.int (1 : Int32)), (.ref b47)])) _
        refine XS.dconst1 X92.here hx rfl (hb hby d3_172) own_dc1 ?_
        show Steps p.tables e below (T92.setTop (mkF m 173 #[.val (.ref a1), .val (.ref a2), .val (.int (1 : Int32))] [(.double (FP.l2d (1 : Int64))), (.int (1 : Int32)), (.ref b47)])) _
        refine XS.goto X92.here hx rfl (pc0 := 173) (pc' := 177) rfl (hb hby d3_173) (by decide) (by decide) ?_
        exact k)
      have q_z177_s0_2 : z177_s0_2 = (1 : Int64) := by rw [hz177_s0_2, if_pos hc169]
      refine ⟨_, _, X92, e92, N91, fun t k => ?_⟩
      rw [q_z177_s0_2] at k
      exact pre95 t k
    ·
      have pre96 : ∀ t, Steps p.tables e below (T92.setTop (mkF m 177 #[.val (.ref a1), .val (.ref a2), .val (.int (1 : Int32))] [(.double (FP.l2d (0 : Int64))), (.int (1 : Int32)), (.ref b47)])) t → Steps p.tables e below (s₁.setTop (entryFrame m #[(.ref a1), (.ref a2)] 3)) t := fun t k => pre94 t (by
        show Steps p.tables e below (T92.setTop (mkF m 169 #[.val (.ref a1), .val (.ref a2), .val (.int (1 : Int32))] [(.int (lcmpW (f (1 : Int32).toNatClampNeg) (0 : Int64))), (.int (1 : Int32)), (.ref b47)])) _
        refine XS.ifYes X92.here hx rfl (pc0 := 169) (pc' := 176) rfl (hb hby d3_169) rfl ((if0 _ _).trans (flt (fun q => hc169 ((lw_gt (f (1 : Int32).toNatClampNeg) (0 : Int64)).mp q))).2.2.2) (by decide) (by decide) ?_
        show Steps p.tables e below (T92.setTop (mkF m 176 #[.val (.ref a1), .val (.ref a2), .val (.int (1 : Int32))] [(.int (1 : Int32)), (.ref b47)])) _
        refine XS.dconst0 X92.here hx rfl (hb hby d3_176) own_dc0 ?_
        exact k)
      have q_z177_s0_2 : z177_s0_2 = (0 : Int64) := by rw [hz177_s0_2, if_neg hc169]
      refine ⟨_, _, X92, e92, N91, fun t k => ?_⟩
      rw [q_z177_s0_2] at k
      exact pre96 t k
  obtain ⟨cl98, Ar98, hs98, hin98, hat98⟩ := ArD.open (j := (1 : Int32)) A_b47 (by decide)
  obtain ⟨T99, h99, X99, e99, W99, st99⟩ := stD X97 hx hZ e97 Ar98 (j := (1 : Int32)) hin98 (g := (mkF m 177 #[.val (.ref a1), .val (.ref a2), .val (.int (1 : Int32))] [(.double (FP.l2d z177_s0_2)), (.int (1 : Int32)), (.ref b47)])) rfl rfl (hb hby d3_177)
  have N99 := Fr.snoc X99 N97 g_b47
  have Zs : n0 ≤ h99.size := Nat.le_trans Zs (Keep.of_wr W99).1
  have E_a1 : Exa Z h99 a1 "com/example/regolo/regolo/engine/Relaxation" := E_a1.wr W99
  have F_rows_a1 : Fld Z h99 a1 "com/example/regolo/regolo/engine/Relaxation" "rows" "Ljava/util/List;" (.ref b25) := F_rows_a1.other W99 (Or.inl ne_a1_b47)
  have F_cost_a1 : Fld Z h99 a1 "com/example/regolo/regolo/engine/Relaxation" "cost" "[D" (.ref b37) := F_cost_a1.other W99 (Or.inl ne_a1_b47)
  have F_lower_a1 : Fld Z h99 a1 "com/example/regolo/regolo/engine/Relaxation" "lower" "[D" (.ref b41) := F_lower_a1.other W99 (Or.inl ne_a1_b47)
  have F_upper_a1 : Fld Z h99 a1 "com/example/regolo/regolo/engine/Relaxation" "upper" "[D" (.ref b44) := F_upper_a1.other W99 (Or.inl ne_a1_b47)
  have F_value_a1 : Fld Z h99 a1 "com/example/regolo/regolo/engine/Relaxation" "value" "[D" (.ref b47) := F_value_a1.other W99 (Or.inl ne_a1_b47)
  have F_status_a1 : Fld Z h99 a1 "com/example/regolo/regolo/engine/Relaxation" "status" "[I" (.ref b50) := F_status_a1.other W99 (Or.inl ne_a1_b47)
  have F_reduced_a1 : Fld Z h99 a1 "com/example/regolo/regolo/engine/Relaxation" "reduced" "[D" (.ref b53) := F_reduced_a1.other W99 (Or.inl ne_a1_b47)
  have F_columns_a1 : Fld Z h99 a1 "com/example/regolo/regolo/engine/Relaxation" "columns" "I" (.int (3 : Int32)) := F_columns_a1.other W99 (Or.inl ne_a1_b47)
  have A_a2 : ArD Z h99 a2 (3 : Int32) f := A_a2.other W99 ne_a2_b47
  have E_a2 : Exa Z h99 a2 "[D" := E_a2.wr W99
  have Ol : Old Z n0 h99 := Ol.wr W99 g_b47
  have Kp : Keep h0 h99 [a1] := Kp.wr W99 (Or.inr sz_b47)
  have E_b25 : Exa Z h99 b25 "java/util/ArrayList" := E_b25.wr W99
  have F_elementData_b25 : Fld Z h99 b25 "java/util/ArrayList" "elementData" "[Ljava/lang/Object;" (.ref dd) := F_elementData_b25.other W99 (Or.inl ne_b25_b47)
  have F_size_b25 : Fld Z h99 b25 "java/util/ArrayList" "size" "I" (.int (0 : Int32)) := F_size_b25.other W99 (Or.inl ne_b25_b47)
  have F_modCount_b25 : Fld Z h99 b25 "java/util/AbstractList" "modCount" "I" (.int (0 : Int32)) := F_modCount_b25.other W99 (Or.inl ne_b25_b47)
  have E_b37 : Exa Z h99 b37 "[D" := E_b37.wr W99
  have A_b37 : ArD Z h99 b37 (3 : Int32) f := A_b37.other W99 ne_b37_b47
  have E_b41 : Exa Z h99 b41 "[D" := E_b41.wr W99
  have A_b41 : ArD Z h99 b41 (3 : Int32) (fun _ => 0) := A_b41.other W99 ne_b41_b47
  have E_b44 : Exa Z h99 b44 "[D" := E_b44.wr W99
  have E_b47 : Exa Z h99 b47 "[D" := E_b47.wr W99
  have E_b50 : Exa Z h99 b50 "[I" := E_b50.wr W99
  have A_b50 : ArI Z h99 b50 (3 : Int32) (upd (upd (fun _ => 0) (0 : Int32).toNatClampNeg z158_s0) (1 : Int32).toNatClampNeg z158_s0_2) := A_b50.other W99 (Ne.symm ne_b47_b50)
  have E_b53 : Exa Z h99 b53 "[D" := E_b53.wr W99
  have A_b53 : ArD Z h99 b53 (3 : Int32) (upd (fun _ => 0) (0 : Int32).toNatClampNeg (f (0 : Int32).toNatClampNeg)) := A_b53.other W99 (Ne.symm ne_b47_b53)
  have A_b44 : ArD Z h99 b44 (3 : Int32) (upd (upd (upd (fun _ => 0) (0 : Int32).toNatClampNeg (1 : Int64)) (1 : Int32).toNatClampNeg (1 : Int64)) (2 : Int32).toNatClampNeg (1 : Int64)) := A_b44.other W99 ne_b44_b47
  have A_b47 : ArD Z h99 b47 (3 : Int32) (upd (upd (fun _ => 0) (0 : Int32).toNatClampNeg z177_s0) (1 : Int32).toNatClampNeg z177_s0_2) := ArD.set A_b47 W99
  obtain ⟨T100, X100, e100, st100⟩ := getF X99 hx hZ hown (host := "") (Or.inl (hw _ (List.mem_of_getElem? (i := 72) rfl))) Via.refl e99 F_reduced_a1 (g := (mkF m 179 #[.val (.ref a1), .val (.ref a2), .val (.int (1 : Int32))] [(.ref a1)])) rfl rfl (hb hby d3_179)
  obtain ⟨cl101, Ar101, hs101, hin101, hat101⟩ := ArD.open (j := (1 : Int32)) A_a2 (by decide)
  obtain ⟨cl102, Ar102, hs102, hin102, hat102⟩ := ArD.open (j := (1 : Int32)) A_b53 (by decide)
  obtain ⟨T103, h103, X103, e103, W103, st103⟩ := stD X100 hx hZ e100 Ar102 (j := (1 : Int32)) hin102 (g := (mkF m 186 #[.val (.ref a1), .val (.ref a2), .val (.int (1 : Int32))] [(.double (FP.l2d (f (1 : Int32).toNatClampNeg))), (.int (1 : Int32)), (.ref b53)])) rfl rfl (hb hby d3_186)
  have N103 := Fr.snoc X103 N99 g_b53
  have Zs : n0 ≤ h103.size := Nat.le_trans Zs (Keep.of_wr W103).1
  have E_a1 : Exa Z h103 a1 "com/example/regolo/regolo/engine/Relaxation" := E_a1.wr W103
  have F_rows_a1 : Fld Z h103 a1 "com/example/regolo/regolo/engine/Relaxation" "rows" "Ljava/util/List;" (.ref b25) := F_rows_a1.other W103 (Or.inl ne_a1_b53)
  have F_cost_a1 : Fld Z h103 a1 "com/example/regolo/regolo/engine/Relaxation" "cost" "[D" (.ref b37) := F_cost_a1.other W103 (Or.inl ne_a1_b53)
  have F_lower_a1 : Fld Z h103 a1 "com/example/regolo/regolo/engine/Relaxation" "lower" "[D" (.ref b41) := F_lower_a1.other W103 (Or.inl ne_a1_b53)
  have F_upper_a1 : Fld Z h103 a1 "com/example/regolo/regolo/engine/Relaxation" "upper" "[D" (.ref b44) := F_upper_a1.other W103 (Or.inl ne_a1_b53)
  have F_value_a1 : Fld Z h103 a1 "com/example/regolo/regolo/engine/Relaxation" "value" "[D" (.ref b47) := F_value_a1.other W103 (Or.inl ne_a1_b53)
  have F_status_a1 : Fld Z h103 a1 "com/example/regolo/regolo/engine/Relaxation" "status" "[I" (.ref b50) := F_status_a1.other W103 (Or.inl ne_a1_b53)
  have F_reduced_a1 : Fld Z h103 a1 "com/example/regolo/regolo/engine/Relaxation" "reduced" "[D" (.ref b53) := F_reduced_a1.other W103 (Or.inl ne_a1_b53)
  have F_columns_a1 : Fld Z h103 a1 "com/example/regolo/regolo/engine/Relaxation" "columns" "I" (.int (3 : Int32)) := F_columns_a1.other W103 (Or.inl ne_a1_b53)
  have A_a2 : ArD Z h103 a2 (3 : Int32) f := A_a2.other W103 ne_a2_b53
  have E_a2 : Exa Z h103 a2 "[D" := E_a2.wr W103
  have Ol : Old Z n0 h103 := Ol.wr W103 g_b53
  have Kp : Keep h0 h103 [a1] := Kp.wr W103 (Or.inr sz_b53)
  have E_b25 : Exa Z h103 b25 "java/util/ArrayList" := E_b25.wr W103
  have F_elementData_b25 : Fld Z h103 b25 "java/util/ArrayList" "elementData" "[Ljava/lang/Object;" (.ref dd) := F_elementData_b25.other W103 (Or.inl ne_b25_b53)
  have F_size_b25 : Fld Z h103 b25 "java/util/ArrayList" "size" "I" (.int (0 : Int32)) := F_size_b25.other W103 (Or.inl ne_b25_b53)
  have F_modCount_b25 : Fld Z h103 b25 "java/util/AbstractList" "modCount" "I" (.int (0 : Int32)) := F_modCount_b25.other W103 (Or.inl ne_b25_b53)
  have E_b37 : Exa Z h103 b37 "[D" := E_b37.wr W103
  have A_b37 : ArD Z h103 b37 (3 : Int32) f := A_b37.other W103 ne_b37_b53
  have E_b41 : Exa Z h103 b41 "[D" := E_b41.wr W103
  have A_b41 : ArD Z h103 b41 (3 : Int32) (fun _ => 0) := A_b41.other W103 ne_b41_b53
  have E_b44 : Exa Z h103 b44 "[D" := E_b44.wr W103
  have E_b47 : Exa Z h103 b47 "[D" := E_b47.wr W103
  have A_b47 : ArD Z h103 b47 (3 : Int32) (upd (upd (fun _ => 0) (0 : Int32).toNatClampNeg z177_s0) (1 : Int32).toNatClampNeg z177_s0_2) := A_b47.other W103 ne_b47_b53
  have E_b50 : Exa Z h103 b50 "[I" := E_b50.wr W103
  have A_b50 : ArI Z h103 b50 (3 : Int32) (upd (upd (fun _ => 0) (0 : Int32).toNatClampNeg z158_s0) (1 : Int32).toNatClampNeg z158_s0_2) := A_b50.other W103 ne_b50_b53
  have E_b53 : Exa Z h103 b53 "[D" := E_b53.wr W103
  have A_b44 : ArD Z h103 b44 (3 : Int32) (upd (upd (upd (fun _ => 0) (0 : Int32).toNatClampNeg (1 : Int64)) (1 : Int32).toNatClampNeg (1 : Int64)) (2 : Int32).toNatClampNeg (1 : Int64)) := A_b44.other W103 ne_b44_b53
  have A_b53 : ArD Z h103 b53 (3 : Int32) (upd (upd (fun _ => 0) (0 : Int32).toNatClampNeg (f (0 : Int32).toNatClampNeg)) (1 : Int32).toNatClampNeg (f (1 : Int32).toNatClampNeg)) := ArD.set A_b53 W103
  obtain ⟨T104, X104, e104, st104⟩ := getF X103 hx hZ hown (host := "") (Or.inl (hw _ (List.mem_of_getElem? (i := 52) rfl))) Via.refl e103 F_columns_a1 (g := (mkF m 134 #[.val (.ref a1), .val (.ref a2), .val (.int (2 : Int32))] [(.ref a1), (.int (2 : Int32))])) rfl rfl (hb hby d3_134)
  obtain ⟨T105, X105, e105, st105⟩ := getF X104 hx hZ hown (host := "") (Or.inl (hw _ (List.mem_of_getElem? (i := 70) rfl))) Via.refl e104 F_status_a1 (g := (mkF m 141 #[.val (.ref a1), .val (.ref a2), .val (.int (2 : Int32))] [(.ref a1)])) rfl rfl (hb hby d3_141)
  obtain ⟨cl106, Ar106, hs106, hin106, hat106⟩ := ArD.open (j := (2 : Int32)) A_a2 (by decide)
  have pre107 : ∀ t, Steps p.tables e below (T105.setTop (mkF m 150 #[.val (.ref a1), .val (.ref a2), .val (.int (2 : Int32))] [(.int (lcmpW (f (2 : Int32).toNatClampNeg) (0 : Int64))), (.int (2 : Int32)), (.ref b50)])) t → Steps p.tables e below (s₁.setTop (entryFrame m #[(.ref a1), (.ref a2)] 3)) t := fun t k => pre97 t (by
    show Steps p.tables e below (T97.setTop (mkF m 177 #[.val (.ref a1), .val (.ref a2), .val (.int (1 : Int32))] [(.double (FP.l2d z177_s0_2)), (.int (1 : Int32)), (.ref b47)])) _
    refine st99 _ ?_
    show Steps p.tables e below (T99.setTop (mkF m 178 #[.val (.ref a1), .val (.ref a2), .val (.int (1 : Int32))] [])) _
    refine XS.aloadN X99.here hx rfl (hb hby d3_178) rfl rfl ?_
    show Steps p.tables e below (T99.setTop (mkF m 179 #[.val (.ref a1), .val (.ref a2), .val (.int (1 : Int32))] [(.ref a1)])) _
    refine st100 _ ?_
    show Steps p.tables e below (T100.setTop (mkF m 182 #[.val (.ref a1), .val (.ref a2), .val (.int (1 : Int32))] [(.ref b53)])) _
    refine XS.iloadN X100.here hx rfl (hb hby d3_182) rfl ?_
    show Steps p.tables e below (T100.setTop (mkF m 183 #[.val (.ref a1), .val (.ref a2), .val (.int (1 : Int32))] [(.int (1 : Int32)), (.ref b53)])) _
    refine XS.aloadN X100.here hx rfl (hb hby d3_183) rfl rfl ?_
    show Steps p.tables e below (T100.setTop (mkF m 184 #[.val (.ref a1), .val (.ref a2), .val (.int (1 : Int32))] [(.ref a2), (.int (1 : Int32)), (.ref b53)])) _
    refine XS.iloadN X100.here hx rfl (hb hby d3_184) rfl ?_
    show Steps p.tables e below (T100.setTop (mkF m 185 #[.val (.ref a1), .val (.ref a2), .val (.int (1 : Int32))] [(.int (1 : Int32)), (.ref a2), (.int (1 : Int32)), (.ref b53)])) _
    refine X100.daload hx (j := (1 : Int32)) (v := (.double (FP.l2d (f (1 : Int32).toNatClampNeg)))) (by rw [e100]; exact Ar101.1) (State.isArrayOf_alike hZ.alike Ar101.2.1) Ar101.2.2 hin101 hat101 (g := (mkF m 185 #[.val (.ref a1), .val (.ref a2), .val (.int (1 : Int32))] [(.int (1 : Int32)), (.ref a2), (.int (1 : Int32)), (.ref b53)])) rfl rfl (hb hby d3_185) _ ?_
    show Steps p.tables e below (T100.setTop (mkF m 186 #[.val (.ref a1), .val (.ref a2), .val (.int (1 : Int32))] [(.double (FP.l2d (f (1 : Int32).toNatClampNeg))), (.int (1 : Int32)), (.ref b53)])) _
    refine st103 _ ?_
    show Steps p.tables e below (T103.setTop (mkF m 187 #[.val (.ref a1), .val (.ref a2), .val (.int (1 : Int32))] [])) _
    refine XS.iinc X103.here hx rfl (hb hby d3_187) rfl (l' := #[.val (.ref a1), .val (.ref a2), .val (.int (2 : Int32))]) rfl ?_
    show Steps p.tables e below (T103.setTop (mkF m 190 #[.val (.ref a1), .val (.ref a2), .val (.int (2 : Int32))] [])) _
    refine XS.goto X103.here hx rfl (pc0 := 190) (pc' := 132) rfl (hb hby d3_190) (by decide) (by decide) ?_
    show Steps p.tables e below (T103.setTop (mkF m 132 #[.val (.ref a1), .val (.ref a2), .val (.int (2 : Int32))] [])) _
    refine XS.iloadN X103.here hx rfl (hb hby d3_132) rfl ?_
    show Steps p.tables e below (T103.setTop (mkF m 133 #[.val (.ref a1), .val (.ref a2), .val (.int (2 : Int32))] [(.int (2 : Int32))])) _
    refine XS.aloadN X103.here hx rfl (hb hby d3_133) rfl rfl ?_
    show Steps p.tables e below (T103.setTop (mkF m 134 #[.val (.ref a1), .val (.ref a2), .val (.int (2 : Int32))] [(.ref a1), (.int (2 : Int32))])) _
    refine st104 _ ?_
    show Steps p.tables e below (T104.setTop (mkF m 137 #[.val (.ref a1), .val (.ref a2), .val (.int (2 : Int32))] [(.int (3 : Int32)), (.int (2 : Int32))])) _
    refine XS.icmpNo X104.here hx rfl (hb hby d3_137) rfl (tlt (by decide)).2.1 ?_
    show Steps p.tables e below (T104.setTop (mkF m 140 #[.val (.ref a1), .val (.ref a2), .val (.int (2 : Int32))] [])) _
    refine XS.aloadN X104.here hx rfl (hb hby d3_140) rfl rfl ?_
    show Steps p.tables e below (T104.setTop (mkF m 141 #[.val (.ref a1), .val (.ref a2), .val (.int (2 : Int32))] [(.ref a1)])) _
    refine st105 _ ?_
    show Steps p.tables e below (T105.setTop (mkF m 144 #[.val (.ref a1), .val (.ref a2), .val (.int (2 : Int32))] [(.ref b50)])) _
    refine XS.iloadN X105.here hx rfl (hb hby d3_144) rfl ?_
    show Steps p.tables e below (T105.setTop (mkF m 145 #[.val (.ref a1), .val (.ref a2), .val (.int (2 : Int32))] [(.int (2 : Int32)), (.ref b50)])) _
    refine XS.aloadN X105.here hx rfl (hb hby d3_145) rfl rfl ?_
    show Steps p.tables e below (T105.setTop (mkF m 146 #[.val (.ref a1), .val (.ref a2), .val (.int (2 : Int32))] [(.ref a2), (.int (2 : Int32)), (.ref b50)])) _
    refine XS.iloadN X105.here hx rfl (hb hby d3_146) rfl ?_
    show Steps p.tables e below (T105.setTop (mkF m 147 #[.val (.ref a1), .val (.ref a2), .val (.int (2 : Int32))] [(.int (2 : Int32)), (.ref a2), (.int (2 : Int32)), (.ref b50)])) _
    refine X105.daload hx (j := (2 : Int32)) (v := (.double (FP.l2d (f (2 : Int32).toNatClampNeg)))) (by rw [e105]; exact Ar106.1) (State.isArrayOf_alike hZ.alike Ar106.2.1) Ar106.2.2 hin106 hat106 (g := (mkF m 147 #[.val (.ref a1), .val (.ref a2), .val (.int (2 : Int32))] [(.int (2 : Int32)), (.ref a2), (.int (2 : Int32)), (.ref b50)])) rfl rfl (hb hby d3_147) _ ?_
    show Steps p.tables e below (T105.setTop (mkF m 148 #[.val (.ref a1), .val (.ref a2), .val (.int (2 : Int32))] [(.double (FP.l2d (f (2 : Int32).toNatClampNeg))), (.int (2 : Int32)), (.ref b50)])) _
    refine XS.dconst0 X105.here hx rfl (hb hby d3_148) own_dc0 ?_
    show Steps p.tables e below (T105.setTop (mkF m 149 #[.val (.ref a1), .val (.ref a2), .val (.int (2 : Int32))] [(.double (FP.l2d (0 : Int64))), (.double (FP.l2d (f (2 : Int32).toNatClampNeg))), (.int (2 : Int32)), (.ref b50)])) _
    refine XS.dcmpS X105.here hx rfl (hb hby d3_149) rfl (dcmpV_w (own_b (hS _)) own_b0 .l) ?_
    exact k)
  obtain ⟨z158_s0_3, hz158_s0_3⟩ : ∃ z : Int32, z = (if (0 : Int64) < (f (2 : Int32).toNatClampNeg) then (2 : Int32) else (1 : Int32)) := ⟨_, rfl⟩
  obtain ⟨T110, Lc110, X110, e110, N110, pre110⟩ : ∃ (T' : State) (locs' : List Loc), Stand p l e ({ frames := 4, cells := 11, slots := 24, locals := 50 } : Room) s m #[(.ref a1), (.ref a2)] below meth c T' locs' 11 24 ∧ T'.heap = h103 ∧ Fr n0 locs' ∧ ∀ t, Steps p.tables e below (T'.setTop (mkF m 158 #[.val (.ref a1), .val (.ref a2), .val (.int (2 : Int32))] [(.int z158_s0_3), (.int (2 : Int32)), (.ref b50)])) t → Steps p.tables e below (s₁.setTop (entryFrame m #[(.ref a1), (.ref a2)] 3)) t := by
    by_cases hc150 : (0 : Int64) < (f (2 : Int32).toNatClampNeg)
    ·
      have pre108 : ∀ t, Steps p.tables e below (T105.setTop (mkF m 158 #[.val (.ref a1), .val (.ref a2), .val (.int (2 : Int32))] [(.int (2 : Int32)), (.int (2 : Int32)), (.ref b50)])) t → Steps p.tables e below (s₁.setTop (entryFrame m #[(.ref a1), (.ref a2)] 3)) t := fun t k => pre107 t (by
        show Steps p.tables e below (T105.setTop (mkF m 150 #[.val (.ref a1), .val (.ref a2), .val (.int (2 : Int32))] [(.int (lcmpW (f (2 : Int32).toNatClampNeg) (0 : Int64))), (.int (2 : Int32)), (.ref b50)])) _
        refine XS.ifNo X105.here hx rfl (hb hby d3_150) rfl ((if0 _ _).trans (tlt ((lw_gt (f (2 : Int32).toNatClampNeg) (0 : Int64)).mpr hc150)).2.2.2) ?_
        show Steps p.tables e below (T105.setTop (mkF m 153 #[.val (.ref a1), .val (.ref a2), .val (.int (2 : Int32))] [(.int (2 : Int32)), (.ref b50)])) _
        refine XS.iconst X105.here hx rfl (hb hby d3_153) ?_
        show Steps p.tables e below (T105.setTop (mkF m 154 #[.val (.ref a1), .val (.ref a2), .val (.int (2 : Int32))] [(.int (2 : Int32)), (.int (2 : Int32)), (.ref b50)])) _
        refine XS.goto X105.here hx rfl (pc0 := 154) (pc' := 158) rfl (hb hby d3_154) (by decide) (by decide) ?_
        exact k)
      have q_z158_s0_3 : z158_s0_3 = (2 : Int32) := by rw [hz158_s0_3, if_pos hc150]
      refine ⟨_, _, X105, e105, N103, fun t k => ?_⟩
      rw [q_z158_s0_3] at k
      exact pre108 t k
    ·
      have pre109 : ∀ t, Steps p.tables e below (T105.setTop (mkF m 158 #[.val (.ref a1), .val (.ref a2), .val (.int (2 : Int32))] [(.int (1 : Int32)), (.int (2 : Int32)), (.ref b50)])) t → Steps p.tables e below (s₁.setTop (entryFrame m #[(.ref a1), (.ref a2)] 3)) t := fun t k => pre107 t (by
        show Steps p.tables e below (T105.setTop (mkF m 150 #[.val (.ref a1), .val (.ref a2), .val (.int (2 : Int32))] [(.int (lcmpW (f (2 : Int32).toNatClampNeg) (0 : Int64))), (.int (2 : Int32)), (.ref b50)])) _
        refine XS.ifYes X105.here hx rfl (pc0 := 150) (pc' := 157) rfl (hb hby d3_150) rfl ((if0 _ _).trans (flt (fun q => hc150 ((lw_gt (f (2 : Int32).toNatClampNeg) (0 : Int64)).mp q))).2.2.2) (by decide) (by decide) ?_
        show Steps p.tables e below (T105.setTop (mkF m 157 #[.val (.ref a1), .val (.ref a2), .val (.int (2 : Int32))] [(.int (2 : Int32)), (.ref b50)])) _
        refine XS.iconst X105.here hx rfl (hb hby d3_157) ?_
        exact k)
      have q_z158_s0_3 : z158_s0_3 = (1 : Int32) := by rw [hz158_s0_3, if_neg hc150]
      refine ⟨_, _, X105, e105, N103, fun t k => ?_⟩
      rw [q_z158_s0_3] at k
      exact pre109 t k
  obtain ⟨cl111, Ar111, hs111, hin111, hat111⟩ := ArI.open (j := (2 : Int32)) A_b50 (by decide)
  obtain ⟨T112, h112, X112, e112, W112, st112⟩ := stI X110 hx hZ e110 Ar111 (j := (2 : Int32)) hin111 (g := (mkF m 158 #[.val (.ref a1), .val (.ref a2), .val (.int (2 : Int32))] [(.int z158_s0_3), (.int (2 : Int32)), (.ref b50)])) rfl rfl (hb hby d3_158)
  have N112 := Fr.snoc X112 N110 g_b50
  have Zs : n0 ≤ h112.size := Nat.le_trans Zs (Keep.of_wr W112).1
  have E_a1 : Exa Z h112 a1 "com/example/regolo/regolo/engine/Relaxation" := E_a1.wr W112
  have F_rows_a1 : Fld Z h112 a1 "com/example/regolo/regolo/engine/Relaxation" "rows" "Ljava/util/List;" (.ref b25) := F_rows_a1.other W112 (Or.inl ne_a1_b50)
  have F_cost_a1 : Fld Z h112 a1 "com/example/regolo/regolo/engine/Relaxation" "cost" "[D" (.ref b37) := F_cost_a1.other W112 (Or.inl ne_a1_b50)
  have F_lower_a1 : Fld Z h112 a1 "com/example/regolo/regolo/engine/Relaxation" "lower" "[D" (.ref b41) := F_lower_a1.other W112 (Or.inl ne_a1_b50)
  have F_upper_a1 : Fld Z h112 a1 "com/example/regolo/regolo/engine/Relaxation" "upper" "[D" (.ref b44) := F_upper_a1.other W112 (Or.inl ne_a1_b50)
  have F_value_a1 : Fld Z h112 a1 "com/example/regolo/regolo/engine/Relaxation" "value" "[D" (.ref b47) := F_value_a1.other W112 (Or.inl ne_a1_b50)
  have F_status_a1 : Fld Z h112 a1 "com/example/regolo/regolo/engine/Relaxation" "status" "[I" (.ref b50) := F_status_a1.other W112 (Or.inl ne_a1_b50)
  have F_reduced_a1 : Fld Z h112 a1 "com/example/regolo/regolo/engine/Relaxation" "reduced" "[D" (.ref b53) := F_reduced_a1.other W112 (Or.inl ne_a1_b50)
  have F_columns_a1 : Fld Z h112 a1 "com/example/regolo/regolo/engine/Relaxation" "columns" "I" (.int (3 : Int32)) := F_columns_a1.other W112 (Or.inl ne_a1_b50)
  have A_a2 : ArD Z h112 a2 (3 : Int32) f := A_a2.other W112 ne_a2_b50
  have E_a2 : Exa Z h112 a2 "[D" := E_a2.wr W112
  have Ol : Old Z n0 h112 := Ol.wr W112 g_b50
  have Kp : Keep h0 h112 [a1] := Kp.wr W112 (Or.inr sz_b50)
  have E_b25 : Exa Z h112 b25 "java/util/ArrayList" := E_b25.wr W112
  have F_elementData_b25 : Fld Z h112 b25 "java/util/ArrayList" "elementData" "[Ljava/lang/Object;" (.ref dd) := F_elementData_b25.other W112 (Or.inl ne_b25_b50)
  have F_size_b25 : Fld Z h112 b25 "java/util/ArrayList" "size" "I" (.int (0 : Int32)) := F_size_b25.other W112 (Or.inl ne_b25_b50)
  have F_modCount_b25 : Fld Z h112 b25 "java/util/AbstractList" "modCount" "I" (.int (0 : Int32)) := F_modCount_b25.other W112 (Or.inl ne_b25_b50)
  have E_b37 : Exa Z h112 b37 "[D" := E_b37.wr W112
  have A_b37 : ArD Z h112 b37 (3 : Int32) f := A_b37.other W112 ne_b37_b50
  have E_b41 : Exa Z h112 b41 "[D" := E_b41.wr W112
  have A_b41 : ArD Z h112 b41 (3 : Int32) (fun _ => 0) := A_b41.other W112 ne_b41_b50
  have E_b44 : Exa Z h112 b44 "[D" := E_b44.wr W112
  have E_b47 : Exa Z h112 b47 "[D" := E_b47.wr W112
  have A_b47 : ArD Z h112 b47 (3 : Int32) (upd (upd (fun _ => 0) (0 : Int32).toNatClampNeg z177_s0) (1 : Int32).toNatClampNeg z177_s0_2) := A_b47.other W112 ne_b47_b50
  have E_b50 : Exa Z h112 b50 "[I" := E_b50.wr W112
  have E_b53 : Exa Z h112 b53 "[D" := E_b53.wr W112
  have A_b53 : ArD Z h112 b53 (3 : Int32) (upd (upd (fun _ => 0) (0 : Int32).toNatClampNeg (f (0 : Int32).toNatClampNeg)) (1 : Int32).toNatClampNeg (f (1 : Int32).toNatClampNeg)) := A_b53.other W112 (Ne.symm ne_b50_b53)
  have A_b44 : ArD Z h112 b44 (3 : Int32) (upd (upd (upd (fun _ => 0) (0 : Int32).toNatClampNeg (1 : Int64)) (1 : Int32).toNatClampNeg (1 : Int64)) (2 : Int32).toNatClampNeg (1 : Int64)) := A_b44.other W112 ne_b44_b50
  have A_b50 : ArI Z h112 b50 (3 : Int32) (upd (upd (upd (fun _ => 0) (0 : Int32).toNatClampNeg z158_s0) (1 : Int32).toNatClampNeg z158_s0_2) (2 : Int32).toNatClampNeg z158_s0_3) := ArI.set A_b50 W112
  obtain ⟨T113, X113, e113, st113⟩ := getF X112 hx hZ hown (host := "") (Or.inl (hw _ (List.mem_of_getElem? (i := 68) rfl))) Via.refl e112 F_value_a1 (g := (mkF m 160 #[.val (.ref a1), .val (.ref a2), .val (.int (2 : Int32))] [(.ref a1)])) rfl rfl (hb hby d3_160)
  obtain ⟨cl114, Ar114, hs114, hin114, hat114⟩ := ArD.open (j := (2 : Int32)) A_a2 (by decide)
  have pre115 : ∀ t, Steps p.tables e below (T113.setTop (mkF m 169 #[.val (.ref a1), .val (.ref a2), .val (.int (2 : Int32))] [(.int (lcmpW (f (2 : Int32).toNatClampNeg) (0 : Int64))), (.int (2 : Int32)), (.ref b47)])) t → Steps p.tables e below (s₁.setTop (entryFrame m #[(.ref a1), (.ref a2)] 3)) t := fun t k => pre110 t (by
    show Steps p.tables e below (T110.setTop (mkF m 158 #[.val (.ref a1), .val (.ref a2), .val (.int (2 : Int32))] [(.int z158_s0_3), (.int (2 : Int32)), (.ref b50)])) _
    refine st112 _ ?_
    show Steps p.tables e below (T112.setTop (mkF m 159 #[.val (.ref a1), .val (.ref a2), .val (.int (2 : Int32))] [])) _
    refine XS.aloadN X112.here hx rfl (hb hby d3_159) rfl rfl ?_
    show Steps p.tables e below (T112.setTop (mkF m 160 #[.val (.ref a1), .val (.ref a2), .val (.int (2 : Int32))] [(.ref a1)])) _
    refine st113 _ ?_
    show Steps p.tables e below (T113.setTop (mkF m 163 #[.val (.ref a1), .val (.ref a2), .val (.int (2 : Int32))] [(.ref b47)])) _
    refine XS.iloadN X113.here hx rfl (hb hby d3_163) rfl ?_
    show Steps p.tables e below (T113.setTop (mkF m 164 #[.val (.ref a1), .val (.ref a2), .val (.int (2 : Int32))] [(.int (2 : Int32)), (.ref b47)])) _
    refine XS.aloadN X113.here hx rfl (hb hby d3_164) rfl rfl ?_
    show Steps p.tables e below (T113.setTop (mkF m 165 #[.val (.ref a1), .val (.ref a2), .val (.int (2 : Int32))] [(.ref a2), (.int (2 : Int32)), (.ref b47)])) _
    refine XS.iloadN X113.here hx rfl (hb hby d3_165) rfl ?_
    show Steps p.tables e below (T113.setTop (mkF m 166 #[.val (.ref a1), .val (.ref a2), .val (.int (2 : Int32))] [(.int (2 : Int32)), (.ref a2), (.int (2 : Int32)), (.ref b47)])) _
    refine X113.daload hx (j := (2 : Int32)) (v := (.double (FP.l2d (f (2 : Int32).toNatClampNeg)))) (by rw [e113]; exact Ar114.1) (State.isArrayOf_alike hZ.alike Ar114.2.1) Ar114.2.2 hin114 hat114 (g := (mkF m 166 #[.val (.ref a1), .val (.ref a2), .val (.int (2 : Int32))] [(.int (2 : Int32)), (.ref a2), (.int (2 : Int32)), (.ref b47)])) rfl rfl (hb hby d3_166) _ ?_
    show Steps p.tables e below (T113.setTop (mkF m 167 #[.val (.ref a1), .val (.ref a2), .val (.int (2 : Int32))] [(.double (FP.l2d (f (2 : Int32).toNatClampNeg))), (.int (2 : Int32)), (.ref b47)])) _
    refine XS.dconst0 X113.here hx rfl (hb hby d3_167) own_dc0 ?_
    show Steps p.tables e below (T113.setTop (mkF m 168 #[.val (.ref a1), .val (.ref a2), .val (.int (2 : Int32))] [(.double (FP.l2d (0 : Int64))), (.double (FP.l2d (f (2 : Int32).toNatClampNeg))), (.int (2 : Int32)), (.ref b47)])) _
    refine XS.dcmpS X113.here hx rfl (hb hby d3_168) rfl (dcmpV_w (own_b (hS _)) own_b0 .l) ?_
    exact k)
  obtain ⟨z177_s0_3, hz177_s0_3⟩ : ∃ z : Int64, z = (if (0 : Int64) < (f (2 : Int32).toNatClampNeg) then (1 : Int64) else (0 : Int64)) := ⟨_, rfl⟩
  obtain ⟨T118, Lc118, X118, e118, N118, pre118⟩ : ∃ (T' : State) (locs' : List Loc), Stand p l e ({ frames := 4, cells := 11, slots := 24, locals := 50 } : Room) s m #[(.ref a1), (.ref a2)] below meth c T' locs' 11 24 ∧ T'.heap = h112 ∧ Fr n0 locs' ∧ ∀ t, Steps p.tables e below (T'.setTop (mkF m 177 #[.val (.ref a1), .val (.ref a2), .val (.int (2 : Int32))] [(.double (FP.l2d z177_s0_3)), (.int (2 : Int32)), (.ref b47)])) t → Steps p.tables e below (s₁.setTop (entryFrame m #[(.ref a1), (.ref a2)] 3)) t := by
    by_cases hc169 : (0 : Int64) < (f (2 : Int32).toNatClampNeg)
    ·
      have pre116 : ∀ t, Steps p.tables e below (T113.setTop (mkF m 177 #[.val (.ref a1), .val (.ref a2), .val (.int (2 : Int32))] [(.double (FP.l2d (1 : Int64))), (.int (2 : Int32)), (.ref b47)])) t → Steps p.tables e below (s₁.setTop (entryFrame m #[(.ref a1), (.ref a2)] 3)) t := fun t k => pre115 t (by
        show Steps p.tables e below (T113.setTop (mkF m 169 #[.val (.ref a1), .val (.ref a2), .val (.int (2 : Int32))] [(.int (lcmpW (f (2 : Int32).toNatClampNeg) (0 : Int64))), (.int (2 : Int32)), (.ref b47)])) _
        refine XS.ifNo X113.here hx rfl (hb hby d3_169) rfl ((if0 _ _).trans (tlt ((lw_gt (f (2 : Int32).toNatClampNeg) (0 : Int64)).mpr hc169)).2.2.2) ?_
        show Steps p.tables e below (T113.setTop (mkF m 172 #[.val (.ref a1), .val (.ref a2), .val (.int (2 : Int32))] [(.int (2 : Int32)), (.ref b47)])) _
        refine XS.dconst1 X113.here hx rfl (hb hby d3_172) own_dc1 ?_
        show Steps p.tables e below (T113.setTop (mkF m 173 #[.val (.ref a1), .val (.ref a2), .val (.int (2 : Int32))] [(.double (FP.l2d (1 : Int64))), (.int (2 : Int32)), (.ref b47)])) _
        refine XS.goto X113.here hx rfl (pc0 := 173) (pc' := 177) rfl (hb hby d3_173) (by decide) (by decide) ?_
        exact k)
      have q_z177_s0_3 : z177_s0_3 = (1 : Int64) := by rw [hz177_s0_3, if_pos hc169]
      refine ⟨_, _, X113, e113, N112, fun t k => ?_⟩
      rw [q_z177_s0_3] at k
      exact pre116 t k
    ·
      have pre117 : ∀ t, Steps p.tables e below (T113.setTop (mkF m 177 #[.val (.ref a1), .val (.ref a2), .val (.int (2 : Int32))] [(.double (FP.l2d (0 : Int64))), (.int (2 : Int32)), (.ref b47)])) t → Steps p.tables e below (s₁.setTop (entryFrame m #[(.ref a1), (.ref a2)] 3)) t := fun t k => pre115 t (by
        show Steps p.tables e below (T113.setTop (mkF m 169 #[.val (.ref a1), .val (.ref a2), .val (.int (2 : Int32))] [(.int (lcmpW (f (2 : Int32).toNatClampNeg) (0 : Int64))), (.int (2 : Int32)), (.ref b47)])) _
        refine XS.ifYes X113.here hx rfl (pc0 := 169) (pc' := 176) rfl (hb hby d3_169) rfl ((if0 _ _).trans (flt (fun q => hc169 ((lw_gt (f (2 : Int32).toNatClampNeg) (0 : Int64)).mp q))).2.2.2) (by decide) (by decide) ?_
        show Steps p.tables e below (T113.setTop (mkF m 176 #[.val (.ref a1), .val (.ref a2), .val (.int (2 : Int32))] [(.int (2 : Int32)), (.ref b47)])) _
        refine XS.dconst0 X113.here hx rfl (hb hby d3_176) own_dc0 ?_
        exact k)
      have q_z177_s0_3 : z177_s0_3 = (0 : Int64) := by rw [hz177_s0_3, if_neg hc169]
      refine ⟨_, _, X113, e113, N112, fun t k => ?_⟩
      rw [q_z177_s0_3] at k
      exact pre117 t k
  obtain ⟨cl119, Ar119, hs119, hin119, hat119⟩ := ArD.open (j := (2 : Int32)) A_b47 (by decide)
  obtain ⟨T120, h120, X120, e120, W120, st120⟩ := stD X118 hx hZ e118 Ar119 (j := (2 : Int32)) hin119 (g := (mkF m 177 #[.val (.ref a1), .val (.ref a2), .val (.int (2 : Int32))] [(.double (FP.l2d z177_s0_3)), (.int (2 : Int32)), (.ref b47)])) rfl rfl (hb hby d3_177)
  have N120 := Fr.snoc X120 N118 g_b47
  have Zs : n0 ≤ h120.size := Nat.le_trans Zs (Keep.of_wr W120).1
  have E_a1 : Exa Z h120 a1 "com/example/regolo/regolo/engine/Relaxation" := E_a1.wr W120
  have F_rows_a1 : Fld Z h120 a1 "com/example/regolo/regolo/engine/Relaxation" "rows" "Ljava/util/List;" (.ref b25) := F_rows_a1.other W120 (Or.inl ne_a1_b47)
  have F_cost_a1 : Fld Z h120 a1 "com/example/regolo/regolo/engine/Relaxation" "cost" "[D" (.ref b37) := F_cost_a1.other W120 (Or.inl ne_a1_b47)
  have F_lower_a1 : Fld Z h120 a1 "com/example/regolo/regolo/engine/Relaxation" "lower" "[D" (.ref b41) := F_lower_a1.other W120 (Or.inl ne_a1_b47)
  have F_upper_a1 : Fld Z h120 a1 "com/example/regolo/regolo/engine/Relaxation" "upper" "[D" (.ref b44) := F_upper_a1.other W120 (Or.inl ne_a1_b47)
  have F_value_a1 : Fld Z h120 a1 "com/example/regolo/regolo/engine/Relaxation" "value" "[D" (.ref b47) := F_value_a1.other W120 (Or.inl ne_a1_b47)
  have F_status_a1 : Fld Z h120 a1 "com/example/regolo/regolo/engine/Relaxation" "status" "[I" (.ref b50) := F_status_a1.other W120 (Or.inl ne_a1_b47)
  have F_reduced_a1 : Fld Z h120 a1 "com/example/regolo/regolo/engine/Relaxation" "reduced" "[D" (.ref b53) := F_reduced_a1.other W120 (Or.inl ne_a1_b47)
  have F_columns_a1 : Fld Z h120 a1 "com/example/regolo/regolo/engine/Relaxation" "columns" "I" (.int (3 : Int32)) := F_columns_a1.other W120 (Or.inl ne_a1_b47)
  have A_a2 : ArD Z h120 a2 (3 : Int32) f := A_a2.other W120 ne_a2_b47
  have E_a2 : Exa Z h120 a2 "[D" := E_a2.wr W120
  have Ol : Old Z n0 h120 := Ol.wr W120 g_b47
  have Kp : Keep h0 h120 [a1] := Kp.wr W120 (Or.inr sz_b47)
  have E_b25 : Exa Z h120 b25 "java/util/ArrayList" := E_b25.wr W120
  have F_elementData_b25 : Fld Z h120 b25 "java/util/ArrayList" "elementData" "[Ljava/lang/Object;" (.ref dd) := F_elementData_b25.other W120 (Or.inl ne_b25_b47)
  have F_size_b25 : Fld Z h120 b25 "java/util/ArrayList" "size" "I" (.int (0 : Int32)) := F_size_b25.other W120 (Or.inl ne_b25_b47)
  have F_modCount_b25 : Fld Z h120 b25 "java/util/AbstractList" "modCount" "I" (.int (0 : Int32)) := F_modCount_b25.other W120 (Or.inl ne_b25_b47)
  have E_b37 : Exa Z h120 b37 "[D" := E_b37.wr W120
  have A_b37 : ArD Z h120 b37 (3 : Int32) f := A_b37.other W120 ne_b37_b47
  have E_b41 : Exa Z h120 b41 "[D" := E_b41.wr W120
  have A_b41 : ArD Z h120 b41 (3 : Int32) (fun _ => 0) := A_b41.other W120 ne_b41_b47
  have E_b44 : Exa Z h120 b44 "[D" := E_b44.wr W120
  have E_b47 : Exa Z h120 b47 "[D" := E_b47.wr W120
  have E_b50 : Exa Z h120 b50 "[I" := E_b50.wr W120
  have A_b50 : ArI Z h120 b50 (3 : Int32) (upd (upd (upd (fun _ => 0) (0 : Int32).toNatClampNeg z158_s0) (1 : Int32).toNatClampNeg z158_s0_2) (2 : Int32).toNatClampNeg z158_s0_3) := A_b50.other W120 (Ne.symm ne_b47_b50)
  have E_b53 : Exa Z h120 b53 "[D" := E_b53.wr W120
  have A_b53 : ArD Z h120 b53 (3 : Int32) (upd (upd (fun _ => 0) (0 : Int32).toNatClampNeg (f (0 : Int32).toNatClampNeg)) (1 : Int32).toNatClampNeg (f (1 : Int32).toNatClampNeg)) := A_b53.other W120 (Ne.symm ne_b47_b53)
  have A_b44 : ArD Z h120 b44 (3 : Int32) (upd (upd (upd (fun _ => 0) (0 : Int32).toNatClampNeg (1 : Int64)) (1 : Int32).toNatClampNeg (1 : Int64)) (2 : Int32).toNatClampNeg (1 : Int64)) := A_b44.other W120 ne_b44_b47
  have A_b47 : ArD Z h120 b47 (3 : Int32) (upd (upd (upd (fun _ => 0) (0 : Int32).toNatClampNeg z177_s0) (1 : Int32).toNatClampNeg z177_s0_2) (2 : Int32).toNatClampNeg z177_s0_3) := ArD.set A_b47 W120
  obtain ⟨T121, X121, e121, st121⟩ := getF X120 hx hZ hown (host := "") (Or.inl (hw _ (List.mem_of_getElem? (i := 72) rfl))) Via.refl e120 F_reduced_a1 (g := (mkF m 179 #[.val (.ref a1), .val (.ref a2), .val (.int (2 : Int32))] [(.ref a1)])) rfl rfl (hb hby d3_179)
  obtain ⟨cl122, Ar122, hs122, hin122, hat122⟩ := ArD.open (j := (2 : Int32)) A_a2 (by decide)
  obtain ⟨cl123, Ar123, hs123, hin123, hat123⟩ := ArD.open (j := (2 : Int32)) A_b53 (by decide)
  obtain ⟨T124, h124, X124, e124, W124, st124⟩ := stD X121 hx hZ e121 Ar123 (j := (2 : Int32)) hin123 (g := (mkF m 186 #[.val (.ref a1), .val (.ref a2), .val (.int (2 : Int32))] [(.double (FP.l2d (f (2 : Int32).toNatClampNeg))), (.int (2 : Int32)), (.ref b53)])) rfl rfl (hb hby d3_186)
  have N124 := Fr.snoc X124 N120 g_b53
  have Zs : n0 ≤ h124.size := Nat.le_trans Zs (Keep.of_wr W124).1
  have E_a1 : Exa Z h124 a1 "com/example/regolo/regolo/engine/Relaxation" := E_a1.wr W124
  have F_rows_a1 : Fld Z h124 a1 "com/example/regolo/regolo/engine/Relaxation" "rows" "Ljava/util/List;" (.ref b25) := F_rows_a1.other W124 (Or.inl ne_a1_b53)
  have F_cost_a1 : Fld Z h124 a1 "com/example/regolo/regolo/engine/Relaxation" "cost" "[D" (.ref b37) := F_cost_a1.other W124 (Or.inl ne_a1_b53)
  have F_lower_a1 : Fld Z h124 a1 "com/example/regolo/regolo/engine/Relaxation" "lower" "[D" (.ref b41) := F_lower_a1.other W124 (Or.inl ne_a1_b53)
  have F_upper_a1 : Fld Z h124 a1 "com/example/regolo/regolo/engine/Relaxation" "upper" "[D" (.ref b44) := F_upper_a1.other W124 (Or.inl ne_a1_b53)
  have F_value_a1 : Fld Z h124 a1 "com/example/regolo/regolo/engine/Relaxation" "value" "[D" (.ref b47) := F_value_a1.other W124 (Or.inl ne_a1_b53)
  have F_status_a1 : Fld Z h124 a1 "com/example/regolo/regolo/engine/Relaxation" "status" "[I" (.ref b50) := F_status_a1.other W124 (Or.inl ne_a1_b53)
  have F_reduced_a1 : Fld Z h124 a1 "com/example/regolo/regolo/engine/Relaxation" "reduced" "[D" (.ref b53) := F_reduced_a1.other W124 (Or.inl ne_a1_b53)
  have F_columns_a1 : Fld Z h124 a1 "com/example/regolo/regolo/engine/Relaxation" "columns" "I" (.int (3 : Int32)) := F_columns_a1.other W124 (Or.inl ne_a1_b53)
  have A_a2 : ArD Z h124 a2 (3 : Int32) f := A_a2.other W124 ne_a2_b53
  have E_a2 : Exa Z h124 a2 "[D" := E_a2.wr W124
  have Ol : Old Z n0 h124 := Ol.wr W124 g_b53
  have Kp : Keep h0 h124 [a1] := Kp.wr W124 (Or.inr sz_b53)
  have E_b25 : Exa Z h124 b25 "java/util/ArrayList" := E_b25.wr W124
  have F_elementData_b25 : Fld Z h124 b25 "java/util/ArrayList" "elementData" "[Ljava/lang/Object;" (.ref dd) := F_elementData_b25.other W124 (Or.inl ne_b25_b53)
  have F_size_b25 : Fld Z h124 b25 "java/util/ArrayList" "size" "I" (.int (0 : Int32)) := F_size_b25.other W124 (Or.inl ne_b25_b53)
  have F_modCount_b25 : Fld Z h124 b25 "java/util/AbstractList" "modCount" "I" (.int (0 : Int32)) := F_modCount_b25.other W124 (Or.inl ne_b25_b53)
  have E_b37 : Exa Z h124 b37 "[D" := E_b37.wr W124
  have A_b37 : ArD Z h124 b37 (3 : Int32) f := A_b37.other W124 ne_b37_b53
  have E_b41 : Exa Z h124 b41 "[D" := E_b41.wr W124
  have A_b41 : ArD Z h124 b41 (3 : Int32) (fun _ => 0) := A_b41.other W124 ne_b41_b53
  have E_b44 : Exa Z h124 b44 "[D" := E_b44.wr W124
  have E_b47 : Exa Z h124 b47 "[D" := E_b47.wr W124
  have A_b47 : ArD Z h124 b47 (3 : Int32) (upd (upd (upd (fun _ => 0) (0 : Int32).toNatClampNeg z177_s0) (1 : Int32).toNatClampNeg z177_s0_2) (2 : Int32).toNatClampNeg z177_s0_3) := A_b47.other W124 ne_b47_b53
  have E_b50 : Exa Z h124 b50 "[I" := E_b50.wr W124
  have A_b50 : ArI Z h124 b50 (3 : Int32) (upd (upd (upd (fun _ => 0) (0 : Int32).toNatClampNeg z158_s0) (1 : Int32).toNatClampNeg z158_s0_2) (2 : Int32).toNatClampNeg z158_s0_3) := A_b50.other W124 ne_b50_b53
  have E_b53 : Exa Z h124 b53 "[D" := E_b53.wr W124
  have A_b44 : ArD Z h124 b44 (3 : Int32) (upd (upd (upd (fun _ => 0) (0 : Int32).toNatClampNeg (1 : Int64)) (1 : Int32).toNatClampNeg (1 : Int64)) (2 : Int32).toNatClampNeg (1 : Int64)) := A_b44.other W124 ne_b44_b53
  have A_b53 : ArD Z h124 b53 (3 : Int32) (upd (upd (upd (fun _ => 0) (0 : Int32).toNatClampNeg (f (0 : Int32).toNatClampNeg)) (1 : Int32).toNatClampNeg (f (1 : Int32).toNatClampNeg)) (2 : Int32).toNatClampNeg (f (2 : Int32).toNatClampNeg)) := ArD.set A_b53 W124
  obtain ⟨T125, X125, e125, st125⟩ := getF X124 hx hZ hown (host := "") (Or.inl (hw _ (List.mem_of_getElem? (i := 52) rfl))) Via.refl e124 F_columns_a1 (g := (mkF m 134 #[.val (.ref a1), .val (.ref a2), .val (.int (3 : Int32))] [(.ref a1), (.int (3 : Int32))])) rfl rfl (hb hby d3_134)
  have pre126 : ∀ t, Steps p.tables e below (T125.setTop (mkF m 193 #[.val (.ref a1), .val (.ref a2), .val (.int (3 : Int32))] [])) t → Steps p.tables e below (s₁.setTop (entryFrame m #[(.ref a1), (.ref a2)] 3)) t := fun t k => pre118 t (by
    show Steps p.tables e below (T118.setTop (mkF m 177 #[.val (.ref a1), .val (.ref a2), .val (.int (2 : Int32))] [(.double (FP.l2d z177_s0_3)), (.int (2 : Int32)), (.ref b47)])) _
    refine st120 _ ?_
    show Steps p.tables e below (T120.setTop (mkF m 178 #[.val (.ref a1), .val (.ref a2), .val (.int (2 : Int32))] [])) _
    refine XS.aloadN X120.here hx rfl (hb hby d3_178) rfl rfl ?_
    show Steps p.tables e below (T120.setTop (mkF m 179 #[.val (.ref a1), .val (.ref a2), .val (.int (2 : Int32))] [(.ref a1)])) _
    refine st121 _ ?_
    show Steps p.tables e below (T121.setTop (mkF m 182 #[.val (.ref a1), .val (.ref a2), .val (.int (2 : Int32))] [(.ref b53)])) _
    refine XS.iloadN X121.here hx rfl (hb hby d3_182) rfl ?_
    show Steps p.tables e below (T121.setTop (mkF m 183 #[.val (.ref a1), .val (.ref a2), .val (.int (2 : Int32))] [(.int (2 : Int32)), (.ref b53)])) _
    refine XS.aloadN X121.here hx rfl (hb hby d3_183) rfl rfl ?_
    show Steps p.tables e below (T121.setTop (mkF m 184 #[.val (.ref a1), .val (.ref a2), .val (.int (2 : Int32))] [(.ref a2), (.int (2 : Int32)), (.ref b53)])) _
    refine XS.iloadN X121.here hx rfl (hb hby d3_184) rfl ?_
    show Steps p.tables e below (T121.setTop (mkF m 185 #[.val (.ref a1), .val (.ref a2), .val (.int (2 : Int32))] [(.int (2 : Int32)), (.ref a2), (.int (2 : Int32)), (.ref b53)])) _
    refine X121.daload hx (j := (2 : Int32)) (v := (.double (FP.l2d (f (2 : Int32).toNatClampNeg)))) (by rw [e121]; exact Ar122.1) (State.isArrayOf_alike hZ.alike Ar122.2.1) Ar122.2.2 hin122 hat122 (g := (mkF m 185 #[.val (.ref a1), .val (.ref a2), .val (.int (2 : Int32))] [(.int (2 : Int32)), (.ref a2), (.int (2 : Int32)), (.ref b53)])) rfl rfl (hb hby d3_185) _ ?_
    show Steps p.tables e below (T121.setTop (mkF m 186 #[.val (.ref a1), .val (.ref a2), .val (.int (2 : Int32))] [(.double (FP.l2d (f (2 : Int32).toNatClampNeg))), (.int (2 : Int32)), (.ref b53)])) _
    refine st124 _ ?_
    show Steps p.tables e below (T124.setTop (mkF m 187 #[.val (.ref a1), .val (.ref a2), .val (.int (2 : Int32))] [])) _
    refine XS.iinc X124.here hx rfl (hb hby d3_187) rfl (l' := #[.val (.ref a1), .val (.ref a2), .val (.int (3 : Int32))]) rfl ?_
    show Steps p.tables e below (T124.setTop (mkF m 190 #[.val (.ref a1), .val (.ref a2), .val (.int (3 : Int32))] [])) _
    refine XS.goto X124.here hx rfl (pc0 := 190) (pc' := 132) rfl (hb hby d3_190) (by decide) (by decide) ?_
    show Steps p.tables e below (T124.setTop (mkF m 132 #[.val (.ref a1), .val (.ref a2), .val (.int (3 : Int32))] [])) _
    refine XS.iloadN X124.here hx rfl (hb hby d3_132) rfl ?_
    show Steps p.tables e below (T124.setTop (mkF m 133 #[.val (.ref a1), .val (.ref a2), .val (.int (3 : Int32))] [(.int (3 : Int32))])) _
    refine XS.aloadN X124.here hx rfl (hb hby d3_133) rfl rfl ?_
    show Steps p.tables e below (T124.setTop (mkF m 134 #[.val (.ref a1), .val (.ref a2), .val (.int (3 : Int32))] [(.ref a1), (.int (3 : Int32))])) _
    refine st125 _ ?_
    show Steps p.tables e below (T125.setTop (mkF m 137 #[.val (.ref a1), .val (.ref a2), .val (.int (3 : Int32))] [(.int (3 : Int32)), (.int (3 : Int32))])) _
    refine XS.icmpYes X125.here hx rfl (pc0 := 137) (pc' := 193) rfl (hb hby d3_137) rfl (flt (by decide)).2.1 (by decide) (by decide) ?_
    exact k)
  subst hz158_s0 hz177_s0 hz158_s0_2 hz177_s0_2 hz158_s0_3 hz177_s0_3
  obtain ⟨fs, hr, hrun, hended, hW, hsame⟩ := X125.leave (v := none) (fun _ => rfl)
  refine ⟨_, _, pre126 _ ?_, hrun, hended, _, _, rfl, ?_, ⟨_, rfl⟩, hW, hsame.mono (by decide) (by decide)⟩
  · exact X125.returnOut hx Bd.returns (hb hby d3_193) hr
  · show QR Z a1 a2 f dd h0 n0 _ T125.heap _
    rw [e125]
    exact ⟨b25, b37, b41, b44, b47, b50, b53, rfl, N124, Kp, sz_b25, sz_b37, sz_b41, sz_b44, sz_b47, sz_b50, sz_b53, g_b25, g_b37, g_b41, g_b44, g_b47, g_b50, g_b53, ne_b25_b37, ne_b25_b41, ne_b25_b44, ne_b25_b47, ne_b25_b50, ne_b25_b53, ne_b37_b41, ne_b37_b44, ne_b37_b47, ne_b37_b50, ne_b37_b53, ne_b41_b44, ne_b41_b47, ne_b41_b50, ne_b41_b53, ne_b44_b47, ne_b44_b50, ne_b44_b53, ne_b47_b50, ne_b47_b53, ne_b50_b53, F_rows_a1, F_columns_a1, F_cost_a1, F_lower_a1, F_upper_a1, F_value_a1, F_status_a1, F_reduced_a1, E_b25, F_size_b25, A_b37, A_b41, A_b44, A_b47, A_b50, A_b53⟩
def QRows (Z : State) (a1 : Addr) (rl : Addr) (h0 : Heap) (n0 : Nat) (v : Option Value) (h : Heap) (L : List Loc) : Prop := v = some (.int (0 : Int32)) ∧ Fr n0 L ∧ h = h0
theorem ef_Rows (m : MethodId) (a1 : Addr) : entryFrame m #[(.ref a1)] 1 = mkF m 0 #[.val (.ref a1)] [] := by first | (simp [entryFrame, mkF, argsToLocals, Value.category]; done) | rfl
set_option maxRecDepth 65536 in
set_option maxHeartbeats 40000000 in
theorem rmRows (l : Launch) (Z : State) (a0 : Array Value) (hw : ∀ d ∈ tables_1, d.before a0 Z = true) (ws : List Jvm.Cond) (a1 : Addr) (rl : Addr) (h0 : Heap) (n0 : Nat) (Zs : n0 ≤ h0.size) (F_rows_a1 : Fld Z h0 a1 "com/example/regolo/regolo/engine/Relaxation" "rows" "Ljava/util/List;" (.ref rl)) (E_rl : Exa Z h0 rl "java/util/ArrayList") (F_size_rl : Fld Z h0 rl "java/util/ArrayList" "size" "I" (.int (0 : Int32))) :
    MetFree l (⟨"com/example/regolo/regolo/engine/Relaxation", "rows", "()I"⟩ : MethodName) (head1 (Jvm.Cond.code (⟨"com/example/regolo/regolo/engine/Relaxation", "rows", "()I"⟩ : MethodName) prog_62_method_2_code 1 (some .int) :: ws) ({ frames := 1, cells := 0, slots := 0, locals := 12 } : Room)) (fun a U => a = #[(.ref a1)] ∧ Z.Warmed39 U.vm ∧ U.heap = h0) (fun _ _ _ _ _ => True) (fun _ U o U' => ∃ v L, o = .returned v ∧ QRows Z a1 rl h0 n0 v U'.heap L ∧ FrameEnd U o U' L ({ frames := 1, cells := 0, slots := 0, locals := 12 } : Room).cells ({ frames := 1, cells := 0, slots := 0, locals := 12 } : Room).slots) := by
  refine MetFree.of_bodySF (plainFor_of_name pn_4) hisR ?_
  intro p e s m args below meth c s₁ Bd hml0 hP hK
  obtain ⟨rfl, hZ, hh⟩ := hP
  have hx := Bd.exec
  have hby := Bd.bytes
  have hml : c.maxLocals = 1 := hml0
  have hown : s.vm.findClass "com/example/regolo/regolo/engine/Relaxation" = some m.cls := findClass_of_methodNamed Bd.named
  have hnm := (name_of_methodNamed Bd.named Bd.method).1
  have X0 : Stand p l e ({ frames := 1, cells := 0, slots := 0, locals := 12 } : Room) s m #[(.ref a1)] below meth c s₁ [] 0 0 := Stand.of_body Bd
  have e0 : s₁.heap = h0 := by rw [← hh, Bd.state]; rfl
  have N0 := Fr.nil n0
  have pre0 : ∀ t, Steps p.tables e below (s₁.setTop (mkF m 0 #[.val (.ref a1)] [])) t → Steps p.tables e below (s₁.setTop (entryFrame m #[(.ref a1)] 1)) t := fun t k => castTop (ef_Rows m a1) k
  obtain ⟨T127, X127, e127, st127⟩ := getF X0 hx hZ hown (host := "") (Or.inl (hw _ (List.mem_of_getElem? (i := 41) rfl))) Via.refl e0 F_rows_a1 (g := (mkF m 1 #[.val (.ref a1)] [(.ref a1)])) rfl rfl (hb hby d12_1)
  obtain ⟨cq128, kq128, q128a, q128b, q128c⟩ := isOf hZ e127 E_rl
  obtain ⟨_, _, ⟨T128, L128, k128, n128⟩, -, X128, ⟨Lc128, hQ128, l128, y128, z128⟩, st128⟩ := X127.interfaceBack hx (xi := (⟨"java/util/List", "size", "()I"⟩ : MethodName)) (y := (⟨"java/util/ArrayList", "size", "()I"⟩ : MethodName)) hown (mvT hZ (hw _ (List.mem_of_getElem? (i := 97) rfl))) (mvT hZ (hw _ (List.mem_of_getElem? (i := 98) rfl))) (mvT hZ (hw _ (List.mem_of_getElem? (i := 99) rfl))) (mvT hZ (hw _ (List.mem_of_getElem? (i := 100) rfl))) (mvT hZ (hw _ (List.mem_of_getElem? (i := 101) rfl))) (mvT hZ (hw _ (List.mem_of_getElem? (i := 102) rfl))) (mvT hZ (hw _ (List.mem_of_getElem? (i := 103) rfl))) (mvT hZ (hw _ (List.mem_of_getElem? (i := 104) rfl))) (by decide) (backOf (W := 0) (rmSZ l Z a0 hw [] rl h0 n0 Zs F_size_rl) hZ (hw _ (List.mem_of_getElem? (i := 105) rfl)) (hw _ (List.mem_of_getElem? (i := 19) rfl)) (by decide) (by decide)) q128a q128b q128c (g := (mkF m 4 #[.val (.ref a1)] [(.ref rl)])) rfl (by rw [hml]; rfl) (Steps.refl _) (argsL := []) (rest := []) (lenOf pd_3 rfl) rfl (by show 2 * 0 + _ ≤ _; exact Nat.le_of_eq rfl) (hb hby d12_4) (fun _ _ => ⟨rfl, e127, (by decide : 0 + 0 ≤ _), (by decide : 0 + 0 ≤ _)⟩)
  dsimp only [Pt.U, Pt.locs, Pt.cells, Pt.slots] at X128 l128 y128 z128 st128 hQ128
  subst l128 y128 z128
  obtain ⟨rfl, N128q, e128⟩ := hQ128
  have N128 := Fr.app N0 N128q
  obtain ⟨fs, hr, hrun, hended, hW, hsame⟩ := X128.leave (v := some (.int (0 : Int32))) (fun h => by rw [Bd.returns] at h; cases h)
  refine ⟨_, _, pre0 _ ?_, hrun, hended, _, _, rfl, ?_, ⟨_, rfl⟩, hW, hsame.mono (by decide) (by decide)⟩
  · show Steps p.tables e below (s₁.setTop (mkF m 0 #[.val (.ref a1)] [])) _
    refine XS.aloadN X0.here hx rfl (hb hby d12_0) rfl rfl ?_
    show Steps p.tables e below (s₁.setTop (mkF m 1 #[.val (.ref a1)] [(.ref a1)])) _
    refine st127 _ ?_
    show Steps p.tables e below (T127.setTop (mkF m 4 #[.val (.ref a1)] [(.ref rl)])) _
    refine st128.trans ?_
    show Steps p.tables e below (T128.setTop (mkF m 9 #[.val (.ref a1)] [(.int (0 : Int32))])) _
    exact retI X128 hx Bd.returns (hb hby d12_9) hr
  · show QRows Z a1 rl h0 n0 _ T128.heap _
    rw [e128]
    exact ⟨rfl, N128, rfl⟩
def QMv (Z : State) (a1 : Addr) (p2 : Int32) (q3 : Int64) (rl : Addr) (va : Addr) (fv : Nat → Int64) (h0 : Heap) (n0 : Nat) (v : Option Value) (h : Heap) (L : List Loc) : Prop := v = none ∧ Fr n0 L ∧ (Keep h0 h [va]) ∧ (ArD Z h va (3 : Int32) (upd fv p2.toNatClampNeg q3))
theorem ef_Mv (m : MethodId) (a1 : Addr) (p2 : Int32) (xd2 : UInt64) : entryFrame m #[(.ref a1), (.int p2), (.double xd2)] 9 = mkF m 0 #[.val (.ref a1), .val (.int p2), .val (.double xd2), .second, .unset, .unset, .unset, .unset, .unset] [] := by first | (simp [entryFrame, mkF, argsToLocals, Value.category]; done) | rfl
set_option maxRecDepth 65536 in
set_option maxHeartbeats 40000000 in
theorem rmMv (l : Launch) (Z : State) (a0 : Array Value) (hw : ∀ d ∈ tables_1, d.before a0 Z = true) (ws : List Jvm.Cond) (a1 : Addr) (p2 : Int32) (q3 : Int64) (rl : Addr) (va : Addr) (fv : Nat → Int64) (h0 : Heap) (n0 : Nat) (Zs : n0 ≤ h0.size) (E_a1 : Exa Z h0 a1 "com/example/regolo/regolo/engine/Relaxation") (F_rows_a1 : Fld Z h0 a1 "com/example/regolo/regolo/engine/Relaxation" "rows" "Ljava/util/List;" (.ref rl)) (F_value_a1 : Fld Z h0 a1 "com/example/regolo/regolo/engine/Relaxation" "value" "[D" (.ref va)) (E_rl : Exa Z h0 rl "java/util/ArrayList") (F_size_rl : Fld Z h0 rl "java/util/ArrayList" "size" "I" (.int (0 : Int32))) (A_va : ArD Z h0 va (3 : Int32) fv) (g_va : n0 ≤ va) (ne_a1_va : a1 ≠ va) (ne_a1_rl : a1 ≠ rl) (ne_va_rl : va ≠ rl) (hi : ¬ p2 < (0 : Int32) ∧ p2 < (3 : Int32)) (hq : Sm q3) (hV : ∀ j, Sm (fv j)) :
    MetFree l (⟨"com/example/regolo/regolo/engine/Relaxation", "move", "(ID)V"⟩ : MethodName) (head1 (Jvm.Cond.code (⟨"com/example/regolo/regolo/engine/Relaxation", "move", "(ID)V"⟩ : MethodName) prog_62_method_18_code 9 none :: ws) ({ frames := 2, cells := 0, slots := 0, locals := 24 } : Room)) (fun a U => a = #[(.ref a1), (.int p2), (.double (FP.l2d q3))] ∧ Z.Warmed39 U.vm ∧ U.heap = h0) (fun _ _ _ _ _ => True) (fun _ U o U' => ∃ v L, o = .returned v ∧ QMv Z a1 p2 q3 rl va fv h0 n0 v U'.heap L ∧ FrameEnd U o U' L ({ frames := 2, cells := 0, slots := 0, locals := 24 } : Room).cells ({ frames := 2, cells := 0, slots := 0, locals := 24 } : Room).slots) := by
  refine MetFree.of_bodySF (plainFor_of_name pn_4) hisR ?_
  intro p e s m args below meth c s₁ Bd hml0 hP hK
  obtain ⟨rfl, hZ, hh⟩ := hP
  have hx := Bd.exec
  have hby := Bd.bytes
  have hml : c.maxLocals = 9 := hml0
  have hown : s.vm.findClass "com/example/regolo/regolo/engine/Relaxation" = some m.cls := findClass_of_methodNamed Bd.named
  have hnm := (name_of_methodNamed Bd.named Bd.method).1
  have X0 : Stand p l e ({ frames := 2, cells := 0, slots := 0, locals := 24 } : Room) s m #[(.ref a1), (.int p2), (.double (FP.l2d q3))] below meth c s₁ [] 0 0 := Stand.of_body Bd
  have e0 : s₁.heap = h0 := by rw [← hh, Bd.state]; rfl
  have N0 := Fr.nil n0
  have pre0 : ∀ t, Steps p.tables e below (s₁.setTop (mkF m 0 #[.val (.ref a1), .val (.int p2), .val (.double (FP.l2d q3)), .second, .unset, .unset, .unset, .unset, .unset] [])) t → Steps p.tables e below (s₁.setTop (entryFrame m #[(.ref a1), (.int p2), (.double (FP.l2d q3))] 9)) t := fun t k => castTop (ef_Mv m a1 p2 (FP.l2d q3)) k
  have Kp : Keep h0 h0 [va] := Keep.refl h0 [va]
  obtain ⟨T129, X129, e129, st129⟩ := getF X0 hx hZ hown (host := "") (Or.inl (hw _ (List.mem_of_getElem? (i := 68) rfl))) Via.refl e0 F_value_a1 (g := (mkF m 2 #[.val (.ref a1), .val (.int p2), .val (.double (FP.l2d q3)), .second, .unset, .unset, .unset, .unset, .unset] [(.ref a1), (.double (FP.l2d q3))])) rfl rfl (hb hby d11_2)
  obtain ⟨cl130, Ar130, hs130, hin130, hat130⟩ := ArD.open (j := p2) A_va hi
  obtain ⟨T131, X131, e131, st131⟩ := getF X129 hx hZ hown (host := "") (Or.inl (hw _ (List.mem_of_getElem? (i := 68) rfl))) Via.refl e129 F_value_a1 (g := (mkF m 11 #[.val (.ref a1), .val (.int p2), .val (.double (FP.l2d q3)), .second, .val (.double (FP.l2d (q3 - (fv p2.toNatClampNeg)))), .second, .unset, .unset, .unset] [(.ref a1)])) rfl rfl (hb hby d11_11)
  obtain ⟨cl132, Ar132, hs132, hin132, hat132⟩ := ArD.open (j := p2) A_va hi
  obtain ⟨T133, h133, X133, e133, W133, st133⟩ := stD X131 hx hZ e131 Ar132 (j := p2) hin132 (g := (mkF m 16 #[.val (.ref a1), .val (.int p2), .val (.double (FP.l2d q3)), .second, .val (.double (FP.l2d (q3 - (fv p2.toNatClampNeg)))), .second, .unset, .unset, .unset] [(.double (FP.l2d q3)), (.int p2), (.ref va)])) rfl rfl (hb hby d11_16)
  have N133 := Fr.snoc X133 N0 g_va
  have Zs : n0 ≤ h133.size := Nat.le_trans Zs (Keep.of_wr W133).1
  have E_a1 : Exa Z h133 a1 "com/example/regolo/regolo/engine/Relaxation" := E_a1.wr W133
  have F_rows_a1 : Fld Z h133 a1 "com/example/regolo/regolo/engine/Relaxation" "rows" "Ljava/util/List;" (.ref rl) := F_rows_a1.other W133 (Or.inl ne_a1_va)
  have F_value_a1 : Fld Z h133 a1 "com/example/regolo/regolo/engine/Relaxation" "value" "[D" (.ref va) := F_value_a1.other W133 (Or.inl ne_a1_va)
  have E_rl : Exa Z h133 rl "java/util/ArrayList" := E_rl.wr W133
  have F_size_rl : Fld Z h133 rl "java/util/ArrayList" "size" "I" (.int (0 : Int32)) := F_size_rl.other W133 (Or.inl (Ne.symm ne_va_rl))
  have Kp : Keep h0 h133 [va] := Kp.wr W133 (Or.inl (List.mem_of_getElem? (i := 0) rfl))
  have A_va : ArD Z h133 va (3 : Int32) (upd fv p2.toNatClampNeg q3) := ArD.set A_va W133
  have pre134 : ∀ t, Steps p.tables e below (T133.setTop (mkF m 21 #[.val (.ref a1), .val (.int p2), .val (.double (FP.l2d q3)), .second, .val (.double (FP.l2d (q3 - (fv p2.toNatClampNeg)))), .second, .unset, .unset, .unset] [(.int (lcmpW (q3 - (fv p2.toNatClampNeg)) (0 : Int64)))])) t → Steps p.tables e below (s₁.setTop (entryFrame m #[(.ref a1), (.int p2), (.double (FP.l2d q3))] 9)) t := fun t k => pre0 t (by
    show Steps p.tables e below (s₁.setTop (mkF m 0 #[.val (.ref a1), .val (.int p2), .val (.double (FP.l2d q3)), .second, .unset, .unset, .unset, .unset, .unset] [])) _
    refine XS.dloadN X0.here hx rfl (hb hby d11_0) rfl ?_
    show Steps p.tables e below (s₁.setTop (mkF m 1 #[.val (.ref a1), .val (.int p2), .val (.double (FP.l2d q3)), .second, .unset, .unset, .unset, .unset, .unset] [(.double (FP.l2d q3))])) _
    refine XS.aloadN X0.here hx rfl (hb hby d11_1) rfl rfl ?_
    show Steps p.tables e below (s₁.setTop (mkF m 2 #[.val (.ref a1), .val (.int p2), .val (.double (FP.l2d q3)), .second, .unset, .unset, .unset, .unset, .unset] [(.ref a1), (.double (FP.l2d q3))])) _
    refine st129 _ ?_
    show Steps p.tables e below (T129.setTop (mkF m 5 #[.val (.ref a1), .val (.int p2), .val (.double (FP.l2d q3)), .second, .unset, .unset, .unset, .unset, .unset] [(.ref va), (.double (FP.l2d q3))])) _
    refine XS.iloadN X129.here hx rfl (hb hby d11_5) rfl ?_
    show Steps p.tables e below (T129.setTop (mkF m 6 #[.val (.ref a1), .val (.int p2), .val (.double (FP.l2d q3)), .second, .unset, .unset, .unset, .unset, .unset] [(.int p2), (.ref va), (.double (FP.l2d q3))])) _
    refine X129.daload hx (j := p2) (v := (.double (FP.l2d (fv p2.toNatClampNeg)))) (by rw [e129]; exact Ar130.1) (State.isArrayOf_alike hZ.alike Ar130.2.1) Ar130.2.2 hin130 hat130 (g := (mkF m 6 #[.val (.ref a1), .val (.int p2), .val (.double (FP.l2d q3)), .second, .unset, .unset, .unset, .unset, .unset] [(.int p2), (.ref va), (.double (FP.l2d q3))])) rfl rfl (hb hby d11_6) _ ?_
    show Steps p.tables e below (T129.setTop (mkF m 7 #[.val (.ref a1), .val (.int p2), .val (.double (FP.l2d q3)), .second, .unset, .unset, .unset, .unset, .unset] [(.double (FP.l2d (fv p2.toNatClampNeg))), (.double (FP.l2d q3))])) _
    refine XS.dsubS X129.here hx rfl (hb hby d11_7) rfl (nn_w (dsub_w (own_b hq) (own_b (hV _)))) (dsub_w (own_b hq) (own_b (hV _))) ?_
    show Steps p.tables e below (T129.setTop (mkF m 8 #[.val (.ref a1), .val (.int p2), .val (.double (FP.l2d q3)), .second, .unset, .unset, .unset, .unset, .unset] [(.double (FP.l2d (q3 - (fv p2.toNatClampNeg))))])) _
    refine XS.dstore X129.here hx rfl (hb hby d11_8) rfl (l' := #[.val (.ref a1), .val (.int p2), .val (.double (FP.l2d q3)), .second, .val (.double (FP.l2d (q3 - (fv p2.toNatClampNeg)))), .second, .unset, .unset, .unset]) rfl ?_
    show Steps p.tables e below (T129.setTop (mkF m 10 #[.val (.ref a1), .val (.int p2), .val (.double (FP.l2d q3)), .second, .val (.double (FP.l2d (q3 - (fv p2.toNatClampNeg)))), .second, .unset, .unset, .unset] [])) _
    refine XS.aloadN X129.here hx rfl (hb hby d11_10) rfl rfl ?_
    show Steps p.tables e below (T129.setTop (mkF m 11 #[.val (.ref a1), .val (.int p2), .val (.double (FP.l2d q3)), .second, .val (.double (FP.l2d (q3 - (fv p2.toNatClampNeg)))), .second, .unset, .unset, .unset] [(.ref a1)])) _
    refine st131 _ ?_
    show Steps p.tables e below (T131.setTop (mkF m 14 #[.val (.ref a1), .val (.int p2), .val (.double (FP.l2d q3)), .second, .val (.double (FP.l2d (q3 - (fv p2.toNatClampNeg)))), .second, .unset, .unset, .unset] [(.ref va)])) _
    refine XS.iloadN X131.here hx rfl (hb hby d11_14) rfl ?_
    show Steps p.tables e below (T131.setTop (mkF m 15 #[.val (.ref a1), .val (.int p2), .val (.double (FP.l2d q3)), .second, .val (.double (FP.l2d (q3 - (fv p2.toNatClampNeg)))), .second, .unset, .unset, .unset] [(.int p2), (.ref va)])) _
    refine XS.dloadN X131.here hx rfl (hb hby d11_15) rfl ?_
    show Steps p.tables e below (T131.setTop (mkF m 16 #[.val (.ref a1), .val (.int p2), .val (.double (FP.l2d q3)), .second, .val (.double (FP.l2d (q3 - (fv p2.toNatClampNeg)))), .second, .unset, .unset, .unset] [(.double (FP.l2d q3)), (.int p2), (.ref va)])) _
    refine st133 _ ?_
    show Steps p.tables e below (T133.setTop (mkF m 17 #[.val (.ref a1), .val (.int p2), .val (.double (FP.l2d q3)), .second, .val (.double (FP.l2d (q3 - (fv p2.toNatClampNeg)))), .second, .unset, .unset, .unset] [])) _
    refine XS.dload X133.here hx rfl (hb hby d11_17) rfl ?_
    show Steps p.tables e below (T133.setTop (mkF m 19 #[.val (.ref a1), .val (.int p2), .val (.double (FP.l2d q3)), .second, .val (.double (FP.l2d (q3 - (fv p2.toNatClampNeg)))), .second, .unset, .unset, .unset] [(.double (FP.l2d (q3 - (fv p2.toNatClampNeg))))])) _
    refine XS.dconst0 X133.here hx rfl (hb hby d11_19) own_dc0 ?_
    show Steps p.tables e below (T133.setTop (mkF m 20 #[.val (.ref a1), .val (.int p2), .val (.double (FP.l2d q3)), .second, .val (.double (FP.l2d (q3 - (fv p2.toNatClampNeg)))), .second, .unset, .unset, .unset] [(.double (FP.l2d (0 : Int64))), (.double (FP.l2d (q3 - (fv p2.toNatClampNeg))))])) _
    refine XS.dcmpS X133.here hx rfl (hb hby d11_20) rfl (dcmpV_w (own_bs hq (hV _)) own_b0 .l) ?_
    exact k)
  by_cases hc21 : (q3 - (fv p2.toNatClampNeg)) = (0 : Int64)
  ·
    obtain ⟨fs, hr, hrun, hended, hW, hsame⟩ := X133.leave (v := none) (fun _ => rfl)
    refine ⟨_, _, pre134 _ ?_, hrun, hended, _, _, rfl, ?_, ⟨_, rfl⟩, hW, hsame.mono (by decide) (by decide)⟩
    · show Steps p.tables e below (T133.setTop (mkF m 21 #[.val (.ref a1), .val (.int p2), .val (.double (FP.l2d q3)), .second, .val (.double (FP.l2d (q3 - (fv p2.toNatClampNeg)))), .second, .unset, .unset, .unset] [(.int (lcmpW (q3 - (fv p2.toNatClampNeg)) (0 : Int64)))])) _
      refine XS.ifYes X133.here hx rfl (pc0 := 21) (pc' := 31) rfl (hb hby d11_21) rfl ((if0 _ _).trans (teq ((lw_eq (q3 - (fv p2.toNatClampNeg)) (0 : Int64)).mpr hc21)).1) (by decide) (by decide) ?_
      show Steps p.tables e below (T133.setTop (mkF m 31 #[.val (.ref a1), .val (.int p2), .val (.double (FP.l2d q3)), .second, .val (.double (FP.l2d (q3 - (fv p2.toNatClampNeg)))), .second, .unset, .unset, .unset] [])) _
      exact X133.returnOut hx Bd.returns (hb hby d11_31) hr
    · show QMv Z a1 p2 q3 rl va fv h0 n0 _ T133.heap _
      rw [e133]
      exact ⟨rfl, N133, Kp, A_va⟩
  ·
    obtain ⟨cq135, kq135, q135a, q135b, q135c⟩ := isOf hZ e133 E_a1
    obtain ⟨_, _, ⟨T135, L135, k135, n135⟩, -, X135, ⟨Lc135, hQ135, l135, y135, z135⟩, st135⟩ := X133.virtualBack hx (y := (⟨"com/example/regolo/regolo/engine/Relaxation", "rows", "()I"⟩ : MethodName)) (z := (⟨"com/example/regolo/regolo/engine/Relaxation", "rows", "()I"⟩ : MethodName)) hown (mvT hZ (hw _ (List.mem_of_getElem? (i := 92) rfl))) (mvT hZ (hw _ (List.mem_of_getElem? (i := 93) rfl))) (notFace_of_selects (args := #[]) (mvT hZ (hw _ (List.mem_of_getElem? (i := 95) rfl)))) (mvT hZ (hw _ (List.mem_of_getElem? (i := 95) rfl))) (mvT hZ (hw _ (List.mem_of_getElem? (i := 94) rfl))) (by decide) (backOf (W := 0) (rmRows l Z a0 hw [] a1 rl h133 n0 Zs F_rows_a1 E_rl F_size_rl) hZ (hw _ (List.mem_of_getElem? (i := 96) rfl)) (hw _ (List.mem_of_getElem? (i := 10) rfl)) (by decide) (by decide)) q135a q135c (g := (mkF m 25 #[.val (.ref a1), .val (.int p2), .val (.double (FP.l2d q3)), .second, .val (.double (FP.l2d (q3 - (fv p2.toNatClampNeg)))), .second, .unset, .unset, .unset] [(.ref a1)])) rfl (by rw [hml]; rfl) (Steps.refl _) (argsL := []) (rest := []) (lenOf pd_3 rfl) rfl (by show 2 * 0 + _ ≤ _; exact Nat.le_of_eq rfl) (hb hby d11_25) (fun _ _ => ⟨rfl, e133, (by decide : 0 + 0 ≤ _), (by decide : 0 + 0 ≤ _)⟩)
    dsimp only [Pt.U, Pt.locs, Pt.cells, Pt.slots] at X135 l135 y135 z135 st135 hQ135
    subst l135 y135 z135
    obtain ⟨rfl, N135q, e135⟩ := hQ135
    have N135 := Fr.app N133 N135q
    obtain ⟨fs, hr, hrun, hended, hW, hsame⟩ := X135.leave (v := none) (fun _ => rfl)
    refine ⟨_, _, pre134 _ ?_, hrun, hended, _, _, rfl, ?_, ⟨_, rfl⟩, hW, hsame.mono (by decide) (by decide)⟩
    · show Steps p.tables e below (T133.setTop (mkF m 21 #[.val (.ref a1), .val (.int p2), .val (.double (FP.l2d q3)), .second, .val (.double (FP.l2d (q3 - (fv p2.toNatClampNeg)))), .second, .unset, .unset, .unset] [(.int (lcmpW (q3 - (fv p2.toNatClampNeg)) (0 : Int64)))])) _
      refine XS.ifNo X133.here hx rfl (hb hby d11_21) rfl ((if0 _ _).trans (feq (fun q => hc21 ((lw_eq (q3 - (fv p2.toNatClampNeg)) (0 : Int64)).mp q))).1) ?_
      show Steps p.tables e below (T133.setTop (mkF m 24 #[.val (.ref a1), .val (.int p2), .val (.double (FP.l2d q3)), .second, .val (.double (FP.l2d (q3 - (fv p2.toNatClampNeg)))), .second, .unset, .unset, .unset] [])) _
      refine XS.aloadN X133.here hx rfl (hb hby d11_24) rfl rfl ?_
      show Steps p.tables e below (T133.setTop (mkF m 25 #[.val (.ref a1), .val (.int p2), .val (.double (FP.l2d q3)), .second, .val (.double (FP.l2d (q3 - (fv p2.toNatClampNeg)))), .second, .unset, .unset, .unset] [(.ref a1)])) _
      refine st135.trans ?_
      show Steps p.tables e below (T135.setTop (mkF m 28 #[.val (.ref a1), .val (.int p2), .val (.double (FP.l2d q3)), .second, .val (.double (FP.l2d (q3 - (fv p2.toNatClampNeg)))), .second, .unset, .unset, .unset] [(.int (0 : Int32))])) _
      refine XS.ifNo X135.here hx rfl (hb hby d11_28) rfl ((if0 _ _).trans (teq (by decide)).2) ?_
      show Steps p.tables e below (T135.setTop (mkF m 31 #[.val (.ref a1), .val (.int p2), .val (.double (FP.l2d q3)), .second, .val (.double (FP.l2d (q3 - (fv p2.toNatClampNeg)))), .second, .unset, .unset, .unset] [])) _
      exact X135.returnOut hx Bd.returns (hb hby d11_31) hr
    · show QMv Z a1 p2 q3 rl va fv h0 n0 _ T135.heap _
      rw [e135]
      exact ⟨rfl, N135, Kp, A_va⟩
def QB (Z : State) (a1 : Addr) (p2 : Int32) (q3 : Int64) (q4 : Int64) (rl : Addr) (lo : Addr) (up : Addr) (va : Addr) (sa : Addr) (re : Addr) (fl : Nat → Int64) (fu : Nat → Int64) (fv : Nat → Int64) (fst : Nat → Int32) (fr : Nat → Int64) (h0 : Heap) (n0 : Nat) (v : Option Value) (h : Heap) (L : List Loc) : Prop := v = none ∧ Fr n0 L ∧ (Keep h0 h [lo, up, va, sa]) ∧ (ArD Z h lo (3 : Int32) (upd fl p2.toNatClampNeg q3)) ∧ (ArD Z h up (3 : Int32) (upd fu p2.toNatClampNeg q4)) ∧ (ArD Z h va (3 : Int32) (upd fv p2.toNatClampNeg (if (own_z (fr p2.toNatClampNeg) (fst p2.toNatClampNeg)) = (0 : Int32) then q3 else q4))) ∧ (ArI Z h sa (3 : Int32) (upd fst p2.toNatClampNeg (if (own_z (fr p2.toNatClampNeg) (fst p2.toNatClampNeg)) = (0 : Int32) then (1 : Int32) else (2 : Int32))))
theorem ef_B (m : MethodId) (a1 : Addr) (p2 : Int32) (xd2 : UInt64) (xd3 : UInt64) : entryFrame m #[(.ref a1), (.int p2), (.double xd2), (.double xd3)] 7 = mkF m 0 #[.val (.ref a1), .val (.int p2), .val (.double xd2), .second, .val (.double xd3), .second, .unset] [] := by first | (simp [entryFrame, mkF, argsToLocals, Value.category]; done) | rfl
set_option maxRecDepth 65536 in
set_option maxHeartbeats 40000000 in
theorem rmB (l : Launch) (Z : State) (a0 : Array Value) (hw : ∀ d ∈ tables_1, d.before a0 Z = true) (ws : List Jvm.Cond) (a1 : Addr) (p2 : Int32) (q3 : Int64) (q4 : Int64) (rl : Addr) (lo : Addr) (up : Addr) (va : Addr) (sa : Addr) (re : Addr) (fl : Nat → Int64) (fu : Nat → Int64) (fv : Nat → Int64) (fst : Nat → Int32) (fr : Nat → Int64) (h0 : Heap) (n0 : Nat) (Zs : n0 ≤ h0.size) (E_a1 : Exa Z h0 a1 "com/example/regolo/regolo/engine/Relaxation") (F_rows_a1 : Fld Z h0 a1 "com/example/regolo/regolo/engine/Relaxation" "rows" "Ljava/util/List;" (.ref rl)) (F_lower_a1 : Fld Z h0 a1 "com/example/regolo/regolo/engine/Relaxation" "lower" "[D" (.ref lo)) (F_upper_a1 : Fld Z h0 a1 "com/example/regolo/regolo/engine/Relaxation" "upper" "[D" (.ref up)) (F_value_a1 : Fld Z h0 a1 "com/example/regolo/regolo/engine/Relaxation" "value" "[D" (.ref va)) (F_status_a1 : Fld Z h0 a1 "com/example/regolo/regolo/engine/Relaxation" "status" "[I" (.ref sa)) (F_reduced_a1 : Fld Z h0 a1 "com/example/regolo/regolo/engine/Relaxation" "reduced" "[D" (.ref re)) (E_rl : Exa Z h0 rl "java/util/ArrayList") (F_size_rl : Fld Z h0 rl "java/util/ArrayList" "size" "I" (.int (0 : Int32))) (A_lo : ArD Z h0 lo (3 : Int32) fl) (A_up : ArD Z h0 up (3 : Int32) fu) (A_va : ArD Z h0 va (3 : Int32) fv) (A_sa : ArI Z h0 sa (3 : Int32) fst) (A_re : ArD Z h0 re (3 : Int32) fr) (g_lo : n0 ≤ lo) (g_up : n0 ≤ up) (g_va : n0 ≤ va) (g_sa : n0 ≤ sa) (ne_a1_rl : a1 ≠ rl) (ne_a1_lo : a1 ≠ lo) (ne_a1_up : a1 ≠ up) (ne_a1_va : a1 ≠ va) (ne_a1_sa : a1 ≠ sa) (ne_a1_re : a1 ≠ re) (ne_rl_lo : rl ≠ lo) (ne_rl_up : rl ≠ up) (ne_rl_va : rl ≠ va) (ne_rl_sa : rl ≠ sa) (ne_rl_re : rl ≠ re) (ne_lo_up : lo ≠ up) (ne_lo_va : lo ≠ va) (ne_lo_sa : lo ≠ sa) (ne_lo_re : lo ≠ re) (ne_up_va : up ≠ va) (ne_up_sa : up ≠ sa) (ne_up_re : up ≠ re) (ne_va_sa : va ≠ sa) (ne_va_re : va ≠ re) (ne_sa_re : sa ≠ re) (hi : ¬ p2 < (0 : Int32) ∧ p2 < (3 : Int32)) (hq3 : Sm q3) (hq4 : Sm q4) (hV : ∀ j, Sm (fv j)) (hR : ∀ j, Sm (fr j)) (hs : ¬ (fst p2.toNatClampNeg) = (0 : Int32)) :
    MetFree l (⟨"com/example/regolo/regolo/engine/Relaxation", "bound", "(IDD)V"⟩ : MethodName) (head1 (Jvm.Cond.code (⟨"com/example/regolo/regolo/engine/Relaxation", "bound", "(IDD)V"⟩ : MethodName) prog_62_method_7_code 7 none :: ws) ({ frames := 3, cells := 0, slots := 0, locals := 44 } : Room)) (fun a U => a = #[(.ref a1), (.int p2), (.double (FP.l2d q3)), (.double (FP.l2d q4))] ∧ Z.Warmed39 U.vm ∧ U.heap = h0) (fun _ _ _ _ _ => True) (fun _ U o U' => ∃ v L, o = .returned v ∧ QB Z a1 p2 q3 q4 rl lo up va sa re fl fu fv fst fr h0 n0 v U'.heap L ∧ FrameEnd U o U' L ({ frames := 3, cells := 0, slots := 0, locals := 44 } : Room).cells ({ frames := 3, cells := 0, slots := 0, locals := 44 } : Room).slots) := by
  refine MetFree.of_bodySF (plainFor_of_name pn_4) hisR ?_
  intro p e s m args below meth c s₁ Bd hml0 hP hK
  obtain ⟨rfl, hZ, hh⟩ := hP
  have hx := Bd.exec
  have hby := Bd.bytes
  have hml : c.maxLocals = 7 := hml0
  have hown : s.vm.findClass "com/example/regolo/regolo/engine/Relaxation" = some m.cls := findClass_of_methodNamed Bd.named
  have hnm := (name_of_methodNamed Bd.named Bd.method).1
  have X0 : Stand p l e ({ frames := 3, cells := 0, slots := 0, locals := 44 } : Room) s m #[(.ref a1), (.int p2), (.double (FP.l2d q3)), (.double (FP.l2d q4))] below meth c s₁ [] 0 0 := Stand.of_body Bd
  have e0 : s₁.heap = h0 := by rw [← hh, Bd.state]; rfl
  have N0 := Fr.nil n0
  have pre0 : ∀ t, Steps p.tables e below (s₁.setTop (mkF m 0 #[.val (.ref a1), .val (.int p2), .val (.double (FP.l2d q3)), .second, .val (.double (FP.l2d q4)), .second, .unset] [])) t → Steps p.tables e below (s₁.setTop (entryFrame m #[(.ref a1), (.int p2), (.double (FP.l2d q3)), (.double (FP.l2d q4))] 7)) t := fun t k => castTop (ef_B m a1 p2 (FP.l2d q3) (FP.l2d q4)) k
  have Kp : Keep h0 h0 [lo, up, va, sa] := Keep.refl h0 [lo, up, va, sa]
  obtain ⟨T136, X136, e136, st136⟩ := getF X0 hx hZ hown (host := "") (Or.inl (hw _ (List.mem_of_getElem? (i := 64) rfl))) Via.refl e0 F_lower_a1 (g := (mkF m 1 #[.val (.ref a1), .val (.int p2), .val (.double (FP.l2d q3)), .second, .val (.double (FP.l2d q4)), .second, .unset] [(.ref a1)])) rfl rfl (hb hby d10_1)
  obtain ⟨cl137, Ar137, hs137, hin137, hat137⟩ := ArD.open (j := p2) A_lo hi
  obtain ⟨T138, h138, X138, e138, W138, st138⟩ := stD X136 hx hZ e136 Ar137 (j := p2) hin137 (g := (mkF m 6 #[.val (.ref a1), .val (.int p2), .val (.double (FP.l2d q3)), .second, .val (.double (FP.l2d q4)), .second, .unset] [(.double (FP.l2d q3)), (.int p2), (.ref lo)])) rfl rfl (hb hby d10_6)
  have N138 := Fr.snoc X138 N0 g_lo
  have Zs : n0 ≤ h138.size := Nat.le_trans Zs (Keep.of_wr W138).1
  have E_a1 : Exa Z h138 a1 "com/example/regolo/regolo/engine/Relaxation" := E_a1.wr W138
  have F_rows_a1 : Fld Z h138 a1 "com/example/regolo/regolo/engine/Relaxation" "rows" "Ljava/util/List;" (.ref rl) := F_rows_a1.other W138 (Or.inl ne_a1_lo)
  have F_lower_a1 : Fld Z h138 a1 "com/example/regolo/regolo/engine/Relaxation" "lower" "[D" (.ref lo) := F_lower_a1.other W138 (Or.inl ne_a1_lo)
  have F_upper_a1 : Fld Z h138 a1 "com/example/regolo/regolo/engine/Relaxation" "upper" "[D" (.ref up) := F_upper_a1.other W138 (Or.inl ne_a1_lo)
  have F_value_a1 : Fld Z h138 a1 "com/example/regolo/regolo/engine/Relaxation" "value" "[D" (.ref va) := F_value_a1.other W138 (Or.inl ne_a1_lo)
  have F_status_a1 : Fld Z h138 a1 "com/example/regolo/regolo/engine/Relaxation" "status" "[I" (.ref sa) := F_status_a1.other W138 (Or.inl ne_a1_lo)
  have F_reduced_a1 : Fld Z h138 a1 "com/example/regolo/regolo/engine/Relaxation" "reduced" "[D" (.ref re) := F_reduced_a1.other W138 (Or.inl ne_a1_lo)
  have E_rl : Exa Z h138 rl "java/util/ArrayList" := E_rl.wr W138
  have F_size_rl : Fld Z h138 rl "java/util/ArrayList" "size" "I" (.int (0 : Int32)) := F_size_rl.other W138 (Or.inl ne_rl_lo)
  have A_up : ArD Z h138 up (3 : Int32) fu := A_up.other W138 (Ne.symm ne_lo_up)
  have A_va : ArD Z h138 va (3 : Int32) fv := A_va.other W138 (Ne.symm ne_lo_va)
  have A_sa : ArI Z h138 sa (3 : Int32) fst := A_sa.other W138 (Ne.symm ne_lo_sa)
  have A_re : ArD Z h138 re (3 : Int32) fr := A_re.other W138 (Ne.symm ne_lo_re)
  have Kp : Keep h0 h138 [lo, up, va, sa] := Kp.wr W138 (Or.inl (List.mem_of_getElem? (i := 0) rfl))
  have A_lo : ArD Z h138 lo (3 : Int32) (upd fl p2.toNatClampNeg q3) := ArD.set A_lo W138
  obtain ⟨T139, X139, e139, st139⟩ := getF X138 hx hZ hown (host := "") (Or.inl (hw _ (List.mem_of_getElem? (i := 66) rfl))) Via.refl e138 F_upper_a1 (g := (mkF m 8 #[.val (.ref a1), .val (.int p2), .val (.double (FP.l2d q3)), .second, .val (.double (FP.l2d q4)), .second, .unset] [(.ref a1)])) rfl rfl (hb hby d10_8)
  obtain ⟨cl140, Ar140, hs140, hin140, hat140⟩ := ArD.open (j := p2) A_up hi
  obtain ⟨T141, h141, X141, e141, W141, st141⟩ := stD X139 hx hZ e139 Ar140 (j := p2) hin140 (g := (mkF m 14 #[.val (.ref a1), .val (.int p2), .val (.double (FP.l2d q3)), .second, .val (.double (FP.l2d q4)), .second, .unset] [(.double (FP.l2d q4)), (.int p2), (.ref up)])) rfl rfl (hb hby d10_14)
  have N141 := Fr.snoc X141 N138 g_up
  have Zs : n0 ≤ h141.size := Nat.le_trans Zs (Keep.of_wr W141).1
  have E_a1 : Exa Z h141 a1 "com/example/regolo/regolo/engine/Relaxation" := E_a1.wr W141
  have F_rows_a1 : Fld Z h141 a1 "com/example/regolo/regolo/engine/Relaxation" "rows" "Ljava/util/List;" (.ref rl) := F_rows_a1.other W141 (Or.inl ne_a1_up)
  have F_lower_a1 : Fld Z h141 a1 "com/example/regolo/regolo/engine/Relaxation" "lower" "[D" (.ref lo) := F_lower_a1.other W141 (Or.inl ne_a1_up)
  have F_upper_a1 : Fld Z h141 a1 "com/example/regolo/regolo/engine/Relaxation" "upper" "[D" (.ref up) := F_upper_a1.other W141 (Or.inl ne_a1_up)
  have F_value_a1 : Fld Z h141 a1 "com/example/regolo/regolo/engine/Relaxation" "value" "[D" (.ref va) := F_value_a1.other W141 (Or.inl ne_a1_up)
  have F_status_a1 : Fld Z h141 a1 "com/example/regolo/regolo/engine/Relaxation" "status" "[I" (.ref sa) := F_status_a1.other W141 (Or.inl ne_a1_up)
  have F_reduced_a1 : Fld Z h141 a1 "com/example/regolo/regolo/engine/Relaxation" "reduced" "[D" (.ref re) := F_reduced_a1.other W141 (Or.inl ne_a1_up)
  have E_rl : Exa Z h141 rl "java/util/ArrayList" := E_rl.wr W141
  have F_size_rl : Fld Z h141 rl "java/util/ArrayList" "size" "I" (.int (0 : Int32)) := F_size_rl.other W141 (Or.inl ne_rl_up)
  have A_lo : ArD Z h141 lo (3 : Int32) (upd fl p2.toNatClampNeg q3) := A_lo.other W141 ne_lo_up
  have A_va : ArD Z h141 va (3 : Int32) fv := A_va.other W141 (Ne.symm ne_up_va)
  have A_sa : ArI Z h141 sa (3 : Int32) fst := A_sa.other W141 (Ne.symm ne_up_sa)
  have A_re : ArD Z h141 re (3 : Int32) fr := A_re.other W141 (Ne.symm ne_up_re)
  have Kp : Keep h0 h141 [lo, up, va, sa] := Kp.wr W141 (Or.inl (List.mem_of_getElem? (i := 1) rfl))
  have A_up : ArD Z h141 up (3 : Int32) (upd fu p2.toNatClampNeg q4) := ArD.set A_up W141
  obtain ⟨T142, X142, e142, st142⟩ := getF X141 hx hZ hown (host := "") (Or.inl (hw _ (List.mem_of_getElem? (i := 70) rfl))) Via.refl e141 F_status_a1 (g := (mkF m 16 #[.val (.ref a1), .val (.int p2), .val (.double (FP.l2d q3)), .second, .val (.double (FP.l2d q4)), .second, .unset] [(.ref a1)])) rfl rfl (hb hby d10_16)
  obtain ⟨cl143, Ar143, hs143, hin143, hat143⟩ := ArI.open (j := p2) A_sa hi
  obtain ⟨T144, X144, e144, st144⟩ := getF X142 hx hZ hown (host := "") (Or.inl (hw _ (List.mem_of_getElem? (i := 72) rfl))) Via.refl e142 F_reduced_a1 (g := (mkF m 26 #[.val (.ref a1), .val (.int p2), .val (.double (FP.l2d q3)), .second, .val (.double (FP.l2d q4)), .second, .unset] [(.ref a1)])) rfl rfl (hb hby d10_26)
  obtain ⟨cl145, Ar145, hs145, hin145, hat145⟩ := ArD.open (j := p2) A_re hi
  have pre146 : ∀ t, Steps p.tables e below (T144.setTop (mkF m 33 #[.val (.ref a1), .val (.int p2), .val (.double (FP.l2d q3)), .second, .val (.double (FP.l2d q4)), .second, .unset] [(.int (lcmpW (fr p2.toNatClampNeg) (0 : Int64)))])) t → Steps p.tables e below (s₁.setTop (entryFrame m #[(.ref a1), (.int p2), (.double (FP.l2d q3)), (.double (FP.l2d q4))] 7)) t := fun t k => pre0 t (by
    show Steps p.tables e below (s₁.setTop (mkF m 0 #[.val (.ref a1), .val (.int p2), .val (.double (FP.l2d q3)), .second, .val (.double (FP.l2d q4)), .second, .unset] [])) _
    refine XS.aloadN X0.here hx rfl (hb hby d10_0) rfl rfl ?_
    show Steps p.tables e below (s₁.setTop (mkF m 1 #[.val (.ref a1), .val (.int p2), .val (.double (FP.l2d q3)), .second, .val (.double (FP.l2d q4)), .second, .unset] [(.ref a1)])) _
    refine st136 _ ?_
    show Steps p.tables e below (T136.setTop (mkF m 4 #[.val (.ref a1), .val (.int p2), .val (.double (FP.l2d q3)), .second, .val (.double (FP.l2d q4)), .second, .unset] [(.ref lo)])) _
    refine XS.iloadN X136.here hx rfl (hb hby d10_4) rfl ?_
    show Steps p.tables e below (T136.setTop (mkF m 5 #[.val (.ref a1), .val (.int p2), .val (.double (FP.l2d q3)), .second, .val (.double (FP.l2d q4)), .second, .unset] [(.int p2), (.ref lo)])) _
    refine XS.dloadN X136.here hx rfl (hb hby d10_5) rfl ?_
    show Steps p.tables e below (T136.setTop (mkF m 6 #[.val (.ref a1), .val (.int p2), .val (.double (FP.l2d q3)), .second, .val (.double (FP.l2d q4)), .second, .unset] [(.double (FP.l2d q3)), (.int p2), (.ref lo)])) _
    refine st138 _ ?_
    show Steps p.tables e below (T138.setTop (mkF m 7 #[.val (.ref a1), .val (.int p2), .val (.double (FP.l2d q3)), .second, .val (.double (FP.l2d q4)), .second, .unset] [])) _
    refine XS.aloadN X138.here hx rfl (hb hby d10_7) rfl rfl ?_
    show Steps p.tables e below (T138.setTop (mkF m 8 #[.val (.ref a1), .val (.int p2), .val (.double (FP.l2d q3)), .second, .val (.double (FP.l2d q4)), .second, .unset] [(.ref a1)])) _
    refine st139 _ ?_
    show Steps p.tables e below (T139.setTop (mkF m 11 #[.val (.ref a1), .val (.int p2), .val (.double (FP.l2d q3)), .second, .val (.double (FP.l2d q4)), .second, .unset] [(.ref up)])) _
    refine XS.iloadN X139.here hx rfl (hb hby d10_11) rfl ?_
    show Steps p.tables e below (T139.setTop (mkF m 12 #[.val (.ref a1), .val (.int p2), .val (.double (FP.l2d q3)), .second, .val (.double (FP.l2d q4)), .second, .unset] [(.int p2), (.ref up)])) _
    refine XS.dload X139.here hx rfl (hb hby d10_12) rfl ?_
    show Steps p.tables e below (T139.setTop (mkF m 14 #[.val (.ref a1), .val (.int p2), .val (.double (FP.l2d q3)), .second, .val (.double (FP.l2d q4)), .second, .unset] [(.double (FP.l2d q4)), (.int p2), (.ref up)])) _
    refine st141 _ ?_
    show Steps p.tables e below (T141.setTop (mkF m 15 #[.val (.ref a1), .val (.int p2), .val (.double (FP.l2d q3)), .second, .val (.double (FP.l2d q4)), .second, .unset] [])) _
    refine XS.aloadN X141.here hx rfl (hb hby d10_15) rfl rfl ?_
    show Steps p.tables e below (T141.setTop (mkF m 16 #[.val (.ref a1), .val (.int p2), .val (.double (FP.l2d q3)), .second, .val (.double (FP.l2d q4)), .second, .unset] [(.ref a1)])) _
    refine st142 _ ?_
    show Steps p.tables e below (T142.setTop (mkF m 19 #[.val (.ref a1), .val (.int p2), .val (.double (FP.l2d q3)), .second, .val (.double (FP.l2d q4)), .second, .unset] [(.ref sa)])) _
    refine XS.iloadN X142.here hx rfl (hb hby d10_19) rfl ?_
    show Steps p.tables e below (T142.setTop (mkF m 20 #[.val (.ref a1), .val (.int p2), .val (.double (FP.l2d q3)), .second, .val (.double (FP.l2d q4)), .second, .unset] [(.int p2), (.ref sa)])) _
    refine X142.iaload hx (j := p2) (v := (.int (fst p2.toNatClampNeg))) (by rw [e142]; exact Ar143.1) (State.isArrayOf_alike hZ.alike Ar143.2.1) Ar143.2.2 hin143 hat143 (g := (mkF m 20 #[.val (.ref a1), .val (.int p2), .val (.double (FP.l2d q3)), .second, .val (.double (FP.l2d q4)), .second, .unset] [(.int p2), (.ref sa)])) rfl rfl (hb hby d10_20) _ ?_
    show Steps p.tables e below (T142.setTop (mkF m 21 #[.val (.ref a1), .val (.int p2), .val (.double (FP.l2d q3)), .second, .val (.double (FP.l2d q4)), .second, .unset] [(.int (fst p2.toNatClampNeg))])) _
    refine XS.ifYes X142.here hx rfl (pc0 := 21) (pc' := 25) rfl (hb hby d10_21) rfl ((if0 _ _).trans (feq hs).2) (by decide) (by decide) ?_
    show Steps p.tables e below (T142.setTop (mkF m 25 #[.val (.ref a1), .val (.int p2), .val (.double (FP.l2d q3)), .second, .val (.double (FP.l2d q4)), .second, .unset] [])) _
    refine XS.aloadN X142.here hx rfl (hb hby d10_25) rfl rfl ?_
    show Steps p.tables e below (T142.setTop (mkF m 26 #[.val (.ref a1), .val (.int p2), .val (.double (FP.l2d q3)), .second, .val (.double (FP.l2d q4)), .second, .unset] [(.ref a1)])) _
    refine st144 _ ?_
    show Steps p.tables e below (T144.setTop (mkF m 29 #[.val (.ref a1), .val (.int p2), .val (.double (FP.l2d q3)), .second, .val (.double (FP.l2d q4)), .second, .unset] [(.ref re)])) _
    refine XS.iloadN X144.here hx rfl (hb hby d10_29) rfl ?_
    show Steps p.tables e below (T144.setTop (mkF m 30 #[.val (.ref a1), .val (.int p2), .val (.double (FP.l2d q3)), .second, .val (.double (FP.l2d q4)), .second, .unset] [(.int p2), (.ref re)])) _
    refine X144.daload hx (j := p2) (v := (.double (FP.l2d (fr p2.toNatClampNeg)))) (by rw [e144]; exact Ar145.1) (State.isArrayOf_alike hZ.alike Ar145.2.1) Ar145.2.2 hin145 hat145 (g := (mkF m 30 #[.val (.ref a1), .val (.int p2), .val (.double (FP.l2d q3)), .second, .val (.double (FP.l2d q4)), .second, .unset] [(.int p2), (.ref re)])) rfl rfl (hb hby d10_30) _ ?_
    show Steps p.tables e below (T144.setTop (mkF m 31 #[.val (.ref a1), .val (.int p2), .val (.double (FP.l2d q3)), .second, .val (.double (FP.l2d q4)), .second, .unset] [(.double (FP.l2d (fr p2.toNatClampNeg)))])) _
    refine XS.dconst0 X144.here hx rfl (hb hby d10_31) own_dc0 ?_
    show Steps p.tables e below (T144.setTop (mkF m 32 #[.val (.ref a1), .val (.int p2), .val (.double (FP.l2d q3)), .second, .val (.double (FP.l2d q4)), .second, .unset] [(.double (FP.l2d (0 : Int64))), (.double (FP.l2d (fr p2.toNatClampNeg)))])) _
    refine XS.dcmpS X144.here hx rfl (hb hby d10_32) rfl (dcmpV_w (own_b (hR _)) own_b0 .l) ?_
    exact k)
  obtain ⟨z62_s0, hz62_s0⟩ : ∃ z : Int32, z = (if (0 : Int64) < (fr p2.toNatClampNeg) then (1 : Int32) else (if (fr p2.toNatClampNeg) = (0 : Int64) then (if (fst p2.toNatClampNeg) = (2 : Int32) then (1 : Int32) else (0 : Int32)) else (0 : Int32))) := ⟨_, rfl⟩
  obtain ⟨T157, Lc157, X157, e157, N157, pre157⟩ : ∃ (T' : State) (locs' : List Loc), Stand p l e ({ frames := 3, cells := 0, slots := 0, locals := 44 } : Room) s m #[(.ref a1), (.int p2), (.double (FP.l2d q3)), (.double (FP.l2d q4))] below meth c T' locs' 0 0 ∧ T'.heap = h141 ∧ Fr n0 locs' ∧ ∀ t, Steps p.tables e below (T'.setTop (mkF m 62 #[.val (.ref a1), .val (.int p2), .val (.double (FP.l2d q3)), .second, .val (.double (FP.l2d q4)), .second, .unset] [(.int z62_s0)])) t → Steps p.tables e below (s₁.setTop (entryFrame m #[(.ref a1), (.int p2), (.double (FP.l2d q3)), (.double (FP.l2d q4))] 7)) t := by
    by_cases hc33 : (0 : Int64) < (fr p2.toNatClampNeg)
    ·
      have pre147 : ∀ t, Steps p.tables e below (T144.setTop (mkF m 62 #[.val (.ref a1), .val (.int p2), .val (.double (FP.l2d q3)), .second, .val (.double (FP.l2d q4)), .second, .unset] [(.int (1 : Int32))])) t → Steps p.tables e below (s₁.setTop (entryFrame m #[(.ref a1), (.int p2), (.double (FP.l2d q3)), (.double (FP.l2d q4))] 7)) t := fun t k => pre146 t (by
        show Steps p.tables e below (T144.setTop (mkF m 33 #[.val (.ref a1), .val (.int p2), .val (.double (FP.l2d q3)), .second, .val (.double (FP.l2d q4)), .second, .unset] [(.int (lcmpW (fr p2.toNatClampNeg) (0 : Int64)))])) _
        refine XS.ifYes X144.here hx rfl (pc0 := 33) (pc' := 57) rfl (hb hby d10_33) rfl ((if0 _ _).trans (tlt ((lw_gt (fr p2.toNatClampNeg) (0 : Int64)).mpr hc33)).2.2.1) (by decide) (by decide) ?_
        show Steps p.tables e below (T144.setTop (mkF m 57 #[.val (.ref a1), .val (.int p2), .val (.double (FP.l2d q3)), .second, .val (.double (FP.l2d q4)), .second, .unset] [])) _
        refine XS.iconst X144.here hx rfl (hb hby d10_57) ?_
        show Steps p.tables e below (T144.setTop (mkF m 58 #[.val (.ref a1), .val (.int p2), .val (.double (FP.l2d q3)), .second, .val (.double (FP.l2d q4)), .second, .unset] [(.int (1 : Int32))])) _
        refine XS.goto X144.here hx rfl (pc0 := 58) (pc' := 62) rfl (hb hby d10_58) (by decide) (by decide) ?_
        exact k)
      have q_z62_s0 : z62_s0 = (1 : Int32) := by rw [hz62_s0, if_pos hc33]
      refine ⟨_, _, X144, e144, N141, fun t k => ?_⟩
      rw [q_z62_s0] at k
      exact pre147 t k
    ·
      obtain ⟨T148, X148, e148, st148⟩ := getF X144 hx hZ hown (host := "") (Or.inl (hw _ (List.mem_of_getElem? (i := 72) rfl))) Via.refl e144 F_reduced_a1 (g := (mkF m 37 #[.val (.ref a1), .val (.int p2), .val (.double (FP.l2d q3)), .second, .val (.double (FP.l2d q4)), .second, .unset] [(.ref a1)])) rfl rfl (hb hby d10_37)
      obtain ⟨cl149, Ar149, hs149, hin149, hat149⟩ := ArD.open (j := p2) A_re hi
      have pre150 : ∀ t, Steps p.tables e below (T148.setTop (mkF m 44 #[.val (.ref a1), .val (.int p2), .val (.double (FP.l2d q3)), .second, .val (.double (FP.l2d q4)), .second, .unset] [(.int (lcmpW (fr p2.toNatClampNeg) (0 : Int64)))])) t → Steps p.tables e below (s₁.setTop (entryFrame m #[(.ref a1), (.int p2), (.double (FP.l2d q3)), (.double (FP.l2d q4))] 7)) t := fun t k => pre146 t (by
        show Steps p.tables e below (T144.setTop (mkF m 33 #[.val (.ref a1), .val (.int p2), .val (.double (FP.l2d q3)), .second, .val (.double (FP.l2d q4)), .second, .unset] [(.int (lcmpW (fr p2.toNatClampNeg) (0 : Int64)))])) _
        refine XS.ifNo X144.here hx rfl (hb hby d10_33) rfl ((if0 _ _).trans (flt (fun q => hc33 ((lw_gt (fr p2.toNatClampNeg) (0 : Int64)).mp q))).2.2.1) ?_
        show Steps p.tables e below (T144.setTop (mkF m 36 #[.val (.ref a1), .val (.int p2), .val (.double (FP.l2d q3)), .second, .val (.double (FP.l2d q4)), .second, .unset] [])) _
        refine XS.aloadN X144.here hx rfl (hb hby d10_36) rfl rfl ?_
        show Steps p.tables e below (T144.setTop (mkF m 37 #[.val (.ref a1), .val (.int p2), .val (.double (FP.l2d q3)), .second, .val (.double (FP.l2d q4)), .second, .unset] [(.ref a1)])) _
        refine st148 _ ?_
        show Steps p.tables e below (T148.setTop (mkF m 40 #[.val (.ref a1), .val (.int p2), .val (.double (FP.l2d q3)), .second, .val (.double (FP.l2d q4)), .second, .unset] [(.ref re)])) _
        refine XS.iloadN X148.here hx rfl (hb hby d10_40) rfl ?_
        show Steps p.tables e below (T148.setTop (mkF m 41 #[.val (.ref a1), .val (.int p2), .val (.double (FP.l2d q3)), .second, .val (.double (FP.l2d q4)), .second, .unset] [(.int p2), (.ref re)])) _
        refine X148.daload hx (j := p2) (v := (.double (FP.l2d (fr p2.toNatClampNeg)))) (by rw [e148]; exact Ar149.1) (State.isArrayOf_alike hZ.alike Ar149.2.1) Ar149.2.2 hin149 hat149 (g := (mkF m 41 #[.val (.ref a1), .val (.int p2), .val (.double (FP.l2d q3)), .second, .val (.double (FP.l2d q4)), .second, .unset] [(.int p2), (.ref re)])) rfl rfl (hb hby d10_41) _ ?_
        show Steps p.tables e below (T148.setTop (mkF m 42 #[.val (.ref a1), .val (.int p2), .val (.double (FP.l2d q3)), .second, .val (.double (FP.l2d q4)), .second, .unset] [(.double (FP.l2d (fr p2.toNatClampNeg)))])) _
        refine XS.dconst0 X148.here hx rfl (hb hby d10_42) own_dc0 ?_
        show Steps p.tables e below (T148.setTop (mkF m 43 #[.val (.ref a1), .val (.int p2), .val (.double (FP.l2d q3)), .second, .val (.double (FP.l2d q4)), .second, .unset] [(.double (FP.l2d (0 : Int64))), (.double (FP.l2d (fr p2.toNatClampNeg)))])) _
        refine XS.dcmpS X148.here hx rfl (hb hby d10_43) rfl (dcmpV_w (own_b (hR _)) own_b0 .l) ?_
        exact k)
      by_cases hc44 : (fr p2.toNatClampNeg) = (0 : Int64)
      ·
        obtain ⟨T151, X151, e151, st151⟩ := getF X148 hx hZ hown (host := "") (Or.inl (hw _ (List.mem_of_getElem? (i := 70) rfl))) Via.refl e148 F_status_a1 (g := (mkF m 48 #[.val (.ref a1), .val (.int p2), .val (.double (FP.l2d q3)), .second, .val (.double (FP.l2d q4)), .second, .unset] [(.ref a1)])) rfl rfl (hb hby d10_48)
        obtain ⟨cl152, Ar152, hs152, hin152, hat152⟩ := ArI.open (j := p2) A_sa hi
        have pre153 : ∀ t, Steps p.tables e below (T151.setTop (mkF m 54 #[.val (.ref a1), .val (.int p2), .val (.double (FP.l2d q3)), .second, .val (.double (FP.l2d q4)), .second, .unset] [(.int (2 : Int32)), (.int (fst p2.toNatClampNeg))])) t → Steps p.tables e below (s₁.setTop (entryFrame m #[(.ref a1), (.int p2), (.double (FP.l2d q3)), (.double (FP.l2d q4))] 7)) t := fun t k => pre150 t (by
          show Steps p.tables e below (T148.setTop (mkF m 44 #[.val (.ref a1), .val (.int p2), .val (.double (FP.l2d q3)), .second, .val (.double (FP.l2d q4)), .second, .unset] [(.int (lcmpW (fr p2.toNatClampNeg) (0 : Int64)))])) _
          refine XS.ifNo X148.here hx rfl (hb hby d10_44) rfl ((if0 _ _).trans (teq ((lw_eq (fr p2.toNatClampNeg) (0 : Int64)).mpr hc44)).2) ?_
          show Steps p.tables e below (T148.setTop (mkF m 47 #[.val (.ref a1), .val (.int p2), .val (.double (FP.l2d q3)), .second, .val (.double (FP.l2d q4)), .second, .unset] [])) _
          refine XS.aloadN X148.here hx rfl (hb hby d10_47) rfl rfl ?_
          show Steps p.tables e below (T148.setTop (mkF m 48 #[.val (.ref a1), .val (.int p2), .val (.double (FP.l2d q3)), .second, .val (.double (FP.l2d q4)), .second, .unset] [(.ref a1)])) _
          refine st151 _ ?_
          show Steps p.tables e below (T151.setTop (mkF m 51 #[.val (.ref a1), .val (.int p2), .val (.double (FP.l2d q3)), .second, .val (.double (FP.l2d q4)), .second, .unset] [(.ref sa)])) _
          refine XS.iloadN X151.here hx rfl (hb hby d10_51) rfl ?_
          show Steps p.tables e below (T151.setTop (mkF m 52 #[.val (.ref a1), .val (.int p2), .val (.double (FP.l2d q3)), .second, .val (.double (FP.l2d q4)), .second, .unset] [(.int p2), (.ref sa)])) _
          refine X151.iaload hx (j := p2) (v := (.int (fst p2.toNatClampNeg))) (by rw [e151]; exact Ar152.1) (State.isArrayOf_alike hZ.alike Ar152.2.1) Ar152.2.2 hin152 hat152 (g := (mkF m 52 #[.val (.ref a1), .val (.int p2), .val (.double (FP.l2d q3)), .second, .val (.double (FP.l2d q4)), .second, .unset] [(.int p2), (.ref sa)])) rfl rfl (hb hby d10_52) _ ?_
          show Steps p.tables e below (T151.setTop (mkF m 53 #[.val (.ref a1), .val (.int p2), .val (.double (FP.l2d q3)), .second, .val (.double (FP.l2d q4)), .second, .unset] [(.int (fst p2.toNatClampNeg))])) _
          refine XS.iconst X151.here hx rfl (hb hby d10_53) ?_
          exact k)
        by_cases hc54 : (fst p2.toNatClampNeg) = (2 : Int32)
        ·
          have pre154 : ∀ t, Steps p.tables e below (T151.setTop (mkF m 62 #[.val (.ref a1), .val (.int p2), .val (.double (FP.l2d q3)), .second, .val (.double (FP.l2d q4)), .second, .unset] [(.int (1 : Int32))])) t → Steps p.tables e below (s₁.setTop (entryFrame m #[(.ref a1), (.int p2), (.double (FP.l2d q3)), (.double (FP.l2d q4))] 7)) t := fun t k => pre153 t (by
            show Steps p.tables e below (T151.setTop (mkF m 54 #[.val (.ref a1), .val (.int p2), .val (.double (FP.l2d q3)), .second, .val (.double (FP.l2d q4)), .second, .unset] [(.int (2 : Int32)), (.int (fst p2.toNatClampNeg))])) _
            refine XS.icmpNo X151.here hx rfl (hb hby d10_54) rfl (teq hc54).2 ?_
            show Steps p.tables e below (T151.setTop (mkF m 57 #[.val (.ref a1), .val (.int p2), .val (.double (FP.l2d q3)), .second, .val (.double (FP.l2d q4)), .second, .unset] [])) _
            refine XS.iconst X151.here hx rfl (hb hby d10_57) ?_
            show Steps p.tables e below (T151.setTop (mkF m 58 #[.val (.ref a1), .val (.int p2), .val (.double (FP.l2d q3)), .second, .val (.double (FP.l2d q4)), .second, .unset] [(.int (1 : Int32))])) _
            refine XS.goto X151.here hx rfl (pc0 := 58) (pc' := 62) rfl (hb hby d10_58) (by decide) (by decide) ?_
            exact k)
          have q_z62_s0 : z62_s0 = (1 : Int32) := by rw [hz62_s0, if_neg hc33, if_pos hc44, if_pos hc54]
          refine ⟨_, _, X151, e151, N141, fun t k => ?_⟩
          rw [q_z62_s0] at k
          exact pre154 t k
        ·
          have pre155 : ∀ t, Steps p.tables e below (T151.setTop (mkF m 62 #[.val (.ref a1), .val (.int p2), .val (.double (FP.l2d q3)), .second, .val (.double (FP.l2d q4)), .second, .unset] [(.int (0 : Int32))])) t → Steps p.tables e below (s₁.setTop (entryFrame m #[(.ref a1), (.int p2), (.double (FP.l2d q3)), (.double (FP.l2d q4))] 7)) t := fun t k => pre153 t (by
            show Steps p.tables e below (T151.setTop (mkF m 54 #[.val (.ref a1), .val (.int p2), .val (.double (FP.l2d q3)), .second, .val (.double (FP.l2d q4)), .second, .unset] [(.int (2 : Int32)), (.int (fst p2.toNatClampNeg))])) _
            refine XS.icmpYes X151.here hx rfl (pc0 := 54) (pc' := 61) rfl (hb hby d10_54) rfl (feq hc54).2 (by decide) (by decide) ?_
            show Steps p.tables e below (T151.setTop (mkF m 61 #[.val (.ref a1), .val (.int p2), .val (.double (FP.l2d q3)), .second, .val (.double (FP.l2d q4)), .second, .unset] [])) _
            refine XS.iconst X151.here hx rfl (hb hby d10_61) ?_
            exact k)
          have q_z62_s0 : z62_s0 = (0 : Int32) := by rw [hz62_s0, if_neg hc33, if_pos hc44, if_neg hc54]
          refine ⟨_, _, X151, e151, N141, fun t k => ?_⟩
          rw [q_z62_s0] at k
          exact pre155 t k
      ·
        have pre156 : ∀ t, Steps p.tables e below (T148.setTop (mkF m 62 #[.val (.ref a1), .val (.int p2), .val (.double (FP.l2d q3)), .second, .val (.double (FP.l2d q4)), .second, .unset] [(.int (0 : Int32))])) t → Steps p.tables e below (s₁.setTop (entryFrame m #[(.ref a1), (.int p2), (.double (FP.l2d q3)), (.double (FP.l2d q4))] 7)) t := fun t k => pre150 t (by
          show Steps p.tables e below (T148.setTop (mkF m 44 #[.val (.ref a1), .val (.int p2), .val (.double (FP.l2d q3)), .second, .val (.double (FP.l2d q4)), .second, .unset] [(.int (lcmpW (fr p2.toNatClampNeg) (0 : Int64)))])) _
          refine XS.ifYes X148.here hx rfl (pc0 := 44) (pc' := 61) rfl (hb hby d10_44) rfl ((if0 _ _).trans (feq (fun q => hc44 ((lw_eq (fr p2.toNatClampNeg) (0 : Int64)).mp q))).2) (by decide) (by decide) ?_
          show Steps p.tables e below (T148.setTop (mkF m 61 #[.val (.ref a1), .val (.int p2), .val (.double (FP.l2d q3)), .second, .val (.double (FP.l2d q4)), .second, .unset] [])) _
          refine XS.iconst X148.here hx rfl (hb hby d10_61) ?_
          exact k)
        have q_z62_s0 : z62_s0 = (0 : Int32) := by rw [hz62_s0, if_neg hc33, if_neg hc44]
        refine ⟨_, _, X148, e148, N141, fun t k => ?_⟩
        rw [q_z62_s0] at k
        exact pre156 t k
  obtain ⟨T158, X158, e158, st158⟩ := getF X157 hx hZ hown (host := "") (Or.inl (hw _ (List.mem_of_getElem? (i := 70) rfl))) Via.refl e157 F_status_a1 (g := (mkF m 65 #[.val (.ref a1), .val (.int p2), .val (.double (FP.l2d q3)), .second, .val (.double (FP.l2d q4)), .second, .val (.int z62_s0)] [(.ref a1)])) rfl rfl (hb hby d10_65)
  have pre159 : ∀ t, Steps p.tables e below (T158.setTop (mkF m 71 #[.val (.ref a1), .val (.int p2), .val (.double (FP.l2d q3)), .second, .val (.double (FP.l2d q4)), .second, .val (.int z62_s0)] [(.int z62_s0), (.int p2), (.ref sa)])) t → Steps p.tables e below (s₁.setTop (entryFrame m #[(.ref a1), (.int p2), (.double (FP.l2d q3)), (.double (FP.l2d q4))] 7)) t := fun t k => pre157 t (by
    show Steps p.tables e below (T157.setTop (mkF m 62 #[.val (.ref a1), .val (.int p2), .val (.double (FP.l2d q3)), .second, .val (.double (FP.l2d q4)), .second, .unset] [(.int z62_s0)])) _
    refine XS.istore X157.here hx rfl (hb hby d10_62) rfl (l' := #[.val (.ref a1), .val (.int p2), .val (.double (FP.l2d q3)), .second, .val (.double (FP.l2d q4)), .second, .val (.int z62_s0)]) rfl ?_
    show Steps p.tables e below (T157.setTop (mkF m 64 #[.val (.ref a1), .val (.int p2), .val (.double (FP.l2d q3)), .second, .val (.double (FP.l2d q4)), .second, .val (.int z62_s0)] [])) _
    refine XS.aloadN X157.here hx rfl (hb hby d10_64) rfl rfl ?_
    show Steps p.tables e below (T157.setTop (mkF m 65 #[.val (.ref a1), .val (.int p2), .val (.double (FP.l2d q3)), .second, .val (.double (FP.l2d q4)), .second, .val (.int z62_s0)] [(.ref a1)])) _
    refine st158 _ ?_
    show Steps p.tables e below (T158.setTop (mkF m 68 #[.val (.ref a1), .val (.int p2), .val (.double (FP.l2d q3)), .second, .val (.double (FP.l2d q4)), .second, .val (.int z62_s0)] [(.ref sa)])) _
    refine XS.iloadN X158.here hx rfl (hb hby d10_68) rfl ?_
    show Steps p.tables e below (T158.setTop (mkF m 69 #[.val (.ref a1), .val (.int p2), .val (.double (FP.l2d q3)), .second, .val (.double (FP.l2d q4)), .second, .val (.int z62_s0)] [(.int p2), (.ref sa)])) _
    refine XS.iload X158.here hx rfl (hb hby d10_69) rfl ?_
    exact k)
  obtain ⟨z79_s0, hz79_s0⟩ : ∃ z : Int32, z = (if z62_s0 = (0 : Int32) then (1 : Int32) else (2 : Int32)) := ⟨_, rfl⟩
  obtain ⟨T162, Lc162, X162, e162, N162, pre162⟩ : ∃ (T' : State) (locs' : List Loc), Stand p l e ({ frames := 3, cells := 0, slots := 0, locals := 44 } : Room) s m #[(.ref a1), (.int p2), (.double (FP.l2d q3)), (.double (FP.l2d q4))] below meth c T' locs' 0 0 ∧ T'.heap = h141 ∧ Fr n0 locs' ∧ ∀ t, Steps p.tables e below (T'.setTop (mkF m 79 #[.val (.ref a1), .val (.int p2), .val (.double (FP.l2d q3)), .second, .val (.double (FP.l2d q4)), .second, .val (.int z62_s0)] [(.int z79_s0), (.int p2), (.ref sa)])) t → Steps p.tables e below (s₁.setTop (entryFrame m #[(.ref a1), (.int p2), (.double (FP.l2d q3)), (.double (FP.l2d q4))] 7)) t := by
    by_cases hc71 : z62_s0 = (0 : Int32)
    ·
      have pre160 : ∀ t, Steps p.tables e below (T158.setTop (mkF m 79 #[.val (.ref a1), .val (.int p2), .val (.double (FP.l2d q3)), .second, .val (.double (FP.l2d q4)), .second, .val (.int z62_s0)] [(.int (1 : Int32)), (.int p2), (.ref sa)])) t → Steps p.tables e below (s₁.setTop (entryFrame m #[(.ref a1), (.int p2), (.double (FP.l2d q3)), (.double (FP.l2d q4))] 7)) t := fun t k => pre159 t (by
        show Steps p.tables e below (T158.setTop (mkF m 71 #[.val (.ref a1), .val (.int p2), .val (.double (FP.l2d q3)), .second, .val (.double (FP.l2d q4)), .second, .val (.int z62_s0)] [(.int z62_s0), (.int p2), (.ref sa)])) _
        refine XS.ifYes X158.here hx rfl (pc0 := 71) (pc' := 78) rfl (hb hby d10_71) rfl ((if0 _ _).trans (teq hc71).1) (by decide) (by decide) ?_
        show Steps p.tables e below (T158.setTop (mkF m 78 #[.val (.ref a1), .val (.int p2), .val (.double (FP.l2d q3)), .second, .val (.double (FP.l2d q4)), .second, .val (.int z62_s0)] [(.int p2), (.ref sa)])) _
        refine XS.iconst X158.here hx rfl (hb hby d10_78) ?_
        exact k)
      have q_z79_s0 : z79_s0 = (1 : Int32) := by rw [hz79_s0, if_pos hc71]
      refine ⟨_, _, X158, e158, N157, fun t k => ?_⟩
      rw [q_z79_s0] at k
      exact pre160 t k
    ·
      have pre161 : ∀ t, Steps p.tables e below (T158.setTop (mkF m 79 #[.val (.ref a1), .val (.int p2), .val (.double (FP.l2d q3)), .second, .val (.double (FP.l2d q4)), .second, .val (.int z62_s0)] [(.int (2 : Int32)), (.int p2), (.ref sa)])) t → Steps p.tables e below (s₁.setTop (entryFrame m #[(.ref a1), (.int p2), (.double (FP.l2d q3)), (.double (FP.l2d q4))] 7)) t := fun t k => pre159 t (by
        show Steps p.tables e below (T158.setTop (mkF m 71 #[.val (.ref a1), .val (.int p2), .val (.double (FP.l2d q3)), .second, .val (.double (FP.l2d q4)), .second, .val (.int z62_s0)] [(.int z62_s0), (.int p2), (.ref sa)])) _
        refine XS.ifNo X158.here hx rfl (hb hby d10_71) rfl ((if0 _ _).trans (feq hc71).1) ?_
        show Steps p.tables e below (T158.setTop (mkF m 74 #[.val (.ref a1), .val (.int p2), .val (.double (FP.l2d q3)), .second, .val (.double (FP.l2d q4)), .second, .val (.int z62_s0)] [(.int p2), (.ref sa)])) _
        refine XS.iconst X158.here hx rfl (hb hby d10_74) ?_
        show Steps p.tables e below (T158.setTop (mkF m 75 #[.val (.ref a1), .val (.int p2), .val (.double (FP.l2d q3)), .second, .val (.double (FP.l2d q4)), .second, .val (.int z62_s0)] [(.int (2 : Int32)), (.int p2), (.ref sa)])) _
        refine XS.goto X158.here hx rfl (pc0 := 75) (pc' := 79) rfl (hb hby d10_75) (by decide) (by decide) ?_
        exact k)
      have q_z79_s0 : z79_s0 = (2 : Int32) := by rw [hz79_s0, if_neg hc71]
      refine ⟨_, _, X158, e158, N157, fun t k => ?_⟩
      rw [q_z79_s0] at k
      exact pre161 t k
  obtain ⟨cl163, Ar163, hs163, hin163, hat163⟩ := ArI.open (j := p2) A_sa hi
  obtain ⟨T164, h164, X164, e164, W164, st164⟩ := stI X162 hx hZ e162 Ar163 (j := p2) hin163 (g := (mkF m 79 #[.val (.ref a1), .val (.int p2), .val (.double (FP.l2d q3)), .second, .val (.double (FP.l2d q4)), .second, .val (.int z62_s0)] [(.int z79_s0), (.int p2), (.ref sa)])) rfl rfl (hb hby d10_79)
  have N164 := Fr.snoc X164 N162 g_sa
  have Zs : n0 ≤ h164.size := Nat.le_trans Zs (Keep.of_wr W164).1
  have E_a1 : Exa Z h164 a1 "com/example/regolo/regolo/engine/Relaxation" := E_a1.wr W164
  have F_rows_a1 : Fld Z h164 a1 "com/example/regolo/regolo/engine/Relaxation" "rows" "Ljava/util/List;" (.ref rl) := F_rows_a1.other W164 (Or.inl ne_a1_sa)
  have F_lower_a1 : Fld Z h164 a1 "com/example/regolo/regolo/engine/Relaxation" "lower" "[D" (.ref lo) := F_lower_a1.other W164 (Or.inl ne_a1_sa)
  have F_upper_a1 : Fld Z h164 a1 "com/example/regolo/regolo/engine/Relaxation" "upper" "[D" (.ref up) := F_upper_a1.other W164 (Or.inl ne_a1_sa)
  have F_value_a1 : Fld Z h164 a1 "com/example/regolo/regolo/engine/Relaxation" "value" "[D" (.ref va) := F_value_a1.other W164 (Or.inl ne_a1_sa)
  have F_status_a1 : Fld Z h164 a1 "com/example/regolo/regolo/engine/Relaxation" "status" "[I" (.ref sa) := F_status_a1.other W164 (Or.inl ne_a1_sa)
  have F_reduced_a1 : Fld Z h164 a1 "com/example/regolo/regolo/engine/Relaxation" "reduced" "[D" (.ref re) := F_reduced_a1.other W164 (Or.inl ne_a1_sa)
  have E_rl : Exa Z h164 rl "java/util/ArrayList" := E_rl.wr W164
  have F_size_rl : Fld Z h164 rl "java/util/ArrayList" "size" "I" (.int (0 : Int32)) := F_size_rl.other W164 (Or.inl ne_rl_sa)
  have A_lo : ArD Z h164 lo (3 : Int32) (upd fl p2.toNatClampNeg q3) := A_lo.other W164 ne_lo_sa
  have A_up : ArD Z h164 up (3 : Int32) (upd fu p2.toNatClampNeg q4) := A_up.other W164 ne_up_sa
  have A_va : ArD Z h164 va (3 : Int32) fv := A_va.other W164 ne_va_sa
  have A_re : ArD Z h164 re (3 : Int32) fr := A_re.other W164 (Ne.symm ne_sa_re)
  have Kp : Keep h0 h164 [lo, up, va, sa] := Kp.wr W164 (Or.inl (List.mem_of_getElem? (i := 3) rfl))
  have A_sa : ArI Z h164 sa (3 : Int32) (upd fst p2.toNatClampNeg z79_s0) := ArI.set A_sa W164
  have pre165 : ∀ t, Steps p.tables e below (T164.setTop (mkF m 84 #[.val (.ref a1), .val (.int p2), .val (.double (FP.l2d q3)), .second, .val (.double (FP.l2d q4)), .second, .val (.int z62_s0)] [(.int z62_s0), (.int p2), (.ref a1)])) t → Steps p.tables e below (s₁.setTop (entryFrame m #[(.ref a1), (.int p2), (.double (FP.l2d q3)), (.double (FP.l2d q4))] 7)) t := fun t k => pre162 t (by
    show Steps p.tables e below (T162.setTop (mkF m 79 #[.val (.ref a1), .val (.int p2), .val (.double (FP.l2d q3)), .second, .val (.double (FP.l2d q4)), .second, .val (.int z62_s0)] [(.int z79_s0), (.int p2), (.ref sa)])) _
    refine st164 _ ?_
    show Steps p.tables e below (T164.setTop (mkF m 80 #[.val (.ref a1), .val (.int p2), .val (.double (FP.l2d q3)), .second, .val (.double (FP.l2d q4)), .second, .val (.int z62_s0)] [])) _
    refine XS.aloadN X164.here hx rfl (hb hby d10_80) rfl rfl ?_
    show Steps p.tables e below (T164.setTop (mkF m 81 #[.val (.ref a1), .val (.int p2), .val (.double (FP.l2d q3)), .second, .val (.double (FP.l2d q4)), .second, .val (.int z62_s0)] [(.ref a1)])) _
    refine XS.iloadN X164.here hx rfl (hb hby d10_81) rfl ?_
    show Steps p.tables e below (T164.setTop (mkF m 82 #[.val (.ref a1), .val (.int p2), .val (.double (FP.l2d q3)), .second, .val (.double (FP.l2d q4)), .second, .val (.int z62_s0)] [(.int p2), (.ref a1)])) _
    refine XS.iload X164.here hx rfl (hb hby d10_82) rfl ?_
    exact k)
  obtain ⟨z93_s0, hz93_s0⟩ : ∃ z : Int64, z = (if z62_s0 = (0 : Int32) then q3 else q4) := ⟨_, rfl⟩
  obtain ⟨T168, Lc168, X168, e168, N168, pre168⟩ : ∃ (T' : State) (locs' : List Loc), Stand p l e ({ frames := 3, cells := 0, slots := 0, locals := 44 } : Room) s m #[(.ref a1), (.int p2), (.double (FP.l2d q3)), (.double (FP.l2d q4))] below meth c T' locs' 0 0 ∧ T'.heap = h164 ∧ Fr n0 locs' ∧ ∀ t, Steps p.tables e below (T'.setTop (mkF m 93 #[.val (.ref a1), .val (.int p2), .val (.double (FP.l2d q3)), .second, .val (.double (FP.l2d q4)), .second, .val (.int z62_s0)] [(.double (FP.l2d z93_s0)), (.int p2), (.ref a1)])) t → Steps p.tables e below (s₁.setTop (entryFrame m #[(.ref a1), (.int p2), (.double (FP.l2d q3)), (.double (FP.l2d q4))] 7)) t := by
    by_cases hc84 : z62_s0 = (0 : Int32)
    ·
      have pre166 : ∀ t, Steps p.tables e below (T164.setTop (mkF m 93 #[.val (.ref a1), .val (.int p2), .val (.double (FP.l2d q3)), .second, .val (.double (FP.l2d q4)), .second, .val (.int z62_s0)] [(.double (FP.l2d q3)), (.int p2), (.ref a1)])) t → Steps p.tables e below (s₁.setTop (entryFrame m #[(.ref a1), (.int p2), (.double (FP.l2d q3)), (.double (FP.l2d q4))] 7)) t := fun t k => pre165 t (by
        show Steps p.tables e below (T164.setTop (mkF m 84 #[.val (.ref a1), .val (.int p2), .val (.double (FP.l2d q3)), .second, .val (.double (FP.l2d q4)), .second, .val (.int z62_s0)] [(.int z62_s0), (.int p2), (.ref a1)])) _
        refine XS.ifYes X164.here hx rfl (pc0 := 84) (pc' := 92) rfl (hb hby d10_84) rfl ((if0 _ _).trans (teq hc84).1) (by decide) (by decide) ?_
        show Steps p.tables e below (T164.setTop (mkF m 92 #[.val (.ref a1), .val (.int p2), .val (.double (FP.l2d q3)), .second, .val (.double (FP.l2d q4)), .second, .val (.int z62_s0)] [(.int p2), (.ref a1)])) _
        refine XS.dloadN X164.here hx rfl (hb hby d10_92) rfl ?_
        exact k)
      have q_z93_s0 : z93_s0 = q3 := by rw [hz93_s0, if_pos hc84]
      refine ⟨_, _, X164, e164, N164, fun t k => ?_⟩
      rw [q_z93_s0] at k
      exact pre166 t k
    ·
      have pre167 : ∀ t, Steps p.tables e below (T164.setTop (mkF m 93 #[.val (.ref a1), .val (.int p2), .val (.double (FP.l2d q3)), .second, .val (.double (FP.l2d q4)), .second, .val (.int z62_s0)] [(.double (FP.l2d q4)), (.int p2), (.ref a1)])) t → Steps p.tables e below (s₁.setTop (entryFrame m #[(.ref a1), (.int p2), (.double (FP.l2d q3)), (.double (FP.l2d q4))] 7)) t := fun t k => pre165 t (by
        show Steps p.tables e below (T164.setTop (mkF m 84 #[.val (.ref a1), .val (.int p2), .val (.double (FP.l2d q3)), .second, .val (.double (FP.l2d q4)), .second, .val (.int z62_s0)] [(.int z62_s0), (.int p2), (.ref a1)])) _
        refine XS.ifNo X164.here hx rfl (hb hby d10_84) rfl ((if0 _ _).trans (feq hc84).1) ?_
        show Steps p.tables e below (T164.setTop (mkF m 87 #[.val (.ref a1), .val (.int p2), .val (.double (FP.l2d q3)), .second, .val (.double (FP.l2d q4)), .second, .val (.int z62_s0)] [(.int p2), (.ref a1)])) _
        refine XS.dload X164.here hx rfl (hb hby d10_87) rfl ?_
        show Steps p.tables e below (T164.setTop (mkF m 89 #[.val (.ref a1), .val (.int p2), .val (.double (FP.l2d q3)), .second, .val (.double (FP.l2d q4)), .second, .val (.int z62_s0)] [(.double (FP.l2d q4)), (.int p2), (.ref a1)])) _
        refine XS.goto X164.here hx rfl (pc0 := 89) (pc' := 93) rfl (hb hby d10_89) (by decide) (by decide) ?_
        exact k)
      have q_z93_s0 : z93_s0 = q4 := by rw [hz93_s0, if_neg hc84]
      refine ⟨_, _, X164, e164, N164, fun t k => ?_⟩
      rw [q_z93_s0] at k
      exact pre167 t k
  obtain ⟨cq169, q169, q169'⟩ := E_a1.cell
  obtain ⟨_, _, ⟨T169, L169, k169, n169⟩, -, X169, ⟨Lc169, hQ169, l169, y169, z169⟩, st169⟩ := X168.privateBack hx (y := (⟨"com/example/regolo/regolo/engine/Relaxation", "move", "(ID)V"⟩ : MethodName)) hown (mvT hZ (hw _ (List.mem_of_getElem? (i := 88) rfl))) (mvT hZ (hw _ (List.mem_of_getElem? (i := 89) rfl))) (own_sel hZ (hw _ (List.mem_of_getElem? (i := 9) rfl)) (hw _ (List.mem_of_getElem? (i := 90) rfl)) (hw _ (List.mem_of_getElem? (i := 89) rfl)) (by decide)) (Cond.privateMethod_at (mvP hZ (hw _ (List.mem_of_getElem? (i := 90) rfl)) (args := #[]))) (mvT hZ (hw _ (List.mem_of_getElem? (i := 91) rfl))) (by decide) (backOf (W := 0) (rmMv l Z a0 hw [] a1 p2 z93_s0 rl va fv h164 n0 Zs E_a1 F_rows_a1 F_value_a1 E_rl F_size_rl A_va g_va ne_a1_va ne_a1_rl (Ne.symm ne_rl_va) hi (own_ite hq3 hq4 hz93_s0) hV) hZ (hw _ (List.mem_of_getElem? (i := 91) rfl)) (hw _ (List.mem_of_getElem? (i := 10) rfl)) (by decide) (by decide)) (g := (mkF m 93 #[.val (.ref a1), .val (.int p2), .val (.double (FP.l2d q3)), .second, .val (.double (FP.l2d q4)), .second, .val (.int z62_s0)] [(.double (FP.l2d z93_s0)), (.int p2), (.ref a1)])) rfl (by rw [hml]; rfl) (Steps.refl _) (a := a1) (by rw [e168]; exact q169) q169' (argsL := [(.int p2), (.double (FP.l2d z93_s0))]) (rest := []) (lenOf pd_4 rfl) rfl (by show 2 * 0 + _ ≤ _; exact Nat.le_of_eq rfl) (hb hby d10_93) (fun _ _ => ⟨rfl, e168, (by decide : 0 + 0 ≤ _), (by decide : 0 + 0 ≤ _)⟩)
  dsimp only [Pt.U, Pt.locs, Pt.cells, Pt.slots] at X169 l169 y169 z169 st169 hQ169
  subst l169 y169 z169
  obtain ⟨rfl, N169q, K169, P169_1⟩ := hQ169
  have Zs : n0 ≤ T169.heap.size := Nat.le_trans Zs K169.1
  have E_a1 : Exa Z T169.heap a1 "com/example/regolo/regolo/engine/Relaxation" := E_a1.keep K169
  have F_rows_a1 : Fld Z T169.heap a1 "com/example/regolo/regolo/engine/Relaxation" "rows" "Ljava/util/List;" (.ref rl) := F_rows_a1.keep K169 (ninS ne_a1_va nin0)
  have F_lower_a1 : Fld Z T169.heap a1 "com/example/regolo/regolo/engine/Relaxation" "lower" "[D" (.ref lo) := F_lower_a1.keep K169 (ninS ne_a1_va nin0)
  have F_upper_a1 : Fld Z T169.heap a1 "com/example/regolo/regolo/engine/Relaxation" "upper" "[D" (.ref up) := F_upper_a1.keep K169 (ninS ne_a1_va nin0)
  have F_value_a1 : Fld Z T169.heap a1 "com/example/regolo/regolo/engine/Relaxation" "value" "[D" (.ref va) := F_value_a1.keep K169 (ninS ne_a1_va nin0)
  have F_status_a1 : Fld Z T169.heap a1 "com/example/regolo/regolo/engine/Relaxation" "status" "[I" (.ref sa) := F_status_a1.keep K169 (ninS ne_a1_va nin0)
  have F_reduced_a1 : Fld Z T169.heap a1 "com/example/regolo/regolo/engine/Relaxation" "reduced" "[D" (.ref re) := F_reduced_a1.keep K169 (ninS ne_a1_va nin0)
  have E_rl : Exa Z T169.heap rl "java/util/ArrayList" := E_rl.keep K169
  have F_size_rl : Fld Z T169.heap rl "java/util/ArrayList" "size" "I" (.int (0 : Int32)) := F_size_rl.keep K169 (ninS ne_rl_va nin0)
  have A_lo : ArD Z T169.heap lo (3 : Int32) (upd fl p2.toNatClampNeg q3) := A_lo.keep K169 (ninS ne_lo_va nin0)
  have A_up : ArD Z T169.heap up (3 : Int32) (upd fu p2.toNatClampNeg q4) := A_up.keep K169 (ninS ne_up_va nin0)
  have A_sa : ArI Z T169.heap sa (3 : Int32) (upd fst p2.toNatClampNeg z79_s0) := A_sa.keep K169 (ninS (Ne.symm ne_va_sa) nin0)
  have A_re : ArD Z T169.heap re (3 : Int32) fr := A_re.keep K169 (ninS (Ne.symm ne_va_re) nin0)
  have Kp : Keep h0 T169.heap [lo, up, va, sa] := Kp.trans K169 (allS (Or.inl (List.mem_of_getElem? (i := 2) rfl)) all0)
  have A_va : ArD Z T169.heap va (3 : Int32) (upd fv p2.toNatClampNeg z93_s0) := P169_1
  have N169 := Fr.app N168 N169q
  have pre170 : ∀ t, Steps p.tables e below (T169.setTop (mkF m 96 #[.val (.ref a1), .val (.int p2), .val (.double (FP.l2d q3)), .second, .val (.double (FP.l2d q4)), .second, .val (.int z62_s0)] [])) t → Steps p.tables e below (s₁.setTop (entryFrame m #[(.ref a1), (.int p2), (.double (FP.l2d q3)), (.double (FP.l2d q4))] 7)) t := fun t k => pre168 t (by
    show Steps p.tables e below (T168.setTop (mkF m 93 #[.val (.ref a1), .val (.int p2), .val (.double (FP.l2d q3)), .second, .val (.double (FP.l2d q4)), .second, .val (.int z62_s0)] [(.double (FP.l2d z93_s0)), (.int p2), (.ref a1)])) _
    refine st169.trans ?_
    exact k)
  subst hz62_s0 hz79_s0 hz93_s0
  obtain ⟨fs, hr, hrun, hended, hW, hsame⟩ := X169.leave (v := none) (fun _ => rfl)
  refine ⟨_, _, pre170 _ ?_, hrun, hended, _, _, rfl, ?_, ⟨_, rfl⟩, hW, hsame.mono (by decide) (by decide)⟩
  · exact X169.returnOut hx Bd.returns (hb hby d10_96) hr
  · show QB Z a1 p2 q3 q4 rl lo up va sa re fl fu fv fst fr h0 n0 _ T169.heap _
    exact ⟨rfl, N169, Kp, A_lo, A_up, A_va, A_sa⟩
def QO (Z : State) (a1 : Addr) (co : Addr) (va : Addr) (f : Nat → Int64) (fv : Nat → Int64) (h0 : Heap) (n0 : Nat) (v : Option Value) (h : Heap) (L : List Loc) : Prop := v = some (.double (FP.l2d ((((0 : Int64) + ((f (0 : Int32).toNatClampNeg) * (fv (0 : Int32).toNatClampNeg))) + ((f (1 : Int32).toNatClampNeg) * (fv (1 : Int32).toNatClampNeg))) + ((f (2 : Int32).toNatClampNeg) * (fv (2 : Int32).toNatClampNeg))))) ∧ Fr n0 L ∧ h = h0
theorem ef_O (m : MethodId) (a1 : Addr) : entryFrame m #[(.ref a1)] 4 = mkF m 0 #[.val (.ref a1), .unset, .unset, .unset] [] := by first | (simp [entryFrame, mkF, argsToLocals, Value.category]; done) | rfl
set_option maxRecDepth 65536 in
set_option maxHeartbeats 40000000 in
theorem rmO (l : Launch) (Z : State) (a0 : Array Value) (hw : ∀ d ∈ tables_1, d.before a0 Z = true) (ws : List Jvm.Cond) (a1 : Addr) (co : Addr) (va : Addr) (f : Nat → Int64) (fv : Nat → Int64) (h0 : Heap) (n0 : Nat) (Zs : n0 ≤ h0.size) (F_columns_a1 : Fld Z h0 a1 "com/example/regolo/regolo/engine/Relaxation" "columns" "I" (.int (3 : Int32))) (F_cost_a1 : Fld Z h0 a1 "com/example/regolo/regolo/engine/Relaxation" "cost" "[D" (.ref co)) (F_value_a1 : Fld Z h0 a1 "com/example/regolo/regolo/engine/Relaxation" "value" "[D" (.ref va)) (A_co : ArD Z h0 co (3 : Int32) f) (A_va : ArD Z h0 va (3 : Int32) fv) (hC : ∀ j, Sm (f j)) (hV : ∀ j, Sm (fv j)) :
    MetFree l (⟨"com/example/regolo/regolo/engine/Relaxation", "objective", "()D"⟩ : MethodName) (head1 (Jvm.Cond.code (⟨"com/example/regolo/regolo/engine/Relaxation", "objective", "()D"⟩ : MethodName) prog_62_method_9_code 4 (some .double) :: ws) ({ frames := 0, cells := 0, slots := 0, locals := 0 } : Room)) (fun a U => a = #[(.ref a1)] ∧ Z.Warmed39 U.vm ∧ U.heap = h0) (fun _ _ _ _ _ => True) (fun _ U o U' => ∃ v L, o = .returned v ∧ QO Z a1 co va f fv h0 n0 v U'.heap L ∧ FrameEnd U o U' L ({ frames := 0, cells := 0, slots := 0, locals := 0 } : Room).cells ({ frames := 0, cells := 0, slots := 0, locals := 0 } : Room).slots) := by
  refine MetFree.of_bodySF (plainFor_of_name pn_4) hisR ?_
  intro p e s m args below meth c s₁ Bd hml0 hP hK
  obtain ⟨rfl, hZ, hh⟩ := hP
  have hx := Bd.exec
  have hby := Bd.bytes
  have hml : c.maxLocals = 4 := hml0
  have hown : s.vm.findClass "com/example/regolo/regolo/engine/Relaxation" = some m.cls := findClass_of_methodNamed Bd.named
  have hnm := (name_of_methodNamed Bd.named Bd.method).1
  have X0 : Stand p l e ({ frames := 0, cells := 0, slots := 0, locals := 0 } : Room) s m #[(.ref a1)] below meth c s₁ [] 0 0 := Stand.of_body Bd
  have e0 : s₁.heap = h0 := by rw [← hh, Bd.state]; rfl
  have N0 := Fr.nil n0
  have pre0 : ∀ t, Steps p.tables e below (s₁.setTop (mkF m 0 #[.val (.ref a1), .unset, .unset, .unset] [])) t → Steps p.tables e below (s₁.setTop (entryFrame m #[(.ref a1)] 4)) t := fun t k => castTop (ef_O m a1) k
  obtain ⟨T171, X171, e171, st171⟩ := getF X0 hx hZ hown (host := "") (Or.inl (hw _ (List.mem_of_getElem? (i := 52) rfl))) Via.refl e0 F_columns_a1 (g := (mkF m 6 #[.val (.ref a1), .val (.double (FP.l2d (0 : Int64))), .second, .val (.int (0 : Int32))] [(.ref a1), (.int (0 : Int32))])) rfl rfl (hb hby d15_6)
  obtain ⟨T172, X172, e172, st172⟩ := getF X171 hx hZ hown (host := "") (Or.inl (hw _ (List.mem_of_getElem? (i := 62) rfl))) Via.refl e171 F_cost_a1 (g := (mkF m 14 #[.val (.ref a1), .val (.double (FP.l2d (0 : Int64))), .second, .val (.int (0 : Int32))] [(.ref a1), (.double (FP.l2d (0 : Int64)))])) rfl rfl (hb hby d15_14)
  obtain ⟨cl173, Ar173, hs173, hin173, hat173⟩ := ArD.open (j := (0 : Int32)) A_co (by decide)
  obtain ⟨T174, X174, e174, st174⟩ := getF X172 hx hZ hown (host := "") (Or.inl (hw _ (List.mem_of_getElem? (i := 68) rfl))) Via.refl e172 F_value_a1 (g := (mkF m 20 #[.val (.ref a1), .val (.double (FP.l2d (0 : Int64))), .second, .val (.int (0 : Int32))] [(.ref a1), (.double (FP.l2d (f (0 : Int32).toNatClampNeg))), (.double (FP.l2d (0 : Int64)))])) rfl rfl (hb hby d15_20)
  obtain ⟨cl175, Ar175, hs175, hin175, hat175⟩ := ArD.open (j := (0 : Int32)) A_va (by decide)
  obtain ⟨T176, X176, e176, st176⟩ := getF X174 hx hZ hown (host := "") (Or.inl (hw _ (List.mem_of_getElem? (i := 52) rfl))) Via.refl e174 F_columns_a1 (g := (mkF m 6 #[.val (.ref a1), .val (.double (FP.l2d ((0 : Int64) + ((f (0 : Int32).toNatClampNeg) * (fv (0 : Int32).toNatClampNeg))))), .second, .val (.int (1 : Int32))] [(.ref a1), (.int (1 : Int32))])) rfl rfl (hb hby d15_6)
  obtain ⟨T177, X177, e177, st177⟩ := getF X176 hx hZ hown (host := "") (Or.inl (hw _ (List.mem_of_getElem? (i := 62) rfl))) Via.refl e176 F_cost_a1 (g := (mkF m 14 #[.val (.ref a1), .val (.double (FP.l2d ((0 : Int64) + ((f (0 : Int32).toNatClampNeg) * (fv (0 : Int32).toNatClampNeg))))), .second, .val (.int (1 : Int32))] [(.ref a1), (.double (FP.l2d ((0 : Int64) + ((f (0 : Int32).toNatClampNeg) * (fv (0 : Int32).toNatClampNeg)))))])) rfl rfl (hb hby d15_14)
  obtain ⟨cl178, Ar178, hs178, hin178, hat178⟩ := ArD.open (j := (1 : Int32)) A_co (by decide)
  obtain ⟨T179, X179, e179, st179⟩ := getF X177 hx hZ hown (host := "") (Or.inl (hw _ (List.mem_of_getElem? (i := 68) rfl))) Via.refl e177 F_value_a1 (g := (mkF m 20 #[.val (.ref a1), .val (.double (FP.l2d ((0 : Int64) + ((f (0 : Int32).toNatClampNeg) * (fv (0 : Int32).toNatClampNeg))))), .second, .val (.int (1 : Int32))] [(.ref a1), (.double (FP.l2d (f (1 : Int32).toNatClampNeg))), (.double (FP.l2d ((0 : Int64) + ((f (0 : Int32).toNatClampNeg) * (fv (0 : Int32).toNatClampNeg)))))])) rfl rfl (hb hby d15_20)
  obtain ⟨cl180, Ar180, hs180, hin180, hat180⟩ := ArD.open (j := (1 : Int32)) A_va (by decide)
  obtain ⟨T181, X181, e181, st181⟩ := getF X179 hx hZ hown (host := "") (Or.inl (hw _ (List.mem_of_getElem? (i := 52) rfl))) Via.refl e179 F_columns_a1 (g := (mkF m 6 #[.val (.ref a1), .val (.double (FP.l2d (((0 : Int64) + ((f (0 : Int32).toNatClampNeg) * (fv (0 : Int32).toNatClampNeg))) + ((f (1 : Int32).toNatClampNeg) * (fv (1 : Int32).toNatClampNeg))))), .second, .val (.int (2 : Int32))] [(.ref a1), (.int (2 : Int32))])) rfl rfl (hb hby d15_6)
  obtain ⟨T182, X182, e182, st182⟩ := getF X181 hx hZ hown (host := "") (Or.inl (hw _ (List.mem_of_getElem? (i := 62) rfl))) Via.refl e181 F_cost_a1 (g := (mkF m 14 #[.val (.ref a1), .val (.double (FP.l2d (((0 : Int64) + ((f (0 : Int32).toNatClampNeg) * (fv (0 : Int32).toNatClampNeg))) + ((f (1 : Int32).toNatClampNeg) * (fv (1 : Int32).toNatClampNeg))))), .second, .val (.int (2 : Int32))] [(.ref a1), (.double (FP.l2d (((0 : Int64) + ((f (0 : Int32).toNatClampNeg) * (fv (0 : Int32).toNatClampNeg))) + ((f (1 : Int32).toNatClampNeg) * (fv (1 : Int32).toNatClampNeg)))))])) rfl rfl (hb hby d15_14)
  obtain ⟨cl183, Ar183, hs183, hin183, hat183⟩ := ArD.open (j := (2 : Int32)) A_co (by decide)
  obtain ⟨T184, X184, e184, st184⟩ := getF X182 hx hZ hown (host := "") (Or.inl (hw _ (List.mem_of_getElem? (i := 68) rfl))) Via.refl e182 F_value_a1 (g := (mkF m 20 #[.val (.ref a1), .val (.double (FP.l2d (((0 : Int64) + ((f (0 : Int32).toNatClampNeg) * (fv (0 : Int32).toNatClampNeg))) + ((f (1 : Int32).toNatClampNeg) * (fv (1 : Int32).toNatClampNeg))))), .second, .val (.int (2 : Int32))] [(.ref a1), (.double (FP.l2d (f (2 : Int32).toNatClampNeg))), (.double (FP.l2d (((0 : Int64) + ((f (0 : Int32).toNatClampNeg) * (fv (0 : Int32).toNatClampNeg))) + ((f (1 : Int32).toNatClampNeg) * (fv (1 : Int32).toNatClampNeg)))))])) rfl rfl (hb hby d15_20)
  obtain ⟨cl185, Ar185, hs185, hin185, hat185⟩ := ArD.open (j := (2 : Int32)) A_va (by decide)
  obtain ⟨T186, X186, e186, st186⟩ := getF X184 hx hZ hown (host := "") (Or.inl (hw _ (List.mem_of_getElem? (i := 52) rfl))) Via.refl e184 F_columns_a1 (g := (mkF m 6 #[.val (.ref a1), .val (.double (FP.l2d ((((0 : Int64) + ((f (0 : Int32).toNatClampNeg) * (fv (0 : Int32).toNatClampNeg))) + ((f (1 : Int32).toNatClampNeg) * (fv (1 : Int32).toNatClampNeg))) + ((f (2 : Int32).toNatClampNeg) * (fv (2 : Int32).toNatClampNeg))))), .second, .val (.int (3 : Int32))] [(.ref a1), (.int (3 : Int32))])) rfl rfl (hb hby d15_6)
  obtain ⟨fs, hr, hrun, hended, hW, hsame⟩ := X186.leave (v := some (.double (FP.l2d ((((0 : Int64) + ((f (0 : Int32).toNatClampNeg) * (fv (0 : Int32).toNatClampNeg))) + ((f (1 : Int32).toNatClampNeg) * (fv (1 : Int32).toNatClampNeg))) + ((f (2 : Int32).toNatClampNeg) * (fv (2 : Int32).toNatClampNeg)))))) (fun h => by rw [Bd.returns] at h; cases h)
  refine ⟨_, _, pre0 _ ?_, hrun, hended, _, _, rfl, ?_, ⟨_, rfl⟩, hW, hsame.mono (by decide) (by decide)⟩
  · show Steps p.tables e below (s₁.setTop (mkF m 0 #[.val (.ref a1), .unset, .unset, .unset] [])) _
    refine XS.dconst0 X0.here hx rfl (hb hby d15_0) own_dc0 ?_
    show Steps p.tables e below (s₁.setTop (mkF m 1 #[.val (.ref a1), .unset, .unset, .unset] [(.double (FP.l2d (0 : Int64)))])) _
    refine XS.dstoreN X0.here hx rfl (hb hby d15_1) rfl (l' := #[.val (.ref a1), .val (.double (FP.l2d (0 : Int64))), .second, .unset]) rfl ?_
    show Steps p.tables e below (s₁.setTop (mkF m 2 #[.val (.ref a1), .val (.double (FP.l2d (0 : Int64))), .second, .unset] [])) _
    refine XS.iconst X0.here hx rfl (hb hby d15_2) ?_
    show Steps p.tables e below (s₁.setTop (mkF m 3 #[.val (.ref a1), .val (.double (FP.l2d (0 : Int64))), .second, .unset] [(.int (0 : Int32))])) _
    refine XS.istoreN X0.here hx rfl (hb hby d15_3) rfl (l' := #[.val (.ref a1), .val (.double (FP.l2d (0 : Int64))), .second, .val (.int (0 : Int32))]) rfl ?_
    show Steps p.tables e below (s₁.setTop (mkF m 4 #[.val (.ref a1), .val (.double (FP.l2d (0 : Int64))), .second, .val (.int (0 : Int32))] [])) _
    refine XS.iloadN X0.here hx rfl (hb hby d15_4) rfl ?_
    show Steps p.tables e below (s₁.setTop (mkF m 5 #[.val (.ref a1), .val (.double (FP.l2d (0 : Int64))), .second, .val (.int (0 : Int32))] [(.int (0 : Int32))])) _
    refine XS.aloadN X0.here hx rfl (hb hby d15_5) rfl rfl ?_
    show Steps p.tables e below (s₁.setTop (mkF m 6 #[.val (.ref a1), .val (.double (FP.l2d (0 : Int64))), .second, .val (.int (0 : Int32))] [(.ref a1), (.int (0 : Int32))])) _
    refine st171 _ ?_
    show Steps p.tables e below (T171.setTop (mkF m 9 #[.val (.ref a1), .val (.double (FP.l2d (0 : Int64))), .second, .val (.int (0 : Int32))] [(.int (3 : Int32)), (.int (0 : Int32))])) _
    refine XS.icmpNo X171.here hx rfl (hb hby d15_9) rfl (tlt (by decide)).2.1 ?_
    show Steps p.tables e below (T171.setTop (mkF m 12 #[.val (.ref a1), .val (.double (FP.l2d (0 : Int64))), .second, .val (.int (0 : Int32))] [])) _
    refine XS.dloadN X171.here hx rfl (hb hby d15_12) rfl ?_
    show Steps p.tables e below (T171.setTop (mkF m 13 #[.val (.ref a1), .val (.double (FP.l2d (0 : Int64))), .second, .val (.int (0 : Int32))] [(.double (FP.l2d (0 : Int64)))])) _
    refine XS.aloadN X171.here hx rfl (hb hby d15_13) rfl rfl ?_
    show Steps p.tables e below (T171.setTop (mkF m 14 #[.val (.ref a1), .val (.double (FP.l2d (0 : Int64))), .second, .val (.int (0 : Int32))] [(.ref a1), (.double (FP.l2d (0 : Int64)))])) _
    refine st172 _ ?_
    show Steps p.tables e below (T172.setTop (mkF m 17 #[.val (.ref a1), .val (.double (FP.l2d (0 : Int64))), .second, .val (.int (0 : Int32))] [(.ref co), (.double (FP.l2d (0 : Int64)))])) _
    refine XS.iloadN X172.here hx rfl (hb hby d15_17) rfl ?_
    show Steps p.tables e below (T172.setTop (mkF m 18 #[.val (.ref a1), .val (.double (FP.l2d (0 : Int64))), .second, .val (.int (0 : Int32))] [(.int (0 : Int32)), (.ref co), (.double (FP.l2d (0 : Int64)))])) _
    refine X172.daload hx (j := (0 : Int32)) (v := (.double (FP.l2d (f (0 : Int32).toNatClampNeg)))) (by rw [e172]; exact Ar173.1) (State.isArrayOf_alike hZ.alike Ar173.2.1) Ar173.2.2 hin173 hat173 (g := (mkF m 18 #[.val (.ref a1), .val (.double (FP.l2d (0 : Int64))), .second, .val (.int (0 : Int32))] [(.int (0 : Int32)), (.ref co), (.double (FP.l2d (0 : Int64)))])) rfl rfl (hb hby d15_18) _ ?_
    show Steps p.tables e below (T172.setTop (mkF m 19 #[.val (.ref a1), .val (.double (FP.l2d (0 : Int64))), .second, .val (.int (0 : Int32))] [(.double (FP.l2d (f (0 : Int32).toNatClampNeg))), (.double (FP.l2d (0 : Int64)))])) _
    refine XS.aloadN X172.here hx rfl (hb hby d15_19) rfl rfl ?_
    show Steps p.tables e below (T172.setTop (mkF m 20 #[.val (.ref a1), .val (.double (FP.l2d (0 : Int64))), .second, .val (.int (0 : Int32))] [(.ref a1), (.double (FP.l2d (f (0 : Int32).toNatClampNeg))), (.double (FP.l2d (0 : Int64)))])) _
    refine st174 _ ?_
    show Steps p.tables e below (T174.setTop (mkF m 23 #[.val (.ref a1), .val (.double (FP.l2d (0 : Int64))), .second, .val (.int (0 : Int32))] [(.ref va), (.double (FP.l2d (f (0 : Int32).toNatClampNeg))), (.double (FP.l2d (0 : Int64)))])) _
    refine XS.iloadN X174.here hx rfl (hb hby d15_23) rfl ?_
    show Steps p.tables e below (T174.setTop (mkF m 24 #[.val (.ref a1), .val (.double (FP.l2d (0 : Int64))), .second, .val (.int (0 : Int32))] [(.int (0 : Int32)), (.ref va), (.double (FP.l2d (f (0 : Int32).toNatClampNeg))), (.double (FP.l2d (0 : Int64)))])) _
    refine X174.daload hx (j := (0 : Int32)) (v := (.double (FP.l2d (fv (0 : Int32).toNatClampNeg)))) (by rw [e174]; exact Ar175.1) (State.isArrayOf_alike hZ.alike Ar175.2.1) Ar175.2.2 hin175 hat175 (g := (mkF m 24 #[.val (.ref a1), .val (.double (FP.l2d (0 : Int64))), .second, .val (.int (0 : Int32))] [(.int (0 : Int32)), (.ref va), (.double (FP.l2d (f (0 : Int32).toNatClampNeg))), (.double (FP.l2d (0 : Int64)))])) rfl rfl (hb hby d15_24) _ ?_
    show Steps p.tables e below (T174.setTop (mkF m 25 #[.val (.ref a1), .val (.double (FP.l2d (0 : Int64))), .second, .val (.int (0 : Int32))] [(.double (FP.l2d (fv (0 : Int32).toNatClampNeg))), (.double (FP.l2d (f (0 : Int32).toNatClampNeg))), (.double (FP.l2d (0 : Int64)))])) _
    refine XS.dmulS X174.here hx rfl (hb hby d15_25) rfl (own_nnm (hC _) (hV _)) rfl ?_
    show Steps p.tables e below (T174.setTop (mkF m 26 #[.val (.ref a1), .val (.double (FP.l2d (0 : Int64))), .second, .val (.int (0 : Int32))] [(.double (FP.dmul (FP.l2d (f (0 : Int32).toNatClampNeg)) (FP.l2d (fv (0 : Int32).toNatClampNeg)))), (.double (FP.l2d (0 : Int64)))])) _
    refine XS.daddS X174.here hx rfl (hb hby d15_26) rfl (nn_w (own_dadd own_bd0 (hC _) (hV _) (by decide))) (own_dadd own_bd0 (hC _) (hV _) (by decide)) ?_
    show Steps p.tables e below (T174.setTop (mkF m 27 #[.val (.ref a1), .val (.double (FP.l2d (0 : Int64))), .second, .val (.int (0 : Int32))] [(.double (FP.l2d ((0 : Int64) + ((f (0 : Int32).toNatClampNeg) * (fv (0 : Int32).toNatClampNeg)))))])) _
    refine XS.dstoreN X174.here hx rfl (hb hby d15_27) rfl (l' := #[.val (.ref a1), .val (.double (FP.l2d ((0 : Int64) + ((f (0 : Int32).toNatClampNeg) * (fv (0 : Int32).toNatClampNeg))))), .second, .val (.int (0 : Int32))]) rfl ?_
    show Steps p.tables e below (T174.setTop (mkF m 28 #[.val (.ref a1), .val (.double (FP.l2d ((0 : Int64) + ((f (0 : Int32).toNatClampNeg) * (fv (0 : Int32).toNatClampNeg))))), .second, .val (.int (0 : Int32))] [])) _
    refine XS.iinc X174.here hx rfl (hb hby d15_28) rfl (l' := #[.val (.ref a1), .val (.double (FP.l2d ((0 : Int64) + ((f (0 : Int32).toNatClampNeg) * (fv (0 : Int32).toNatClampNeg))))), .second, .val (.int (1 : Int32))]) rfl ?_
    show Steps p.tables e below (T174.setTop (mkF m 31 #[.val (.ref a1), .val (.double (FP.l2d ((0 : Int64) + ((f (0 : Int32).toNatClampNeg) * (fv (0 : Int32).toNatClampNeg))))), .second, .val (.int (1 : Int32))] [])) _
    refine XS.goto X174.here hx rfl (pc0 := 31) (pc' := 4) rfl (hb hby d15_31) (by decide) (by decide) ?_
    show Steps p.tables e below (T174.setTop (mkF m 4 #[.val (.ref a1), .val (.double (FP.l2d ((0 : Int64) + ((f (0 : Int32).toNatClampNeg) * (fv (0 : Int32).toNatClampNeg))))), .second, .val (.int (1 : Int32))] [])) _
    refine XS.iloadN X174.here hx rfl (hb hby d15_4) rfl ?_
    show Steps p.tables e below (T174.setTop (mkF m 5 #[.val (.ref a1), .val (.double (FP.l2d ((0 : Int64) + ((f (0 : Int32).toNatClampNeg) * (fv (0 : Int32).toNatClampNeg))))), .second, .val (.int (1 : Int32))] [(.int (1 : Int32))])) _
    refine XS.aloadN X174.here hx rfl (hb hby d15_5) rfl rfl ?_
    show Steps p.tables e below (T174.setTop (mkF m 6 #[.val (.ref a1), .val (.double (FP.l2d ((0 : Int64) + ((f (0 : Int32).toNatClampNeg) * (fv (0 : Int32).toNatClampNeg))))), .second, .val (.int (1 : Int32))] [(.ref a1), (.int (1 : Int32))])) _
    refine st176 _ ?_
    show Steps p.tables e below (T176.setTop (mkF m 9 #[.val (.ref a1), .val (.double (FP.l2d ((0 : Int64) + ((f (0 : Int32).toNatClampNeg) * (fv (0 : Int32).toNatClampNeg))))), .second, .val (.int (1 : Int32))] [(.int (3 : Int32)), (.int (1 : Int32))])) _
    refine XS.icmpNo X176.here hx rfl (hb hby d15_9) rfl (tlt (by decide)).2.1 ?_
    show Steps p.tables e below (T176.setTop (mkF m 12 #[.val (.ref a1), .val (.double (FP.l2d ((0 : Int64) + ((f (0 : Int32).toNatClampNeg) * (fv (0 : Int32).toNatClampNeg))))), .second, .val (.int (1 : Int32))] [])) _
    refine XS.dloadN X176.here hx rfl (hb hby d15_12) rfl ?_
    show Steps p.tables e below (T176.setTop (mkF m 13 #[.val (.ref a1), .val (.double (FP.l2d ((0 : Int64) + ((f (0 : Int32).toNatClampNeg) * (fv (0 : Int32).toNatClampNeg))))), .second, .val (.int (1 : Int32))] [(.double (FP.l2d ((0 : Int64) + ((f (0 : Int32).toNatClampNeg) * (fv (0 : Int32).toNatClampNeg)))))])) _
    refine XS.aloadN X176.here hx rfl (hb hby d15_13) rfl rfl ?_
    show Steps p.tables e below (T176.setTop (mkF m 14 #[.val (.ref a1), .val (.double (FP.l2d ((0 : Int64) + ((f (0 : Int32).toNatClampNeg) * (fv (0 : Int32).toNatClampNeg))))), .second, .val (.int (1 : Int32))] [(.ref a1), (.double (FP.l2d ((0 : Int64) + ((f (0 : Int32).toNatClampNeg) * (fv (0 : Int32).toNatClampNeg)))))])) _
    refine st177 _ ?_
    show Steps p.tables e below (T177.setTop (mkF m 17 #[.val (.ref a1), .val (.double (FP.l2d ((0 : Int64) + ((f (0 : Int32).toNatClampNeg) * (fv (0 : Int32).toNatClampNeg))))), .second, .val (.int (1 : Int32))] [(.ref co), (.double (FP.l2d ((0 : Int64) + ((f (0 : Int32).toNatClampNeg) * (fv (0 : Int32).toNatClampNeg)))))])) _
    refine XS.iloadN X177.here hx rfl (hb hby d15_17) rfl ?_
    show Steps p.tables e below (T177.setTop (mkF m 18 #[.val (.ref a1), .val (.double (FP.l2d ((0 : Int64) + ((f (0 : Int32).toNatClampNeg) * (fv (0 : Int32).toNatClampNeg))))), .second, .val (.int (1 : Int32))] [(.int (1 : Int32)), (.ref co), (.double (FP.l2d ((0 : Int64) + ((f (0 : Int32).toNatClampNeg) * (fv (0 : Int32).toNatClampNeg)))))])) _
    refine X177.daload hx (j := (1 : Int32)) (v := (.double (FP.l2d (f (1 : Int32).toNatClampNeg)))) (by rw [e177]; exact Ar178.1) (State.isArrayOf_alike hZ.alike Ar178.2.1) Ar178.2.2 hin178 hat178 (g := (mkF m 18 #[.val (.ref a1), .val (.double (FP.l2d ((0 : Int64) + ((f (0 : Int32).toNatClampNeg) * (fv (0 : Int32).toNatClampNeg))))), .second, .val (.int (1 : Int32))] [(.int (1 : Int32)), (.ref co), (.double (FP.l2d ((0 : Int64) + ((f (0 : Int32).toNatClampNeg) * (fv (0 : Int32).toNatClampNeg)))))])) rfl rfl (hb hby d15_18) _ ?_
    show Steps p.tables e below (T177.setTop (mkF m 19 #[.val (.ref a1), .val (.double (FP.l2d ((0 : Int64) + ((f (0 : Int32).toNatClampNeg) * (fv (0 : Int32).toNatClampNeg))))), .second, .val (.int (1 : Int32))] [(.double (FP.l2d (f (1 : Int32).toNatClampNeg))), (.double (FP.l2d ((0 : Int64) + ((f (0 : Int32).toNatClampNeg) * (fv (0 : Int32).toNatClampNeg)))))])) _
    refine XS.aloadN X177.here hx rfl (hb hby d15_19) rfl rfl ?_
    show Steps p.tables e below (T177.setTop (mkF m 20 #[.val (.ref a1), .val (.double (FP.l2d ((0 : Int64) + ((f (0 : Int32).toNatClampNeg) * (fv (0 : Int32).toNatClampNeg))))), .second, .val (.int (1 : Int32))] [(.ref a1), (.double (FP.l2d (f (1 : Int32).toNatClampNeg))), (.double (FP.l2d ((0 : Int64) + ((f (0 : Int32).toNatClampNeg) * (fv (0 : Int32).toNatClampNeg)))))])) _
    refine st179 _ ?_
    show Steps p.tables e below (T179.setTop (mkF m 23 #[.val (.ref a1), .val (.double (FP.l2d ((0 : Int64) + ((f (0 : Int32).toNatClampNeg) * (fv (0 : Int32).toNatClampNeg))))), .second, .val (.int (1 : Int32))] [(.ref va), (.double (FP.l2d (f (1 : Int32).toNatClampNeg))), (.double (FP.l2d ((0 : Int64) + ((f (0 : Int32).toNatClampNeg) * (fv (0 : Int32).toNatClampNeg)))))])) _
    refine XS.iloadN X179.here hx rfl (hb hby d15_23) rfl ?_
    show Steps p.tables e below (T179.setTop (mkF m 24 #[.val (.ref a1), .val (.double (FP.l2d ((0 : Int64) + ((f (0 : Int32).toNatClampNeg) * (fv (0 : Int32).toNatClampNeg))))), .second, .val (.int (1 : Int32))] [(.int (1 : Int32)), (.ref va), (.double (FP.l2d (f (1 : Int32).toNatClampNeg))), (.double (FP.l2d ((0 : Int64) + ((f (0 : Int32).toNatClampNeg) * (fv (0 : Int32).toNatClampNeg)))))])) _
    refine X179.daload hx (j := (1 : Int32)) (v := (.double (FP.l2d (fv (1 : Int32).toNatClampNeg)))) (by rw [e179]; exact Ar180.1) (State.isArrayOf_alike hZ.alike Ar180.2.1) Ar180.2.2 hin180 hat180 (g := (mkF m 24 #[.val (.ref a1), .val (.double (FP.l2d ((0 : Int64) + ((f (0 : Int32).toNatClampNeg) * (fv (0 : Int32).toNatClampNeg))))), .second, .val (.int (1 : Int32))] [(.int (1 : Int32)), (.ref va), (.double (FP.l2d (f (1 : Int32).toNatClampNeg))), (.double (FP.l2d ((0 : Int64) + ((f (0 : Int32).toNatClampNeg) * (fv (0 : Int32).toNatClampNeg)))))])) rfl rfl (hb hby d15_24) _ ?_
    show Steps p.tables e below (T179.setTop (mkF m 25 #[.val (.ref a1), .val (.double (FP.l2d ((0 : Int64) + ((f (0 : Int32).toNatClampNeg) * (fv (0 : Int32).toNatClampNeg))))), .second, .val (.int (1 : Int32))] [(.double (FP.l2d (fv (1 : Int32).toNatClampNeg))), (.double (FP.l2d (f (1 : Int32).toNatClampNeg))), (.double (FP.l2d ((0 : Int64) + ((f (0 : Int32).toNatClampNeg) * (fv (0 : Int32).toNatClampNeg)))))])) _
    refine XS.dmulS X179.here hx rfl (hb hby d15_25) rfl (own_nnm (hC _) (hV _)) rfl ?_
    show Steps p.tables e below (T179.setTop (mkF m 26 #[.val (.ref a1), .val (.double (FP.l2d ((0 : Int64) + ((f (0 : Int32).toNatClampNeg) * (fv (0 : Int32).toNatClampNeg))))), .second, .val (.int (1 : Int32))] [(.double (FP.dmul (FP.l2d (f (1 : Int32).toNatClampNeg)) (FP.l2d (fv (1 : Int32).toNatClampNeg)))), (.double (FP.l2d ((0 : Int64) + ((f (0 : Int32).toNatClampNeg) * (fv (0 : Int32).toNatClampNeg)))))])) _
    refine XS.daddS X179.here hx rfl (hb hby d15_26) rfl (nn_w (own_dadd (own_bd own_bd0 (hC _) (hV _) (by decide)) (hC _) (hV _) (by decide))) (own_dadd (own_bd own_bd0 (hC _) (hV _) (by decide)) (hC _) (hV _) (by decide)) ?_
    show Steps p.tables e below (T179.setTop (mkF m 27 #[.val (.ref a1), .val (.double (FP.l2d ((0 : Int64) + ((f (0 : Int32).toNatClampNeg) * (fv (0 : Int32).toNatClampNeg))))), .second, .val (.int (1 : Int32))] [(.double (FP.l2d (((0 : Int64) + ((f (0 : Int32).toNatClampNeg) * (fv (0 : Int32).toNatClampNeg))) + ((f (1 : Int32).toNatClampNeg) * (fv (1 : Int32).toNatClampNeg)))))])) _
    refine XS.dstoreN X179.here hx rfl (hb hby d15_27) rfl (l' := #[.val (.ref a1), .val (.double (FP.l2d (((0 : Int64) + ((f (0 : Int32).toNatClampNeg) * (fv (0 : Int32).toNatClampNeg))) + ((f (1 : Int32).toNatClampNeg) * (fv (1 : Int32).toNatClampNeg))))), .second, .val (.int (1 : Int32))]) rfl ?_
    show Steps p.tables e below (T179.setTop (mkF m 28 #[.val (.ref a1), .val (.double (FP.l2d (((0 : Int64) + ((f (0 : Int32).toNatClampNeg) * (fv (0 : Int32).toNatClampNeg))) + ((f (1 : Int32).toNatClampNeg) * (fv (1 : Int32).toNatClampNeg))))), .second, .val (.int (1 : Int32))] [])) _
    refine XS.iinc X179.here hx rfl (hb hby d15_28) rfl (l' := #[.val (.ref a1), .val (.double (FP.l2d (((0 : Int64) + ((f (0 : Int32).toNatClampNeg) * (fv (0 : Int32).toNatClampNeg))) + ((f (1 : Int32).toNatClampNeg) * (fv (1 : Int32).toNatClampNeg))))), .second, .val (.int (2 : Int32))]) rfl ?_
    show Steps p.tables e below (T179.setTop (mkF m 31 #[.val (.ref a1), .val (.double (FP.l2d (((0 : Int64) + ((f (0 : Int32).toNatClampNeg) * (fv (0 : Int32).toNatClampNeg))) + ((f (1 : Int32).toNatClampNeg) * (fv (1 : Int32).toNatClampNeg))))), .second, .val (.int (2 : Int32))] [])) _
    refine XS.goto X179.here hx rfl (pc0 := 31) (pc' := 4) rfl (hb hby d15_31) (by decide) (by decide) ?_
    show Steps p.tables e below (T179.setTop (mkF m 4 #[.val (.ref a1), .val (.double (FP.l2d (((0 : Int64) + ((f (0 : Int32).toNatClampNeg) * (fv (0 : Int32).toNatClampNeg))) + ((f (1 : Int32).toNatClampNeg) * (fv (1 : Int32).toNatClampNeg))))), .second, .val (.int (2 : Int32))] [])) _
    refine XS.iloadN X179.here hx rfl (hb hby d15_4) rfl ?_
    show Steps p.tables e below (T179.setTop (mkF m 5 #[.val (.ref a1), .val (.double (FP.l2d (((0 : Int64) + ((f (0 : Int32).toNatClampNeg) * (fv (0 : Int32).toNatClampNeg))) + ((f (1 : Int32).toNatClampNeg) * (fv (1 : Int32).toNatClampNeg))))), .second, .val (.int (2 : Int32))] [(.int (2 : Int32))])) _
    refine XS.aloadN X179.here hx rfl (hb hby d15_5) rfl rfl ?_
    show Steps p.tables e below (T179.setTop (mkF m 6 #[.val (.ref a1), .val (.double (FP.l2d (((0 : Int64) + ((f (0 : Int32).toNatClampNeg) * (fv (0 : Int32).toNatClampNeg))) + ((f (1 : Int32).toNatClampNeg) * (fv (1 : Int32).toNatClampNeg))))), .second, .val (.int (2 : Int32))] [(.ref a1), (.int (2 : Int32))])) _
    refine st181 _ ?_
    show Steps p.tables e below (T181.setTop (mkF m 9 #[.val (.ref a1), .val (.double (FP.l2d (((0 : Int64) + ((f (0 : Int32).toNatClampNeg) * (fv (0 : Int32).toNatClampNeg))) + ((f (1 : Int32).toNatClampNeg) * (fv (1 : Int32).toNatClampNeg))))), .second, .val (.int (2 : Int32))] [(.int (3 : Int32)), (.int (2 : Int32))])) _
    refine XS.icmpNo X181.here hx rfl (hb hby d15_9) rfl (tlt (by decide)).2.1 ?_
    show Steps p.tables e below (T181.setTop (mkF m 12 #[.val (.ref a1), .val (.double (FP.l2d (((0 : Int64) + ((f (0 : Int32).toNatClampNeg) * (fv (0 : Int32).toNatClampNeg))) + ((f (1 : Int32).toNatClampNeg) * (fv (1 : Int32).toNatClampNeg))))), .second, .val (.int (2 : Int32))] [])) _
    refine XS.dloadN X181.here hx rfl (hb hby d15_12) rfl ?_
    show Steps p.tables e below (T181.setTop (mkF m 13 #[.val (.ref a1), .val (.double (FP.l2d (((0 : Int64) + ((f (0 : Int32).toNatClampNeg) * (fv (0 : Int32).toNatClampNeg))) + ((f (1 : Int32).toNatClampNeg) * (fv (1 : Int32).toNatClampNeg))))), .second, .val (.int (2 : Int32))] [(.double (FP.l2d (((0 : Int64) + ((f (0 : Int32).toNatClampNeg) * (fv (0 : Int32).toNatClampNeg))) + ((f (1 : Int32).toNatClampNeg) * (fv (1 : Int32).toNatClampNeg)))))])) _
    refine XS.aloadN X181.here hx rfl (hb hby d15_13) rfl rfl ?_
    show Steps p.tables e below (T181.setTop (mkF m 14 #[.val (.ref a1), .val (.double (FP.l2d (((0 : Int64) + ((f (0 : Int32).toNatClampNeg) * (fv (0 : Int32).toNatClampNeg))) + ((f (1 : Int32).toNatClampNeg) * (fv (1 : Int32).toNatClampNeg))))), .second, .val (.int (2 : Int32))] [(.ref a1), (.double (FP.l2d (((0 : Int64) + ((f (0 : Int32).toNatClampNeg) * (fv (0 : Int32).toNatClampNeg))) + ((f (1 : Int32).toNatClampNeg) * (fv (1 : Int32).toNatClampNeg)))))])) _
    refine st182 _ ?_
    show Steps p.tables e below (T182.setTop (mkF m 17 #[.val (.ref a1), .val (.double (FP.l2d (((0 : Int64) + ((f (0 : Int32).toNatClampNeg) * (fv (0 : Int32).toNatClampNeg))) + ((f (1 : Int32).toNatClampNeg) * (fv (1 : Int32).toNatClampNeg))))), .second, .val (.int (2 : Int32))] [(.ref co), (.double (FP.l2d (((0 : Int64) + ((f (0 : Int32).toNatClampNeg) * (fv (0 : Int32).toNatClampNeg))) + ((f (1 : Int32).toNatClampNeg) * (fv (1 : Int32).toNatClampNeg)))))])) _
    refine XS.iloadN X182.here hx rfl (hb hby d15_17) rfl ?_
    show Steps p.tables e below (T182.setTop (mkF m 18 #[.val (.ref a1), .val (.double (FP.l2d (((0 : Int64) + ((f (0 : Int32).toNatClampNeg) * (fv (0 : Int32).toNatClampNeg))) + ((f (1 : Int32).toNatClampNeg) * (fv (1 : Int32).toNatClampNeg))))), .second, .val (.int (2 : Int32))] [(.int (2 : Int32)), (.ref co), (.double (FP.l2d (((0 : Int64) + ((f (0 : Int32).toNatClampNeg) * (fv (0 : Int32).toNatClampNeg))) + ((f (1 : Int32).toNatClampNeg) * (fv (1 : Int32).toNatClampNeg)))))])) _
    refine X182.daload hx (j := (2 : Int32)) (v := (.double (FP.l2d (f (2 : Int32).toNatClampNeg)))) (by rw [e182]; exact Ar183.1) (State.isArrayOf_alike hZ.alike Ar183.2.1) Ar183.2.2 hin183 hat183 (g := (mkF m 18 #[.val (.ref a1), .val (.double (FP.l2d (((0 : Int64) + ((f (0 : Int32).toNatClampNeg) * (fv (0 : Int32).toNatClampNeg))) + ((f (1 : Int32).toNatClampNeg) * (fv (1 : Int32).toNatClampNeg))))), .second, .val (.int (2 : Int32))] [(.int (2 : Int32)), (.ref co), (.double (FP.l2d (((0 : Int64) + ((f (0 : Int32).toNatClampNeg) * (fv (0 : Int32).toNatClampNeg))) + ((f (1 : Int32).toNatClampNeg) * (fv (1 : Int32).toNatClampNeg)))))])) rfl rfl (hb hby d15_18) _ ?_
    show Steps p.tables e below (T182.setTop (mkF m 19 #[.val (.ref a1), .val (.double (FP.l2d (((0 : Int64) + ((f (0 : Int32).toNatClampNeg) * (fv (0 : Int32).toNatClampNeg))) + ((f (1 : Int32).toNatClampNeg) * (fv (1 : Int32).toNatClampNeg))))), .second, .val (.int (2 : Int32))] [(.double (FP.l2d (f (2 : Int32).toNatClampNeg))), (.double (FP.l2d (((0 : Int64) + ((f (0 : Int32).toNatClampNeg) * (fv (0 : Int32).toNatClampNeg))) + ((f (1 : Int32).toNatClampNeg) * (fv (1 : Int32).toNatClampNeg)))))])) _
    refine XS.aloadN X182.here hx rfl (hb hby d15_19) rfl rfl ?_
    show Steps p.tables e below (T182.setTop (mkF m 20 #[.val (.ref a1), .val (.double (FP.l2d (((0 : Int64) + ((f (0 : Int32).toNatClampNeg) * (fv (0 : Int32).toNatClampNeg))) + ((f (1 : Int32).toNatClampNeg) * (fv (1 : Int32).toNatClampNeg))))), .second, .val (.int (2 : Int32))] [(.ref a1), (.double (FP.l2d (f (2 : Int32).toNatClampNeg))), (.double (FP.l2d (((0 : Int64) + ((f (0 : Int32).toNatClampNeg) * (fv (0 : Int32).toNatClampNeg))) + ((f (1 : Int32).toNatClampNeg) * (fv (1 : Int32).toNatClampNeg)))))])) _
    refine st184 _ ?_
    show Steps p.tables e below (T184.setTop (mkF m 23 #[.val (.ref a1), .val (.double (FP.l2d (((0 : Int64) + ((f (0 : Int32).toNatClampNeg) * (fv (0 : Int32).toNatClampNeg))) + ((f (1 : Int32).toNatClampNeg) * (fv (1 : Int32).toNatClampNeg))))), .second, .val (.int (2 : Int32))] [(.ref va), (.double (FP.l2d (f (2 : Int32).toNatClampNeg))), (.double (FP.l2d (((0 : Int64) + ((f (0 : Int32).toNatClampNeg) * (fv (0 : Int32).toNatClampNeg))) + ((f (1 : Int32).toNatClampNeg) * (fv (1 : Int32).toNatClampNeg)))))])) _
    refine XS.iloadN X184.here hx rfl (hb hby d15_23) rfl ?_
    show Steps p.tables e below (T184.setTop (mkF m 24 #[.val (.ref a1), .val (.double (FP.l2d (((0 : Int64) + ((f (0 : Int32).toNatClampNeg) * (fv (0 : Int32).toNatClampNeg))) + ((f (1 : Int32).toNatClampNeg) * (fv (1 : Int32).toNatClampNeg))))), .second, .val (.int (2 : Int32))] [(.int (2 : Int32)), (.ref va), (.double (FP.l2d (f (2 : Int32).toNatClampNeg))), (.double (FP.l2d (((0 : Int64) + ((f (0 : Int32).toNatClampNeg) * (fv (0 : Int32).toNatClampNeg))) + ((f (1 : Int32).toNatClampNeg) * (fv (1 : Int32).toNatClampNeg)))))])) _
    refine X184.daload hx (j := (2 : Int32)) (v := (.double (FP.l2d (fv (2 : Int32).toNatClampNeg)))) (by rw [e184]; exact Ar185.1) (State.isArrayOf_alike hZ.alike Ar185.2.1) Ar185.2.2 hin185 hat185 (g := (mkF m 24 #[.val (.ref a1), .val (.double (FP.l2d (((0 : Int64) + ((f (0 : Int32).toNatClampNeg) * (fv (0 : Int32).toNatClampNeg))) + ((f (1 : Int32).toNatClampNeg) * (fv (1 : Int32).toNatClampNeg))))), .second, .val (.int (2 : Int32))] [(.int (2 : Int32)), (.ref va), (.double (FP.l2d (f (2 : Int32).toNatClampNeg))), (.double (FP.l2d (((0 : Int64) + ((f (0 : Int32).toNatClampNeg) * (fv (0 : Int32).toNatClampNeg))) + ((f (1 : Int32).toNatClampNeg) * (fv (1 : Int32).toNatClampNeg)))))])) rfl rfl (hb hby d15_24) _ ?_
    show Steps p.tables e below (T184.setTop (mkF m 25 #[.val (.ref a1), .val (.double (FP.l2d (((0 : Int64) + ((f (0 : Int32).toNatClampNeg) * (fv (0 : Int32).toNatClampNeg))) + ((f (1 : Int32).toNatClampNeg) * (fv (1 : Int32).toNatClampNeg))))), .second, .val (.int (2 : Int32))] [(.double (FP.l2d (fv (2 : Int32).toNatClampNeg))), (.double (FP.l2d (f (2 : Int32).toNatClampNeg))), (.double (FP.l2d (((0 : Int64) + ((f (0 : Int32).toNatClampNeg) * (fv (0 : Int32).toNatClampNeg))) + ((f (1 : Int32).toNatClampNeg) * (fv (1 : Int32).toNatClampNeg)))))])) _
    refine XS.dmulS X184.here hx rfl (hb hby d15_25) rfl (own_nnm (hC _) (hV _)) rfl ?_
    show Steps p.tables e below (T184.setTop (mkF m 26 #[.val (.ref a1), .val (.double (FP.l2d (((0 : Int64) + ((f (0 : Int32).toNatClampNeg) * (fv (0 : Int32).toNatClampNeg))) + ((f (1 : Int32).toNatClampNeg) * (fv (1 : Int32).toNatClampNeg))))), .second, .val (.int (2 : Int32))] [(.double (FP.dmul (FP.l2d (f (2 : Int32).toNatClampNeg)) (FP.l2d (fv (2 : Int32).toNatClampNeg)))), (.double (FP.l2d (((0 : Int64) + ((f (0 : Int32).toNatClampNeg) * (fv (0 : Int32).toNatClampNeg))) + ((f (1 : Int32).toNatClampNeg) * (fv (1 : Int32).toNatClampNeg)))))])) _
    refine XS.daddS X184.here hx rfl (hb hby d15_26) rfl (nn_w (own_dadd (own_bd (own_bd own_bd0 (hC _) (hV _) (by decide)) (hC _) (hV _) (by decide)) (hC _) (hV _) (by decide))) (own_dadd (own_bd (own_bd own_bd0 (hC _) (hV _) (by decide)) (hC _) (hV _) (by decide)) (hC _) (hV _) (by decide)) ?_
    show Steps p.tables e below (T184.setTop (mkF m 27 #[.val (.ref a1), .val (.double (FP.l2d (((0 : Int64) + ((f (0 : Int32).toNatClampNeg) * (fv (0 : Int32).toNatClampNeg))) + ((f (1 : Int32).toNatClampNeg) * (fv (1 : Int32).toNatClampNeg))))), .second, .val (.int (2 : Int32))] [(.double (FP.l2d ((((0 : Int64) + ((f (0 : Int32).toNatClampNeg) * (fv (0 : Int32).toNatClampNeg))) + ((f (1 : Int32).toNatClampNeg) * (fv (1 : Int32).toNatClampNeg))) + ((f (2 : Int32).toNatClampNeg) * (fv (2 : Int32).toNatClampNeg)))))])) _
    refine XS.dstoreN X184.here hx rfl (hb hby d15_27) rfl (l' := #[.val (.ref a1), .val (.double (FP.l2d ((((0 : Int64) + ((f (0 : Int32).toNatClampNeg) * (fv (0 : Int32).toNatClampNeg))) + ((f (1 : Int32).toNatClampNeg) * (fv (1 : Int32).toNatClampNeg))) + ((f (2 : Int32).toNatClampNeg) * (fv (2 : Int32).toNatClampNeg))))), .second, .val (.int (2 : Int32))]) rfl ?_
    show Steps p.tables e below (T184.setTop (mkF m 28 #[.val (.ref a1), .val (.double (FP.l2d ((((0 : Int64) + ((f (0 : Int32).toNatClampNeg) * (fv (0 : Int32).toNatClampNeg))) + ((f (1 : Int32).toNatClampNeg) * (fv (1 : Int32).toNatClampNeg))) + ((f (2 : Int32).toNatClampNeg) * (fv (2 : Int32).toNatClampNeg))))), .second, .val (.int (2 : Int32))] [])) _
    refine XS.iinc X184.here hx rfl (hb hby d15_28) rfl (l' := #[.val (.ref a1), .val (.double (FP.l2d ((((0 : Int64) + ((f (0 : Int32).toNatClampNeg) * (fv (0 : Int32).toNatClampNeg))) + ((f (1 : Int32).toNatClampNeg) * (fv (1 : Int32).toNatClampNeg))) + ((f (2 : Int32).toNatClampNeg) * (fv (2 : Int32).toNatClampNeg))))), .second, .val (.int (3 : Int32))]) rfl ?_
    show Steps p.tables e below (T184.setTop (mkF m 31 #[.val (.ref a1), .val (.double (FP.l2d ((((0 : Int64) + ((f (0 : Int32).toNatClampNeg) * (fv (0 : Int32).toNatClampNeg))) + ((f (1 : Int32).toNatClampNeg) * (fv (1 : Int32).toNatClampNeg))) + ((f (2 : Int32).toNatClampNeg) * (fv (2 : Int32).toNatClampNeg))))), .second, .val (.int (3 : Int32))] [])) _
    refine XS.goto X184.here hx rfl (pc0 := 31) (pc' := 4) rfl (hb hby d15_31) (by decide) (by decide) ?_
    show Steps p.tables e below (T184.setTop (mkF m 4 #[.val (.ref a1), .val (.double (FP.l2d ((((0 : Int64) + ((f (0 : Int32).toNatClampNeg) * (fv (0 : Int32).toNatClampNeg))) + ((f (1 : Int32).toNatClampNeg) * (fv (1 : Int32).toNatClampNeg))) + ((f (2 : Int32).toNatClampNeg) * (fv (2 : Int32).toNatClampNeg))))), .second, .val (.int (3 : Int32))] [])) _
    refine XS.iloadN X184.here hx rfl (hb hby d15_4) rfl ?_
    show Steps p.tables e below (T184.setTop (mkF m 5 #[.val (.ref a1), .val (.double (FP.l2d ((((0 : Int64) + ((f (0 : Int32).toNatClampNeg) * (fv (0 : Int32).toNatClampNeg))) + ((f (1 : Int32).toNatClampNeg) * (fv (1 : Int32).toNatClampNeg))) + ((f (2 : Int32).toNatClampNeg) * (fv (2 : Int32).toNatClampNeg))))), .second, .val (.int (3 : Int32))] [(.int (3 : Int32))])) _
    refine XS.aloadN X184.here hx rfl (hb hby d15_5) rfl rfl ?_
    show Steps p.tables e below (T184.setTop (mkF m 6 #[.val (.ref a1), .val (.double (FP.l2d ((((0 : Int64) + ((f (0 : Int32).toNatClampNeg) * (fv (0 : Int32).toNatClampNeg))) + ((f (1 : Int32).toNatClampNeg) * (fv (1 : Int32).toNatClampNeg))) + ((f (2 : Int32).toNatClampNeg) * (fv (2 : Int32).toNatClampNeg))))), .second, .val (.int (3 : Int32))] [(.ref a1), (.int (3 : Int32))])) _
    refine st186 _ ?_
    show Steps p.tables e below (T186.setTop (mkF m 9 #[.val (.ref a1), .val (.double (FP.l2d ((((0 : Int64) + ((f (0 : Int32).toNatClampNeg) * (fv (0 : Int32).toNatClampNeg))) + ((f (1 : Int32).toNatClampNeg) * (fv (1 : Int32).toNatClampNeg))) + ((f (2 : Int32).toNatClampNeg) * (fv (2 : Int32).toNatClampNeg))))), .second, .val (.int (3 : Int32))] [(.int (3 : Int32)), (.int (3 : Int32))])) _
    refine XS.icmpYes X186.here hx rfl (pc0 := 9) (pc' := 34) rfl (hb hby d15_9) rfl (flt (by decide)).2.1 (by decide) (by decide) ?_
    show Steps p.tables e below (T186.setTop (mkF m 34 #[.val (.ref a1), .val (.double (FP.l2d ((((0 : Int64) + ((f (0 : Int32).toNatClampNeg) * (fv (0 : Int32).toNatClampNeg))) + ((f (1 : Int32).toNatClampNeg) * (fv (1 : Int32).toNatClampNeg))) + ((f (2 : Int32).toNatClampNeg) * (fv (2 : Int32).toNatClampNeg))))), .second, .val (.int (3 : Int32))] [])) _
    refine XS.dloadN X186.here hx rfl (hb hby d15_34) rfl ?_
    show Steps p.tables e below (T186.setTop (mkF m 35 #[.val (.ref a1), .val (.double (FP.l2d ((((0 : Int64) + ((f (0 : Int32).toNatClampNeg) * (fv (0 : Int32).toNatClampNeg))) + ((f (1 : Int32).toNatClampNeg) * (fv (1 : Int32).toNatClampNeg))) + ((f (2 : Int32).toNatClampNeg) * (fv (2 : Int32).toNatClampNeg))))), .second, .val (.int (3 : Int32))] [(.double (FP.l2d ((((0 : Int64) + ((f (0 : Int32).toNatClampNeg) * (fv (0 : Int32).toNatClampNeg))) + ((f (1 : Int32).toNatClampNeg) * (fv (1 : Int32).toNatClampNeg))) + ((f (2 : Int32).toNatClampNeg) * (fv (2 : Int32).toNatClampNeg)))))])) _
    exact retOut X186 hx Bd.returns rfl (Or.inr (Or.inr (Or.inl ⟨rfl, rfl, _, rfl⟩))) (hb hby d15_35) hr
  · show QO Z a1 co va f fv h0 n0 _ T186.heap _
    rw [e186]
    exact ⟨rfl, N0, rfl⟩
def QX (Z : State) (p1 : Int32) (p2 : Int32) (p3 : Int32) (p4 : Int32) (h0 : Heap) (n0 : Nat) (v : Option Value) (h : Heap) (L : List Loc) : Prop := v = some (.long (fX p1 p2 p3 p4)) ∧ Fr n0 L ∧ h = h0
theorem ef_X (m : MethodId) (p1 : Int32) (p2 : Int32) (p3 : Int32) (p4 : Int32) : entryFrame m #[(.int p1), (.int p2), (.int p3), (.int p4)] 4 = mkF m 0 #[.val (.int p1), .val (.int p2), .val (.int p3), .val (.int p4)] [] := by first | (simp [entryFrame, mkF, argsToLocals, Value.category]; done) | rfl
set_option maxRecDepth 65536 in
set_option maxHeartbeats 40000000 in
theorem rmX (l : Launch) (Z : State) (a0 : Array Value) (hw : ∀ d ∈ tables_1, d.before a0 Z = true) (ws : List Jvm.Cond) (p1 : Int32) (p2 : Int32) (p3 : Int32) (p4 : Int32) (h0 : Heap) (n0 : Nat) (Zs : n0 ≤ h0.size)  :
    MetFree l (⟨"com/example/regolo/regolo/engine/RelaxationObjectivePinLaw", "expectedValue", "(IZII)J"⟩ : MethodName) (head1 (Jvm.Cond.code (⟨"com/example/regolo/regolo/engine/RelaxationObjectivePinLaw", "expectedValue", "(IZII)J"⟩ : MethodName) method_3_code 4 (some .long) :: ws) ({ frames := 0, cells := 0, slots := 0, locals := 0 } : Room)) (fun a U => a = #[(.int p1), (.int p2), (.int p3), (.int p4)] ∧ Z.Warmed39 U.vm ∧ U.heap = h0) (fun _ _ _ _ _ => True) (fun _ U o U' => ∃ v L, o = .returned v ∧ QX Z p1 p2 p3 p4 h0 n0 v U'.heap L ∧ FrameEnd U o U' L ({ frames := 0, cells := 0, slots := 0, locals := 0 } : Room).cells ({ frames := 0, cells := 0, slots := 0, locals := 0 } : Room).slots) := by
  refine MetFree.of_bodySF (plainFor_of_name pn_5) hisR ?_
  intro p e s m args below meth c s₁ Bd hml0 hP hK
  obtain ⟨rfl, hZ, hh⟩ := hP
  have hx := Bd.exec
  have hby := Bd.bytes
  have hml : c.maxLocals = 4 := hml0
  have hown : s.vm.findClass "com/example/regolo/regolo/engine/RelaxationObjectivePinLaw" = some m.cls := findClass_of_methodNamed Bd.named
  have hnm := (name_of_methodNamed Bd.named Bd.method).1
  have X0 : Stand p l e ({ frames := 0, cells := 0, slots := 0, locals := 0 } : Room) s m #[(.int p1), (.int p2), (.int p3), (.int p4)] below meth c s₁ [] 0 0 := Stand.of_body Bd
  have e0 : s₁.heap = h0 := by rw [← hh, Bd.state]; rfl
  have N0 := Fr.nil n0
  have pre0 : ∀ t, Steps p.tables e below (s₁.setTop (mkF m 0 #[.val (.int p1), .val (.int p2), .val (.int p3), .val (.int p4)] [])) t → Steps p.tables e below (s₁.setTop (entryFrame m #[(.int p1), (.int p2), (.int p3), (.int p4)] 4)) t := fun t k => castTop (ef_X m p1 p2 p3 p4) k
  have pre187 : ∀ t, Steps p.tables e below (s₁.setTop (mkF m 1 #[.val (.int p1), .val (.int p2), .val (.int p3), .val (.int p4)] [(.int p2)])) t → Steps p.tables e below (s₁.setTop (entryFrame m #[(.int p1), (.int p2), (.int p3), (.int p4)] 4)) t := fun t k => pre0 t (by
    show Steps p.tables e below (s₁.setTop (mkF m 0 #[.val (.int p1), .val (.int p2), .val (.int p3), .val (.int p4)] [])) _
    refine XS.iloadN X0.here hx rfl (hb hby d14_0) rfl ?_
    exact k)
  by_cases hc1 : p2 = (0 : Int32)
  ·
    have pre188 : ∀ t, Steps p.tables e below (s₁.setTop (mkF m 17 #[.val (.int p1), .val (.int p2), .val (.int p3), .val (.int p4)] [(.int p1)])) t → Steps p.tables e below (s₁.setTop (entryFrame m #[(.int p1), (.int p2), (.int p3), (.int p4)] 4)) t := fun t k => pre187 t (by
      show Steps p.tables e below (s₁.setTop (mkF m 1 #[.val (.int p1), .val (.int p2), .val (.int p3), .val (.int p4)] [(.int p2)])) _
      refine XS.ifYes X0.here hx rfl (pc0 := 1) (pc' := 16) rfl (hb hby d14_1) rfl ((if0 _ _).trans (teq hc1).1) (by decide) (by decide) ?_
      show Steps p.tables e below (s₁.setTop (mkF m 16 #[.val (.int p1), .val (.int p2), .val (.int p3), .val (.int p4)] [])) _
      refine XS.iloadN X0.here hx rfl (hb hby d14_16) rfl ?_
      exact k)
    by_cases hc17 : (0 : Int32) < p1
    ·
      obtain ⟨fs, hr, hrun, hended, hW, hsame⟩ := X0.leave (v := some (.long (1 : Int64))) (fun h => by rw [Bd.returns] at h; cases h)
      refine ⟨_, _, pre188 _ ?_, hrun, hended, _, _, rfl, ?_, ⟨_, rfl⟩, hW, hsame.mono (by decide) (by decide)⟩
      · show Steps p.tables e below (s₁.setTop (mkF m 17 #[.val (.int p1), .val (.int p2), .val (.int p3), .val (.int p4)] [(.int p1)])) _
        refine XS.ifNo X0.here hx rfl (hb hby d14_17) rfl ((if0 _ _).trans (tlt hc17).2.2.2) ?_
        show Steps p.tables e below (s₁.setTop (mkF m 20 #[.val (.int p1), .val (.int p2), .val (.int p3), .val (.int p4)] [])) _
        refine XS.lconst X0.here hx rfl (hb hby d14_20) ?_
        show Steps p.tables e below (s₁.setTop (mkF m 21 #[.val (.int p1), .val (.int p2), .val (.int p3), .val (.int p4)] [(.long (1 : Int64))])) _
        refine XS.goto X0.here hx rfl (pc0 := 21) (pc' := 25) rfl (hb hby d14_21) (by decide) (by decide) ?_
        show Steps p.tables e below (s₁.setTop (mkF m 25 #[.val (.int p1), .val (.int p2), .val (.int p3), .val (.int p4)] [(.long (1 : Int64))])) _
        exact retOut X0 hx Bd.returns rfl (Or.inr (Or.inl ⟨rfl, rfl, _, rfl⟩)) (hb hby d14_25) hr
      · show QX Z p1 p2 p3 p4 h0 n0 _ s₁.heap _
        rw [e0]
        exact ⟨congrArg some (congrArg Value.long (show (1 : Int64) = (fX p1 p2 p3 p4) from by rw [fX, if_pos hc1, if_pos hc17])), N0, rfl⟩
    ·
      obtain ⟨fs, hr, hrun, hended, hW, hsame⟩ := X0.leave (v := some (.long (0 : Int64))) (fun h => by rw [Bd.returns] at h; cases h)
      refine ⟨_, _, pre188 _ ?_, hrun, hended, _, _, rfl, ?_, ⟨_, rfl⟩, hW, hsame.mono (by decide) (by decide)⟩
      · show Steps p.tables e below (s₁.setTop (mkF m 17 #[.val (.int p1), .val (.int p2), .val (.int p3), .val (.int p4)] [(.int p1)])) _
        refine XS.ifYes X0.here hx rfl (pc0 := 17) (pc' := 24) rfl (hb hby d14_17) rfl ((if0 _ _).trans (flt hc17).2.2.2) (by decide) (by decide) ?_
        show Steps p.tables e below (s₁.setTop (mkF m 24 #[.val (.int p1), .val (.int p2), .val (.int p3), .val (.int p4)] [])) _
        refine XS.lconst X0.here hx rfl (hb hby d14_24) ?_
        show Steps p.tables e below (s₁.setTop (mkF m 25 #[.val (.int p1), .val (.int p2), .val (.int p3), .val (.int p4)] [(.long (0 : Int64))])) _
        exact retOut X0 hx Bd.returns rfl (Or.inr (Or.inl ⟨rfl, rfl, _, rfl⟩)) (hb hby d14_25) hr
      · show QX Z p1 p2 p3 p4 h0 n0 _ s₁.heap _
        rw [e0]
        exact ⟨congrArg some (congrArg Value.long (show (0 : Int64) = (fX p1 p2 p3 p4) from by rw [fX, if_pos hc1, if_neg hc17])), N0, rfl⟩
  ·
    have pre189 : ∀ t, Steps p.tables e below (s₁.setTop (mkF m 5 #[.val (.int p1), .val (.int p2), .val (.int p3), .val (.int p4)] [(.int p1)])) t → Steps p.tables e below (s₁.setTop (entryFrame m #[(.int p1), (.int p2), (.int p3), (.int p4)] 4)) t := fun t k => pre187 t (by
      show Steps p.tables e below (s₁.setTop (mkF m 1 #[.val (.int p1), .val (.int p2), .val (.int p3), .val (.int p4)] [(.int p2)])) _
      refine XS.ifNo X0.here hx rfl (hb hby d14_1) rfl ((if0 _ _).trans (feq hc1).1) ?_
      show Steps p.tables e below (s₁.setTop (mkF m 4 #[.val (.int p1), .val (.int p2), .val (.int p3), .val (.int p4)] [])) _
      refine XS.iloadN X0.here hx rfl (hb hby d14_4) rfl ?_
      exact k)
    by_cases hc5 : (0 : Int32) < p1
    ·
      obtain ⟨fs, hr, hrun, hended, hW, hsame⟩ := X0.leave (v := some (.long (p4.toInt64))) (fun h => by rw [Bd.returns] at h; cases h)
      refine ⟨_, _, pre189 _ ?_, hrun, hended, _, _, rfl, ?_, ⟨_, rfl⟩, hW, hsame.mono (by decide) (by decide)⟩
      · show Steps p.tables e below (s₁.setTop (mkF m 5 #[.val (.int p1), .val (.int p2), .val (.int p3), .val (.int p4)] [(.int p1)])) _
        refine XS.ifNo X0.here hx rfl (hb hby d14_5) rfl ((if0 _ _).trans (tlt hc5).2.2.2) ?_
        show Steps p.tables e below (s₁.setTop (mkF m 8 #[.val (.int p1), .val (.int p2), .val (.int p3), .val (.int p4)] [])) _
        refine XS.iloadN X0.here hx rfl (hb hby d14_8) rfl ?_
        show Steps p.tables e below (s₁.setTop (mkF m 9 #[.val (.int p1), .val (.int p2), .val (.int p3), .val (.int p4)] [(.int p4)])) _
        refine XS.i2l X0.here hx rfl (hb hby d14_9) rfl ?_
        show Steps p.tables e below (s₁.setTop (mkF m 10 #[.val (.int p1), .val (.int p2), .val (.int p3), .val (.int p4)] [(.long (p4.toInt64))])) _
        refine XS.goto X0.here hx rfl (pc0 := 10) (pc' := 15) rfl (hb hby d14_10) (by decide) (by decide) ?_
        show Steps p.tables e below (s₁.setTop (mkF m 15 #[.val (.int p1), .val (.int p2), .val (.int p3), .val (.int p4)] [(.long (p4.toInt64))])) _
        exact retOut X0 hx Bd.returns rfl (Or.inr (Or.inl ⟨rfl, rfl, _, rfl⟩)) (hb hby d14_15) hr
      · show QX Z p1 p2 p3 p4 h0 n0 _ s₁.heap _
        rw [e0]
        exact ⟨congrArg some (congrArg Value.long (show (p4.toInt64) = (fX p1 p2 p3 p4) from by rw [fX, if_neg hc1, if_pos hc5])), N0, rfl⟩
    ·
      obtain ⟨fs, hr, hrun, hended, hW, hsame⟩ := X0.leave (v := some (.long (p3.toInt64))) (fun h => by rw [Bd.returns] at h; cases h)
      refine ⟨_, _, pre189 _ ?_, hrun, hended, _, _, rfl, ?_, ⟨_, rfl⟩, hW, hsame.mono (by decide) (by decide)⟩
      · show Steps p.tables e below (s₁.setTop (mkF m 5 #[.val (.int p1), .val (.int p2), .val (.int p3), .val (.int p4)] [(.int p1)])) _
        refine XS.ifYes X0.here hx rfl (pc0 := 5) (pc' := 13) rfl (hb hby d14_5) rfl ((if0 _ _).trans (flt hc5).2.2.2) (by decide) (by decide) ?_
        show Steps p.tables e below (s₁.setTop (mkF m 13 #[.val (.int p1), .val (.int p2), .val (.int p3), .val (.int p4)] [])) _
        refine XS.iloadN X0.here hx rfl (hb hby d14_13) rfl ?_
        show Steps p.tables e below (s₁.setTop (mkF m 14 #[.val (.int p1), .val (.int p2), .val (.int p3), .val (.int p4)] [(.int p3)])) _
        refine XS.i2l X0.here hx rfl (hb hby d14_14) rfl ?_
        show Steps p.tables e below (s₁.setTop (mkF m 15 #[.val (.int p1), .val (.int p2), .val (.int p3), .val (.int p4)] [(.long (p3.toInt64))])) _
        exact retOut X0 hx Bd.returns rfl (Or.inr (Or.inl ⟨rfl, rfl, _, rfl⟩)) (hb hby d14_15) hr
      · show QX Z p1 p2 p3 p4 h0 n0 _ s₁.heap _
        rw [e0]
        exact ⟨congrArg some (congrArg Value.long (show (p3.toInt64) = (fX p1 p2 p3 p4) from by rw [fX, if_neg hc1, if_neg hc5])), N0, rfl⟩
def Q0 (Z : State) (p1 : Int32) (p2 : Int32) (p3 : Int32) (p4 : Int32) (p5 : Int32) (p6 : Int32) (dd : Addr) (h0 : Heap) (n0 : Nat) (v : Option Value) (h : Heap) (L : List Loc) : Prop := v = some (.int (1 : Int32)) ∧ Fr n0 L
theorem ef_0 (m : MethodId) (p1 : Int32) (p2 : Int32) (p3 : Int32) (p4 : Int32) (p5 : Int32) (p6 : Int32) : entryFrame m #[(.int p1), (.int p2), (.int p3), (.int p4), (.int p5), (.int p6)] maxLocals = mkF m 0 #[.val (.int p1), .val (.int p2), .val (.int p3), .val (.int p4), .val (.int p5), .val (.int p6), .unset, .unset, .unset, .unset, .unset, .unset, .unset, .unset, .unset, .unset, .unset, .unset, .unset, .unset, .unset, .unset, .unset, .unset, .unset, .unset, .unset, .unset, .unset, .unset] [] := by first | (simp [entryFrame, mkF, argsToLocals, Value.category, maxLocals]; done) | rfl
set_option maxRecDepth 65536 in
set_option maxHeartbeats 40000000 in
theorem rm0 (l : Launch) (Z : State) (a0 : Array Value) (hw : ∀ d ∈ tables_1, d.before a0 Z = true) (ws : List Jvm.Cond) (p1 : Int32) (p2 : Int32) (p3 : Int32) (p4 : Int32) (p5 : Int32) (p6 : Int32) (dd : Addr) (h0 : Heap) (n0 : Nat) (Zs : n0 ≤ h0.size) (Ol : Old Z n0 h0) (S_DEFAULTCAPACITY_EMPTY_ELEMENTDATA : Sta Z Z.heap "java/util/ArrayList" "DEFAULTCAPACITY_EMPTY_ELEMENTDATA" "[Ljava/lang/Object;" (.ref dd)) :
    MetFree l x (head1 (Jvm.Cond.code x code maxLocals ret :: ws) room_1) (fun a U => a = #[(.int p1), (.int p2), (.int p3), (.int p4), (.int p5), (.int p6)] ∧ Z.Warmed39 U.vm ∧ U.heap = h0) (fun _ _ _ _ _ => True) (fun _ U o U' => ∃ v L, o = .returned v ∧ Q0 Z p1 p2 p3 p4 p5 p6 dd h0 n0 v U'.heap L ∧ FrameEnd U o U' L room_1.cells room_1.slots) := by
  refine MetFree.of_bodySF (plainFor_of_name pn_5) hisR ?_
  intro p e s m args below meth c s₁ Bd hml0 hP hK
  obtain ⟨rfl, hZ, hh⟩ := hP
  have hx := Bd.exec
  have hby := Bd.bytes
  have hml : c.maxLocals = 30 := hml0
  have hown : s.vm.findClass "com/example/regolo/regolo/engine/RelaxationObjectivePinLaw" = some m.cls := findClass_of_methodNamed Bd.named
  have hnm := (name_of_methodNamed Bd.named Bd.method).1
  have X0 : Stand p l e room_1 s m #[(.int p1), (.int p2), (.int p3), (.int p4), (.int p5), (.int p6)] below meth c s₁ [] 0 0 := Stand.of_body Bd
  have e0 : s₁.heap = h0 := by rw [← hh, Bd.state]; rfl
  have N0 := Fr.nil n0
  have pre0 : ∀ t, Steps p.tables e below (s₁.setTop (mkF m 0 #[.val (.int p1), .val (.int p2), .val (.int p3), .val (.int p4), .val (.int p5), .val (.int p6), .unset, .unset, .unset, .unset, .unset, .unset, .unset, .unset, .unset, .unset, .unset, .unset, .unset, .unset, .unset, .unset, .unset, .unset, .unset, .unset, .unset, .unset, .unset, .unset] [])) t → Steps p.tables e below (s₁.setTop (entryFrame m #[(.int p1), (.int p2), (.int p3), (.int p4), (.int p5), (.int p6)] maxLocals)) t := fun t k => castTop (ef_0 m p1 p2 p3 p4 p5 p6) k
  obtain ⟨v5, hv5⟩ : ∃ z : Int32, z = (p1 % (1001 : Int32)) := ⟨_, rfl⟩
  have pre190 : ∀ t, Steps p.tables e below (s₁.setTop (mkF m 7 #[.val (.int p1), .val (.int p2), .val (.int p3), .val (.int p4), .val (.int p5), .val (.int p6), .val (.int v5), .unset, .unset, .unset, .unset, .unset, .unset, .unset, .unset, .unset, .unset, .unset, .unset, .unset, .unset, .unset, .unset, .unset, .unset, .unset, .unset, .unset, .unset, .unset] [])) t → Steps p.tables e below (s₁.setTop (entryFrame m #[(.int p1), (.int p2), (.int p3), (.int p4), (.int p5), (.int p6)] maxLocals)) t := fun t k => pre0 t (by
    show Steps p.tables e below (s₁.setTop (mkF m 0 #[.val (.int p1), .val (.int p2), .val (.int p3), .val (.int p4), .val (.int p5), .val (.int p6), .unset, .unset, .unset, .unset, .unset, .unset, .unset, .unset, .unset, .unset, .unset, .unset, .unset, .unset, .unset, .unset, .unset, .unset, .unset, .unset, .unset, .unset, .unset, .unset] [])) _
    refine XS.iloadN X0.here hx rfl (hb hby at_0) rfl ?_
    show Steps p.tables e below (s₁.setTop (mkF m 1 #[.val (.int p1), .val (.int p2), .val (.int p3), .val (.int p4), .val (.int p5), .val (.int p6), .unset, .unset, .unset, .unset, .unset, .unset, .unset, .unset, .unset, .unset, .unset, .unset, .unset, .unset, .unset, .unset, .unset, .unset, .unset, .unset, .unset, .unset, .unset, .unset] [(.int p1)])) _
    refine XS.sipush X0.here hx rfl (hb hby at_1) ?_
    show Steps p.tables e below (s₁.setTop (mkF m 4 #[.val (.int p1), .val (.int p2), .val (.int p3), .val (.int p4), .val (.int p5), .val (.int p6), .unset, .unset, .unset, .unset, .unset, .unset, .unset, .unset, .unset, .unset, .unset, .unset, .unset, .unset, .unset, .unset, .unset, .unset, .unset, .unset, .unset, .unset, .unset, .unset] [(.int (1001 : Int32)), (.int p1)])) _
    refine iremM X0 hx rfl (hb hby at_4) rfl (by decide) ?_
    show Steps p.tables e below (s₁.setTop (mkF m 5 #[.val (.int p1), .val (.int p2), .val (.int p3), .val (.int p4), .val (.int p5), .val (.int p6), .unset, .unset, .unset, .unset, .unset, .unset, .unset, .unset, .unset, .unset, .unset, .unset, .unset, .unset, .unset, .unset, .unset, .unset, .unset, .unset, .unset, .unset, .unset, .unset] [(.int (p1 % (1001 : Int32)))])) _
    refine XS.istore X0.here hx rfl (hb hby at_5) rfl (l' := #[.val (.int p1), .val (.int p2), .val (.int p3), .val (.int p4), .val (.int p5), .val (.int p6), .val (.int (p1 % (1001 : Int32))), .unset, .unset, .unset, .unset, .unset, .unset, .unset, .unset, .unset, .unset, .unset, .unset, .unset, .unset, .unset, .unset, .unset, .unset, .unset, .unset, .unset, .unset, .unset]) rfl ?_
    rw [hv5] at k
    exact k)
  obtain ⟨v12, hv12⟩ : ∃ z : Int32, z = (p2 % (1001 : Int32)) := ⟨_, rfl⟩
  have pre191 : ∀ t, Steps p.tables e below (s₁.setTop (mkF m 14 #[.val (.int p1), .val (.int p2), .val (.int p3), .val (.int p4), .val (.int p5), .val (.int p6), .val (.int v5), .val (.int v12), .unset, .unset, .unset, .unset, .unset, .unset, .unset, .unset, .unset, .unset, .unset, .unset, .unset, .unset, .unset, .unset, .unset, .unset, .unset, .unset, .unset, .unset] [])) t → Steps p.tables e below (s₁.setTop (entryFrame m #[(.int p1), (.int p2), (.int p3), (.int p4), (.int p5), (.int p6)] maxLocals)) t := fun t k => pre190 t (by
    show Steps p.tables e below (s₁.setTop (mkF m 7 #[.val (.int p1), .val (.int p2), .val (.int p3), .val (.int p4), .val (.int p5), .val (.int p6), .val (.int v5), .unset, .unset, .unset, .unset, .unset, .unset, .unset, .unset, .unset, .unset, .unset, .unset, .unset, .unset, .unset, .unset, .unset, .unset, .unset, .unset, .unset, .unset, .unset] [])) _
    refine XS.iloadN X0.here hx rfl (hb hby at_7) rfl ?_
    show Steps p.tables e below (s₁.setTop (mkF m 8 #[.val (.int p1), .val (.int p2), .val (.int p3), .val (.int p4), .val (.int p5), .val (.int p6), .val (.int v5), .unset, .unset, .unset, .unset, .unset, .unset, .unset, .unset, .unset, .unset, .unset, .unset, .unset, .unset, .unset, .unset, .unset, .unset, .unset, .unset, .unset, .unset, .unset] [(.int p2)])) _
    refine XS.sipush X0.here hx rfl (hb hby at_8) ?_
    show Steps p.tables e below (s₁.setTop (mkF m 11 #[.val (.int p1), .val (.int p2), .val (.int p3), .val (.int p4), .val (.int p5), .val (.int p6), .val (.int v5), .unset, .unset, .unset, .unset, .unset, .unset, .unset, .unset, .unset, .unset, .unset, .unset, .unset, .unset, .unset, .unset, .unset, .unset, .unset, .unset, .unset, .unset, .unset] [(.int (1001 : Int32)), (.int p2)])) _
    refine iremM X0 hx rfl (hb hby at_11) rfl (by decide) ?_
    show Steps p.tables e below (s₁.setTop (mkF m 12 #[.val (.int p1), .val (.int p2), .val (.int p3), .val (.int p4), .val (.int p5), .val (.int p6), .val (.int v5), .unset, .unset, .unset, .unset, .unset, .unset, .unset, .unset, .unset, .unset, .unset, .unset, .unset, .unset, .unset, .unset, .unset, .unset, .unset, .unset, .unset, .unset, .unset] [(.int (p2 % (1001 : Int32)))])) _
    refine XS.istore X0.here hx rfl (hb hby at_12) rfl (l' := #[.val (.int p1), .val (.int p2), .val (.int p3), .val (.int p4), .val (.int p5), .val (.int p6), .val (.int v5), .val (.int (p2 % (1001 : Int32))), .unset, .unset, .unset, .unset, .unset, .unset, .unset, .unset, .unset, .unset, .unset, .unset, .unset, .unset, .unset, .unset, .unset, .unset, .unset, .unset, .unset, .unset]) rfl ?_
    rw [hv12] at k
    exact k)
  obtain ⟨v19, hv19⟩ : ∃ z : Int32, z = (p3 % (1001 : Int32)) := ⟨_, rfl⟩
  have pre192 : ∀ t, Steps p.tables e below (s₁.setTop (mkF m 21 #[.val (.int p1), .val (.int p2), .val (.int p3), .val (.int p4), .val (.int p5), .val (.int p6), .val (.int v5), .val (.int v12), .val (.int v19), .unset, .unset, .unset, .unset, .unset, .unset, .unset, .unset, .unset, .unset, .unset, .unset, .unset, .unset, .unset, .unset, .unset, .unset, .unset, .unset, .unset] [])) t → Steps p.tables e below (s₁.setTop (entryFrame m #[(.int p1), (.int p2), (.int p3), (.int p4), (.int p5), (.int p6)] maxLocals)) t := fun t k => pre191 t (by
    show Steps p.tables e below (s₁.setTop (mkF m 14 #[.val (.int p1), .val (.int p2), .val (.int p3), .val (.int p4), .val (.int p5), .val (.int p6), .val (.int v5), .val (.int v12), .unset, .unset, .unset, .unset, .unset, .unset, .unset, .unset, .unset, .unset, .unset, .unset, .unset, .unset, .unset, .unset, .unset, .unset, .unset, .unset, .unset, .unset] [])) _
    refine XS.iloadN X0.here hx rfl (hb hby at_14) rfl ?_
    show Steps p.tables e below (s₁.setTop (mkF m 15 #[.val (.int p1), .val (.int p2), .val (.int p3), .val (.int p4), .val (.int p5), .val (.int p6), .val (.int v5), .val (.int v12), .unset, .unset, .unset, .unset, .unset, .unset, .unset, .unset, .unset, .unset, .unset, .unset, .unset, .unset, .unset, .unset, .unset, .unset, .unset, .unset, .unset, .unset] [(.int p3)])) _
    refine XS.sipush X0.here hx rfl (hb hby at_15) ?_
    show Steps p.tables e below (s₁.setTop (mkF m 18 #[.val (.int p1), .val (.int p2), .val (.int p3), .val (.int p4), .val (.int p5), .val (.int p6), .val (.int v5), .val (.int v12), .unset, .unset, .unset, .unset, .unset, .unset, .unset, .unset, .unset, .unset, .unset, .unset, .unset, .unset, .unset, .unset, .unset, .unset, .unset, .unset, .unset, .unset] [(.int (1001 : Int32)), (.int p3)])) _
    refine iremM X0 hx rfl (hb hby at_18) rfl (by decide) ?_
    show Steps p.tables e below (s₁.setTop (mkF m 19 #[.val (.int p1), .val (.int p2), .val (.int p3), .val (.int p4), .val (.int p5), .val (.int p6), .val (.int v5), .val (.int v12), .unset, .unset, .unset, .unset, .unset, .unset, .unset, .unset, .unset, .unset, .unset, .unset, .unset, .unset, .unset, .unset, .unset, .unset, .unset, .unset, .unset, .unset] [(.int (p3 % (1001 : Int32)))])) _
    refine XS.istore X0.here hx rfl (hb hby at_19) rfl (l' := #[.val (.int p1), .val (.int p2), .val (.int p3), .val (.int p4), .val (.int p5), .val (.int p6), .val (.int v5), .val (.int v12), .val (.int (p3 % (1001 : Int32))), .unset, .unset, .unset, .unset, .unset, .unset, .unset, .unset, .unset, .unset, .unset, .unset, .unset, .unset, .unset, .unset, .unset, .unset, .unset, .unset, .unset]) rfl ?_
    rw [hv19] at k
    exact k)
  obtain ⟨v26, hv26⟩ : ∃ z : Int32, z = (p4 % (1001 : Int32)) := ⟨_, rfl⟩
  have pre193 : ∀ t, Steps p.tables e below (s₁.setTop (mkF m 28 #[.val (.int p1), .val (.int p2), .val (.int p3), .val (.int p4), .val (.int p5), .val (.int p6), .val (.int v5), .val (.int v12), .val (.int v19), .val (.int v26), .unset, .unset, .unset, .unset, .unset, .unset, .unset, .unset, .unset, .unset, .unset, .unset, .unset, .unset, .unset, .unset, .unset, .unset, .unset, .unset] [])) t → Steps p.tables e below (s₁.setTop (entryFrame m #[(.int p1), (.int p2), (.int p3), (.int p4), (.int p5), (.int p6)] maxLocals)) t := fun t k => pre192 t (by
    show Steps p.tables e below (s₁.setTop (mkF m 21 #[.val (.int p1), .val (.int p2), .val (.int p3), .val (.int p4), .val (.int p5), .val (.int p6), .val (.int v5), .val (.int v12), .val (.int v19), .unset, .unset, .unset, .unset, .unset, .unset, .unset, .unset, .unset, .unset, .unset, .unset, .unset, .unset, .unset, .unset, .unset, .unset, .unset, .unset, .unset] [])) _
    refine XS.iloadN X0.here hx rfl (hb hby at_21) rfl ?_
    show Steps p.tables e below (s₁.setTop (mkF m 22 #[.val (.int p1), .val (.int p2), .val (.int p3), .val (.int p4), .val (.int p5), .val (.int p6), .val (.int v5), .val (.int v12), .val (.int v19), .unset, .unset, .unset, .unset, .unset, .unset, .unset, .unset, .unset, .unset, .unset, .unset, .unset, .unset, .unset, .unset, .unset, .unset, .unset, .unset, .unset] [(.int p4)])) _
    refine XS.sipush X0.here hx rfl (hb hby at_22) ?_
    show Steps p.tables e below (s₁.setTop (mkF m 25 #[.val (.int p1), .val (.int p2), .val (.int p3), .val (.int p4), .val (.int p5), .val (.int p6), .val (.int v5), .val (.int v12), .val (.int v19), .unset, .unset, .unset, .unset, .unset, .unset, .unset, .unset, .unset, .unset, .unset, .unset, .unset, .unset, .unset, .unset, .unset, .unset, .unset, .unset, .unset] [(.int (1001 : Int32)), (.int p4)])) _
    refine iremM X0 hx rfl (hb hby at_25) rfl (by decide) ?_
    show Steps p.tables e below (s₁.setTop (mkF m 26 #[.val (.int p1), .val (.int p2), .val (.int p3), .val (.int p4), .val (.int p5), .val (.int p6), .val (.int v5), .val (.int v12), .val (.int v19), .unset, .unset, .unset, .unset, .unset, .unset, .unset, .unset, .unset, .unset, .unset, .unset, .unset, .unset, .unset, .unset, .unset, .unset, .unset, .unset, .unset] [(.int (p4 % (1001 : Int32)))])) _
    refine XS.istore X0.here hx rfl (hb hby at_26) rfl (l' := #[.val (.int p1), .val (.int p2), .val (.int p3), .val (.int p4), .val (.int p5), .val (.int p6), .val (.int v5), .val (.int v12), .val (.int v19), .val (.int (p4 % (1001 : Int32))), .unset, .unset, .unset, .unset, .unset, .unset, .unset, .unset, .unset, .unset, .unset, .unset, .unset, .unset, .unset, .unset, .unset, .unset, .unset, .unset]) rfl ?_
    rw [hv26] at k
    exact k)
  obtain ⟨v34, hv34⟩ : ∃ z : Int32, z = (p5 % (1001 : Int32)) := ⟨_, rfl⟩
  have pre194 : ∀ t, Steps p.tables e below (s₁.setTop (mkF m 36 #[.val (.int p1), .val (.int p2), .val (.int p3), .val (.int p4), .val (.int p5), .val (.int p6), .val (.int v5), .val (.int v12), .val (.int v19), .val (.int v26), .val (.int v34), .unset, .unset, .unset, .unset, .unset, .unset, .unset, .unset, .unset, .unset, .unset, .unset, .unset, .unset, .unset, .unset, .unset, .unset, .unset] [])) t → Steps p.tables e below (s₁.setTop (entryFrame m #[(.int p1), (.int p2), (.int p3), (.int p4), (.int p5), (.int p6)] maxLocals)) t := fun t k => pre193 t (by
    show Steps p.tables e below (s₁.setTop (mkF m 28 #[.val (.int p1), .val (.int p2), .val (.int p3), .val (.int p4), .val (.int p5), .val (.int p6), .val (.int v5), .val (.int v12), .val (.int v19), .val (.int v26), .unset, .unset, .unset, .unset, .unset, .unset, .unset, .unset, .unset, .unset, .unset, .unset, .unset, .unset, .unset, .unset, .unset, .unset, .unset, .unset] [])) _
    refine XS.iload X0.here hx rfl (hb hby at_28) rfl ?_
    show Steps p.tables e below (s₁.setTop (mkF m 30 #[.val (.int p1), .val (.int p2), .val (.int p3), .val (.int p4), .val (.int p5), .val (.int p6), .val (.int v5), .val (.int v12), .val (.int v19), .val (.int v26), .unset, .unset, .unset, .unset, .unset, .unset, .unset, .unset, .unset, .unset, .unset, .unset, .unset, .unset, .unset, .unset, .unset, .unset, .unset, .unset] [(.int p5)])) _
    refine XS.sipush X0.here hx rfl (hb hby at_30) ?_
    show Steps p.tables e below (s₁.setTop (mkF m 33 #[.val (.int p1), .val (.int p2), .val (.int p3), .val (.int p4), .val (.int p5), .val (.int p6), .val (.int v5), .val (.int v12), .val (.int v19), .val (.int v26), .unset, .unset, .unset, .unset, .unset, .unset, .unset, .unset, .unset, .unset, .unset, .unset, .unset, .unset, .unset, .unset, .unset, .unset, .unset, .unset] [(.int (1001 : Int32)), (.int p5)])) _
    refine iremM X0 hx rfl (hb hby at_33) rfl (by decide) ?_
    show Steps p.tables e below (s₁.setTop (mkF m 34 #[.val (.int p1), .val (.int p2), .val (.int p3), .val (.int p4), .val (.int p5), .val (.int p6), .val (.int v5), .val (.int v12), .val (.int v19), .val (.int v26), .unset, .unset, .unset, .unset, .unset, .unset, .unset, .unset, .unset, .unset, .unset, .unset, .unset, .unset, .unset, .unset, .unset, .unset, .unset, .unset] [(.int (p5 % (1001 : Int32)))])) _
    refine XS.istore X0.here hx rfl (hb hby at_34) rfl (l' := #[.val (.int p1), .val (.int p2), .val (.int p3), .val (.int p4), .val (.int p5), .val (.int p6), .val (.int v5), .val (.int v12), .val (.int v19), .val (.int v26), .val (.int (p5 % (1001 : Int32))), .unset, .unset, .unset, .unset, .unset, .unset, .unset, .unset, .unset, .unset, .unset, .unset, .unset, .unset, .unset, .unset, .unset, .unset, .unset]) rfl ?_
    rw [hv34] at k
    exact k)
  obtain ⟨_, _, ⟨T195, L195, k195, n195⟩, -, X195, ⟨Lc195, hQ195, l195, y195, z195⟩, st195⟩ := Jvm.LawKit.callS X0 hx (y := (⟨"java/lang/Math", "min", "(II)I"⟩ : MethodName)) hown (mvT hZ (hw _ (List.mem_of_getElem? (i := 0) rfl))) (mvT hZ (hw _ (List.mem_of_getElem? (i := 1) rfl))) (mvT hZ (hw _ (List.mem_of_getElem? (i := 2) rfl))) (mvT hZ (hw _ (List.mem_of_getElem? (i := 3) rfl))) (by decide) (backOf (W := 0) (rmMin l Z a0 hw [] v26 v34 h0 n0 Zs ) hZ (hw _ (List.mem_of_getElem? (i := 3) rfl)) (hw _ (List.mem_of_getElem? (i := 2) rfl)) (by decide) (by decide)) (g := (mkF m 40 #[.val (.int p1), .val (.int p2), .val (.int p3), .val (.int p4), .val (.int p5), .val (.int p6), .val (.int v5), .val (.int v12), .val (.int v19), .val (.int v26), .val (.int v34), .unset, .unset, .unset, .unset, .unset, .unset, .unset, .unset, .unset, .unset, .unset, .unset, .unset, .unset, .unset, .unset, .unset, .unset, .unset] [(.int v34), (.int v26)])) rfl (by rw [hml]; rfl) (argsL := [(.int v26), (.int v34)]) (rest := []) (lenOf pd_5 rfl) rfl (by show 2 * 0 + _ ≤ _; exact Nat.le_of_eq rfl) (hb hby at_40) (fun _ _ => ⟨rfl, e0, (by decide : 0 + 0 ≤ _), (by decide : 0 + 0 ≤ _)⟩)
  dsimp only [Pt.U, Pt.locs, Pt.cells, Pt.slots] at X195 l195 y195 z195 st195 hQ195
  subst l195 y195 z195
  obtain ⟨rfl, N195q, e195⟩ := hQ195
  have N195 := Fr.app N0 N195q
  obtain ⟨v43, hv43⟩ : ∃ z : Int32, z = (fMin v26 v34) := ⟨_, rfl⟩
  have pre196 : ∀ t, Steps p.tables e below (T195.setTop (mkF m 45 #[.val (.int p1), .val (.int p2), .val (.int p3), .val (.int p4), .val (.int p5), .val (.int p6), .val (.int v5), .val (.int v12), .val (.int v19), .val (.int v26), .val (.int v34), .val (.int v43), .unset, .unset, .unset, .unset, .unset, .unset, .unset, .unset, .unset, .unset, .unset, .unset, .unset, .unset, .unset, .unset, .unset, .unset] [])) t → Steps p.tables e below (s₁.setTop (entryFrame m #[(.int p1), (.int p2), (.int p3), (.int p4), (.int p5), (.int p6)] maxLocals)) t := fun t k => pre194 t (by
    show Steps p.tables e below (s₁.setTop (mkF m 36 #[.val (.int p1), .val (.int p2), .val (.int p3), .val (.int p4), .val (.int p5), .val (.int p6), .val (.int v5), .val (.int v12), .val (.int v19), .val (.int v26), .val (.int v34), .unset, .unset, .unset, .unset, .unset, .unset, .unset, .unset, .unset, .unset, .unset, .unset, .unset, .unset, .unset, .unset, .unset, .unset, .unset] [])) _
    refine XS.iload X0.here hx rfl (hb hby at_36) rfl ?_
    show Steps p.tables e below (s₁.setTop (mkF m 38 #[.val (.int p1), .val (.int p2), .val (.int p3), .val (.int p4), .val (.int p5), .val (.int p6), .val (.int v5), .val (.int v12), .val (.int v19), .val (.int v26), .val (.int v34), .unset, .unset, .unset, .unset, .unset, .unset, .unset, .unset, .unset, .unset, .unset, .unset, .unset, .unset, .unset, .unset, .unset, .unset, .unset] [(.int v26)])) _
    refine XS.iload X0.here hx rfl (hb hby at_38) rfl ?_
    show Steps p.tables e below (s₁.setTop (mkF m 40 #[.val (.int p1), .val (.int p2), .val (.int p3), .val (.int p4), .val (.int p5), .val (.int p6), .val (.int v5), .val (.int v12), .val (.int v19), .val (.int v26), .val (.int v34), .unset, .unset, .unset, .unset, .unset, .unset, .unset, .unset, .unset, .unset, .unset, .unset, .unset, .unset, .unset, .unset, .unset, .unset, .unset] [(.int v34), (.int v26)])) _
    refine st195 _ ?_
    show Steps p.tables e below (T195.setTop (mkF m 43 #[.val (.int p1), .val (.int p2), .val (.int p3), .val (.int p4), .val (.int p5), .val (.int p6), .val (.int v5), .val (.int v12), .val (.int v19), .val (.int v26), .val (.int v34), .unset, .unset, .unset, .unset, .unset, .unset, .unset, .unset, .unset, .unset, .unset, .unset, .unset, .unset, .unset, .unset, .unset, .unset, .unset] [(.int (fMin v26 v34))])) _
    refine XS.istore X195.here hx rfl (hb hby at_43) rfl (l' := #[.val (.int p1), .val (.int p2), .val (.int p3), .val (.int p4), .val (.int p5), .val (.int p6), .val (.int v5), .val (.int v12), .val (.int v19), .val (.int v26), .val (.int v34), .val (.int (fMin v26 v34)), .unset, .unset, .unset, .unset, .unset, .unset, .unset, .unset, .unset, .unset, .unset, .unset, .unset, .unset, .unset, .unset, .unset, .unset]) rfl ?_
    rw [hv43] at k
    exact k)
  obtain ⟨_, _, ⟨T197, L197, k197, n197⟩, -, X197, ⟨Lc197, hQ197, l197, y197, z197⟩, st197⟩ := Jvm.LawKit.callS X195 hx (y := (⟨"java/lang/Math", "max", "(II)I"⟩ : MethodName)) hown (mvT hZ (hw _ (List.mem_of_getElem? (i := 4) rfl))) (mvT hZ (hw _ (List.mem_of_getElem? (i := 5) rfl))) (mvT hZ (hw _ (List.mem_of_getElem? (i := 2) rfl))) (mvT hZ (hw _ (List.mem_of_getElem? (i := 6) rfl))) (by decide) (backOf (W := 0) (rmMax l Z a0 hw [] v26 v34 h0 n0 Zs ) hZ (hw _ (List.mem_of_getElem? (i := 6) rfl)) (hw _ (List.mem_of_getElem? (i := 2) rfl)) (by decide) (by decide)) (g := (mkF m 49 #[.val (.int p1), .val (.int p2), .val (.int p3), .val (.int p4), .val (.int p5), .val (.int p6), .val (.int v5), .val (.int v12), .val (.int v19), .val (.int v26), .val (.int v34), .val (.int v43), .unset, .unset, .unset, .unset, .unset, .unset, .unset, .unset, .unset, .unset, .unset, .unset, .unset, .unset, .unset, .unset, .unset, .unset] [(.int v34), (.int v26)])) rfl (by rw [hml]; rfl) (argsL := [(.int v26), (.int v34)]) (rest := []) (lenOf pd_5 rfl) rfl (by show 2 * 0 + _ ≤ _; exact Nat.le_of_eq rfl) (hb hby at_49) (fun _ _ => ⟨rfl, e195, (by decide : 0 + 0 ≤ _), (by decide : 0 + 0 ≤ _)⟩)
  dsimp only [Pt.U, Pt.locs, Pt.cells, Pt.slots] at X197 l197 y197 z197 st197 hQ197
  subst l197 y197 z197
  obtain ⟨rfl, N197q, e197⟩ := hQ197
  have N197 := Fr.app N195 N197q
  obtain ⟨v52, hv52⟩ : ∃ z : Int32, z = (fMax v26 v34) := ⟨_, rfl⟩
  have pre198 : ∀ t, Steps p.tables e below (T197.setTop (mkF m 54 #[.val (.int p1), .val (.int p2), .val (.int p3), .val (.int p4), .val (.int p5), .val (.int p6), .val (.int v5), .val (.int v12), .val (.int v19), .val (.int v26), .val (.int v34), .val (.int v43), .val (.int v52), .unset, .unset, .unset, .unset, .unset, .unset, .unset, .unset, .unset, .unset, .unset, .unset, .unset, .unset, .unset, .unset, .unset] [])) t → Steps p.tables e below (s₁.setTop (entryFrame m #[(.int p1), (.int p2), (.int p3), (.int p4), (.int p5), (.int p6)] maxLocals)) t := fun t k => pre196 t (by
    show Steps p.tables e below (T195.setTop (mkF m 45 #[.val (.int p1), .val (.int p2), .val (.int p3), .val (.int p4), .val (.int p5), .val (.int p6), .val (.int v5), .val (.int v12), .val (.int v19), .val (.int v26), .val (.int v34), .val (.int v43), .unset, .unset, .unset, .unset, .unset, .unset, .unset, .unset, .unset, .unset, .unset, .unset, .unset, .unset, .unset, .unset, .unset, .unset] [])) _
    refine XS.iload X195.here hx rfl (hb hby at_45) rfl ?_
    show Steps p.tables e below (T195.setTop (mkF m 47 #[.val (.int p1), .val (.int p2), .val (.int p3), .val (.int p4), .val (.int p5), .val (.int p6), .val (.int v5), .val (.int v12), .val (.int v19), .val (.int v26), .val (.int v34), .val (.int v43), .unset, .unset, .unset, .unset, .unset, .unset, .unset, .unset, .unset, .unset, .unset, .unset, .unset, .unset, .unset, .unset, .unset, .unset] [(.int v26)])) _
    refine XS.iload X195.here hx rfl (hb hby at_47) rfl ?_
    show Steps p.tables e below (T195.setTop (mkF m 49 #[.val (.int p1), .val (.int p2), .val (.int p3), .val (.int p4), .val (.int p5), .val (.int p6), .val (.int v5), .val (.int v12), .val (.int v19), .val (.int v26), .val (.int v34), .val (.int v43), .unset, .unset, .unset, .unset, .unset, .unset, .unset, .unset, .unset, .unset, .unset, .unset, .unset, .unset, .unset, .unset, .unset, .unset] [(.int v34), (.int v26)])) _
    refine st197 _ ?_
    show Steps p.tables e below (T197.setTop (mkF m 52 #[.val (.int p1), .val (.int p2), .val (.int p3), .val (.int p4), .val (.int p5), .val (.int p6), .val (.int v5), .val (.int v12), .val (.int v19), .val (.int v26), .val (.int v34), .val (.int v43), .unset, .unset, .unset, .unset, .unset, .unset, .unset, .unset, .unset, .unset, .unset, .unset, .unset, .unset, .unset, .unset, .unset, .unset] [(.int (fMax v26 v34))])) _
    refine XS.istore X197.here hx rfl (hb hby at_52) rfl (l' := #[.val (.int p1), .val (.int p2), .val (.int p3), .val (.int p4), .val (.int p5), .val (.int p6), .val (.int v5), .val (.int v12), .val (.int v19), .val (.int v26), .val (.int v34), .val (.int v43), .val (.int (fMax v26 v34)), .unset, .unset, .unset, .unset, .unset, .unset, .unset, .unset, .unset, .unset, .unset, .unset, .unset, .unset, .unset, .unset, .unset]) rfl ?_
    rw [hv52] at k
    exact k)
  obtain ⟨T199, h199, k199, X199, e199, E199, A199, B199, st199⟩ := newPE X197 hx hZ (hw _ (List.mem_of_getElem? (i := 7) rfl)) e197 (g := (mkF m 55 #[.val (.int p1), .val (.int p2), .val (.int p3), .val (.int p4), .val (.int p5), .val (.int p6), .val (.int v5), .val (.int v12), .val (.int v19), .val (.int v26), .val (.int v34), .val (.int v43), .val (.int v52), .unset, .unset, .unset, .unset, .unset, .unset, .unset, .unset, .unset, .unset, .unset, .unset, .unset, .unset, .unset, .unset, .unset] [(.int (3 : Int32))])) rfl (hb hby at_55) rfl (by decide) (cap := 3) (by decide) (by decide) (by decide) (by decide) (ad := "[D") (by decide)
  obtain ⟨b199, g199⟩ : ∃ z, z = h0.size := ⟨_, rfl⟩
  rw [← g199] at A199 B199 st199
  have g_b199 : n0 ≤ b199 := Nat.le_trans Zs (Nat.le_of_eq g199.symm)
  have Zs : n0 ≤ h199.size := Nat.le_trans Zs E199.1
  have Ol : Old Z n0 h199 := Ol.ext E199
  have E_b199 : Exa Z h199 b199 "[D" := B199
  have A_b199 : ArD Z h199 b199 (3 : Int32) (fun _ => 0) := ArD.new A199 (by decide)
  obtain ⟨cl200, Ar200, hs200, hin200, hat200⟩ := ArD.open (j := (0 : Int32)) A_b199 (by decide)
  obtain ⟨T201, h201, X201, e201, W201, st201⟩ := stD X199 hx hZ e199 Ar200 (j := (0 : Int32)) hin200 (g := (mkF m 65 #[.val (.int p1), .val (.int p2), .val (.int p3), .val (.int p4), .val (.int p5), .val (.int p6), .val (.int v5), .val (.int v12), .val (.int v19), .val (.int v26), .val (.int v34), .val (.int v43), .val (.int v52), .val (.ref b199), .unset, .unset, .unset, .unset, .unset, .unset, .unset, .unset, .unset, .unset, .unset, .unset, .unset, .unset, .unset, .unset] [(.double (FP.l2d v5.toInt64)), (.int (0 : Int32)), (.ref b199)])) rfl rfl (hb hby at_65)
  have N201 := Fr.snoc X201 N197 g_b199
  have Zs : n0 ≤ h201.size := Nat.le_trans Zs (Keep.of_wr W201).1
  have Ol : Old Z n0 h201 := Ol.wr W201 g_b199
  have E_b199 : Exa Z h201 b199 "[D" := E_b199.wr W201
  have A_b199 : ArD Z h201 b199 (3 : Int32) (upd (fun _ => 0) (0 : Int32).toNatClampNeg v5.toInt64) := ArD.set A_b199 W201
  obtain ⟨cl202, Ar202, hs202, hin202, hat202⟩ := ArD.open (j := (1 : Int32)) A_b199 (by decide)
  obtain ⟨T203, h203, X203, e203, W203, st203⟩ := stD X201 hx hZ e201 Ar202 (j := (1 : Int32)) hin202 (g := (mkF m 72 #[.val (.int p1), .val (.int p2), .val (.int p3), .val (.int p4), .val (.int p5), .val (.int p6), .val (.int v5), .val (.int v12), .val (.int v19), .val (.int v26), .val (.int v34), .val (.int v43), .val (.int v52), .val (.ref b199), .unset, .unset, .unset, .unset, .unset, .unset, .unset, .unset, .unset, .unset, .unset, .unset, .unset, .unset, .unset, .unset] [(.double (FP.l2d v12.toInt64)), (.int (1 : Int32)), (.ref b199)])) rfl rfl (hb hby at_72)
  have N203 := Fr.snoc X203 N201 g_b199
  have Zs : n0 ≤ h203.size := Nat.le_trans Zs (Keep.of_wr W203).1
  have Ol : Old Z n0 h203 := Ol.wr W203 g_b199
  have E_b199 : Exa Z h203 b199 "[D" := E_b199.wr W203
  have A_b199 : ArD Z h203 b199 (3 : Int32) (upd (upd (fun _ => 0) (0 : Int32).toNatClampNeg v5.toInt64) (1 : Int32).toNatClampNeg v12.toInt64) := ArD.set A_b199 W203
  obtain ⟨cl204, Ar204, hs204, hin204, hat204⟩ := ArD.open (j := (2 : Int32)) A_b199 (by decide)
  obtain ⟨T205, h205, X205, e205, W205, st205⟩ := stD X203 hx hZ e203 Ar204 (j := (2 : Int32)) hin204 (g := (mkF m 79 #[.val (.int p1), .val (.int p2), .val (.int p3), .val (.int p4), .val (.int p5), .val (.int p6), .val (.int v5), .val (.int v12), .val (.int v19), .val (.int v26), .val (.int v34), .val (.int v43), .val (.int v52), .val (.ref b199), .unset, .unset, .unset, .unset, .unset, .unset, .unset, .unset, .unset, .unset, .unset, .unset, .unset, .unset, .unset, .unset] [(.double (FP.l2d v19.toInt64)), (.int (2 : Int32)), (.ref b199)])) rfl rfl (hb hby at_79)
  have N205 := Fr.snoc X205 N203 g_b199
  have Zs : n0 ≤ h205.size := Nat.le_trans Zs (Keep.of_wr W205).1
  have Ol : Old Z n0 h205 := Ol.wr W205 g_b199
  have E_b199 : Exa Z h205 b199 "[D" := E_b199.wr W205
  have A_b199 : ArD Z h205 b199 (3 : Int32) (upd (upd (upd (fun _ => 0) (0 : Int32).toNatClampNeg v5.toInt64) (1 : Int32).toNatClampNeg v12.toInt64) (2 : Int32).toNatClampNeg v19.toInt64) := ArD.set A_b199 W205
  obtain ⟨T206, h206, X206, e206, E206, A206, D206, -, st206⟩ := newO X205 hx hZ hown (hw _ (List.mem_of_getElem? (i := 8) rfl)) (hw _ (List.mem_of_getElem? (i := 9) rfl)) (hw _ (List.mem_of_getElem? (i := 10) rfl)) e205 (g := (mkF m 80 #[.val (.int p1), .val (.int p2), .val (.int p3), .val (.int p4), .val (.int p5), .val (.int p6), .val (.int v5), .val (.int v12), .val (.int v19), .val (.int v26), .val (.int v34), .val (.int v43), .val (.int v52), .val (.ref b199), .unset, .unset, .unset, .unset, .unset, .unset, .unset, .unset, .unset, .unset, .unset, .unset, .unset, .unset, .unset, .unset] [])) rfl (hb hby at_80) (by decide) (by decide)
  obtain ⟨b206, g206⟩ : ∃ z, z = h205.size := ⟨_, rfl⟩
  rw [← g206] at A206 D206 st206
  have g_b206 : n0 ≤ b206 := Nat.le_trans Zs (Nat.le_of_eq g206.symm)
  have ne_b199_b206 : b199 ≠ b206 := Nat.ne_of_lt (Nat.lt_of_lt_of_le E_b199.lt (Nat.le_of_eq g206.symm))
  have Zs : n0 ≤ h206.size := Nat.le_trans Zs E206.1
  have Ol : Old Z n0 h206 := Ol.ext E206
  have E_b199 : Exa Z h206 b199 "[D" := E_b199.ext E206
  have A_b199 : ArD Z h206 b199 (3 : Int32) (upd (upd (upd (fun _ => 0) (0 : Int32).toNatClampNeg v5.toInt64) (1 : Int32).toNatClampNeg v12.toInt64) (2 : Int32).toNatClampNeg v19.toInt64) := A_b199.ext E206
  have E_b206 : Exa Z h206 b206 "com/example/regolo/regolo/engine/Relaxation" := A206
  have F_rows_b206 : Fld Z h206 b206 "com/example/regolo/regolo/engine/Relaxation" "rows" "Ljava/util/List;" .null := D206 (Or.inr (hw _ (List.mem_of_getElem? (i := 42) rfl))) (ty := (.object "java/util/List")) (by decide)
  have F_head_b206 : Fld Z h206 b206 "com/example/regolo/regolo/engine/Relaxation" "head" "[I" .null := D206 (Or.inl (hw _ (List.mem_of_getElem? (i := 45) rfl))) (ty := (.array .int)) (by decide)
  have F_weight_b206 : Fld Z h206 b206 "com/example/regolo/regolo/engine/Relaxation" "weight" "[D" .null := D206 (Or.inl (hw _ (List.mem_of_getElem? (i := 47) rfl))) (ty := (.array .double)) (by decide)
  have F_inverse_b206 : Fld Z h206 b206 "com/example/regolo/regolo/engine/Relaxation" "inverse" "[[D" .null := D206 (Or.inl (hw _ (List.mem_of_getElem? (i := 51) rfl))) (ty := (.array (.array .double))) (by decide)
  have F_columns_b206 : Fld Z h206 b206 "com/example/regolo/regolo/engine/Relaxation" "columns" "I" (.int (0 : Int32)) := D206 (Or.inr (hw _ (List.mem_of_getElem? (i := 53) rfl))) (ty := .int) (by decide)
  have F_cost_b206 : Fld Z h206 b206 "com/example/regolo/regolo/engine/Relaxation" "cost" "[D" .null := D206 (Or.inr (hw _ (List.mem_of_getElem? (i := 63) rfl))) (ty := (.array .double)) (by decide)
  have F_lower_b206 : Fld Z h206 b206 "com/example/regolo/regolo/engine/Relaxation" "lower" "[D" .null := D206 (Or.inl (hw _ (List.mem_of_getElem? (i := 65) rfl))) (ty := (.array .double)) (by decide)
  have F_upper_b206 : Fld Z h206 b206 "com/example/regolo/regolo/engine/Relaxation" "upper" "[D" .null := D206 (Or.inl (hw _ (List.mem_of_getElem? (i := 67) rfl))) (ty := (.array .double)) (by decide)
  have F_value_b206 : Fld Z h206 b206 "com/example/regolo/regolo/engine/Relaxation" "value" "[D" .null := D206 (Or.inl (hw _ (List.mem_of_getElem? (i := 69) rfl))) (ty := (.array .double)) (by decide)
  have F_status_b206 : Fld Z h206 b206 "com/example/regolo/regolo/engine/Relaxation" "status" "[I" .null := D206 (Or.inl (hw _ (List.mem_of_getElem? (i := 71) rfl))) (ty := (.array .int)) (by decide)
  have F_reduced_b206 : Fld Z h206 b206 "com/example/regolo/regolo/engine/Relaxation" "reduced" "[D" .null := D206 (Or.inl (hw _ (List.mem_of_getElem? (i := 73) rfl))) (ty := (.array .double)) (by decide)
  have F_place_b206 : Fld Z h206 b206 "com/example/regolo/regolo/engine/Relaxation" "place" "[I" .null := D206 (Or.inl (hw _ (List.mem_of_getElem? (i := 75) rfl))) (ty := (.array .int)) (by decide)
  have F_columnRows_b206 : Fld Z h206 b206 "com/example/regolo/regolo/engine/Relaxation" "columnRows" "[[I" .null := D206 (Or.inl (hw _ (List.mem_of_getElem? (i := 118) rfl))) (ty := (.array (.array .int))) (by decide)
  obtain ⟨_, _, ⟨T207, L207, k207, n207⟩, -, X207, ⟨Lc207, hQ207, l207, y207, z207⟩, st207⟩ := X206.specialBack hx (y := (⟨"com/example/regolo/regolo/engine/Relaxation", "<init>", "([D)V"⟩ : MethodName)) rfl hown (mvT hZ (hw _ (List.mem_of_getElem? (i := 11) rfl))) (mvT hZ (hw _ (List.mem_of_getElem? (i := 12) rfl))) (mvT hZ (hw _ (List.mem_of_getElem? (i := 13) rfl))) (by decide) (backOf (W := 1) (rmR l Z a0 hw [] b206 b199 (upd (upd (upd (fun _ => 0) (0 : Int32).toNatClampNeg v5.toInt64) (1 : Int32).toNatClampNeg v12.toInt64) (2 : Int32).toNatClampNeg v19.toInt64) dd h206 n0 Zs E_b206 F_rows_b206 F_head_b206 F_weight_b206 F_inverse_b206 F_cost_b206 F_lower_b206 F_upper_b206 F_value_b206 F_status_b206 F_reduced_b206 F_place_b206 F_columns_b206 g_b206 A_b199 E_b199 (Ne.symm ne_b199_b206) Ol S_DEFAULTCAPACITY_EMPTY_ELEMENTDATA (own_R3 (own_sm (own_c hv5)) (own_sm (own_c hv12)) (own_sm (own_c hv19)))) hZ (hw _ (List.mem_of_getElem? (i := 13) rfl)) (hw _ (List.mem_of_getElem? (i := 10) rfl)) (by decide) (by decide)) (g := (mkF m 86 #[.val (.int p1), .val (.int p2), .val (.int p3), .val (.int p4), .val (.int p5), .val (.int p6), .val (.int v5), .val (.int v12), .val (.int v19), .val (.int v26), .val (.int v34), .val (.int v43), .val (.int v52), .val (.ref b199), .unset, .unset, .unset, .unset, .unset, .unset, .unset, .unset, .unset, .unset, .unset, .unset, .unset, .unset, .unset, .unset] [(.ref b199), (.ref b206), (.ref b206)])) rfl (by rw [hml]; rfl) (Steps.refl _) (a := b206) (argsL := [(.ref b199)]) (rest := [(.ref b206)]) (lenOf pd_6 rfl) rfl (by show 2 * 0 + _ ≤ _; exact Nat.le_of_eq rfl) (hb hby at_86) (fun _ _ => ⟨rfl, e206, (by decide : 2 + 11 ≤ _), (by decide : 18 + 24 ≤ _)⟩)
  dsimp only [Pt.U, Pt.locs, Pt.cells, Pt.slots] at X207 l207 y207 z207 st207 hQ207
  subst l207 y207 z207
  obtain ⟨rl_207, co_207, lo_207, up_207, va_207, sa_207, re_207, rfl, N207q, K207, szc_rl_207, szc_co_207, szc_lo_207, szc_up_207, szc_va_207, szc_sa_207, szc_re_207, g_rl_207, g_co_207, g_lo_207, g_up_207, g_va_207, g_sa_207, g_re_207, ne_rl_207_co_207, ne_rl_207_lo_207, ne_rl_207_up_207, ne_rl_207_va_207, ne_rl_207_sa_207, ne_rl_207_re_207, ne_co_207_lo_207, ne_co_207_up_207, ne_co_207_va_207, ne_co_207_sa_207, ne_co_207_re_207, ne_lo_207_up_207, ne_lo_207_va_207, ne_lo_207_sa_207, ne_lo_207_re_207, ne_up_207_va_207, ne_up_207_sa_207, ne_up_207_re_207, ne_va_207_sa_207, ne_va_207_re_207, ne_sa_207_re_207, P207_36, P207_37, P207_38, P207_39, P207_40, P207_41, P207_42, P207_43, P207_44, P207_45, P207_46, P207_47, P207_48, P207_49, P207_50, P207_51⟩ := hQ207
  have ne_b199_rl_207 : b199 ≠ rl_207 := Nat.ne_of_lt (Nat.lt_of_lt_of_le E_b199.lt szc_rl_207)
  have ne_b206_rl_207 : b206 ≠ rl_207 := Nat.ne_of_lt (Nat.lt_of_lt_of_le E_b206.lt szc_rl_207)
  have ne_b199_co_207 : b199 ≠ co_207 := Nat.ne_of_lt (Nat.lt_of_lt_of_le E_b199.lt szc_co_207)
  have ne_b206_co_207 : b206 ≠ co_207 := Nat.ne_of_lt (Nat.lt_of_lt_of_le E_b206.lt szc_co_207)
  have ne_b199_lo_207 : b199 ≠ lo_207 := Nat.ne_of_lt (Nat.lt_of_lt_of_le E_b199.lt szc_lo_207)
  have ne_b206_lo_207 : b206 ≠ lo_207 := Nat.ne_of_lt (Nat.lt_of_lt_of_le E_b206.lt szc_lo_207)
  have ne_b199_up_207 : b199 ≠ up_207 := Nat.ne_of_lt (Nat.lt_of_lt_of_le E_b199.lt szc_up_207)
  have ne_b206_up_207 : b206 ≠ up_207 := Nat.ne_of_lt (Nat.lt_of_lt_of_le E_b206.lt szc_up_207)
  have ne_b199_va_207 : b199 ≠ va_207 := Nat.ne_of_lt (Nat.lt_of_lt_of_le E_b199.lt szc_va_207)
  have ne_b206_va_207 : b206 ≠ va_207 := Nat.ne_of_lt (Nat.lt_of_lt_of_le E_b206.lt szc_va_207)
  have ne_b199_sa_207 : b199 ≠ sa_207 := Nat.ne_of_lt (Nat.lt_of_lt_of_le E_b199.lt szc_sa_207)
  have ne_b206_sa_207 : b206 ≠ sa_207 := Nat.ne_of_lt (Nat.lt_of_lt_of_le E_b206.lt szc_sa_207)
  have ne_b199_re_207 : b199 ≠ re_207 := Nat.ne_of_lt (Nat.lt_of_lt_of_le E_b199.lt szc_re_207)
  have ne_b206_re_207 : b206 ≠ re_207 := Nat.ne_of_lt (Nat.lt_of_lt_of_le E_b206.lt szc_re_207)
  have Zs : n0 ≤ T207.heap.size := Nat.le_trans Zs K207.1
  have Ol : Old Z n0 T207.heap := Ol.keep K207 (allS g_b206 all0)
  have E_b199 : Exa Z T207.heap b199 "[D" := E_b199.keep K207
  have A_b199 : ArD Z T207.heap b199 (3 : Int32) (upd (upd (upd (fun _ => 0) (0 : Int32).toNatClampNeg v5.toInt64) (1 : Int32).toNatClampNeg v12.toInt64) (2 : Int32).toNatClampNeg v19.toInt64) := A_b199.keep K207 (ninS ne_b199_b206 nin0)
  have E_b206 : Exa Z T207.heap b206 "com/example/regolo/regolo/engine/Relaxation" := E_b206.keep K207
  have F_rows_b206 : Fld Z T207.heap b206 "com/example/regolo/regolo/engine/Relaxation" "rows" "Ljava/util/List;" (.ref rl_207) := P207_36
  have F_columns_b206 : Fld Z T207.heap b206 "com/example/regolo/regolo/engine/Relaxation" "columns" "I" (.int (3 : Int32)) := P207_37
  have F_cost_b206 : Fld Z T207.heap b206 "com/example/regolo/regolo/engine/Relaxation" "cost" "[D" (.ref co_207) := P207_38
  have F_lower_b206 : Fld Z T207.heap b206 "com/example/regolo/regolo/engine/Relaxation" "lower" "[D" (.ref lo_207) := P207_39
  have F_upper_b206 : Fld Z T207.heap b206 "com/example/regolo/regolo/engine/Relaxation" "upper" "[D" (.ref up_207) := P207_40
  have F_value_b206 : Fld Z T207.heap b206 "com/example/regolo/regolo/engine/Relaxation" "value" "[D" (.ref va_207) := P207_41
  have F_status_b206 : Fld Z T207.heap b206 "com/example/regolo/regolo/engine/Relaxation" "status" "[I" (.ref sa_207) := P207_42
  have F_reduced_b206 : Fld Z T207.heap b206 "com/example/regolo/regolo/engine/Relaxation" "reduced" "[D" (.ref re_207) := P207_43
  have E_rl_207 : Exa Z T207.heap rl_207 "java/util/ArrayList" := P207_44
  have F_size_rl_207 : Fld Z T207.heap rl_207 "java/util/ArrayList" "size" "I" (.int (0 : Int32)) := P207_45
  have A_co_207 : ArD Z T207.heap co_207 (3 : Int32) (upd (upd (upd (fun _ => 0) (0 : Int32).toNatClampNeg v5.toInt64) (1 : Int32).toNatClampNeg v12.toInt64) (2 : Int32).toNatClampNeg v19.toInt64) := P207_46
  have A_lo_207 : ArD Z T207.heap lo_207 (3 : Int32) (fun _ => 0) := P207_47
  have A_up_207 : ArD Z T207.heap up_207 (3 : Int32) (upd (upd (upd (fun _ => 0) (0 : Int32).toNatClampNeg (1 : Int64)) (1 : Int32).toNatClampNeg (1 : Int64)) (2 : Int32).toNatClampNeg (1 : Int64)) := P207_48
  have A_va_207 : ArD Z T207.heap va_207 (3 : Int32) (upd (upd (upd (fun _ => 0) (0 : Int32).toNatClampNeg (if (0 : Int64) < ((upd (upd (upd (fun _ => 0) (0 : Int32).toNatClampNeg v5.toInt64) (1 : Int32).toNatClampNeg v12.toInt64) (2 : Int32).toNatClampNeg v19.toInt64) (0 : Int32).toNatClampNeg) then (1 : Int64) else (0 : Int64))) (1 : Int32).toNatClampNeg (if (0 : Int64) < ((upd (upd (upd (fun _ => 0) (0 : Int32).toNatClampNeg v5.toInt64) (1 : Int32).toNatClampNeg v12.toInt64) (2 : Int32).toNatClampNeg v19.toInt64) (1 : Int32).toNatClampNeg) then (1 : Int64) else (0 : Int64))) (2 : Int32).toNatClampNeg (if (0 : Int64) < ((upd (upd (upd (fun _ => 0) (0 : Int32).toNatClampNeg v5.toInt64) (1 : Int32).toNatClampNeg v12.toInt64) (2 : Int32).toNatClampNeg v19.toInt64) (2 : Int32).toNatClampNeg) then (1 : Int64) else (0 : Int64))) := P207_49
  have A_sa_207 : ArI Z T207.heap sa_207 (3 : Int32) (upd (upd (upd (fun _ => 0) (0 : Int32).toNatClampNeg (if (0 : Int64) < ((upd (upd (upd (fun _ => 0) (0 : Int32).toNatClampNeg v5.toInt64) (1 : Int32).toNatClampNeg v12.toInt64) (2 : Int32).toNatClampNeg v19.toInt64) (0 : Int32).toNatClampNeg) then (2 : Int32) else (1 : Int32))) (1 : Int32).toNatClampNeg (if (0 : Int64) < ((upd (upd (upd (fun _ => 0) (0 : Int32).toNatClampNeg v5.toInt64) (1 : Int32).toNatClampNeg v12.toInt64) (2 : Int32).toNatClampNeg v19.toInt64) (1 : Int32).toNatClampNeg) then (2 : Int32) else (1 : Int32))) (2 : Int32).toNatClampNeg (if (0 : Int64) < ((upd (upd (upd (fun _ => 0) (0 : Int32).toNatClampNeg v5.toInt64) (1 : Int32).toNatClampNeg v12.toInt64) (2 : Int32).toNatClampNeg v19.toInt64) (2 : Int32).toNatClampNeg) then (2 : Int32) else (1 : Int32))) := P207_50
  have A_re_207 : ArD Z T207.heap re_207 (3 : Int32) (upd (upd (upd (fun _ => 0) (0 : Int32).toNatClampNeg ((upd (upd (upd (fun _ => 0) (0 : Int32).toNatClampNeg v5.toInt64) (1 : Int32).toNatClampNeg v12.toInt64) (2 : Int32).toNatClampNeg v19.toInt64) (0 : Int32).toNatClampNeg)) (1 : Int32).toNatClampNeg ((upd (upd (upd (fun _ => 0) (0 : Int32).toNatClampNeg v5.toInt64) (1 : Int32).toNatClampNeg v12.toInt64) (2 : Int32).toNatClampNeg v19.toInt64) (1 : Int32).toNatClampNeg)) (2 : Int32).toNatClampNeg ((upd (upd (upd (fun _ => 0) (0 : Int32).toNatClampNeg v5.toInt64) (1 : Int32).toNatClampNeg v12.toInt64) (2 : Int32).toNatClampNeg v19.toInt64) (2 : Int32).toNatClampNeg)) := P207_51
  have N207 := Fr.app N205 N207q
  have pre208 : ∀ t, Steps p.tables e below (T207.setTop (mkF m 95 #[.val (.int p1), .val (.int p2), .val (.int p3), .val (.int p4), .val (.int p5), .val (.int p6), .val (.int v5), .val (.int v12), .val (.int v19), .val (.int v26), .val (.int v34), .val (.int v43), .val (.int v52), .val (.ref b199), .val (.ref b206), .unset, .unset, .unset, .unset, .unset, .unset, .unset, .unset, .unset, .unset, .unset, .unset, .unset, .unset, .unset] [(.int (p6 &&& (1 : Int32)))])) t → Steps p.tables e below (s₁.setTop (entryFrame m #[(.int p1), (.int p2), (.int p3), (.int p4), (.int p5), (.int p6)] maxLocals)) t := fun t k => pre198 t (by
    show Steps p.tables e below (T197.setTop (mkF m 54 #[.val (.int p1), .val (.int p2), .val (.int p3), .val (.int p4), .val (.int p5), .val (.int p6), .val (.int v5), .val (.int v12), .val (.int v19), .val (.int v26), .val (.int v34), .val (.int v43), .val (.int v52), .unset, .unset, .unset, .unset, .unset, .unset, .unset, .unset, .unset, .unset, .unset, .unset, .unset, .unset, .unset, .unset, .unset] [])) _
    refine XS.iconst X197.here hx rfl (hb hby at_54) ?_
    show Steps p.tables e below (T197.setTop (mkF m 55 #[.val (.int p1), .val (.int p2), .val (.int p3), .val (.int p4), .val (.int p5), .val (.int p6), .val (.int v5), .val (.int v12), .val (.int v19), .val (.int v26), .val (.int v34), .val (.int v43), .val (.int v52), .unset, .unset, .unset, .unset, .unset, .unset, .unset, .unset, .unset, .unset, .unset, .unset, .unset, .unset, .unset, .unset, .unset] [(.int (3 : Int32))])) _
    refine st199 _ ?_
    show Steps p.tables e below (T199.setTop (mkF m 57 #[.val (.int p1), .val (.int p2), .val (.int p3), .val (.int p4), .val (.int p5), .val (.int p6), .val (.int v5), .val (.int v12), .val (.int v19), .val (.int v26), .val (.int v34), .val (.int v43), .val (.int v52), .unset, .unset, .unset, .unset, .unset, .unset, .unset, .unset, .unset, .unset, .unset, .unset, .unset, .unset, .unset, .unset, .unset] [(.ref b199)])) _
    refine XS.astore X199.here hx rfl (hb hby at_57) rfl rfl (l' := #[.val (.int p1), .val (.int p2), .val (.int p3), .val (.int p4), .val (.int p5), .val (.int p6), .val (.int v5), .val (.int v12), .val (.int v19), .val (.int v26), .val (.int v34), .val (.int v43), .val (.int v52), .val (.ref b199), .unset, .unset, .unset, .unset, .unset, .unset, .unset, .unset, .unset, .unset, .unset, .unset, .unset, .unset, .unset, .unset]) rfl ?_
    show Steps p.tables e below (T199.setTop (mkF m 59 #[.val (.int p1), .val (.int p2), .val (.int p3), .val (.int p4), .val (.int p5), .val (.int p6), .val (.int v5), .val (.int v12), .val (.int v19), .val (.int v26), .val (.int v34), .val (.int v43), .val (.int v52), .val (.ref b199), .unset, .unset, .unset, .unset, .unset, .unset, .unset, .unset, .unset, .unset, .unset, .unset, .unset, .unset, .unset, .unset] [])) _
    refine XS.aload X199.here hx rfl (hb hby at_59) rfl rfl ?_
    show Steps p.tables e below (T199.setTop (mkF m 61 #[.val (.int p1), .val (.int p2), .val (.int p3), .val (.int p4), .val (.int p5), .val (.int p6), .val (.int v5), .val (.int v12), .val (.int v19), .val (.int v26), .val (.int v34), .val (.int v43), .val (.int v52), .val (.ref b199), .unset, .unset, .unset, .unset, .unset, .unset, .unset, .unset, .unset, .unset, .unset, .unset, .unset, .unset, .unset, .unset] [(.ref b199)])) _
    refine XS.iconst X199.here hx rfl (hb hby at_61) ?_
    show Steps p.tables e below (T199.setTop (mkF m 62 #[.val (.int p1), .val (.int p2), .val (.int p3), .val (.int p4), .val (.int p5), .val (.int p6), .val (.int v5), .val (.int v12), .val (.int v19), .val (.int v26), .val (.int v34), .val (.int v43), .val (.int v52), .val (.ref b199), .unset, .unset, .unset, .unset, .unset, .unset, .unset, .unset, .unset, .unset, .unset, .unset, .unset, .unset, .unset, .unset] [(.int (0 : Int32)), (.ref b199)])) _
    refine XS.iload X199.here hx rfl (hb hby at_62) rfl ?_
    show Steps p.tables e below (T199.setTop (mkF m 64 #[.val (.int p1), .val (.int p2), .val (.int p3), .val (.int p4), .val (.int p5), .val (.int p6), .val (.int v5), .val (.int v12), .val (.int v19), .val (.int v26), .val (.int v34), .val (.int v43), .val (.int v52), .val (.ref b199), .unset, .unset, .unset, .unset, .unset, .unset, .unset, .unset, .unset, .unset, .unset, .unset, .unset, .unset, .unset, .unset] [(.int v5), (.int (0 : Int32)), (.ref b199)])) _
    refine XS.i2dS X199.here hx rfl (hb hby at_64) rfl (i2d_w _) ?_
    show Steps p.tables e below (T199.setTop (mkF m 65 #[.val (.int p1), .val (.int p2), .val (.int p3), .val (.int p4), .val (.int p5), .val (.int p6), .val (.int v5), .val (.int v12), .val (.int v19), .val (.int v26), .val (.int v34), .val (.int v43), .val (.int v52), .val (.ref b199), .unset, .unset, .unset, .unset, .unset, .unset, .unset, .unset, .unset, .unset, .unset, .unset, .unset, .unset, .unset, .unset] [(.double (FP.l2d v5.toInt64)), (.int (0 : Int32)), (.ref b199)])) _
    refine st201 _ ?_
    show Steps p.tables e below (T201.setTop (mkF m 66 #[.val (.int p1), .val (.int p2), .val (.int p3), .val (.int p4), .val (.int p5), .val (.int p6), .val (.int v5), .val (.int v12), .val (.int v19), .val (.int v26), .val (.int v34), .val (.int v43), .val (.int v52), .val (.ref b199), .unset, .unset, .unset, .unset, .unset, .unset, .unset, .unset, .unset, .unset, .unset, .unset, .unset, .unset, .unset, .unset] [])) _
    refine XS.aload X201.here hx rfl (hb hby at_66) rfl rfl ?_
    show Steps p.tables e below (T201.setTop (mkF m 68 #[.val (.int p1), .val (.int p2), .val (.int p3), .val (.int p4), .val (.int p5), .val (.int p6), .val (.int v5), .val (.int v12), .val (.int v19), .val (.int v26), .val (.int v34), .val (.int v43), .val (.int v52), .val (.ref b199), .unset, .unset, .unset, .unset, .unset, .unset, .unset, .unset, .unset, .unset, .unset, .unset, .unset, .unset, .unset, .unset] [(.ref b199)])) _
    refine XS.iconst X201.here hx rfl (hb hby at_68) ?_
    show Steps p.tables e below (T201.setTop (mkF m 69 #[.val (.int p1), .val (.int p2), .val (.int p3), .val (.int p4), .val (.int p5), .val (.int p6), .val (.int v5), .val (.int v12), .val (.int v19), .val (.int v26), .val (.int v34), .val (.int v43), .val (.int v52), .val (.ref b199), .unset, .unset, .unset, .unset, .unset, .unset, .unset, .unset, .unset, .unset, .unset, .unset, .unset, .unset, .unset, .unset] [(.int (1 : Int32)), (.ref b199)])) _
    refine XS.iload X201.here hx rfl (hb hby at_69) rfl ?_
    show Steps p.tables e below (T201.setTop (mkF m 71 #[.val (.int p1), .val (.int p2), .val (.int p3), .val (.int p4), .val (.int p5), .val (.int p6), .val (.int v5), .val (.int v12), .val (.int v19), .val (.int v26), .val (.int v34), .val (.int v43), .val (.int v52), .val (.ref b199), .unset, .unset, .unset, .unset, .unset, .unset, .unset, .unset, .unset, .unset, .unset, .unset, .unset, .unset, .unset, .unset] [(.int v12), (.int (1 : Int32)), (.ref b199)])) _
    refine XS.i2dS X201.here hx rfl (hb hby at_71) rfl (i2d_w _) ?_
    show Steps p.tables e below (T201.setTop (mkF m 72 #[.val (.int p1), .val (.int p2), .val (.int p3), .val (.int p4), .val (.int p5), .val (.int p6), .val (.int v5), .val (.int v12), .val (.int v19), .val (.int v26), .val (.int v34), .val (.int v43), .val (.int v52), .val (.ref b199), .unset, .unset, .unset, .unset, .unset, .unset, .unset, .unset, .unset, .unset, .unset, .unset, .unset, .unset, .unset, .unset] [(.double (FP.l2d v12.toInt64)), (.int (1 : Int32)), (.ref b199)])) _
    refine st203 _ ?_
    show Steps p.tables e below (T203.setTop (mkF m 73 #[.val (.int p1), .val (.int p2), .val (.int p3), .val (.int p4), .val (.int p5), .val (.int p6), .val (.int v5), .val (.int v12), .val (.int v19), .val (.int v26), .val (.int v34), .val (.int v43), .val (.int v52), .val (.ref b199), .unset, .unset, .unset, .unset, .unset, .unset, .unset, .unset, .unset, .unset, .unset, .unset, .unset, .unset, .unset, .unset] [])) _
    refine XS.aload X203.here hx rfl (hb hby at_73) rfl rfl ?_
    show Steps p.tables e below (T203.setTop (mkF m 75 #[.val (.int p1), .val (.int p2), .val (.int p3), .val (.int p4), .val (.int p5), .val (.int p6), .val (.int v5), .val (.int v12), .val (.int v19), .val (.int v26), .val (.int v34), .val (.int v43), .val (.int v52), .val (.ref b199), .unset, .unset, .unset, .unset, .unset, .unset, .unset, .unset, .unset, .unset, .unset, .unset, .unset, .unset, .unset, .unset] [(.ref b199)])) _
    refine XS.iconst X203.here hx rfl (hb hby at_75) ?_
    show Steps p.tables e below (T203.setTop (mkF m 76 #[.val (.int p1), .val (.int p2), .val (.int p3), .val (.int p4), .val (.int p5), .val (.int p6), .val (.int v5), .val (.int v12), .val (.int v19), .val (.int v26), .val (.int v34), .val (.int v43), .val (.int v52), .val (.ref b199), .unset, .unset, .unset, .unset, .unset, .unset, .unset, .unset, .unset, .unset, .unset, .unset, .unset, .unset, .unset, .unset] [(.int (2 : Int32)), (.ref b199)])) _
    refine XS.iload X203.here hx rfl (hb hby at_76) rfl ?_
    show Steps p.tables e below (T203.setTop (mkF m 78 #[.val (.int p1), .val (.int p2), .val (.int p3), .val (.int p4), .val (.int p5), .val (.int p6), .val (.int v5), .val (.int v12), .val (.int v19), .val (.int v26), .val (.int v34), .val (.int v43), .val (.int v52), .val (.ref b199), .unset, .unset, .unset, .unset, .unset, .unset, .unset, .unset, .unset, .unset, .unset, .unset, .unset, .unset, .unset, .unset] [(.int v19), (.int (2 : Int32)), (.ref b199)])) _
    refine XS.i2dS X203.here hx rfl (hb hby at_78) rfl (i2d_w _) ?_
    show Steps p.tables e below (T203.setTop (mkF m 79 #[.val (.int p1), .val (.int p2), .val (.int p3), .val (.int p4), .val (.int p5), .val (.int p6), .val (.int v5), .val (.int v12), .val (.int v19), .val (.int v26), .val (.int v34), .val (.int v43), .val (.int v52), .val (.ref b199), .unset, .unset, .unset, .unset, .unset, .unset, .unset, .unset, .unset, .unset, .unset, .unset, .unset, .unset, .unset, .unset] [(.double (FP.l2d v19.toInt64)), (.int (2 : Int32)), (.ref b199)])) _
    refine st205 _ ?_
    show Steps p.tables e below (T205.setTop (mkF m 80 #[.val (.int p1), .val (.int p2), .val (.int p3), .val (.int p4), .val (.int p5), .val (.int p6), .val (.int v5), .val (.int v12), .val (.int v19), .val (.int v26), .val (.int v34), .val (.int v43), .val (.int v52), .val (.ref b199), .unset, .unset, .unset, .unset, .unset, .unset, .unset, .unset, .unset, .unset, .unset, .unset, .unset, .unset, .unset, .unset] [])) _
    refine st206 _ ?_
    show Steps p.tables e below (T206.setTop (mkF m 83 #[.val (.int p1), .val (.int p2), .val (.int p3), .val (.int p4), .val (.int p5), .val (.int p6), .val (.int v5), .val (.int v12), .val (.int v19), .val (.int v26), .val (.int v34), .val (.int v43), .val (.int v52), .val (.ref b199), .unset, .unset, .unset, .unset, .unset, .unset, .unset, .unset, .unset, .unset, .unset, .unset, .unset, .unset, .unset, .unset] [(.ref b206)])) _
    refine XS.dup X206.here hx rfl (hb hby at_83) rfl rfl ?_
    show Steps p.tables e below (T206.setTop (mkF m 84 #[.val (.int p1), .val (.int p2), .val (.int p3), .val (.int p4), .val (.int p5), .val (.int p6), .val (.int v5), .val (.int v12), .val (.int v19), .val (.int v26), .val (.int v34), .val (.int v43), .val (.int v52), .val (.ref b199), .unset, .unset, .unset, .unset, .unset, .unset, .unset, .unset, .unset, .unset, .unset, .unset, .unset, .unset, .unset, .unset] [(.ref b206), (.ref b206)])) _
    refine XS.aload X206.here hx rfl (hb hby at_84) rfl rfl ?_
    show Steps p.tables e below (T206.setTop (mkF m 86 #[.val (.int p1), .val (.int p2), .val (.int p3), .val (.int p4), .val (.int p5), .val (.int p6), .val (.int v5), .val (.int v12), .val (.int v19), .val (.int v26), .val (.int v34), .val (.int v43), .val (.int v52), .val (.ref b199), .unset, .unset, .unset, .unset, .unset, .unset, .unset, .unset, .unset, .unset, .unset, .unset, .unset, .unset, .unset, .unset] [(.ref b199), (.ref b206), (.ref b206)])) _
    refine st207.trans ?_
    show Steps p.tables e below (T207.setTop (mkF m 89 #[.val (.int p1), .val (.int p2), .val (.int p3), .val (.int p4), .val (.int p5), .val (.int p6), .val (.int v5), .val (.int v12), .val (.int v19), .val (.int v26), .val (.int v34), .val (.int v43), .val (.int v52), .val (.ref b199), .unset, .unset, .unset, .unset, .unset, .unset, .unset, .unset, .unset, .unset, .unset, .unset, .unset, .unset, .unset, .unset] [(.ref b206)])) _
    refine XS.astore X207.here hx rfl (hb hby at_89) rfl rfl (l' := #[.val (.int p1), .val (.int p2), .val (.int p3), .val (.int p4), .val (.int p5), .val (.int p6), .val (.int v5), .val (.int v12), .val (.int v19), .val (.int v26), .val (.int v34), .val (.int v43), .val (.int v52), .val (.ref b199), .val (.ref b206), .unset, .unset, .unset, .unset, .unset, .unset, .unset, .unset, .unset, .unset, .unset, .unset, .unset, .unset, .unset]) rfl ?_
    show Steps p.tables e below (T207.setTop (mkF m 91 #[.val (.int p1), .val (.int p2), .val (.int p3), .val (.int p4), .val (.int p5), .val (.int p6), .val (.int v5), .val (.int v12), .val (.int v19), .val (.int v26), .val (.int v34), .val (.int v43), .val (.int v52), .val (.ref b199), .val (.ref b206), .unset, .unset, .unset, .unset, .unset, .unset, .unset, .unset, .unset, .unset, .unset, .unset, .unset, .unset, .unset] [])) _
    refine XS.iload X207.here hx rfl (hb hby at_91) rfl ?_
    show Steps p.tables e below (T207.setTop (mkF m 93 #[.val (.int p1), .val (.int p2), .val (.int p3), .val (.int p4), .val (.int p5), .val (.int p6), .val (.int v5), .val (.int v12), .val (.int v19), .val (.int v26), .val (.int v34), .val (.int v43), .val (.int v52), .val (.ref b199), .val (.ref b206), .unset, .unset, .unset, .unset, .unset, .unset, .unset, .unset, .unset, .unset, .unset, .unset, .unset, .unset, .unset] [(.int p6)])) _
    refine XS.iconst X207.here hx rfl (hb hby at_93) ?_
    show Steps p.tables e below (T207.setTop (mkF m 94 #[.val (.int p1), .val (.int p2), .val (.int p3), .val (.int p4), .val (.int p5), .val (.int p6), .val (.int v5), .val (.int v12), .val (.int v19), .val (.int v26), .val (.int v34), .val (.int v43), .val (.int v52), .val (.ref b199), .val (.ref b206), .unset, .unset, .unset, .unset, .unset, .unset, .unset, .unset, .unset, .unset, .unset, .unset, .unset, .unset, .unset] [(.int (1 : Int32)), (.int p6)])) _
    refine XS.iand X207.here hx rfl (hb hby at_94) rfl ?_
    exact k)
  obtain ⟨z103_s0, hz103_s0⟩ : ∃ z : Int32, z = (if (p6 &&& (1 : Int32)) = (0 : Int32) then (0 : Int32) else (1 : Int32)) := ⟨_, rfl⟩
  obtain ⟨T211, Lc211, X211, e211, N211, pre211⟩ : ∃ (T' : State) (locs' : List Loc), Stand p l e room_1 s m #[(.int p1), (.int p2), (.int p3), (.int p4), (.int p5), (.int p6)] below meth c T' locs' 13 42 ∧ T'.heap = T207.heap ∧ Fr n0 locs' ∧ ∀ t, Steps p.tables e below (T'.setTop (mkF m 103 #[.val (.int p1), .val (.int p2), .val (.int p3), .val (.int p4), .val (.int p5), .val (.int p6), .val (.int v5), .val (.int v12), .val (.int v19), .val (.int v26), .val (.int v34), .val (.int v43), .val (.int v52), .val (.ref b199), .val (.ref b206), .unset, .unset, .unset, .unset, .unset, .unset, .unset, .unset, .unset, .unset, .unset, .unset, .unset, .unset, .unset] [(.int z103_s0)])) t → Steps p.tables e below (s₁.setTop (entryFrame m #[(.int p1), (.int p2), (.int p3), (.int p4), (.int p5), (.int p6)] maxLocals)) t := by
    by_cases hc95 : (p6 &&& (1 : Int32)) = (0 : Int32)
    ·
      have pre209 : ∀ t, Steps p.tables e below (T207.setTop (mkF m 103 #[.val (.int p1), .val (.int p2), .val (.int p3), .val (.int p4), .val (.int p5), .val (.int p6), .val (.int v5), .val (.int v12), .val (.int v19), .val (.int v26), .val (.int v34), .val (.int v43), .val (.int v52), .val (.ref b199), .val (.ref b206), .unset, .unset, .unset, .unset, .unset, .unset, .unset, .unset, .unset, .unset, .unset, .unset, .unset, .unset, .unset] [(.int (0 : Int32))])) t → Steps p.tables e below (s₁.setTop (entryFrame m #[(.int p1), (.int p2), (.int p3), (.int p4), (.int p5), (.int p6)] maxLocals)) t := fun t k => pre208 t (by
        show Steps p.tables e below (T207.setTop (mkF m 95 #[.val (.int p1), .val (.int p2), .val (.int p3), .val (.int p4), .val (.int p5), .val (.int p6), .val (.int v5), .val (.int v12), .val (.int v19), .val (.int v26), .val (.int v34), .val (.int v43), .val (.int v52), .val (.ref b199), .val (.ref b206), .unset, .unset, .unset, .unset, .unset, .unset, .unset, .unset, .unset, .unset, .unset, .unset, .unset, .unset, .unset] [(.int (p6 &&& (1 : Int32)))])) _
        refine XS.ifYes X207.here hx rfl (pc0 := 95) (pc' := 102) rfl (hb hby at_95) rfl ((if0 _ _).trans (teq hc95).1) (by decide) (by decide) ?_
        show Steps p.tables e below (T207.setTop (mkF m 102 #[.val (.int p1), .val (.int p2), .val (.int p3), .val (.int p4), .val (.int p5), .val (.int p6), .val (.int v5), .val (.int v12), .val (.int v19), .val (.int v26), .val (.int v34), .val (.int v43), .val (.int v52), .val (.ref b199), .val (.ref b206), .unset, .unset, .unset, .unset, .unset, .unset, .unset, .unset, .unset, .unset, .unset, .unset, .unset, .unset, .unset] [])) _
        refine XS.iconst X207.here hx rfl (hb hby at_102) ?_
        exact k)
      have q_z103_s0 : z103_s0 = (0 : Int32) := by rw [hz103_s0, if_pos hc95]
      refine ⟨_, _, X207, rfl, N207, fun t k => ?_⟩
      rw [q_z103_s0] at k
      exact pre209 t k
    ·
      have pre210 : ∀ t, Steps p.tables e below (T207.setTop (mkF m 103 #[.val (.int p1), .val (.int p2), .val (.int p3), .val (.int p4), .val (.int p5), .val (.int p6), .val (.int v5), .val (.int v12), .val (.int v19), .val (.int v26), .val (.int v34), .val (.int v43), .val (.int v52), .val (.ref b199), .val (.ref b206), .unset, .unset, .unset, .unset, .unset, .unset, .unset, .unset, .unset, .unset, .unset, .unset, .unset, .unset, .unset] [(.int (1 : Int32))])) t → Steps p.tables e below (s₁.setTop (entryFrame m #[(.int p1), (.int p2), (.int p3), (.int p4), (.int p5), (.int p6)] maxLocals)) t := fun t k => pre208 t (by
        show Steps p.tables e below (T207.setTop (mkF m 95 #[.val (.int p1), .val (.int p2), .val (.int p3), .val (.int p4), .val (.int p5), .val (.int p6), .val (.int v5), .val (.int v12), .val (.int v19), .val (.int v26), .val (.int v34), .val (.int v43), .val (.int v52), .val (.ref b199), .val (.ref b206), .unset, .unset, .unset, .unset, .unset, .unset, .unset, .unset, .unset, .unset, .unset, .unset, .unset, .unset, .unset] [(.int (p6 &&& (1 : Int32)))])) _
        refine XS.ifNo X207.here hx rfl (hb hby at_95) rfl ((if0 _ _).trans (feq hc95).1) ?_
        show Steps p.tables e below (T207.setTop (mkF m 98 #[.val (.int p1), .val (.int p2), .val (.int p3), .val (.int p4), .val (.int p5), .val (.int p6), .val (.int v5), .val (.int v12), .val (.int v19), .val (.int v26), .val (.int v34), .val (.int v43), .val (.int v52), .val (.ref b199), .val (.ref b206), .unset, .unset, .unset, .unset, .unset, .unset, .unset, .unset, .unset, .unset, .unset, .unset, .unset, .unset, .unset] [])) _
        refine XS.iconst X207.here hx rfl (hb hby at_98) ?_
        show Steps p.tables e below (T207.setTop (mkF m 99 #[.val (.int p1), .val (.int p2), .val (.int p3), .val (.int p4), .val (.int p5), .val (.int p6), .val (.int v5), .val (.int v12), .val (.int v19), .val (.int v26), .val (.int v34), .val (.int v43), .val (.int v52), .val (.ref b199), .val (.ref b206), .unset, .unset, .unset, .unset, .unset, .unset, .unset, .unset, .unset, .unset, .unset, .unset, .unset, .unset, .unset] [(.int (1 : Int32))])) _
        refine XS.goto X207.here hx rfl (pc0 := 99) (pc' := 103) rfl (hb hby at_99) (by decide) (by decide) ?_
        exact k)
      have q_z103_s0 : z103_s0 = (1 : Int32) := by rw [hz103_s0, if_neg hc95]
      refine ⟨_, _, X207, rfl, N207, fun t k => ?_⟩
      rw [q_z103_s0] at k
      exact pre210 t k
  have pre212 : ∀ t, Steps p.tables e below (T211.setTop (mkF m 109 #[.val (.int p1), .val (.int p2), .val (.int p3), .val (.int p4), .val (.int p5), .val (.int p6), .val (.int v5), .val (.int v12), .val (.int v19), .val (.int v26), .val (.int v34), .val (.int v43), .val (.int v52), .val (.ref b199), .val (.ref b206), .val (.int z103_s0), .unset, .unset, .unset, .unset, .unset, .unset, .unset, .unset, .unset, .unset, .unset, .unset, .unset, .unset] [(.int (p6 &&& (2 : Int32)))])) t → Steps p.tables e below (s₁.setTop (entryFrame m #[(.int p1), (.int p2), (.int p3), (.int p4), (.int p5), (.int p6)] maxLocals)) t := fun t k => pre211 t (by
    show Steps p.tables e below (T211.setTop (mkF m 103 #[.val (.int p1), .val (.int p2), .val (.int p3), .val (.int p4), .val (.int p5), .val (.int p6), .val (.int v5), .val (.int v12), .val (.int v19), .val (.int v26), .val (.int v34), .val (.int v43), .val (.int v52), .val (.ref b199), .val (.ref b206), .unset, .unset, .unset, .unset, .unset, .unset, .unset, .unset, .unset, .unset, .unset, .unset, .unset, .unset, .unset] [(.int z103_s0)])) _
    refine XS.istore X211.here hx rfl (hb hby at_103) rfl (l' := #[.val (.int p1), .val (.int p2), .val (.int p3), .val (.int p4), .val (.int p5), .val (.int p6), .val (.int v5), .val (.int v12), .val (.int v19), .val (.int v26), .val (.int v34), .val (.int v43), .val (.int v52), .val (.ref b199), .val (.ref b206), .val (.int z103_s0), .unset, .unset, .unset, .unset, .unset, .unset, .unset, .unset, .unset, .unset, .unset, .unset, .unset, .unset]) rfl ?_
    show Steps p.tables e below (T211.setTop (mkF m 105 #[.val (.int p1), .val (.int p2), .val (.int p3), .val (.int p4), .val (.int p5), .val (.int p6), .val (.int v5), .val (.int v12), .val (.int v19), .val (.int v26), .val (.int v34), .val (.int v43), .val (.int v52), .val (.ref b199), .val (.ref b206), .val (.int z103_s0), .unset, .unset, .unset, .unset, .unset, .unset, .unset, .unset, .unset, .unset, .unset, .unset, .unset, .unset] [])) _
    refine XS.iload X211.here hx rfl (hb hby at_105) rfl ?_
    show Steps p.tables e below (T211.setTop (mkF m 107 #[.val (.int p1), .val (.int p2), .val (.int p3), .val (.int p4), .val (.int p5), .val (.int p6), .val (.int v5), .val (.int v12), .val (.int v19), .val (.int v26), .val (.int v34), .val (.int v43), .val (.int v52), .val (.ref b199), .val (.ref b206), .val (.int z103_s0), .unset, .unset, .unset, .unset, .unset, .unset, .unset, .unset, .unset, .unset, .unset, .unset, .unset, .unset] [(.int p6)])) _
    refine XS.iconst X211.here hx rfl (hb hby at_107) ?_
    show Steps p.tables e below (T211.setTop (mkF m 108 #[.val (.int p1), .val (.int p2), .val (.int p3), .val (.int p4), .val (.int p5), .val (.int p6), .val (.int v5), .val (.int v12), .val (.int v19), .val (.int v26), .val (.int v34), .val (.int v43), .val (.int v52), .val (.ref b199), .val (.ref b206), .val (.int z103_s0), .unset, .unset, .unset, .unset, .unset, .unset, .unset, .unset, .unset, .unset, .unset, .unset, .unset, .unset] [(.int (2 : Int32)), (.int p6)])) _
    refine XS.iand X211.here hx rfl (hb hby at_108) rfl ?_
    exact k)
  obtain ⟨z117_s0, hz117_s0⟩ : ∃ z : Int32, z = (if (p6 &&& (2 : Int32)) = (0 : Int32) then (0 : Int32) else (1 : Int32)) := ⟨_, rfl⟩
  obtain ⟨T215, Lc215, X215, e215, N215, pre215⟩ : ∃ (T' : State) (locs' : List Loc), Stand p l e room_1 s m #[(.int p1), (.int p2), (.int p3), (.int p4), (.int p5), (.int p6)] below meth c T' locs' 13 42 ∧ T'.heap = T207.heap ∧ Fr n0 locs' ∧ ∀ t, Steps p.tables e below (T'.setTop (mkF m 117 #[.val (.int p1), .val (.int p2), .val (.int p3), .val (.int p4), .val (.int p5), .val (.int p6), .val (.int v5), .val (.int v12), .val (.int v19), .val (.int v26), .val (.int v34), .val (.int v43), .val (.int v52), .val (.ref b199), .val (.ref b206), .val (.int z103_s0), .unset, .unset, .unset, .unset, .unset, .unset, .unset, .unset, .unset, .unset, .unset, .unset, .unset, .unset] [(.int z117_s0)])) t → Steps p.tables e below (s₁.setTop (entryFrame m #[(.int p1), (.int p2), (.int p3), (.int p4), (.int p5), (.int p6)] maxLocals)) t := by
    by_cases hc109 : (p6 &&& (2 : Int32)) = (0 : Int32)
    ·
      have pre213 : ∀ t, Steps p.tables e below (T211.setTop (mkF m 117 #[.val (.int p1), .val (.int p2), .val (.int p3), .val (.int p4), .val (.int p5), .val (.int p6), .val (.int v5), .val (.int v12), .val (.int v19), .val (.int v26), .val (.int v34), .val (.int v43), .val (.int v52), .val (.ref b199), .val (.ref b206), .val (.int z103_s0), .unset, .unset, .unset, .unset, .unset, .unset, .unset, .unset, .unset, .unset, .unset, .unset, .unset, .unset] [(.int (0 : Int32))])) t → Steps p.tables e below (s₁.setTop (entryFrame m #[(.int p1), (.int p2), (.int p3), (.int p4), (.int p5), (.int p6)] maxLocals)) t := fun t k => pre212 t (by
        show Steps p.tables e below (T211.setTop (mkF m 109 #[.val (.int p1), .val (.int p2), .val (.int p3), .val (.int p4), .val (.int p5), .val (.int p6), .val (.int v5), .val (.int v12), .val (.int v19), .val (.int v26), .val (.int v34), .val (.int v43), .val (.int v52), .val (.ref b199), .val (.ref b206), .val (.int z103_s0), .unset, .unset, .unset, .unset, .unset, .unset, .unset, .unset, .unset, .unset, .unset, .unset, .unset, .unset] [(.int (p6 &&& (2 : Int32)))])) _
        refine XS.ifYes X211.here hx rfl (pc0 := 109) (pc' := 116) rfl (hb hby at_109) rfl ((if0 _ _).trans (teq hc109).1) (by decide) (by decide) ?_
        show Steps p.tables e below (T211.setTop (mkF m 116 #[.val (.int p1), .val (.int p2), .val (.int p3), .val (.int p4), .val (.int p5), .val (.int p6), .val (.int v5), .val (.int v12), .val (.int v19), .val (.int v26), .val (.int v34), .val (.int v43), .val (.int v52), .val (.ref b199), .val (.ref b206), .val (.int z103_s0), .unset, .unset, .unset, .unset, .unset, .unset, .unset, .unset, .unset, .unset, .unset, .unset, .unset, .unset] [])) _
        refine XS.iconst X211.here hx rfl (hb hby at_116) ?_
        exact k)
      have q_z117_s0 : z117_s0 = (0 : Int32) := by rw [hz117_s0, if_pos hc109]
      refine ⟨_, _, X211, e211, N211, fun t k => ?_⟩
      rw [q_z117_s0] at k
      exact pre213 t k
    ·
      have pre214 : ∀ t, Steps p.tables e below (T211.setTop (mkF m 117 #[.val (.int p1), .val (.int p2), .val (.int p3), .val (.int p4), .val (.int p5), .val (.int p6), .val (.int v5), .val (.int v12), .val (.int v19), .val (.int v26), .val (.int v34), .val (.int v43), .val (.int v52), .val (.ref b199), .val (.ref b206), .val (.int z103_s0), .unset, .unset, .unset, .unset, .unset, .unset, .unset, .unset, .unset, .unset, .unset, .unset, .unset, .unset] [(.int (1 : Int32))])) t → Steps p.tables e below (s₁.setTop (entryFrame m #[(.int p1), (.int p2), (.int p3), (.int p4), (.int p5), (.int p6)] maxLocals)) t := fun t k => pre212 t (by
        show Steps p.tables e below (T211.setTop (mkF m 109 #[.val (.int p1), .val (.int p2), .val (.int p3), .val (.int p4), .val (.int p5), .val (.int p6), .val (.int v5), .val (.int v12), .val (.int v19), .val (.int v26), .val (.int v34), .val (.int v43), .val (.int v52), .val (.ref b199), .val (.ref b206), .val (.int z103_s0), .unset, .unset, .unset, .unset, .unset, .unset, .unset, .unset, .unset, .unset, .unset, .unset, .unset, .unset] [(.int (p6 &&& (2 : Int32)))])) _
        refine XS.ifNo X211.here hx rfl (hb hby at_109) rfl ((if0 _ _).trans (feq hc109).1) ?_
        show Steps p.tables e below (T211.setTop (mkF m 112 #[.val (.int p1), .val (.int p2), .val (.int p3), .val (.int p4), .val (.int p5), .val (.int p6), .val (.int v5), .val (.int v12), .val (.int v19), .val (.int v26), .val (.int v34), .val (.int v43), .val (.int v52), .val (.ref b199), .val (.ref b206), .val (.int z103_s0), .unset, .unset, .unset, .unset, .unset, .unset, .unset, .unset, .unset, .unset, .unset, .unset, .unset, .unset] [])) _
        refine XS.iconst X211.here hx rfl (hb hby at_112) ?_
        show Steps p.tables e below (T211.setTop (mkF m 113 #[.val (.int p1), .val (.int p2), .val (.int p3), .val (.int p4), .val (.int p5), .val (.int p6), .val (.int v5), .val (.int v12), .val (.int v19), .val (.int v26), .val (.int v34), .val (.int v43), .val (.int v52), .val (.ref b199), .val (.ref b206), .val (.int z103_s0), .unset, .unset, .unset, .unset, .unset, .unset, .unset, .unset, .unset, .unset, .unset, .unset, .unset, .unset] [(.int (1 : Int32))])) _
        refine XS.goto X211.here hx rfl (pc0 := 113) (pc' := 117) rfl (hb hby at_113) (by decide) (by decide) ?_
        exact k)
      have q_z117_s0 : z117_s0 = (1 : Int32) := by rw [hz117_s0, if_neg hc109]
      refine ⟨_, _, X211, e211, N211, fun t k => ?_⟩
      rw [q_z117_s0] at k
      exact pre214 t k
  have pre216 : ∀ t, Steps p.tables e below (T215.setTop (mkF m 123 #[.val (.int p1), .val (.int p2), .val (.int p3), .val (.int p4), .val (.int p5), .val (.int p6), .val (.int v5), .val (.int v12), .val (.int v19), .val (.int v26), .val (.int v34), .val (.int v43), .val (.int v52), .val (.ref b199), .val (.ref b206), .val (.int z103_s0), .val (.int z117_s0), .unset, .unset, .unset, .unset, .unset, .unset, .unset, .unset, .unset, .unset, .unset, .unset, .unset] [(.int (p6 &&& (4 : Int32)))])) t → Steps p.tables e below (s₁.setTop (entryFrame m #[(.int p1), (.int p2), (.int p3), (.int p4), (.int p5), (.int p6)] maxLocals)) t := fun t k => pre215 t (by
    show Steps p.tables e below (T215.setTop (mkF m 117 #[.val (.int p1), .val (.int p2), .val (.int p3), .val (.int p4), .val (.int p5), .val (.int p6), .val (.int v5), .val (.int v12), .val (.int v19), .val (.int v26), .val (.int v34), .val (.int v43), .val (.int v52), .val (.ref b199), .val (.ref b206), .val (.int z103_s0), .unset, .unset, .unset, .unset, .unset, .unset, .unset, .unset, .unset, .unset, .unset, .unset, .unset, .unset] [(.int z117_s0)])) _
    refine XS.istore X215.here hx rfl (hb hby at_117) rfl (l' := #[.val (.int p1), .val (.int p2), .val (.int p3), .val (.int p4), .val (.int p5), .val (.int p6), .val (.int v5), .val (.int v12), .val (.int v19), .val (.int v26), .val (.int v34), .val (.int v43), .val (.int v52), .val (.ref b199), .val (.ref b206), .val (.int z103_s0), .val (.int z117_s0), .unset, .unset, .unset, .unset, .unset, .unset, .unset, .unset, .unset, .unset, .unset, .unset, .unset]) rfl ?_
    show Steps p.tables e below (T215.setTop (mkF m 119 #[.val (.int p1), .val (.int p2), .val (.int p3), .val (.int p4), .val (.int p5), .val (.int p6), .val (.int v5), .val (.int v12), .val (.int v19), .val (.int v26), .val (.int v34), .val (.int v43), .val (.int v52), .val (.ref b199), .val (.ref b206), .val (.int z103_s0), .val (.int z117_s0), .unset, .unset, .unset, .unset, .unset, .unset, .unset, .unset, .unset, .unset, .unset, .unset, .unset] [])) _
    refine XS.iload X215.here hx rfl (hb hby at_119) rfl ?_
    show Steps p.tables e below (T215.setTop (mkF m 121 #[.val (.int p1), .val (.int p2), .val (.int p3), .val (.int p4), .val (.int p5), .val (.int p6), .val (.int v5), .val (.int v12), .val (.int v19), .val (.int v26), .val (.int v34), .val (.int v43), .val (.int v52), .val (.ref b199), .val (.ref b206), .val (.int z103_s0), .val (.int z117_s0), .unset, .unset, .unset, .unset, .unset, .unset, .unset, .unset, .unset, .unset, .unset, .unset, .unset] [(.int p6)])) _
    refine XS.iconst X215.here hx rfl (hb hby at_121) ?_
    show Steps p.tables e below (T215.setTop (mkF m 122 #[.val (.int p1), .val (.int p2), .val (.int p3), .val (.int p4), .val (.int p5), .val (.int p6), .val (.int v5), .val (.int v12), .val (.int v19), .val (.int v26), .val (.int v34), .val (.int v43), .val (.int v52), .val (.ref b199), .val (.ref b206), .val (.int z103_s0), .val (.int z117_s0), .unset, .unset, .unset, .unset, .unset, .unset, .unset, .unset, .unset, .unset, .unset, .unset, .unset] [(.int (4 : Int32)), (.int p6)])) _
    refine XS.iand X215.here hx rfl (hb hby at_122) rfl ?_
    exact k)
  obtain ⟨z131_s0, hz131_s0⟩ : ∃ z : Int32, z = (if (p6 &&& (4 : Int32)) = (0 : Int32) then (0 : Int32) else (1 : Int32)) := ⟨_, rfl⟩
  obtain ⟨T219, Lc219, X219, e219, N219, pre219⟩ : ∃ (T' : State) (locs' : List Loc), Stand p l e room_1 s m #[(.int p1), (.int p2), (.int p3), (.int p4), (.int p5), (.int p6)] below meth c T' locs' 13 42 ∧ T'.heap = T207.heap ∧ Fr n0 locs' ∧ ∀ t, Steps p.tables e below (T'.setTop (mkF m 131 #[.val (.int p1), .val (.int p2), .val (.int p3), .val (.int p4), .val (.int p5), .val (.int p6), .val (.int v5), .val (.int v12), .val (.int v19), .val (.int v26), .val (.int v34), .val (.int v43), .val (.int v52), .val (.ref b199), .val (.ref b206), .val (.int z103_s0), .val (.int z117_s0), .unset, .unset, .unset, .unset, .unset, .unset, .unset, .unset, .unset, .unset, .unset, .unset, .unset] [(.int z131_s0)])) t → Steps p.tables e below (s₁.setTop (entryFrame m #[(.int p1), (.int p2), (.int p3), (.int p4), (.int p5), (.int p6)] maxLocals)) t := by
    by_cases hc123 : (p6 &&& (4 : Int32)) = (0 : Int32)
    ·
      have pre217 : ∀ t, Steps p.tables e below (T215.setTop (mkF m 131 #[.val (.int p1), .val (.int p2), .val (.int p3), .val (.int p4), .val (.int p5), .val (.int p6), .val (.int v5), .val (.int v12), .val (.int v19), .val (.int v26), .val (.int v34), .val (.int v43), .val (.int v52), .val (.ref b199), .val (.ref b206), .val (.int z103_s0), .val (.int z117_s0), .unset, .unset, .unset, .unset, .unset, .unset, .unset, .unset, .unset, .unset, .unset, .unset, .unset] [(.int (0 : Int32))])) t → Steps p.tables e below (s₁.setTop (entryFrame m #[(.int p1), (.int p2), (.int p3), (.int p4), (.int p5), (.int p6)] maxLocals)) t := fun t k => pre216 t (by
        show Steps p.tables e below (T215.setTop (mkF m 123 #[.val (.int p1), .val (.int p2), .val (.int p3), .val (.int p4), .val (.int p5), .val (.int p6), .val (.int v5), .val (.int v12), .val (.int v19), .val (.int v26), .val (.int v34), .val (.int v43), .val (.int v52), .val (.ref b199), .val (.ref b206), .val (.int z103_s0), .val (.int z117_s0), .unset, .unset, .unset, .unset, .unset, .unset, .unset, .unset, .unset, .unset, .unset, .unset, .unset] [(.int (p6 &&& (4 : Int32)))])) _
        refine XS.ifYes X215.here hx rfl (pc0 := 123) (pc' := 130) rfl (hb hby at_123) rfl ((if0 _ _).trans (teq hc123).1) (by decide) (by decide) ?_
        show Steps p.tables e below (T215.setTop (mkF m 130 #[.val (.int p1), .val (.int p2), .val (.int p3), .val (.int p4), .val (.int p5), .val (.int p6), .val (.int v5), .val (.int v12), .val (.int v19), .val (.int v26), .val (.int v34), .val (.int v43), .val (.int v52), .val (.ref b199), .val (.ref b206), .val (.int z103_s0), .val (.int z117_s0), .unset, .unset, .unset, .unset, .unset, .unset, .unset, .unset, .unset, .unset, .unset, .unset, .unset] [])) _
        refine XS.iconst X215.here hx rfl (hb hby at_130) ?_
        exact k)
      have q_z131_s0 : z131_s0 = (0 : Int32) := by rw [hz131_s0, if_pos hc123]
      refine ⟨_, _, X215, e215, N215, fun t k => ?_⟩
      rw [q_z131_s0] at k
      exact pre217 t k
    ·
      have pre218 : ∀ t, Steps p.tables e below (T215.setTop (mkF m 131 #[.val (.int p1), .val (.int p2), .val (.int p3), .val (.int p4), .val (.int p5), .val (.int p6), .val (.int v5), .val (.int v12), .val (.int v19), .val (.int v26), .val (.int v34), .val (.int v43), .val (.int v52), .val (.ref b199), .val (.ref b206), .val (.int z103_s0), .val (.int z117_s0), .unset, .unset, .unset, .unset, .unset, .unset, .unset, .unset, .unset, .unset, .unset, .unset, .unset] [(.int (1 : Int32))])) t → Steps p.tables e below (s₁.setTop (entryFrame m #[(.int p1), (.int p2), (.int p3), (.int p4), (.int p5), (.int p6)] maxLocals)) t := fun t k => pre216 t (by
        show Steps p.tables e below (T215.setTop (mkF m 123 #[.val (.int p1), .val (.int p2), .val (.int p3), .val (.int p4), .val (.int p5), .val (.int p6), .val (.int v5), .val (.int v12), .val (.int v19), .val (.int v26), .val (.int v34), .val (.int v43), .val (.int v52), .val (.ref b199), .val (.ref b206), .val (.int z103_s0), .val (.int z117_s0), .unset, .unset, .unset, .unset, .unset, .unset, .unset, .unset, .unset, .unset, .unset, .unset, .unset] [(.int (p6 &&& (4 : Int32)))])) _
        refine XS.ifNo X215.here hx rfl (hb hby at_123) rfl ((if0 _ _).trans (feq hc123).1) ?_
        show Steps p.tables e below (T215.setTop (mkF m 126 #[.val (.int p1), .val (.int p2), .val (.int p3), .val (.int p4), .val (.int p5), .val (.int p6), .val (.int v5), .val (.int v12), .val (.int v19), .val (.int v26), .val (.int v34), .val (.int v43), .val (.int v52), .val (.ref b199), .val (.ref b206), .val (.int z103_s0), .val (.int z117_s0), .unset, .unset, .unset, .unset, .unset, .unset, .unset, .unset, .unset, .unset, .unset, .unset, .unset] [])) _
        refine XS.iconst X215.here hx rfl (hb hby at_126) ?_
        show Steps p.tables e below (T215.setTop (mkF m 127 #[.val (.int p1), .val (.int p2), .val (.int p3), .val (.int p4), .val (.int p5), .val (.int p6), .val (.int v5), .val (.int v12), .val (.int v19), .val (.int v26), .val (.int v34), .val (.int v43), .val (.int v52), .val (.ref b199), .val (.ref b206), .val (.int z103_s0), .val (.int z117_s0), .unset, .unset, .unset, .unset, .unset, .unset, .unset, .unset, .unset, .unset, .unset, .unset, .unset] [(.int (1 : Int32))])) _
        refine XS.goto X215.here hx rfl (pc0 := 127) (pc' := 131) rfl (hb hby at_127) (by decide) (by decide) ?_
        exact k)
      have q_z131_s0 : z131_s0 = (1 : Int32) := by rw [hz131_s0, if_neg hc123]
      refine ⟨_, _, X215, e215, N215, fun t k => ?_⟩
      rw [q_z131_s0] at k
      exact pre218 t k
  obtain ⟨v137, hv137⟩ : ∃ z : Int32, z = (v43 - (1 : Int32)) := ⟨_, rfl⟩
  have pre220 : ∀ t, Steps p.tables e below (T219.setTop (mkF m 139 #[.val (.int p1), .val (.int p2), .val (.int p3), .val (.int p4), .val (.int p5), .val (.int p6), .val (.int v5), .val (.int v12), .val (.int v19), .val (.int v26), .val (.int v34), .val (.int v43), .val (.int v52), .val (.ref b199), .val (.ref b206), .val (.int z103_s0), .val (.int z117_s0), .val (.int z131_s0), .val (.int v137), .unset, .unset, .unset, .unset, .unset, .unset, .unset, .unset, .unset, .unset, .unset] [])) t → Steps p.tables e below (s₁.setTop (entryFrame m #[(.int p1), (.int p2), (.int p3), (.int p4), (.int p5), (.int p6)] maxLocals)) t := fun t k => pre219 t (by
    show Steps p.tables e below (T219.setTop (mkF m 131 #[.val (.int p1), .val (.int p2), .val (.int p3), .val (.int p4), .val (.int p5), .val (.int p6), .val (.int v5), .val (.int v12), .val (.int v19), .val (.int v26), .val (.int v34), .val (.int v43), .val (.int v52), .val (.ref b199), .val (.ref b206), .val (.int z103_s0), .val (.int z117_s0), .unset, .unset, .unset, .unset, .unset, .unset, .unset, .unset, .unset, .unset, .unset, .unset, .unset] [(.int z131_s0)])) _
    refine XS.istore X219.here hx rfl (hb hby at_131) rfl (l' := #[.val (.int p1), .val (.int p2), .val (.int p3), .val (.int p4), .val (.int p5), .val (.int p6), .val (.int v5), .val (.int v12), .val (.int v19), .val (.int v26), .val (.int v34), .val (.int v43), .val (.int v52), .val (.ref b199), .val (.ref b206), .val (.int z103_s0), .val (.int z117_s0), .val (.int z131_s0), .unset, .unset, .unset, .unset, .unset, .unset, .unset, .unset, .unset, .unset, .unset, .unset]) rfl ?_
    show Steps p.tables e below (T219.setTop (mkF m 133 #[.val (.int p1), .val (.int p2), .val (.int p3), .val (.int p4), .val (.int p5), .val (.int p6), .val (.int v5), .val (.int v12), .val (.int v19), .val (.int v26), .val (.int v34), .val (.int v43), .val (.int v52), .val (.ref b199), .val (.ref b206), .val (.int z103_s0), .val (.int z117_s0), .val (.int z131_s0), .unset, .unset, .unset, .unset, .unset, .unset, .unset, .unset, .unset, .unset, .unset, .unset] [])) _
    refine XS.iload X219.here hx rfl (hb hby at_133) rfl ?_
    show Steps p.tables e below (T219.setTop (mkF m 135 #[.val (.int p1), .val (.int p2), .val (.int p3), .val (.int p4), .val (.int p5), .val (.int p6), .val (.int v5), .val (.int v12), .val (.int v19), .val (.int v26), .val (.int v34), .val (.int v43), .val (.int v52), .val (.ref b199), .val (.ref b206), .val (.int z103_s0), .val (.int z117_s0), .val (.int z131_s0), .unset, .unset, .unset, .unset, .unset, .unset, .unset, .unset, .unset, .unset, .unset, .unset] [(.int v43)])) _
    refine XS.iconst X219.here hx rfl (hb hby at_135) ?_
    show Steps p.tables e below (T219.setTop (mkF m 136 #[.val (.int p1), .val (.int p2), .val (.int p3), .val (.int p4), .val (.int p5), .val (.int p6), .val (.int v5), .val (.int v12), .val (.int v19), .val (.int v26), .val (.int v34), .val (.int v43), .val (.int v52), .val (.ref b199), .val (.ref b206), .val (.int z103_s0), .val (.int z117_s0), .val (.int z131_s0), .unset, .unset, .unset, .unset, .unset, .unset, .unset, .unset, .unset, .unset, .unset, .unset] [(.int (1 : Int32)), (.int v43)])) _
    refine XS.isub X219.here hx rfl (hb hby at_136) rfl ?_
    show Steps p.tables e below (T219.setTop (mkF m 137 #[.val (.int p1), .val (.int p2), .val (.int p3), .val (.int p4), .val (.int p5), .val (.int p6), .val (.int v5), .val (.int v12), .val (.int v19), .val (.int v26), .val (.int v34), .val (.int v43), .val (.int v52), .val (.ref b199), .val (.ref b206), .val (.int z103_s0), .val (.int z117_s0), .val (.int z131_s0), .unset, .unset, .unset, .unset, .unset, .unset, .unset, .unset, .unset, .unset, .unset, .unset] [(.int (v43 - (1 : Int32)))])) _
    refine XS.istore X219.here hx rfl (hb hby at_137) rfl (l' := #[.val (.int p1), .val (.int p2), .val (.int p3), .val (.int p4), .val (.int p5), .val (.int p6), .val (.int v5), .val (.int v12), .val (.int v19), .val (.int v26), .val (.int v34), .val (.int v43), .val (.int v52), .val (.ref b199), .val (.ref b206), .val (.int z103_s0), .val (.int z117_s0), .val (.int z131_s0), .val (.int (v43 - (1 : Int32))), .unset, .unset, .unset, .unset, .unset, .unset, .unset, .unset, .unset, .unset, .unset]) rfl ?_
    rw [hv137] at k
    exact k)
  obtain ⟨v143, hv143⟩ : ∃ z : Int32, z = (v52 + (1 : Int32)) := ⟨_, rfl⟩
  have pre221 : ∀ t, Steps p.tables e below (T219.setTop (mkF m 145 #[.val (.int p1), .val (.int p2), .val (.int p3), .val (.int p4), .val (.int p5), .val (.int p6), .val (.int v5), .val (.int v12), .val (.int v19), .val (.int v26), .val (.int v34), .val (.int v43), .val (.int v52), .val (.ref b199), .val (.ref b206), .val (.int z103_s0), .val (.int z117_s0), .val (.int z131_s0), .val (.int v137), .val (.int v143), .unset, .unset, .unset, .unset, .unset, .unset, .unset, .unset, .unset, .unset] [])) t → Steps p.tables e below (s₁.setTop (entryFrame m #[(.int p1), (.int p2), (.int p3), (.int p4), (.int p5), (.int p6)] maxLocals)) t := fun t k => pre220 t (by
    show Steps p.tables e below (T219.setTop (mkF m 139 #[.val (.int p1), .val (.int p2), .val (.int p3), .val (.int p4), .val (.int p5), .val (.int p6), .val (.int v5), .val (.int v12), .val (.int v19), .val (.int v26), .val (.int v34), .val (.int v43), .val (.int v52), .val (.ref b199), .val (.ref b206), .val (.int z103_s0), .val (.int z117_s0), .val (.int z131_s0), .val (.int v137), .unset, .unset, .unset, .unset, .unset, .unset, .unset, .unset, .unset, .unset, .unset] [])) _
    refine XS.iload X219.here hx rfl (hb hby at_139) rfl ?_
    show Steps p.tables e below (T219.setTop (mkF m 141 #[.val (.int p1), .val (.int p2), .val (.int p3), .val (.int p4), .val (.int p5), .val (.int p6), .val (.int v5), .val (.int v12), .val (.int v19), .val (.int v26), .val (.int v34), .val (.int v43), .val (.int v52), .val (.ref b199), .val (.ref b206), .val (.int z103_s0), .val (.int z117_s0), .val (.int z131_s0), .val (.int v137), .unset, .unset, .unset, .unset, .unset, .unset, .unset, .unset, .unset, .unset, .unset] [(.int v52)])) _
    refine XS.iconst X219.here hx rfl (hb hby at_141) ?_
    show Steps p.tables e below (T219.setTop (mkF m 142 #[.val (.int p1), .val (.int p2), .val (.int p3), .val (.int p4), .val (.int p5), .val (.int p6), .val (.int v5), .val (.int v12), .val (.int v19), .val (.int v26), .val (.int v34), .val (.int v43), .val (.int v52), .val (.ref b199), .val (.ref b206), .val (.int z103_s0), .val (.int z117_s0), .val (.int z131_s0), .val (.int v137), .unset, .unset, .unset, .unset, .unset, .unset, .unset, .unset, .unset, .unset, .unset] [(.int (1 : Int32)), (.int v52)])) _
    refine XS.iadd X219.here hx rfl (hb hby at_142) rfl ?_
    show Steps p.tables e below (T219.setTop (mkF m 143 #[.val (.int p1), .val (.int p2), .val (.int p3), .val (.int p4), .val (.int p5), .val (.int p6), .val (.int v5), .val (.int v12), .val (.int v19), .val (.int v26), .val (.int v34), .val (.int v43), .val (.int v52), .val (.ref b199), .val (.ref b206), .val (.int z103_s0), .val (.int z117_s0), .val (.int z131_s0), .val (.int v137), .unset, .unset, .unset, .unset, .unset, .unset, .unset, .unset, .unset, .unset, .unset] [(.int (v52 + (1 : Int32)))])) _
    refine XS.istore X219.here hx rfl (hb hby at_143) rfl (l' := #[.val (.int p1), .val (.int p2), .val (.int p3), .val (.int p4), .val (.int p5), .val (.int p6), .val (.int v5), .val (.int v12), .val (.int v19), .val (.int v26), .val (.int v34), .val (.int v43), .val (.int v52), .val (.ref b199), .val (.ref b206), .val (.int z103_s0), .val (.int z117_s0), .val (.int z131_s0), .val (.int v137), .val (.int (v52 + (1 : Int32))), .unset, .unset, .unset, .unset, .unset, .unset, .unset, .unset, .unset, .unset]) rfl ?_
    rw [hv143] at k
    exact k)
  obtain ⟨v149, hv149⟩ : ∃ z : Int32, z = (v43 + (2 : Int32)) := ⟨_, rfl⟩
  have pre222 : ∀ t, Steps p.tables e below (T219.setTop (mkF m 151 #[.val (.int p1), .val (.int p2), .val (.int p3), .val (.int p4), .val (.int p5), .val (.int p6), .val (.int v5), .val (.int v12), .val (.int v19), .val (.int v26), .val (.int v34), .val (.int v43), .val (.int v52), .val (.ref b199), .val (.ref b206), .val (.int z103_s0), .val (.int z117_s0), .val (.int z131_s0), .val (.int v137), .val (.int v143), .val (.int v149), .unset, .unset, .unset, .unset, .unset, .unset, .unset, .unset, .unset] [])) t → Steps p.tables e below (s₁.setTop (entryFrame m #[(.int p1), (.int p2), (.int p3), (.int p4), (.int p5), (.int p6)] maxLocals)) t := fun t k => pre221 t (by
    show Steps p.tables e below (T219.setTop (mkF m 145 #[.val (.int p1), .val (.int p2), .val (.int p3), .val (.int p4), .val (.int p5), .val (.int p6), .val (.int v5), .val (.int v12), .val (.int v19), .val (.int v26), .val (.int v34), .val (.int v43), .val (.int v52), .val (.ref b199), .val (.ref b206), .val (.int z103_s0), .val (.int z117_s0), .val (.int z131_s0), .val (.int v137), .val (.int v143), .unset, .unset, .unset, .unset, .unset, .unset, .unset, .unset, .unset, .unset] [])) _
    refine XS.iload X219.here hx rfl (hb hby at_145) rfl ?_
    show Steps p.tables e below (T219.setTop (mkF m 147 #[.val (.int p1), .val (.int p2), .val (.int p3), .val (.int p4), .val (.int p5), .val (.int p6), .val (.int v5), .val (.int v12), .val (.int v19), .val (.int v26), .val (.int v34), .val (.int v43), .val (.int v52), .val (.ref b199), .val (.ref b206), .val (.int z103_s0), .val (.int z117_s0), .val (.int z131_s0), .val (.int v137), .val (.int v143), .unset, .unset, .unset, .unset, .unset, .unset, .unset, .unset, .unset, .unset] [(.int v43)])) _
    refine XS.iconst X219.here hx rfl (hb hby at_147) ?_
    show Steps p.tables e below (T219.setTop (mkF m 148 #[.val (.int p1), .val (.int p2), .val (.int p3), .val (.int p4), .val (.int p5), .val (.int p6), .val (.int v5), .val (.int v12), .val (.int v19), .val (.int v26), .val (.int v34), .val (.int v43), .val (.int v52), .val (.ref b199), .val (.ref b206), .val (.int z103_s0), .val (.int z117_s0), .val (.int z131_s0), .val (.int v137), .val (.int v143), .unset, .unset, .unset, .unset, .unset, .unset, .unset, .unset, .unset, .unset] [(.int (2 : Int32)), (.int v43)])) _
    refine XS.iadd X219.here hx rfl (hb hby at_148) rfl ?_
    show Steps p.tables e below (T219.setTop (mkF m 149 #[.val (.int p1), .val (.int p2), .val (.int p3), .val (.int p4), .val (.int p5), .val (.int p6), .val (.int v5), .val (.int v12), .val (.int v19), .val (.int v26), .val (.int v34), .val (.int v43), .val (.int v52), .val (.ref b199), .val (.ref b206), .val (.int z103_s0), .val (.int z117_s0), .val (.int z131_s0), .val (.int v137), .val (.int v143), .unset, .unset, .unset, .unset, .unset, .unset, .unset, .unset, .unset, .unset] [(.int (v43 + (2 : Int32)))])) _
    refine XS.istore X219.here hx rfl (hb hby at_149) rfl (l' := #[.val (.int p1), .val (.int p2), .val (.int p3), .val (.int p4), .val (.int p5), .val (.int p6), .val (.int v5), .val (.int v12), .val (.int v19), .val (.int v26), .val (.int v34), .val (.int v43), .val (.int v52), .val (.ref b199), .val (.ref b206), .val (.int z103_s0), .val (.int z117_s0), .val (.int z131_s0), .val (.int v137), .val (.int v143), .val (.int (v43 + (2 : Int32))), .unset, .unset, .unset, .unset, .unset, .unset, .unset, .unset, .unset]) rfl ?_
    rw [hv149] at k
    exact k)
  obtain ⟨v155, hv155⟩ : ∃ z : Int32, z = (v52 + (3 : Int32)) := ⟨_, rfl⟩
  have pre223 : ∀ t, Steps p.tables e below (T219.setTop (mkF m 157 #[.val (.int p1), .val (.int p2), .val (.int p3), .val (.int p4), .val (.int p5), .val (.int p6), .val (.int v5), .val (.int v12), .val (.int v19), .val (.int v26), .val (.int v34), .val (.int v43), .val (.int v52), .val (.ref b199), .val (.ref b206), .val (.int z103_s0), .val (.int z117_s0), .val (.int z131_s0), .val (.int v137), .val (.int v143), .val (.int v149), .val (.int v155), .unset, .unset, .unset, .unset, .unset, .unset, .unset, .unset] [])) t → Steps p.tables e below (s₁.setTop (entryFrame m #[(.int p1), (.int p2), (.int p3), (.int p4), (.int p5), (.int p6)] maxLocals)) t := fun t k => pre222 t (by
    show Steps p.tables e below (T219.setTop (mkF m 151 #[.val (.int p1), .val (.int p2), .val (.int p3), .val (.int p4), .val (.int p5), .val (.int p6), .val (.int v5), .val (.int v12), .val (.int v19), .val (.int v26), .val (.int v34), .val (.int v43), .val (.int v52), .val (.ref b199), .val (.ref b206), .val (.int z103_s0), .val (.int z117_s0), .val (.int z131_s0), .val (.int v137), .val (.int v143), .val (.int v149), .unset, .unset, .unset, .unset, .unset, .unset, .unset, .unset, .unset] [])) _
    refine XS.iload X219.here hx rfl (hb hby at_151) rfl ?_
    show Steps p.tables e below (T219.setTop (mkF m 153 #[.val (.int p1), .val (.int p2), .val (.int p3), .val (.int p4), .val (.int p5), .val (.int p6), .val (.int v5), .val (.int v12), .val (.int v19), .val (.int v26), .val (.int v34), .val (.int v43), .val (.int v52), .val (.ref b199), .val (.ref b206), .val (.int z103_s0), .val (.int z117_s0), .val (.int z131_s0), .val (.int v137), .val (.int v143), .val (.int v149), .unset, .unset, .unset, .unset, .unset, .unset, .unset, .unset, .unset] [(.int v52)])) _
    refine XS.iconst X219.here hx rfl (hb hby at_153) ?_
    show Steps p.tables e below (T219.setTop (mkF m 154 #[.val (.int p1), .val (.int p2), .val (.int p3), .val (.int p4), .val (.int p5), .val (.int p6), .val (.int v5), .val (.int v12), .val (.int v19), .val (.int v26), .val (.int v34), .val (.int v43), .val (.int v52), .val (.ref b199), .val (.ref b206), .val (.int z103_s0), .val (.int z117_s0), .val (.int z131_s0), .val (.int v137), .val (.int v143), .val (.int v149), .unset, .unset, .unset, .unset, .unset, .unset, .unset, .unset, .unset] [(.int (3 : Int32)), (.int v52)])) _
    refine XS.iadd X219.here hx rfl (hb hby at_154) rfl ?_
    show Steps p.tables e below (T219.setTop (mkF m 155 #[.val (.int p1), .val (.int p2), .val (.int p3), .val (.int p4), .val (.int p5), .val (.int p6), .val (.int v5), .val (.int v12), .val (.int v19), .val (.int v26), .val (.int v34), .val (.int v43), .val (.int v52), .val (.ref b199), .val (.ref b206), .val (.int z103_s0), .val (.int z117_s0), .val (.int z131_s0), .val (.int v137), .val (.int v143), .val (.int v149), .unset, .unset, .unset, .unset, .unset, .unset, .unset, .unset, .unset] [(.int (v52 + (3 : Int32)))])) _
    refine XS.istore X219.here hx rfl (hb hby at_155) rfl (l' := #[.val (.int p1), .val (.int p2), .val (.int p3), .val (.int p4), .val (.int p5), .val (.int p6), .val (.int v5), .val (.int v12), .val (.int v19), .val (.int v26), .val (.int v34), .val (.int v43), .val (.int v52), .val (.ref b199), .val (.ref b206), .val (.int z103_s0), .val (.int z117_s0), .val (.int z131_s0), .val (.int v137), .val (.int v143), .val (.int v149), .val (.int (v52 + (3 : Int32))), .unset, .unset, .unset, .unset, .unset, .unset, .unset, .unset]) rfl ?_
    rw [hv155] at k
    exact k)
  have sc0 := own_c hv5
  have sc1 := own_c hv12
  have sc2 := own_c hv19
  have sl := own_lo hv26 hv34 hv43
  have sh := own_hi hv26 hv34 hv52
  have s1 := own_m1 sl hv137
  have s2 := own_pk (n := 1) (by decide) (by decide) sh hv143
  have s3 := own_pk (n := 2) (by decide) (by decide) sl hv149
  have s4 := own_pk (n := 3) (by decide) (by decide) sh hv155
  have hR0 := own_R3 (own_sm sc0) (own_sm sc1) (own_sm sc2)
  have pre224 : ∀ t, Steps p.tables e below (T219.setTop (mkF m 159 #[.val (.int p1), .val (.int p2), .val (.int p3), .val (.int p4), .val (.int p5), .val (.int p6), .val (.int v5), .val (.int v12), .val (.int v19), .val (.int v26), .val (.int v34), .val (.int v43), .val (.int v52), .val (.ref b199), .val (.ref b206), .val (.int z103_s0), .val (.int z117_s0), .val (.int z131_s0), .val (.int v137), .val (.int v143), .val (.int v149), .val (.int v155), .unset, .unset, .unset, .unset, .unset, .unset, .unset, .unset] [(.int z103_s0)])) t → Steps p.tables e below (s₁.setTop (entryFrame m #[(.int p1), (.int p2), (.int p3), (.int p4), (.int p5), (.int p6)] maxLocals)) t := fun t k => pre223 t (by
    show Steps p.tables e below (T219.setTop (mkF m 157 #[.val (.int p1), .val (.int p2), .val (.int p3), .val (.int p4), .val (.int p5), .val (.int p6), .val (.int v5), .val (.int v12), .val (.int v19), .val (.int v26), .val (.int v34), .val (.int v43), .val (.int v52), .val (.ref b199), .val (.ref b206), .val (.int z103_s0), .val (.int z117_s0), .val (.int z131_s0), .val (.int v137), .val (.int v143), .val (.int v149), .val (.int v155), .unset, .unset, .unset, .unset, .unset, .unset, .unset, .unset] [])) _
    refine XS.iload X219.here hx rfl (hb hby at_157) rfl ?_
    exact k)
  obtain ⟨z174_A_lo_207, hz174_A_lo_207⟩ : ∃ z : Nat → Int64, z = (if z103_s0 = (0 : Int32) then (fun _ => 0) else (upd (fun _ => 0) (0 : Int32).toNatClampNeg v43.toInt64)) := ⟨_, rfl⟩
  obtain ⟨z174_A_up_207, hz174_A_up_207⟩ : ∃ z : Nat → Int64, z = (if z103_s0 = (0 : Int32) then (upd (upd (upd (fun _ => 0) (0 : Int32).toNatClampNeg (1 : Int64)) (1 : Int32).toNatClampNeg (1 : Int64)) (2 : Int32).toNatClampNeg (1 : Int64)) else (upd (upd (upd (upd (fun _ => 0) (0 : Int32).toNatClampNeg (1 : Int64)) (1 : Int32).toNatClampNeg (1 : Int64)) (2 : Int32).toNatClampNeg (1 : Int64)) (0 : Int32).toNatClampNeg v52.toInt64)) := ⟨_, rfl⟩
  obtain ⟨z174_A_va_207, hz174_A_va_207⟩ : ∃ z : Nat → Int64, z = (if z103_s0 = (0 : Int32) then (upd (upd (upd (fun _ => 0) (0 : Int32).toNatClampNeg (if (0 : Int64) < ((upd (upd (upd (fun _ => 0) (0 : Int32).toNatClampNeg v5.toInt64) (1 : Int32).toNatClampNeg v12.toInt64) (2 : Int32).toNatClampNeg v19.toInt64) (0 : Int32).toNatClampNeg) then (1 : Int64) else (0 : Int64))) (1 : Int32).toNatClampNeg (if (0 : Int64) < ((upd (upd (upd (fun _ => 0) (0 : Int32).toNatClampNeg v5.toInt64) (1 : Int32).toNatClampNeg v12.toInt64) (2 : Int32).toNatClampNeg v19.toInt64) (1 : Int32).toNatClampNeg) then (1 : Int64) else (0 : Int64))) (2 : Int32).toNatClampNeg (if (0 : Int64) < ((upd (upd (upd (fun _ => 0) (0 : Int32).toNatClampNeg v5.toInt64) (1 : Int32).toNatClampNeg v12.toInt64) (2 : Int32).toNatClampNeg v19.toInt64) (2 : Int32).toNatClampNeg) then (1 : Int64) else (0 : Int64))) else (upd (upd (upd (upd (fun _ => 0) (0 : Int32).toNatClampNeg (if (0 : Int64) < ((upd (upd (upd (fun _ => 0) (0 : Int32).toNatClampNeg v5.toInt64) (1 : Int32).toNatClampNeg v12.toInt64) (2 : Int32).toNatClampNeg v19.toInt64) (0 : Int32).toNatClampNeg) then (1 : Int64) else (0 : Int64))) (1 : Int32).toNatClampNeg (if (0 : Int64) < ((upd (upd (upd (fun _ => 0) (0 : Int32).toNatClampNeg v5.toInt64) (1 : Int32).toNatClampNeg v12.toInt64) (2 : Int32).toNatClampNeg v19.toInt64) (1 : Int32).toNatClampNeg) then (1 : Int64) else (0 : Int64))) (2 : Int32).toNatClampNeg (if (0 : Int64) < ((upd (upd (upd (fun _ => 0) (0 : Int32).toNatClampNeg v5.toInt64) (1 : Int32).toNatClampNeg v12.toInt64) (2 : Int32).toNatClampNeg v19.toInt64) (2 : Int32).toNatClampNeg) then (1 : Int64) else (0 : Int64))) (0 : Int32).toNatClampNeg (if (own_z ((upd (upd (upd (fun _ => 0) (0 : Int32).toNatClampNeg ((upd (upd (upd (fun _ => 0) (0 : Int32).toNatClampNeg v5.toInt64) (1 : Int32).toNatClampNeg v12.toInt64) (2 : Int32).toNatClampNeg v19.toInt64) (0 : Int32).toNatClampNeg)) (1 : Int32).toNatClampNeg ((upd (upd (upd (fun _ => 0) (0 : Int32).toNatClampNeg v5.toInt64) (1 : Int32).toNatClampNeg v12.toInt64) (2 : Int32).toNatClampNeg v19.toInt64) (1 : Int32).toNatClampNeg)) (2 : Int32).toNatClampNeg ((upd (upd (upd (fun _ => 0) (0 : Int32).toNatClampNeg v5.toInt64) (1 : Int32).toNatClampNeg v12.toInt64) (2 : Int32).toNatClampNeg v19.toInt64) (2 : Int32).toNatClampNeg)) (0 : Int32).toNatClampNeg) ((upd (upd (upd (fun _ => 0) (0 : Int32).toNatClampNeg (if (0 : Int64) < ((upd (upd (upd (fun _ => 0) (0 : Int32).toNatClampNeg v5.toInt64) (1 : Int32).toNatClampNeg v12.toInt64) (2 : Int32).toNatClampNeg v19.toInt64) (0 : Int32).toNatClampNeg) then (2 : Int32) else (1 : Int32))) (1 : Int32).toNatClampNeg (if (0 : Int64) < ((upd (upd (upd (fun _ => 0) (0 : Int32).toNatClampNeg v5.toInt64) (1 : Int32).toNatClampNeg v12.toInt64) (2 : Int32).toNatClampNeg v19.toInt64) (1 : Int32).toNatClampNeg) then (2 : Int32) else (1 : Int32))) (2 : Int32).toNatClampNeg (if (0 : Int64) < ((upd (upd (upd (fun _ => 0) (0 : Int32).toNatClampNeg v5.toInt64) (1 : Int32).toNatClampNeg v12.toInt64) (2 : Int32).toNatClampNeg v19.toInt64) (2 : Int32).toNatClampNeg) then (2 : Int32) else (1 : Int32))) (0 : Int32).toNatClampNeg)) = (0 : Int32) then v43.toInt64 else v52.toInt64))) := ⟨_, rfl⟩
  obtain ⟨z174_A_sa_207, hz174_A_sa_207⟩ : ∃ z : Nat → Int32, z = (if z103_s0 = (0 : Int32) then (upd (upd (upd (fun _ => 0) (0 : Int32).toNatClampNeg (if (0 : Int64) < ((upd (upd (upd (fun _ => 0) (0 : Int32).toNatClampNeg v5.toInt64) (1 : Int32).toNatClampNeg v12.toInt64) (2 : Int32).toNatClampNeg v19.toInt64) (0 : Int32).toNatClampNeg) then (2 : Int32) else (1 : Int32))) (1 : Int32).toNatClampNeg (if (0 : Int64) < ((upd (upd (upd (fun _ => 0) (0 : Int32).toNatClampNeg v5.toInt64) (1 : Int32).toNatClampNeg v12.toInt64) (2 : Int32).toNatClampNeg v19.toInt64) (1 : Int32).toNatClampNeg) then (2 : Int32) else (1 : Int32))) (2 : Int32).toNatClampNeg (if (0 : Int64) < ((upd (upd (upd (fun _ => 0) (0 : Int32).toNatClampNeg v5.toInt64) (1 : Int32).toNatClampNeg v12.toInt64) (2 : Int32).toNatClampNeg v19.toInt64) (2 : Int32).toNatClampNeg) then (2 : Int32) else (1 : Int32))) else (upd (upd (upd (upd (fun _ => 0) (0 : Int32).toNatClampNeg (if (0 : Int64) < ((upd (upd (upd (fun _ => 0) (0 : Int32).toNatClampNeg v5.toInt64) (1 : Int32).toNatClampNeg v12.toInt64) (2 : Int32).toNatClampNeg v19.toInt64) (0 : Int32).toNatClampNeg) then (2 : Int32) else (1 : Int32))) (1 : Int32).toNatClampNeg (if (0 : Int64) < ((upd (upd (upd (fun _ => 0) (0 : Int32).toNatClampNeg v5.toInt64) (1 : Int32).toNatClampNeg v12.toInt64) (2 : Int32).toNatClampNeg v19.toInt64) (1 : Int32).toNatClampNeg) then (2 : Int32) else (1 : Int32))) (2 : Int32).toNatClampNeg (if (0 : Int64) < ((upd (upd (upd (fun _ => 0) (0 : Int32).toNatClampNeg v5.toInt64) (1 : Int32).toNatClampNeg v12.toInt64) (2 : Int32).toNatClampNeg v19.toInt64) (2 : Int32).toNatClampNeg) then (2 : Int32) else (1 : Int32))) (0 : Int32).toNatClampNeg (if (own_z ((upd (upd (upd (fun _ => 0) (0 : Int32).toNatClampNeg ((upd (upd (upd (fun _ => 0) (0 : Int32).toNatClampNeg v5.toInt64) (1 : Int32).toNatClampNeg v12.toInt64) (2 : Int32).toNatClampNeg v19.toInt64) (0 : Int32).toNatClampNeg)) (1 : Int32).toNatClampNeg ((upd (upd (upd (fun _ => 0) (0 : Int32).toNatClampNeg v5.toInt64) (1 : Int32).toNatClampNeg v12.toInt64) (2 : Int32).toNatClampNeg v19.toInt64) (1 : Int32).toNatClampNeg)) (2 : Int32).toNatClampNeg ((upd (upd (upd (fun _ => 0) (0 : Int32).toNatClampNeg v5.toInt64) (1 : Int32).toNatClampNeg v12.toInt64) (2 : Int32).toNatClampNeg v19.toInt64) (2 : Int32).toNatClampNeg)) (0 : Int32).toNatClampNeg) ((upd (upd (upd (fun _ => 0) (0 : Int32).toNatClampNeg (if (0 : Int64) < ((upd (upd (upd (fun _ => 0) (0 : Int32).toNatClampNeg v5.toInt64) (1 : Int32).toNatClampNeg v12.toInt64) (2 : Int32).toNatClampNeg v19.toInt64) (0 : Int32).toNatClampNeg) then (2 : Int32) else (1 : Int32))) (1 : Int32).toNatClampNeg (if (0 : Int64) < ((upd (upd (upd (fun _ => 0) (0 : Int32).toNatClampNeg v5.toInt64) (1 : Int32).toNatClampNeg v12.toInt64) (2 : Int32).toNatClampNeg v19.toInt64) (1 : Int32).toNatClampNeg) then (2 : Int32) else (1 : Int32))) (2 : Int32).toNatClampNeg (if (0 : Int64) < ((upd (upd (upd (fun _ => 0) (0 : Int32).toNatClampNeg v5.toInt64) (1 : Int32).toNatClampNeg v12.toInt64) (2 : Int32).toNatClampNeg v19.toInt64) (2 : Int32).toNatClampNeg) then (2 : Int32) else (1 : Int32))) (0 : Int32).toNatClampNeg)) = (0 : Int32) then (1 : Int32) else (2 : Int32)))) := ⟨_, rfl⟩
  obtain ⟨T228, Lc228, h228, X228, e228, N228, Zs, Ol, E_b199, A_b199, E_b206, F_rows_b206, F_columns_b206, F_cost_b206, F_lower_b206, F_upper_b206, F_value_b206, F_status_b206, F_reduced_b206, E_rl_207, F_size_rl_207, A_co_207, A_lo_207, A_up_207, A_va_207, A_sa_207, A_re_207, pre228⟩ : ∃ (T' : State) (locs' : List Loc) (h' : Heap), Stand p l e room_1 s m #[(.int p1), (.int p2), (.int p3), (.int p4), (.int p5), (.int p6)] below meth c T' locs' 13 42 ∧ T'.heap = h' ∧ Fr n0 locs' ∧ (n0 ≤ h'.size) ∧ (Old Z n0 h') ∧ (Exa Z h' b199 "[D") ∧ (ArD Z h' b199 (3 : Int32) (upd (upd (upd (fun _ => 0) (0 : Int32).toNatClampNeg v5.toInt64) (1 : Int32).toNatClampNeg v12.toInt64) (2 : Int32).toNatClampNeg v19.toInt64)) ∧ (Exa Z h' b206 "com/example/regolo/regolo/engine/Relaxation") ∧ (Fld Z h' b206 "com/example/regolo/regolo/engine/Relaxation" "rows" "Ljava/util/List;" (.ref rl_207)) ∧ (Fld Z h' b206 "com/example/regolo/regolo/engine/Relaxation" "columns" "I" (.int (3 : Int32))) ∧ (Fld Z h' b206 "com/example/regolo/regolo/engine/Relaxation" "cost" "[D" (.ref co_207)) ∧ (Fld Z h' b206 "com/example/regolo/regolo/engine/Relaxation" "lower" "[D" (.ref lo_207)) ∧ (Fld Z h' b206 "com/example/regolo/regolo/engine/Relaxation" "upper" "[D" (.ref up_207)) ∧ (Fld Z h' b206 "com/example/regolo/regolo/engine/Relaxation" "value" "[D" (.ref va_207)) ∧ (Fld Z h' b206 "com/example/regolo/regolo/engine/Relaxation" "status" "[I" (.ref sa_207)) ∧ (Fld Z h' b206 "com/example/regolo/regolo/engine/Relaxation" "reduced" "[D" (.ref re_207)) ∧ (Exa Z h' rl_207 "java/util/ArrayList") ∧ (Fld Z h' rl_207 "java/util/ArrayList" "size" "I" (.int (0 : Int32))) ∧ (ArD Z h' co_207 (3 : Int32) (upd (upd (upd (fun _ => 0) (0 : Int32).toNatClampNeg v5.toInt64) (1 : Int32).toNatClampNeg v12.toInt64) (2 : Int32).toNatClampNeg v19.toInt64)) ∧ (ArD Z h' lo_207 (3 : Int32) z174_A_lo_207) ∧ (ArD Z h' up_207 (3 : Int32) z174_A_up_207) ∧ (ArD Z h' va_207 (3 : Int32) z174_A_va_207) ∧ (ArI Z h' sa_207 (3 : Int32) z174_A_sa_207) ∧ (ArD Z h' re_207 (3 : Int32) (upd (upd (upd (fun _ => 0) (0 : Int32).toNatClampNeg ((upd (upd (upd (fun _ => 0) (0 : Int32).toNatClampNeg v5.toInt64) (1 : Int32).toNatClampNeg v12.toInt64) (2 : Int32).toNatClampNeg v19.toInt64) (0 : Int32).toNatClampNeg)) (1 : Int32).toNatClampNeg ((upd (upd (upd (fun _ => 0) (0 : Int32).toNatClampNeg v5.toInt64) (1 : Int32).toNatClampNeg v12.toInt64) (2 : Int32).toNatClampNeg v19.toInt64) (1 : Int32).toNatClampNeg)) (2 : Int32).toNatClampNeg ((upd (upd (upd (fun _ => 0) (0 : Int32).toNatClampNeg v5.toInt64) (1 : Int32).toNatClampNeg v12.toInt64) (2 : Int32).toNatClampNeg v19.toInt64) (2 : Int32).toNatClampNeg))) ∧ ∀ t, Steps p.tables e below (T'.setTop (mkF m 174 #[.val (.int p1), .val (.int p2), .val (.int p3), .val (.int p4), .val (.int p5), .val (.int p6), .val (.int v5), .val (.int v12), .val (.int v19), .val (.int v26), .val (.int v34), .val (.int v43), .val (.int v52), .val (.ref b199), .val (.ref b206), .val (.int z103_s0), .val (.int z117_s0), .val (.int z131_s0), .val (.int v137), .val (.int v143), .val (.int v149), .val (.int v155), .unset, .unset, .unset, .unset, .unset, .unset, .unset, .unset] [])) t → Steps p.tables e below (s₁.setTop (entryFrame m #[(.int p1), (.int p2), (.int p3), (.int p4), (.int p5), (.int p6)] maxLocals)) t := by
    by_cases hc159 : z103_s0 = (0 : Int32)
    ·
      have pre225 : ∀ t, Steps p.tables e below (T219.setTop (mkF m 174 #[.val (.int p1), .val (.int p2), .val (.int p3), .val (.int p4), .val (.int p5), .val (.int p6), .val (.int v5), .val (.int v12), .val (.int v19), .val (.int v26), .val (.int v34), .val (.int v43), .val (.int v52), .val (.ref b199), .val (.ref b206), .val (.int z103_s0), .val (.int z117_s0), .val (.int z131_s0), .val (.int v137), .val (.int v143), .val (.int v149), .val (.int v155), .unset, .unset, .unset, .unset, .unset, .unset, .unset, .unset] [])) t → Steps p.tables e below (s₁.setTop (entryFrame m #[(.int p1), (.int p2), (.int p3), (.int p4), (.int p5), (.int p6)] maxLocals)) t := fun t k => pre224 t (by
        show Steps p.tables e below (T219.setTop (mkF m 159 #[.val (.int p1), .val (.int p2), .val (.int p3), .val (.int p4), .val (.int p5), .val (.int p6), .val (.int v5), .val (.int v12), .val (.int v19), .val (.int v26), .val (.int v34), .val (.int v43), .val (.int v52), .val (.ref b199), .val (.ref b206), .val (.int z103_s0), .val (.int z117_s0), .val (.int z131_s0), .val (.int v137), .val (.int v143), .val (.int v149), .val (.int v155), .unset, .unset, .unset, .unset, .unset, .unset, .unset, .unset] [(.int z103_s0)])) _
        refine XS.ifYes X219.here hx rfl (pc0 := 159) (pc' := 174) rfl (hb hby at_159) rfl ((if0 _ _).trans (teq hc159).1) (by decide) (by decide) ?_
        exact k)
      have q_z174_A_lo_207 : z174_A_lo_207 = (fun _ => 0) := by rw [hz174_A_lo_207, if_pos hc159]
      have q_z174_A_up_207 : z174_A_up_207 = (upd (upd (upd (fun _ => 0) (0 : Int32).toNatClampNeg (1 : Int64)) (1 : Int32).toNatClampNeg (1 : Int64)) (2 : Int32).toNatClampNeg (1 : Int64)) := by rw [hz174_A_up_207, if_pos hc159]
      have q_z174_A_va_207 : z174_A_va_207 = (upd (upd (upd (fun _ => 0) (0 : Int32).toNatClampNeg (if (0 : Int64) < ((upd (upd (upd (fun _ => 0) (0 : Int32).toNatClampNeg v5.toInt64) (1 : Int32).toNatClampNeg v12.toInt64) (2 : Int32).toNatClampNeg v19.toInt64) (0 : Int32).toNatClampNeg) then (1 : Int64) else (0 : Int64))) (1 : Int32).toNatClampNeg (if (0 : Int64) < ((upd (upd (upd (fun _ => 0) (0 : Int32).toNatClampNeg v5.toInt64) (1 : Int32).toNatClampNeg v12.toInt64) (2 : Int32).toNatClampNeg v19.toInt64) (1 : Int32).toNatClampNeg) then (1 : Int64) else (0 : Int64))) (2 : Int32).toNatClampNeg (if (0 : Int64) < ((upd (upd (upd (fun _ => 0) (0 : Int32).toNatClampNeg v5.toInt64) (1 : Int32).toNatClampNeg v12.toInt64) (2 : Int32).toNatClampNeg v19.toInt64) (2 : Int32).toNatClampNeg) then (1 : Int64) else (0 : Int64))) := by rw [hz174_A_va_207, if_pos hc159]
      have q_z174_A_sa_207 : z174_A_sa_207 = (upd (upd (upd (fun _ => 0) (0 : Int32).toNatClampNeg (if (0 : Int64) < ((upd (upd (upd (fun _ => 0) (0 : Int32).toNatClampNeg v5.toInt64) (1 : Int32).toNatClampNeg v12.toInt64) (2 : Int32).toNatClampNeg v19.toInt64) (0 : Int32).toNatClampNeg) then (2 : Int32) else (1 : Int32))) (1 : Int32).toNatClampNeg (if (0 : Int64) < ((upd (upd (upd (fun _ => 0) (0 : Int32).toNatClampNeg v5.toInt64) (1 : Int32).toNatClampNeg v12.toInt64) (2 : Int32).toNatClampNeg v19.toInt64) (1 : Int32).toNatClampNeg) then (2 : Int32) else (1 : Int32))) (2 : Int32).toNatClampNeg (if (0 : Int64) < ((upd (upd (upd (fun _ => 0) (0 : Int32).toNatClampNeg v5.toInt64) (1 : Int32).toNatClampNeg v12.toInt64) (2 : Int32).toNatClampNeg v19.toInt64) (2 : Int32).toNatClampNeg) then (2 : Int32) else (1 : Int32))) := by rw [hz174_A_sa_207, if_pos hc159]
      refine ⟨_, _, _, X219, e219, N219, Zs, Ol, E_b199, A_b199, E_b206, F_rows_b206, F_columns_b206, F_cost_b206, F_lower_b206, F_upper_b206, F_value_b206, F_status_b206, F_reduced_b206, E_rl_207, F_size_rl_207, A_co_207, (by rw [q_z174_A_lo_207]; exact A_lo_207), (by rw [q_z174_A_up_207]; exact A_up_207), (by rw [q_z174_A_va_207]; exact A_va_207), (by rw [q_z174_A_sa_207]; exact A_sa_207), A_re_207, fun t k => ?_⟩
      exact pre225 t k
    ·
      obtain ⟨cq226, kq226, q226a, q226b, q226c⟩ := isOf hZ e219 E_b206
      obtain ⟨_, _, ⟨T226, L226, k226, n226⟩, -, X226, ⟨Lc226, hQ226, l226, y226, z226⟩, st226⟩ := X219.virtualBack hx (y := (⟨"com/example/regolo/regolo/engine/Relaxation", "bound", "(IDD)V"⟩ : MethodName)) (z := (⟨"com/example/regolo/regolo/engine/Relaxation", "bound", "(IDD)V"⟩ : MethodName)) hown (mvT hZ (hw _ (List.mem_of_getElem? (i := 83) rfl))) (mvT hZ (hw _ (List.mem_of_getElem? (i := 84) rfl))) (notFace_of_selects (args := #[]) (mvT hZ (hw _ (List.mem_of_getElem? (i := 86) rfl)))) (mvT hZ (hw _ (List.mem_of_getElem? (i := 86) rfl))) (mvT hZ (hw _ (List.mem_of_getElem? (i := 85) rfl))) (by decide) (backOf (W := 0) (rmB l Z a0 hw [] b206 (0 : Int32) (v43.toInt64) (v52.toInt64) rl_207 lo_207 up_207 va_207 sa_207 re_207 (fun _ => 0) (upd (upd (upd (fun _ => 0) (0 : Int32).toNatClampNeg (1 : Int64)) (1 : Int32).toNatClampNeg (1 : Int64)) (2 : Int32).toNatClampNeg (1 : Int64)) (upd (upd (upd (fun _ => 0) (0 : Int32).toNatClampNeg (if (0 : Int64) < ((upd (upd (upd (fun _ => 0) (0 : Int32).toNatClampNeg v5.toInt64) (1 : Int32).toNatClampNeg v12.toInt64) (2 : Int32).toNatClampNeg v19.toInt64) (0 : Int32).toNatClampNeg) then (1 : Int64) else (0 : Int64))) (1 : Int32).toNatClampNeg (if (0 : Int64) < ((upd (upd (upd (fun _ => 0) (0 : Int32).toNatClampNeg v5.toInt64) (1 : Int32).toNatClampNeg v12.toInt64) (2 : Int32).toNatClampNeg v19.toInt64) (1 : Int32).toNatClampNeg) then (1 : Int64) else (0 : Int64))) (2 : Int32).toNatClampNeg (if (0 : Int64) < ((upd (upd (upd (fun _ => 0) (0 : Int32).toNatClampNeg v5.toInt64) (1 : Int32).toNatClampNeg v12.toInt64) (2 : Int32).toNatClampNeg v19.toInt64) (2 : Int32).toNatClampNeg) then (1 : Int64) else (0 : Int64))) (upd (upd (upd (fun _ => 0) (0 : Int32).toNatClampNeg (if (0 : Int64) < ((upd (upd (upd (fun _ => 0) (0 : Int32).toNatClampNeg v5.toInt64) (1 : Int32).toNatClampNeg v12.toInt64) (2 : Int32).toNatClampNeg v19.toInt64) (0 : Int32).toNatClampNeg) then (2 : Int32) else (1 : Int32))) (1 : Int32).toNatClampNeg (if (0 : Int64) < ((upd (upd (upd (fun _ => 0) (0 : Int32).toNatClampNeg v5.toInt64) (1 : Int32).toNatClampNeg v12.toInt64) (2 : Int32).toNatClampNeg v19.toInt64) (1 : Int32).toNatClampNeg) then (2 : Int32) else (1 : Int32))) (2 : Int32).toNatClampNeg (if (0 : Int64) < ((upd (upd (upd (fun _ => 0) (0 : Int32).toNatClampNeg v5.toInt64) (1 : Int32).toNatClampNeg v12.toInt64) (2 : Int32).toNatClampNeg v19.toInt64) (2 : Int32).toNatClampNeg) then (2 : Int32) else (1 : Int32))) (upd (upd (upd (fun _ => 0) (0 : Int32).toNatClampNeg ((upd (upd (upd (fun _ => 0) (0 : Int32).toNatClampNeg v5.toInt64) (1 : Int32).toNatClampNeg v12.toInt64) (2 : Int32).toNatClampNeg v19.toInt64) (0 : Int32).toNatClampNeg)) (1 : Int32).toNatClampNeg ((upd (upd (upd (fun _ => 0) (0 : Int32).toNatClampNeg v5.toInt64) (1 : Int32).toNatClampNeg v12.toInt64) (2 : Int32).toNatClampNeg v19.toInt64) (1 : Int32).toNatClampNeg)) (2 : Int32).toNatClampNeg ((upd (upd (upd (fun _ => 0) (0 : Int32).toNatClampNeg v5.toInt64) (1 : Int32).toNatClampNeg v12.toInt64) (2 : Int32).toNatClampNeg v19.toInt64) (2 : Int32).toNatClampNeg)) T207.heap n0 Zs E_b206 F_rows_b206 F_lower_b206 F_upper_b206 F_value_b206 F_status_b206 F_reduced_b206 E_rl_207 F_size_rl_207 A_lo_207 A_up_207 A_va_207 A_sa_207 A_re_207 g_lo_207 g_up_207 g_va_207 g_sa_207 ne_b206_rl_207 ne_b206_lo_207 ne_b206_up_207 ne_b206_va_207 ne_b206_sa_207 ne_b206_re_207 ne_rl_207_lo_207 ne_rl_207_up_207 ne_rl_207_va_207 ne_rl_207_sa_207 ne_rl_207_re_207 ne_lo_207_up_207 ne_lo_207_va_207 ne_lo_207_sa_207 ne_lo_207_re_207 ne_up_207_va_207 ne_up_207_sa_207 ne_up_207_re_207 ne_va_207_sa_207 ne_va_207_re_207 ne_sa_207_re_207 (by decide) (own_sm sl) (own_sm sh) own_V3 (own_REs hR0) own_SA0) hZ (hw _ (List.mem_of_getElem? (i := 87) rfl)) (hw _ (List.mem_of_getElem? (i := 10) rfl)) (by decide) (by decide)) q226a q226c (g := (mkF m 171 #[.val (.int p1), .val (.int p2), .val (.int p3), .val (.int p4), .val (.int p5), .val (.int p6), .val (.int v5), .val (.int v12), .val (.int v19), .val (.int v26), .val (.int v34), .val (.int v43), .val (.int v52), .val (.ref b199), .val (.ref b206), .val (.int z103_s0), .val (.int z117_s0), .val (.int z131_s0), .val (.int v137), .val (.int v143), .val (.int v149), .val (.int v155), .unset, .unset, .unset, .unset, .unset, .unset, .unset, .unset] [(.double (FP.l2d v52.toInt64)), (.double (FP.l2d v43.toInt64)), (.int (0 : Int32)), (.ref b206)])) rfl (by rw [hml]; rfl) (Steps.refl _) (argsL := [(.int (0 : Int32)), (.double (FP.l2d v43.toInt64)), (.double (FP.l2d v52.toInt64))]) (rest := []) (lenOf pd_7 rfl) rfl (by show 2 * 0 + _ ≤ _; exact Nat.le_of_eq rfl) (hb hby at_171) (fun _ _ => ⟨rfl, e219, (by decide : 13 + 0 ≤ _), (by decide : 42 + 0 ≤ _)⟩)
      dsimp only [Pt.U, Pt.locs, Pt.cells, Pt.slots] at X226 l226 y226 z226 st226 hQ226
      subst l226 y226 z226
      obtain ⟨rfl, N226q, K226, P226_1, P226_2, P226_3, P226_4⟩ := hQ226
      have Zs : n0 ≤ T226.heap.size := Nat.le_trans Zs K226.1
      have Ol : Old Z n0 T226.heap := Ol.keep K226 (allS g_lo_207 (allS g_up_207 (allS g_va_207 (allS g_sa_207 all0))))
      have E_b199 : Exa Z T226.heap b199 "[D" := E_b199.keep K226
      have A_b199 : ArD Z T226.heap b199 (3 : Int32) (upd (upd (upd (fun _ => 0) (0 : Int32).toNatClampNeg v5.toInt64) (1 : Int32).toNatClampNeg v12.toInt64) (2 : Int32).toNatClampNeg v19.toInt64) := A_b199.keep K226 (ninS ne_b199_lo_207 (ninS ne_b199_up_207 (ninS ne_b199_va_207 (ninS ne_b199_sa_207 nin0))))
      have E_b206 : Exa Z T226.heap b206 "com/example/regolo/regolo/engine/Relaxation" := E_b206.keep K226
      have F_rows_b206 : Fld Z T226.heap b206 "com/example/regolo/regolo/engine/Relaxation" "rows" "Ljava/util/List;" (.ref rl_207) := F_rows_b206.keep K226 (ninS ne_b206_lo_207 (ninS ne_b206_up_207 (ninS ne_b206_va_207 (ninS ne_b206_sa_207 nin0))))
      have F_columns_b206 : Fld Z T226.heap b206 "com/example/regolo/regolo/engine/Relaxation" "columns" "I" (.int (3 : Int32)) := F_columns_b206.keep K226 (ninS ne_b206_lo_207 (ninS ne_b206_up_207 (ninS ne_b206_va_207 (ninS ne_b206_sa_207 nin0))))
      have F_cost_b206 : Fld Z T226.heap b206 "com/example/regolo/regolo/engine/Relaxation" "cost" "[D" (.ref co_207) := F_cost_b206.keep K226 (ninS ne_b206_lo_207 (ninS ne_b206_up_207 (ninS ne_b206_va_207 (ninS ne_b206_sa_207 nin0))))
      have F_lower_b206 : Fld Z T226.heap b206 "com/example/regolo/regolo/engine/Relaxation" "lower" "[D" (.ref lo_207) := F_lower_b206.keep K226 (ninS ne_b206_lo_207 (ninS ne_b206_up_207 (ninS ne_b206_va_207 (ninS ne_b206_sa_207 nin0))))
      have F_upper_b206 : Fld Z T226.heap b206 "com/example/regolo/regolo/engine/Relaxation" "upper" "[D" (.ref up_207) := F_upper_b206.keep K226 (ninS ne_b206_lo_207 (ninS ne_b206_up_207 (ninS ne_b206_va_207 (ninS ne_b206_sa_207 nin0))))
      have F_value_b206 : Fld Z T226.heap b206 "com/example/regolo/regolo/engine/Relaxation" "value" "[D" (.ref va_207) := F_value_b206.keep K226 (ninS ne_b206_lo_207 (ninS ne_b206_up_207 (ninS ne_b206_va_207 (ninS ne_b206_sa_207 nin0))))
      have F_status_b206 : Fld Z T226.heap b206 "com/example/regolo/regolo/engine/Relaxation" "status" "[I" (.ref sa_207) := F_status_b206.keep K226 (ninS ne_b206_lo_207 (ninS ne_b206_up_207 (ninS ne_b206_va_207 (ninS ne_b206_sa_207 nin0))))
      have F_reduced_b206 : Fld Z T226.heap b206 "com/example/regolo/regolo/engine/Relaxation" "reduced" "[D" (.ref re_207) := F_reduced_b206.keep K226 (ninS ne_b206_lo_207 (ninS ne_b206_up_207 (ninS ne_b206_va_207 (ninS ne_b206_sa_207 nin0))))
      have E_rl_207 : Exa Z T226.heap rl_207 "java/util/ArrayList" := E_rl_207.keep K226
      have F_size_rl_207 : Fld Z T226.heap rl_207 "java/util/ArrayList" "size" "I" (.int (0 : Int32)) := F_size_rl_207.keep K226 (ninS ne_rl_207_lo_207 (ninS ne_rl_207_up_207 (ninS ne_rl_207_va_207 (ninS ne_rl_207_sa_207 nin0))))
      have A_co_207 : ArD Z T226.heap co_207 (3 : Int32) (upd (upd (upd (fun _ => 0) (0 : Int32).toNatClampNeg v5.toInt64) (1 : Int32).toNatClampNeg v12.toInt64) (2 : Int32).toNatClampNeg v19.toInt64) := A_co_207.keep K226 (ninS ne_co_207_lo_207 (ninS ne_co_207_up_207 (ninS ne_co_207_va_207 (ninS ne_co_207_sa_207 nin0))))
      have A_re_207 : ArD Z T226.heap re_207 (3 : Int32) (upd (upd (upd (fun _ => 0) (0 : Int32).toNatClampNeg ((upd (upd (upd (fun _ => 0) (0 : Int32).toNatClampNeg v5.toInt64) (1 : Int32).toNatClampNeg v12.toInt64) (2 : Int32).toNatClampNeg v19.toInt64) (0 : Int32).toNatClampNeg)) (1 : Int32).toNatClampNeg ((upd (upd (upd (fun _ => 0) (0 : Int32).toNatClampNeg v5.toInt64) (1 : Int32).toNatClampNeg v12.toInt64) (2 : Int32).toNatClampNeg v19.toInt64) (1 : Int32).toNatClampNeg)) (2 : Int32).toNatClampNeg ((upd (upd (upd (fun _ => 0) (0 : Int32).toNatClampNeg v5.toInt64) (1 : Int32).toNatClampNeg v12.toInt64) (2 : Int32).toNatClampNeg v19.toInt64) (2 : Int32).toNatClampNeg)) := A_re_207.keep K226 (ninS (Ne.symm ne_lo_207_re_207) (ninS (Ne.symm ne_up_207_re_207) (ninS (Ne.symm ne_va_207_re_207) (ninS (Ne.symm ne_sa_207_re_207) nin0))))
      have A_lo_207 : ArD Z T226.heap lo_207 (3 : Int32) (upd (fun _ => 0) (0 : Int32).toNatClampNeg v43.toInt64) := P226_1
      have A_up_207 : ArD Z T226.heap up_207 (3 : Int32) (upd (upd (upd (upd (fun _ => 0) (0 : Int32).toNatClampNeg (1 : Int64)) (1 : Int32).toNatClampNeg (1 : Int64)) (2 : Int32).toNatClampNeg (1 : Int64)) (0 : Int32).toNatClampNeg v52.toInt64) := P226_2
      have A_va_207 : ArD Z T226.heap va_207 (3 : Int32) (upd (upd (upd (upd (fun _ => 0) (0 : Int32).toNatClampNeg (if (0 : Int64) < ((upd (upd (upd (fun _ => 0) (0 : Int32).toNatClampNeg v5.toInt64) (1 : Int32).toNatClampNeg v12.toInt64) (2 : Int32).toNatClampNeg v19.toInt64) (0 : Int32).toNatClampNeg) then (1 : Int64) else (0 : Int64))) (1 : Int32).toNatClampNeg (if (0 : Int64) < ((upd (upd (upd (fun _ => 0) (0 : Int32).toNatClampNeg v5.toInt64) (1 : Int32).toNatClampNeg v12.toInt64) (2 : Int32).toNatClampNeg v19.toInt64) (1 : Int32).toNatClampNeg) then (1 : Int64) else (0 : Int64))) (2 : Int32).toNatClampNeg (if (0 : Int64) < ((upd (upd (upd (fun _ => 0) (0 : Int32).toNatClampNeg v5.toInt64) (1 : Int32).toNatClampNeg v12.toInt64) (2 : Int32).toNatClampNeg v19.toInt64) (2 : Int32).toNatClampNeg) then (1 : Int64) else (0 : Int64))) (0 : Int32).toNatClampNeg (if (own_z ((upd (upd (upd (fun _ => 0) (0 : Int32).toNatClampNeg ((upd (upd (upd (fun _ => 0) (0 : Int32).toNatClampNeg v5.toInt64) (1 : Int32).toNatClampNeg v12.toInt64) (2 : Int32).toNatClampNeg v19.toInt64) (0 : Int32).toNatClampNeg)) (1 : Int32).toNatClampNeg ((upd (upd (upd (fun _ => 0) (0 : Int32).toNatClampNeg v5.toInt64) (1 : Int32).toNatClampNeg v12.toInt64) (2 : Int32).toNatClampNeg v19.toInt64) (1 : Int32).toNatClampNeg)) (2 : Int32).toNatClampNeg ((upd (upd (upd (fun _ => 0) (0 : Int32).toNatClampNeg v5.toInt64) (1 : Int32).toNatClampNeg v12.toInt64) (2 : Int32).toNatClampNeg v19.toInt64) (2 : Int32).toNatClampNeg)) (0 : Int32).toNatClampNeg) ((upd (upd (upd (fun _ => 0) (0 : Int32).toNatClampNeg (if (0 : Int64) < ((upd (upd (upd (fun _ => 0) (0 : Int32).toNatClampNeg v5.toInt64) (1 : Int32).toNatClampNeg v12.toInt64) (2 : Int32).toNatClampNeg v19.toInt64) (0 : Int32).toNatClampNeg) then (2 : Int32) else (1 : Int32))) (1 : Int32).toNatClampNeg (if (0 : Int64) < ((upd (upd (upd (fun _ => 0) (0 : Int32).toNatClampNeg v5.toInt64) (1 : Int32).toNatClampNeg v12.toInt64) (2 : Int32).toNatClampNeg v19.toInt64) (1 : Int32).toNatClampNeg) then (2 : Int32) else (1 : Int32))) (2 : Int32).toNatClampNeg (if (0 : Int64) < ((upd (upd (upd (fun _ => 0) (0 : Int32).toNatClampNeg v5.toInt64) (1 : Int32).toNatClampNeg v12.toInt64) (2 : Int32).toNatClampNeg v19.toInt64) (2 : Int32).toNatClampNeg) then (2 : Int32) else (1 : Int32))) (0 : Int32).toNatClampNeg)) = (0 : Int32) then v43.toInt64 else v52.toInt64)) := P226_3
      have A_sa_207 : ArI Z T226.heap sa_207 (3 : Int32) (upd (upd (upd (upd (fun _ => 0) (0 : Int32).toNatClampNeg (if (0 : Int64) < ((upd (upd (upd (fun _ => 0) (0 : Int32).toNatClampNeg v5.toInt64) (1 : Int32).toNatClampNeg v12.toInt64) (2 : Int32).toNatClampNeg v19.toInt64) (0 : Int32).toNatClampNeg) then (2 : Int32) else (1 : Int32))) (1 : Int32).toNatClampNeg (if (0 : Int64) < ((upd (upd (upd (fun _ => 0) (0 : Int32).toNatClampNeg v5.toInt64) (1 : Int32).toNatClampNeg v12.toInt64) (2 : Int32).toNatClampNeg v19.toInt64) (1 : Int32).toNatClampNeg) then (2 : Int32) else (1 : Int32))) (2 : Int32).toNatClampNeg (if (0 : Int64) < ((upd (upd (upd (fun _ => 0) (0 : Int32).toNatClampNeg v5.toInt64) (1 : Int32).toNatClampNeg v12.toInt64) (2 : Int32).toNatClampNeg v19.toInt64) (2 : Int32).toNatClampNeg) then (2 : Int32) else (1 : Int32))) (0 : Int32).toNatClampNeg (if (own_z ((upd (upd (upd (fun _ => 0) (0 : Int32).toNatClampNeg ((upd (upd (upd (fun _ => 0) (0 : Int32).toNatClampNeg v5.toInt64) (1 : Int32).toNatClampNeg v12.toInt64) (2 : Int32).toNatClampNeg v19.toInt64) (0 : Int32).toNatClampNeg)) (1 : Int32).toNatClampNeg ((upd (upd (upd (fun _ => 0) (0 : Int32).toNatClampNeg v5.toInt64) (1 : Int32).toNatClampNeg v12.toInt64) (2 : Int32).toNatClampNeg v19.toInt64) (1 : Int32).toNatClampNeg)) (2 : Int32).toNatClampNeg ((upd (upd (upd (fun _ => 0) (0 : Int32).toNatClampNeg v5.toInt64) (1 : Int32).toNatClampNeg v12.toInt64) (2 : Int32).toNatClampNeg v19.toInt64) (2 : Int32).toNatClampNeg)) (0 : Int32).toNatClampNeg) ((upd (upd (upd (fun _ => 0) (0 : Int32).toNatClampNeg (if (0 : Int64) < ((upd (upd (upd (fun _ => 0) (0 : Int32).toNatClampNeg v5.toInt64) (1 : Int32).toNatClampNeg v12.toInt64) (2 : Int32).toNatClampNeg v19.toInt64) (0 : Int32).toNatClampNeg) then (2 : Int32) else (1 : Int32))) (1 : Int32).toNatClampNeg (if (0 : Int64) < ((upd (upd (upd (fun _ => 0) (0 : Int32).toNatClampNeg v5.toInt64) (1 : Int32).toNatClampNeg v12.toInt64) (2 : Int32).toNatClampNeg v19.toInt64) (1 : Int32).toNatClampNeg) then (2 : Int32) else (1 : Int32))) (2 : Int32).toNatClampNeg (if (0 : Int64) < ((upd (upd (upd (fun _ => 0) (0 : Int32).toNatClampNeg v5.toInt64) (1 : Int32).toNatClampNeg v12.toInt64) (2 : Int32).toNatClampNeg v19.toInt64) (2 : Int32).toNatClampNeg) then (2 : Int32) else (1 : Int32))) (0 : Int32).toNatClampNeg)) = (0 : Int32) then (1 : Int32) else (2 : Int32))) := P226_4
      have N226 := Fr.app N219 N226q
      have pre227 : ∀ t, Steps p.tables e below (T226.setTop (mkF m 174 #[.val (.int p1), .val (.int p2), .val (.int p3), .val (.int p4), .val (.int p5), .val (.int p6), .val (.int v5), .val (.int v12), .val (.int v19), .val (.int v26), .val (.int v34), .val (.int v43), .val (.int v52), .val (.ref b199), .val (.ref b206), .val (.int z103_s0), .val (.int z117_s0), .val (.int z131_s0), .val (.int v137), .val (.int v143), .val (.int v149), .val (.int v155), .unset, .unset, .unset, .unset, .unset, .unset, .unset, .unset] [])) t → Steps p.tables e below (s₁.setTop (entryFrame m #[(.int p1), (.int p2), (.int p3), (.int p4), (.int p5), (.int p6)] maxLocals)) t := fun t k => pre224 t (by
        show Steps p.tables e below (T219.setTop (mkF m 159 #[.val (.int p1), .val (.int p2), .val (.int p3), .val (.int p4), .val (.int p5), .val (.int p6), .val (.int v5), .val (.int v12), .val (.int v19), .val (.int v26), .val (.int v34), .val (.int v43), .val (.int v52), .val (.ref b199), .val (.ref b206), .val (.int z103_s0), .val (.int z117_s0), .val (.int z131_s0), .val (.int v137), .val (.int v143), .val (.int v149), .val (.int v155), .unset, .unset, .unset, .unset, .unset, .unset, .unset, .unset] [(.int z103_s0)])) _
        refine XS.ifNo X219.here hx rfl (hb hby at_159) rfl ((if0 _ _).trans (feq hc159).1) ?_
        show Steps p.tables e below (T219.setTop (mkF m 162 #[.val (.int p1), .val (.int p2), .val (.int p3), .val (.int p4), .val (.int p5), .val (.int p6), .val (.int v5), .val (.int v12), .val (.int v19), .val (.int v26), .val (.int v34), .val (.int v43), .val (.int v52), .val (.ref b199), .val (.ref b206), .val (.int z103_s0), .val (.int z117_s0), .val (.int z131_s0), .val (.int v137), .val (.int v143), .val (.int v149), .val (.int v155), .unset, .unset, .unset, .unset, .unset, .unset, .unset, .unset] [])) _
        refine XS.aload X219.here hx rfl (hb hby at_162) rfl rfl ?_
        show Steps p.tables e below (T219.setTop (mkF m 164 #[.val (.int p1), .val (.int p2), .val (.int p3), .val (.int p4), .val (.int p5), .val (.int p6), .val (.int v5), .val (.int v12), .val (.int v19), .val (.int v26), .val (.int v34), .val (.int v43), .val (.int v52), .val (.ref b199), .val (.ref b206), .val (.int z103_s0), .val (.int z117_s0), .val (.int z131_s0), .val (.int v137), .val (.int v143), .val (.int v149), .val (.int v155), .unset, .unset, .unset, .unset, .unset, .unset, .unset, .unset] [(.ref b206)])) _
        refine XS.iconst X219.here hx rfl (hb hby at_164) ?_
        show Steps p.tables e below (T219.setTop (mkF m 165 #[.val (.int p1), .val (.int p2), .val (.int p3), .val (.int p4), .val (.int p5), .val (.int p6), .val (.int v5), .val (.int v12), .val (.int v19), .val (.int v26), .val (.int v34), .val (.int v43), .val (.int v52), .val (.ref b199), .val (.ref b206), .val (.int z103_s0), .val (.int z117_s0), .val (.int z131_s0), .val (.int v137), .val (.int v143), .val (.int v149), .val (.int v155), .unset, .unset, .unset, .unset, .unset, .unset, .unset, .unset] [(.int (0 : Int32)), (.ref b206)])) _
        refine XS.iload X219.here hx rfl (hb hby at_165) rfl ?_
        show Steps p.tables e below (T219.setTop (mkF m 167 #[.val (.int p1), .val (.int p2), .val (.int p3), .val (.int p4), .val (.int p5), .val (.int p6), .val (.int v5), .val (.int v12), .val (.int v19), .val (.int v26), .val (.int v34), .val (.int v43), .val (.int v52), .val (.ref b199), .val (.ref b206), .val (.int z103_s0), .val (.int z117_s0), .val (.int z131_s0), .val (.int v137), .val (.int v143), .val (.int v149), .val (.int v155), .unset, .unset, .unset, .unset, .unset, .unset, .unset, .unset] [(.int v43), (.int (0 : Int32)), (.ref b206)])) _
        refine XS.i2dS X219.here hx rfl (hb hby at_167) rfl (i2d_w _) ?_
        show Steps p.tables e below (T219.setTop (mkF m 168 #[.val (.int p1), .val (.int p2), .val (.int p3), .val (.int p4), .val (.int p5), .val (.int p6), .val (.int v5), .val (.int v12), .val (.int v19), .val (.int v26), .val (.int v34), .val (.int v43), .val (.int v52), .val (.ref b199), .val (.ref b206), .val (.int z103_s0), .val (.int z117_s0), .val (.int z131_s0), .val (.int v137), .val (.int v143), .val (.int v149), .val (.int v155), .unset, .unset, .unset, .unset, .unset, .unset, .unset, .unset] [(.double (FP.l2d v43.toInt64)), (.int (0 : Int32)), (.ref b206)])) _
        refine XS.iload X219.here hx rfl (hb hby at_168) rfl ?_
        show Steps p.tables e below (T219.setTop (mkF m 170 #[.val (.int p1), .val (.int p2), .val (.int p3), .val (.int p4), .val (.int p5), .val (.int p6), .val (.int v5), .val (.int v12), .val (.int v19), .val (.int v26), .val (.int v34), .val (.int v43), .val (.int v52), .val (.ref b199), .val (.ref b206), .val (.int z103_s0), .val (.int z117_s0), .val (.int z131_s0), .val (.int v137), .val (.int v143), .val (.int v149), .val (.int v155), .unset, .unset, .unset, .unset, .unset, .unset, .unset, .unset] [(.int v52), (.double (FP.l2d v43.toInt64)), (.int (0 : Int32)), (.ref b206)])) _
        refine XS.i2dS X219.here hx rfl (hb hby at_170) rfl (i2d_w _) ?_
        show Steps p.tables e below (T219.setTop (mkF m 171 #[.val (.int p1), .val (.int p2), .val (.int p3), .val (.int p4), .val (.int p5), .val (.int p6), .val (.int v5), .val (.int v12), .val (.int v19), .val (.int v26), .val (.int v34), .val (.int v43), .val (.int v52), .val (.ref b199), .val (.ref b206), .val (.int z103_s0), .val (.int z117_s0), .val (.int z131_s0), .val (.int v137), .val (.int v143), .val (.int v149), .val (.int v155), .unset, .unset, .unset, .unset, .unset, .unset, .unset, .unset] [(.double (FP.l2d v52.toInt64)), (.double (FP.l2d v43.toInt64)), (.int (0 : Int32)), (.ref b206)])) _
        refine st226.trans ?_
        exact k)
      have q_z174_A_lo_207 : z174_A_lo_207 = (upd (fun _ => 0) (0 : Int32).toNatClampNeg v43.toInt64) := by rw [hz174_A_lo_207, if_neg hc159]
      have q_z174_A_up_207 : z174_A_up_207 = (upd (upd (upd (upd (fun _ => 0) (0 : Int32).toNatClampNeg (1 : Int64)) (1 : Int32).toNatClampNeg (1 : Int64)) (2 : Int32).toNatClampNeg (1 : Int64)) (0 : Int32).toNatClampNeg v52.toInt64) := by rw [hz174_A_up_207, if_neg hc159]
      have q_z174_A_va_207 : z174_A_va_207 = (upd (upd (upd (upd (fun _ => 0) (0 : Int32).toNatClampNeg (if (0 : Int64) < ((upd (upd (upd (fun _ => 0) (0 : Int32).toNatClampNeg v5.toInt64) (1 : Int32).toNatClampNeg v12.toInt64) (2 : Int32).toNatClampNeg v19.toInt64) (0 : Int32).toNatClampNeg) then (1 : Int64) else (0 : Int64))) (1 : Int32).toNatClampNeg (if (0 : Int64) < ((upd (upd (upd (fun _ => 0) (0 : Int32).toNatClampNeg v5.toInt64) (1 : Int32).toNatClampNeg v12.toInt64) (2 : Int32).toNatClampNeg v19.toInt64) (1 : Int32).toNatClampNeg) then (1 : Int64) else (0 : Int64))) (2 : Int32).toNatClampNeg (if (0 : Int64) < ((upd (upd (upd (fun _ => 0) (0 : Int32).toNatClampNeg v5.toInt64) (1 : Int32).toNatClampNeg v12.toInt64) (2 : Int32).toNatClampNeg v19.toInt64) (2 : Int32).toNatClampNeg) then (1 : Int64) else (0 : Int64))) (0 : Int32).toNatClampNeg (if (own_z ((upd (upd (upd (fun _ => 0) (0 : Int32).toNatClampNeg ((upd (upd (upd (fun _ => 0) (0 : Int32).toNatClampNeg v5.toInt64) (1 : Int32).toNatClampNeg v12.toInt64) (2 : Int32).toNatClampNeg v19.toInt64) (0 : Int32).toNatClampNeg)) (1 : Int32).toNatClampNeg ((upd (upd (upd (fun _ => 0) (0 : Int32).toNatClampNeg v5.toInt64) (1 : Int32).toNatClampNeg v12.toInt64) (2 : Int32).toNatClampNeg v19.toInt64) (1 : Int32).toNatClampNeg)) (2 : Int32).toNatClampNeg ((upd (upd (upd (fun _ => 0) (0 : Int32).toNatClampNeg v5.toInt64) (1 : Int32).toNatClampNeg v12.toInt64) (2 : Int32).toNatClampNeg v19.toInt64) (2 : Int32).toNatClampNeg)) (0 : Int32).toNatClampNeg) ((upd (upd (upd (fun _ => 0) (0 : Int32).toNatClampNeg (if (0 : Int64) < ((upd (upd (upd (fun _ => 0) (0 : Int32).toNatClampNeg v5.toInt64) (1 : Int32).toNatClampNeg v12.toInt64) (2 : Int32).toNatClampNeg v19.toInt64) (0 : Int32).toNatClampNeg) then (2 : Int32) else (1 : Int32))) (1 : Int32).toNatClampNeg (if (0 : Int64) < ((upd (upd (upd (fun _ => 0) (0 : Int32).toNatClampNeg v5.toInt64) (1 : Int32).toNatClampNeg v12.toInt64) (2 : Int32).toNatClampNeg v19.toInt64) (1 : Int32).toNatClampNeg) then (2 : Int32) else (1 : Int32))) (2 : Int32).toNatClampNeg (if (0 : Int64) < ((upd (upd (upd (fun _ => 0) (0 : Int32).toNatClampNeg v5.toInt64) (1 : Int32).toNatClampNeg v12.toInt64) (2 : Int32).toNatClampNeg v19.toInt64) (2 : Int32).toNatClampNeg) then (2 : Int32) else (1 : Int32))) (0 : Int32).toNatClampNeg)) = (0 : Int32) then v43.toInt64 else v52.toInt64)) := by rw [hz174_A_va_207, if_neg hc159]
      have q_z174_A_sa_207 : z174_A_sa_207 = (upd (upd (upd (upd (fun _ => 0) (0 : Int32).toNatClampNeg (if (0 : Int64) < ((upd (upd (upd (fun _ => 0) (0 : Int32).toNatClampNeg v5.toInt64) (1 : Int32).toNatClampNeg v12.toInt64) (2 : Int32).toNatClampNeg v19.toInt64) (0 : Int32).toNatClampNeg) then (2 : Int32) else (1 : Int32))) (1 : Int32).toNatClampNeg (if (0 : Int64) < ((upd (upd (upd (fun _ => 0) (0 : Int32).toNatClampNeg v5.toInt64) (1 : Int32).toNatClampNeg v12.toInt64) (2 : Int32).toNatClampNeg v19.toInt64) (1 : Int32).toNatClampNeg) then (2 : Int32) else (1 : Int32))) (2 : Int32).toNatClampNeg (if (0 : Int64) < ((upd (upd (upd (fun _ => 0) (0 : Int32).toNatClampNeg v5.toInt64) (1 : Int32).toNatClampNeg v12.toInt64) (2 : Int32).toNatClampNeg v19.toInt64) (2 : Int32).toNatClampNeg) then (2 : Int32) else (1 : Int32))) (0 : Int32).toNatClampNeg (if (own_z ((upd (upd (upd (fun _ => 0) (0 : Int32).toNatClampNeg ((upd (upd (upd (fun _ => 0) (0 : Int32).toNatClampNeg v5.toInt64) (1 : Int32).toNatClampNeg v12.toInt64) (2 : Int32).toNatClampNeg v19.toInt64) (0 : Int32).toNatClampNeg)) (1 : Int32).toNatClampNeg ((upd (upd (upd (fun _ => 0) (0 : Int32).toNatClampNeg v5.toInt64) (1 : Int32).toNatClampNeg v12.toInt64) (2 : Int32).toNatClampNeg v19.toInt64) (1 : Int32).toNatClampNeg)) (2 : Int32).toNatClampNeg ((upd (upd (upd (fun _ => 0) (0 : Int32).toNatClampNeg v5.toInt64) (1 : Int32).toNatClampNeg v12.toInt64) (2 : Int32).toNatClampNeg v19.toInt64) (2 : Int32).toNatClampNeg)) (0 : Int32).toNatClampNeg) ((upd (upd (upd (fun _ => 0) (0 : Int32).toNatClampNeg (if (0 : Int64) < ((upd (upd (upd (fun _ => 0) (0 : Int32).toNatClampNeg v5.toInt64) (1 : Int32).toNatClampNeg v12.toInt64) (2 : Int32).toNatClampNeg v19.toInt64) (0 : Int32).toNatClampNeg) then (2 : Int32) else (1 : Int32))) (1 : Int32).toNatClampNeg (if (0 : Int64) < ((upd (upd (upd (fun _ => 0) (0 : Int32).toNatClampNeg v5.toInt64) (1 : Int32).toNatClampNeg v12.toInt64) (2 : Int32).toNatClampNeg v19.toInt64) (1 : Int32).toNatClampNeg) then (2 : Int32) else (1 : Int32))) (2 : Int32).toNatClampNeg (if (0 : Int64) < ((upd (upd (upd (fun _ => 0) (0 : Int32).toNatClampNeg v5.toInt64) (1 : Int32).toNatClampNeg v12.toInt64) (2 : Int32).toNatClampNeg v19.toInt64) (2 : Int32).toNatClampNeg) then (2 : Int32) else (1 : Int32))) (0 : Int32).toNatClampNeg)) = (0 : Int32) then (1 : Int32) else (2 : Int32))) := by rw [hz174_A_sa_207, if_neg hc159]
      refine ⟨_, _, _, X226, rfl, N226, Zs, Ol, E_b199, A_b199, E_b206, F_rows_b206, F_columns_b206, F_cost_b206, F_lower_b206, F_upper_b206, F_value_b206, F_status_b206, F_reduced_b206, E_rl_207, F_size_rl_207, A_co_207, (by rw [q_z174_A_lo_207]; exact A_lo_207), (by rw [q_z174_A_up_207]; exact A_up_207), (by rw [q_z174_A_va_207]; exact A_va_207), (by rw [q_z174_A_sa_207]; exact A_sa_207), A_re_207, fun t k => ?_⟩
      exact pre227 t k
  have hV1 := own_fite hz174_A_va_207 own_V3 (own_upd own_V3 (own_itS (own_sm sl) (own_sm sh)))
  have pre229 : ∀ t, Steps p.tables e below (T228.setTop (mkF m 176 #[.val (.int p1), .val (.int p2), .val (.int p3), .val (.int p4), .val (.int p5), .val (.int p6), .val (.int v5), .val (.int v12), .val (.int v19), .val (.int v26), .val (.int v34), .val (.int v43), .val (.int v52), .val (.ref b199), .val (.ref b206), .val (.int z103_s0), .val (.int z117_s0), .val (.int z131_s0), .val (.int v137), .val (.int v143), .val (.int v149), .val (.int v155), .unset, .unset, .unset, .unset, .unset, .unset, .unset, .unset] [(.int z117_s0)])) t → Steps p.tables e below (s₁.setTop (entryFrame m #[(.int p1), (.int p2), (.int p3), (.int p4), (.int p5), (.int p6)] maxLocals)) t := fun t k => pre228 t (by
    show Steps p.tables e below (T228.setTop (mkF m 174 #[.val (.int p1), .val (.int p2), .val (.int p3), .val (.int p4), .val (.int p5), .val (.int p6), .val (.int v5), .val (.int v12), .val (.int v19), .val (.int v26), .val (.int v34), .val (.int v43), .val (.int v52), .val (.ref b199), .val (.ref b206), .val (.int z103_s0), .val (.int z117_s0), .val (.int z131_s0), .val (.int v137), .val (.int v143), .val (.int v149), .val (.int v155), .unset, .unset, .unset, .unset, .unset, .unset, .unset, .unset] [])) _
    refine XS.iload X228.here hx rfl (hb hby at_174) rfl ?_
    exact k)
  obtain ⟨z191_A_lo_207, hz191_A_lo_207⟩ : ∃ z : Nat → Int64, z = (if z117_s0 = (0 : Int32) then z174_A_lo_207 else (upd z174_A_lo_207 (1 : Int32).toNatClampNeg v137.toInt64)) := ⟨_, rfl⟩
  obtain ⟨z191_A_up_207, hz191_A_up_207⟩ : ∃ z : Nat → Int64, z = (if z117_s0 = (0 : Int32) then z174_A_up_207 else (upd z174_A_up_207 (1 : Int32).toNatClampNeg v143.toInt64)) := ⟨_, rfl⟩
  obtain ⟨z191_A_va_207, hz191_A_va_207⟩ : ∃ z : Nat → Int64, z = (if z117_s0 = (0 : Int32) then z174_A_va_207 else (upd z174_A_va_207 (1 : Int32).toNatClampNeg (if (own_z ((upd (upd (upd (fun _ => 0) (0 : Int32).toNatClampNeg ((upd (upd (upd (fun _ => 0) (0 : Int32).toNatClampNeg v5.toInt64) (1 : Int32).toNatClampNeg v12.toInt64) (2 : Int32).toNatClampNeg v19.toInt64) (0 : Int32).toNatClampNeg)) (1 : Int32).toNatClampNeg ((upd (upd (upd (fun _ => 0) (0 : Int32).toNatClampNeg v5.toInt64) (1 : Int32).toNatClampNeg v12.toInt64) (2 : Int32).toNatClampNeg v19.toInt64) (1 : Int32).toNatClampNeg)) (2 : Int32).toNatClampNeg ((upd (upd (upd (fun _ => 0) (0 : Int32).toNatClampNeg v5.toInt64) (1 : Int32).toNatClampNeg v12.toInt64) (2 : Int32).toNatClampNeg v19.toInt64) (2 : Int32).toNatClampNeg)) (1 : Int32).toNatClampNeg) (z174_A_sa_207 (1 : Int32).toNatClampNeg)) = (0 : Int32) then v137.toInt64 else v143.toInt64))) := ⟨_, rfl⟩
  obtain ⟨z191_A_sa_207, hz191_A_sa_207⟩ : ∃ z : Nat → Int32, z = (if z117_s0 = (0 : Int32) then z174_A_sa_207 else (upd z174_A_sa_207 (1 : Int32).toNatClampNeg (if (own_z ((upd (upd (upd (fun _ => 0) (0 : Int32).toNatClampNeg ((upd (upd (upd (fun _ => 0) (0 : Int32).toNatClampNeg v5.toInt64) (1 : Int32).toNatClampNeg v12.toInt64) (2 : Int32).toNatClampNeg v19.toInt64) (0 : Int32).toNatClampNeg)) (1 : Int32).toNatClampNeg ((upd (upd (upd (fun _ => 0) (0 : Int32).toNatClampNeg v5.toInt64) (1 : Int32).toNatClampNeg v12.toInt64) (2 : Int32).toNatClampNeg v19.toInt64) (1 : Int32).toNatClampNeg)) (2 : Int32).toNatClampNeg ((upd (upd (upd (fun _ => 0) (0 : Int32).toNatClampNeg v5.toInt64) (1 : Int32).toNatClampNeg v12.toInt64) (2 : Int32).toNatClampNeg v19.toInt64) (2 : Int32).toNatClampNeg)) (1 : Int32).toNatClampNeg) (z174_A_sa_207 (1 : Int32).toNatClampNeg)) = (0 : Int32) then (1 : Int32) else (2 : Int32)))) := ⟨_, rfl⟩
  obtain ⟨T233, Lc233, h233, X233, e233, N233, Zs, Ol, E_b199, A_b199, E_b206, F_rows_b206, F_columns_b206, F_cost_b206, F_lower_b206, F_upper_b206, F_value_b206, F_status_b206, F_reduced_b206, E_rl_207, F_size_rl_207, A_co_207, A_lo_207, A_up_207, A_va_207, A_sa_207, A_re_207, pre233⟩ : ∃ (T' : State) (locs' : List Loc) (h' : Heap), Stand p l e room_1 s m #[(.int p1), (.int p2), (.int p3), (.int p4), (.int p5), (.int p6)] below meth c T' locs' 13 42 ∧ T'.heap = h' ∧ Fr n0 locs' ∧ (n0 ≤ h'.size) ∧ (Old Z n0 h') ∧ (Exa Z h' b199 "[D") ∧ (ArD Z h' b199 (3 : Int32) (upd (upd (upd (fun _ => 0) (0 : Int32).toNatClampNeg v5.toInt64) (1 : Int32).toNatClampNeg v12.toInt64) (2 : Int32).toNatClampNeg v19.toInt64)) ∧ (Exa Z h' b206 "com/example/regolo/regolo/engine/Relaxation") ∧ (Fld Z h' b206 "com/example/regolo/regolo/engine/Relaxation" "rows" "Ljava/util/List;" (.ref rl_207)) ∧ (Fld Z h' b206 "com/example/regolo/regolo/engine/Relaxation" "columns" "I" (.int (3 : Int32))) ∧ (Fld Z h' b206 "com/example/regolo/regolo/engine/Relaxation" "cost" "[D" (.ref co_207)) ∧ (Fld Z h' b206 "com/example/regolo/regolo/engine/Relaxation" "lower" "[D" (.ref lo_207)) ∧ (Fld Z h' b206 "com/example/regolo/regolo/engine/Relaxation" "upper" "[D" (.ref up_207)) ∧ (Fld Z h' b206 "com/example/regolo/regolo/engine/Relaxation" "value" "[D" (.ref va_207)) ∧ (Fld Z h' b206 "com/example/regolo/regolo/engine/Relaxation" "status" "[I" (.ref sa_207)) ∧ (Fld Z h' b206 "com/example/regolo/regolo/engine/Relaxation" "reduced" "[D" (.ref re_207)) ∧ (Exa Z h' rl_207 "java/util/ArrayList") ∧ (Fld Z h' rl_207 "java/util/ArrayList" "size" "I" (.int (0 : Int32))) ∧ (ArD Z h' co_207 (3 : Int32) (upd (upd (upd (fun _ => 0) (0 : Int32).toNatClampNeg v5.toInt64) (1 : Int32).toNatClampNeg v12.toInt64) (2 : Int32).toNatClampNeg v19.toInt64)) ∧ (ArD Z h' lo_207 (3 : Int32) z191_A_lo_207) ∧ (ArD Z h' up_207 (3 : Int32) z191_A_up_207) ∧ (ArD Z h' va_207 (3 : Int32) z191_A_va_207) ∧ (ArI Z h' sa_207 (3 : Int32) z191_A_sa_207) ∧ (ArD Z h' re_207 (3 : Int32) (upd (upd (upd (fun _ => 0) (0 : Int32).toNatClampNeg ((upd (upd (upd (fun _ => 0) (0 : Int32).toNatClampNeg v5.toInt64) (1 : Int32).toNatClampNeg v12.toInt64) (2 : Int32).toNatClampNeg v19.toInt64) (0 : Int32).toNatClampNeg)) (1 : Int32).toNatClampNeg ((upd (upd (upd (fun _ => 0) (0 : Int32).toNatClampNeg v5.toInt64) (1 : Int32).toNatClampNeg v12.toInt64) (2 : Int32).toNatClampNeg v19.toInt64) (1 : Int32).toNatClampNeg)) (2 : Int32).toNatClampNeg ((upd (upd (upd (fun _ => 0) (0 : Int32).toNatClampNeg v5.toInt64) (1 : Int32).toNatClampNeg v12.toInt64) (2 : Int32).toNatClampNeg v19.toInt64) (2 : Int32).toNatClampNeg))) ∧ ∀ t, Steps p.tables e below (T'.setTop (mkF m 191 #[.val (.int p1), .val (.int p2), .val (.int p3), .val (.int p4), .val (.int p5), .val (.int p6), .val (.int v5), .val (.int v12), .val (.int v19), .val (.int v26), .val (.int v34), .val (.int v43), .val (.int v52), .val (.ref b199), .val (.ref b206), .val (.int z103_s0), .val (.int z117_s0), .val (.int z131_s0), .val (.int v137), .val (.int v143), .val (.int v149), .val (.int v155), .unset, .unset, .unset, .unset, .unset, .unset, .unset, .unset] [])) t → Steps p.tables e below (s₁.setTop (entryFrame m #[(.int p1), (.int p2), (.int p3), (.int p4), (.int p5), (.int p6)] maxLocals)) t := by
    by_cases hc176 : z117_s0 = (0 : Int32)
    ·
      have pre230 : ∀ t, Steps p.tables e below (T228.setTop (mkF m 191 #[.val (.int p1), .val (.int p2), .val (.int p3), .val (.int p4), .val (.int p5), .val (.int p6), .val (.int v5), .val (.int v12), .val (.int v19), .val (.int v26), .val (.int v34), .val (.int v43), .val (.int v52), .val (.ref b199), .val (.ref b206), .val (.int z103_s0), .val (.int z117_s0), .val (.int z131_s0), .val (.int v137), .val (.int v143), .val (.int v149), .val (.int v155), .unset, .unset, .unset, .unset, .unset, .unset, .unset, .unset] [])) t → Steps p.tables e below (s₁.setTop (entryFrame m #[(.int p1), (.int p2), (.int p3), (.int p4), (.int p5), (.int p6)] maxLocals)) t := fun t k => pre229 t (by
        show Steps p.tables e below (T228.setTop (mkF m 176 #[.val (.int p1), .val (.int p2), .val (.int p3), .val (.int p4), .val (.int p5), .val (.int p6), .val (.int v5), .val (.int v12), .val (.int v19), .val (.int v26), .val (.int v34), .val (.int v43), .val (.int v52), .val (.ref b199), .val (.ref b206), .val (.int z103_s0), .val (.int z117_s0), .val (.int z131_s0), .val (.int v137), .val (.int v143), .val (.int v149), .val (.int v155), .unset, .unset, .unset, .unset, .unset, .unset, .unset, .unset] [(.int z117_s0)])) _
        refine XS.ifYes X228.here hx rfl (pc0 := 176) (pc' := 191) rfl (hb hby at_176) rfl ((if0 _ _).trans (teq hc176).1) (by decide) (by decide) ?_
        exact k)
      have q_z191_A_lo_207 : z191_A_lo_207 = z174_A_lo_207 := by rw [hz191_A_lo_207, if_pos hc176]
      have q_z191_A_up_207 : z191_A_up_207 = z174_A_up_207 := by rw [hz191_A_up_207, if_pos hc176]
      have q_z191_A_va_207 : z191_A_va_207 = z174_A_va_207 := by rw [hz191_A_va_207, if_pos hc176]
      have q_z191_A_sa_207 : z191_A_sa_207 = z174_A_sa_207 := by rw [hz191_A_sa_207, if_pos hc176]
      refine ⟨_, _, _, X228, e228, N228, Zs, Ol, E_b199, A_b199, E_b206, F_rows_b206, F_columns_b206, F_cost_b206, F_lower_b206, F_upper_b206, F_value_b206, F_status_b206, F_reduced_b206, E_rl_207, F_size_rl_207, A_co_207, (by rw [q_z191_A_lo_207]; exact A_lo_207), (by rw [q_z191_A_up_207]; exact A_up_207), (by rw [q_z191_A_va_207]; exact A_va_207), (by rw [q_z191_A_sa_207]; exact A_sa_207), A_re_207, fun t k => ?_⟩
      exact pre230 t k
    ·
      obtain ⟨cq231, kq231, q231a, q231b, q231c⟩ := isOf hZ e228 E_b206
      obtain ⟨_, _, ⟨T231, L231, k231, n231⟩, -, X231, ⟨Lc231, hQ231, l231, y231, z231⟩, st231⟩ := X228.virtualBack hx (y := (⟨"com/example/regolo/regolo/engine/Relaxation", "bound", "(IDD)V"⟩ : MethodName)) (z := (⟨"com/example/regolo/regolo/engine/Relaxation", "bound", "(IDD)V"⟩ : MethodName)) hown (mvT hZ (hw _ (List.mem_of_getElem? (i := 83) rfl))) (mvT hZ (hw _ (List.mem_of_getElem? (i := 84) rfl))) (notFace_of_selects (args := #[]) (mvT hZ (hw _ (List.mem_of_getElem? (i := 86) rfl)))) (mvT hZ (hw _ (List.mem_of_getElem? (i := 86) rfl))) (mvT hZ (hw _ (List.mem_of_getElem? (i := 85) rfl))) (by decide) (backOf (W := 0) (rmB l Z a0 hw [] b206 (1 : Int32) (v137.toInt64) (v143.toInt64) rl_207 lo_207 up_207 va_207 sa_207 re_207 z174_A_lo_207 z174_A_up_207 z174_A_va_207 z174_A_sa_207 (upd (upd (upd (fun _ => 0) (0 : Int32).toNatClampNeg ((upd (upd (upd (fun _ => 0) (0 : Int32).toNatClampNeg v5.toInt64) (1 : Int32).toNatClampNeg v12.toInt64) (2 : Int32).toNatClampNeg v19.toInt64) (0 : Int32).toNatClampNeg)) (1 : Int32).toNatClampNeg ((upd (upd (upd (fun _ => 0) (0 : Int32).toNatClampNeg v5.toInt64) (1 : Int32).toNatClampNeg v12.toInt64) (2 : Int32).toNatClampNeg v19.toInt64) (1 : Int32).toNatClampNeg)) (2 : Int32).toNatClampNeg ((upd (upd (upd (fun _ => 0) (0 : Int32).toNatClampNeg v5.toInt64) (1 : Int32).toNatClampNeg v12.toInt64) (2 : Int32).toNatClampNeg v19.toInt64) (2 : Int32).toNatClampNeg)) h228 n0 Zs E_b206 F_rows_b206 F_lower_b206 F_upper_b206 F_value_b206 F_status_b206 F_reduced_b206 E_rl_207 F_size_rl_207 A_lo_207 A_up_207 A_va_207 A_sa_207 A_re_207 g_lo_207 g_up_207 g_va_207 g_sa_207 ne_b206_rl_207 ne_b206_lo_207 ne_b206_up_207 ne_b206_va_207 ne_b206_sa_207 ne_b206_re_207 ne_rl_207_lo_207 ne_rl_207_up_207 ne_rl_207_va_207 ne_rl_207_sa_207 ne_rl_207_re_207 ne_lo_207_up_207 ne_lo_207_va_207 ne_lo_207_sa_207 ne_lo_207_re_207 ne_up_207_va_207 ne_up_207_sa_207 ne_up_207_re_207 ne_va_207_sa_207 ne_va_207_re_207 ne_sa_207_re_207 (by decide) (own_smB s1) (own_smB s2) hV1 (own_REs hR0) (own_SA1 hz174_A_sa_207)) hZ (hw _ (List.mem_of_getElem? (i := 87) rfl)) (hw _ (List.mem_of_getElem? (i := 10) rfl)) (by decide) (by decide)) q231a q231c (g := (mkF m 188 #[.val (.int p1), .val (.int p2), .val (.int p3), .val (.int p4), .val (.int p5), .val (.int p6), .val (.int v5), .val (.int v12), .val (.int v19), .val (.int v26), .val (.int v34), .val (.int v43), .val (.int v52), .val (.ref b199), .val (.ref b206), .val (.int z103_s0), .val (.int z117_s0), .val (.int z131_s0), .val (.int v137), .val (.int v143), .val (.int v149), .val (.int v155), .unset, .unset, .unset, .unset, .unset, .unset, .unset, .unset] [(.double (FP.l2d v143.toInt64)), (.double (FP.l2d v137.toInt64)), (.int (1 : Int32)), (.ref b206)])) rfl (by rw [hml]; rfl) (Steps.refl _) (argsL := [(.int (1 : Int32)), (.double (FP.l2d v137.toInt64)), (.double (FP.l2d v143.toInt64))]) (rest := []) (lenOf pd_7 rfl) rfl (by show 2 * 0 + _ ≤ _; exact Nat.le_of_eq rfl) (hb hby at_188) (fun _ _ => ⟨rfl, e228, (by decide : 13 + 0 ≤ _), (by decide : 42 + 0 ≤ _)⟩)
      dsimp only [Pt.U, Pt.locs, Pt.cells, Pt.slots] at X231 l231 y231 z231 st231 hQ231
      subst l231 y231 z231
      obtain ⟨rfl, N231q, K231, P231_1, P231_2, P231_3, P231_4⟩ := hQ231
      have Zs : n0 ≤ T231.heap.size := Nat.le_trans Zs K231.1
      have Ol : Old Z n0 T231.heap := Ol.keep K231 (allS g_lo_207 (allS g_up_207 (allS g_va_207 (allS g_sa_207 all0))))
      have E_b199 : Exa Z T231.heap b199 "[D" := E_b199.keep K231
      have A_b199 : ArD Z T231.heap b199 (3 : Int32) (upd (upd (upd (fun _ => 0) (0 : Int32).toNatClampNeg v5.toInt64) (1 : Int32).toNatClampNeg v12.toInt64) (2 : Int32).toNatClampNeg v19.toInt64) := A_b199.keep K231 (ninS ne_b199_lo_207 (ninS ne_b199_up_207 (ninS ne_b199_va_207 (ninS ne_b199_sa_207 nin0))))
      have E_b206 : Exa Z T231.heap b206 "com/example/regolo/regolo/engine/Relaxation" := E_b206.keep K231
      have F_rows_b206 : Fld Z T231.heap b206 "com/example/regolo/regolo/engine/Relaxation" "rows" "Ljava/util/List;" (.ref rl_207) := F_rows_b206.keep K231 (ninS ne_b206_lo_207 (ninS ne_b206_up_207 (ninS ne_b206_va_207 (ninS ne_b206_sa_207 nin0))))
      have F_columns_b206 : Fld Z T231.heap b206 "com/example/regolo/regolo/engine/Relaxation" "columns" "I" (.int (3 : Int32)) := F_columns_b206.keep K231 (ninS ne_b206_lo_207 (ninS ne_b206_up_207 (ninS ne_b206_va_207 (ninS ne_b206_sa_207 nin0))))
      have F_cost_b206 : Fld Z T231.heap b206 "com/example/regolo/regolo/engine/Relaxation" "cost" "[D" (.ref co_207) := F_cost_b206.keep K231 (ninS ne_b206_lo_207 (ninS ne_b206_up_207 (ninS ne_b206_va_207 (ninS ne_b206_sa_207 nin0))))
      have F_lower_b206 : Fld Z T231.heap b206 "com/example/regolo/regolo/engine/Relaxation" "lower" "[D" (.ref lo_207) := F_lower_b206.keep K231 (ninS ne_b206_lo_207 (ninS ne_b206_up_207 (ninS ne_b206_va_207 (ninS ne_b206_sa_207 nin0))))
      have F_upper_b206 : Fld Z T231.heap b206 "com/example/regolo/regolo/engine/Relaxation" "upper" "[D" (.ref up_207) := F_upper_b206.keep K231 (ninS ne_b206_lo_207 (ninS ne_b206_up_207 (ninS ne_b206_va_207 (ninS ne_b206_sa_207 nin0))))
      have F_value_b206 : Fld Z T231.heap b206 "com/example/regolo/regolo/engine/Relaxation" "value" "[D" (.ref va_207) := F_value_b206.keep K231 (ninS ne_b206_lo_207 (ninS ne_b206_up_207 (ninS ne_b206_va_207 (ninS ne_b206_sa_207 nin0))))
      have F_status_b206 : Fld Z T231.heap b206 "com/example/regolo/regolo/engine/Relaxation" "status" "[I" (.ref sa_207) := F_status_b206.keep K231 (ninS ne_b206_lo_207 (ninS ne_b206_up_207 (ninS ne_b206_va_207 (ninS ne_b206_sa_207 nin0))))
      have F_reduced_b206 : Fld Z T231.heap b206 "com/example/regolo/regolo/engine/Relaxation" "reduced" "[D" (.ref re_207) := F_reduced_b206.keep K231 (ninS ne_b206_lo_207 (ninS ne_b206_up_207 (ninS ne_b206_va_207 (ninS ne_b206_sa_207 nin0))))
      have E_rl_207 : Exa Z T231.heap rl_207 "java/util/ArrayList" := E_rl_207.keep K231
      have F_size_rl_207 : Fld Z T231.heap rl_207 "java/util/ArrayList" "size" "I" (.int (0 : Int32)) := F_size_rl_207.keep K231 (ninS ne_rl_207_lo_207 (ninS ne_rl_207_up_207 (ninS ne_rl_207_va_207 (ninS ne_rl_207_sa_207 nin0))))
      have A_co_207 : ArD Z T231.heap co_207 (3 : Int32) (upd (upd (upd (fun _ => 0) (0 : Int32).toNatClampNeg v5.toInt64) (1 : Int32).toNatClampNeg v12.toInt64) (2 : Int32).toNatClampNeg v19.toInt64) := A_co_207.keep K231 (ninS ne_co_207_lo_207 (ninS ne_co_207_up_207 (ninS ne_co_207_va_207 (ninS ne_co_207_sa_207 nin0))))
      have A_re_207 : ArD Z T231.heap re_207 (3 : Int32) (upd (upd (upd (fun _ => 0) (0 : Int32).toNatClampNeg ((upd (upd (upd (fun _ => 0) (0 : Int32).toNatClampNeg v5.toInt64) (1 : Int32).toNatClampNeg v12.toInt64) (2 : Int32).toNatClampNeg v19.toInt64) (0 : Int32).toNatClampNeg)) (1 : Int32).toNatClampNeg ((upd (upd (upd (fun _ => 0) (0 : Int32).toNatClampNeg v5.toInt64) (1 : Int32).toNatClampNeg v12.toInt64) (2 : Int32).toNatClampNeg v19.toInt64) (1 : Int32).toNatClampNeg)) (2 : Int32).toNatClampNeg ((upd (upd (upd (fun _ => 0) (0 : Int32).toNatClampNeg v5.toInt64) (1 : Int32).toNatClampNeg v12.toInt64) (2 : Int32).toNatClampNeg v19.toInt64) (2 : Int32).toNatClampNeg)) := A_re_207.keep K231 (ninS (Ne.symm ne_lo_207_re_207) (ninS (Ne.symm ne_up_207_re_207) (ninS (Ne.symm ne_va_207_re_207) (ninS (Ne.symm ne_sa_207_re_207) nin0))))
      have A_lo_207 : ArD Z T231.heap lo_207 (3 : Int32) (upd z174_A_lo_207 (1 : Int32).toNatClampNeg v137.toInt64) := P231_1
      have A_up_207 : ArD Z T231.heap up_207 (3 : Int32) (upd z174_A_up_207 (1 : Int32).toNatClampNeg v143.toInt64) := P231_2
      have A_va_207 : ArD Z T231.heap va_207 (3 : Int32) (upd z174_A_va_207 (1 : Int32).toNatClampNeg (if (own_z ((upd (upd (upd (fun _ => 0) (0 : Int32).toNatClampNeg ((upd (upd (upd (fun _ => 0) (0 : Int32).toNatClampNeg v5.toInt64) (1 : Int32).toNatClampNeg v12.toInt64) (2 : Int32).toNatClampNeg v19.toInt64) (0 : Int32).toNatClampNeg)) (1 : Int32).toNatClampNeg ((upd (upd (upd (fun _ => 0) (0 : Int32).toNatClampNeg v5.toInt64) (1 : Int32).toNatClampNeg v12.toInt64) (2 : Int32).toNatClampNeg v19.toInt64) (1 : Int32).toNatClampNeg)) (2 : Int32).toNatClampNeg ((upd (upd (upd (fun _ => 0) (0 : Int32).toNatClampNeg v5.toInt64) (1 : Int32).toNatClampNeg v12.toInt64) (2 : Int32).toNatClampNeg v19.toInt64) (2 : Int32).toNatClampNeg)) (1 : Int32).toNatClampNeg) (z174_A_sa_207 (1 : Int32).toNatClampNeg)) = (0 : Int32) then v137.toInt64 else v143.toInt64)) := P231_3
      have A_sa_207 : ArI Z T231.heap sa_207 (3 : Int32) (upd z174_A_sa_207 (1 : Int32).toNatClampNeg (if (own_z ((upd (upd (upd (fun _ => 0) (0 : Int32).toNatClampNeg ((upd (upd (upd (fun _ => 0) (0 : Int32).toNatClampNeg v5.toInt64) (1 : Int32).toNatClampNeg v12.toInt64) (2 : Int32).toNatClampNeg v19.toInt64) (0 : Int32).toNatClampNeg)) (1 : Int32).toNatClampNeg ((upd (upd (upd (fun _ => 0) (0 : Int32).toNatClampNeg v5.toInt64) (1 : Int32).toNatClampNeg v12.toInt64) (2 : Int32).toNatClampNeg v19.toInt64) (1 : Int32).toNatClampNeg)) (2 : Int32).toNatClampNeg ((upd (upd (upd (fun _ => 0) (0 : Int32).toNatClampNeg v5.toInt64) (1 : Int32).toNatClampNeg v12.toInt64) (2 : Int32).toNatClampNeg v19.toInt64) (2 : Int32).toNatClampNeg)) (1 : Int32).toNatClampNeg) (z174_A_sa_207 (1 : Int32).toNatClampNeg)) = (0 : Int32) then (1 : Int32) else (2 : Int32))) := P231_4
      have N231 := Fr.app N228 N231q
      have pre232 : ∀ t, Steps p.tables e below (T231.setTop (mkF m 191 #[.val (.int p1), .val (.int p2), .val (.int p3), .val (.int p4), .val (.int p5), .val (.int p6), .val (.int v5), .val (.int v12), .val (.int v19), .val (.int v26), .val (.int v34), .val (.int v43), .val (.int v52), .val (.ref b199), .val (.ref b206), .val (.int z103_s0), .val (.int z117_s0), .val (.int z131_s0), .val (.int v137), .val (.int v143), .val (.int v149), .val (.int v155), .unset, .unset, .unset, .unset, .unset, .unset, .unset, .unset] [])) t → Steps p.tables e below (s₁.setTop (entryFrame m #[(.int p1), (.int p2), (.int p3), (.int p4), (.int p5), (.int p6)] maxLocals)) t := fun t k => pre229 t (by
        show Steps p.tables e below (T228.setTop (mkF m 176 #[.val (.int p1), .val (.int p2), .val (.int p3), .val (.int p4), .val (.int p5), .val (.int p6), .val (.int v5), .val (.int v12), .val (.int v19), .val (.int v26), .val (.int v34), .val (.int v43), .val (.int v52), .val (.ref b199), .val (.ref b206), .val (.int z103_s0), .val (.int z117_s0), .val (.int z131_s0), .val (.int v137), .val (.int v143), .val (.int v149), .val (.int v155), .unset, .unset, .unset, .unset, .unset, .unset, .unset, .unset] [(.int z117_s0)])) _
        refine XS.ifNo X228.here hx rfl (hb hby at_176) rfl ((if0 _ _).trans (feq hc176).1) ?_
        show Steps p.tables e below (T228.setTop (mkF m 179 #[.val (.int p1), .val (.int p2), .val (.int p3), .val (.int p4), .val (.int p5), .val (.int p6), .val (.int v5), .val (.int v12), .val (.int v19), .val (.int v26), .val (.int v34), .val (.int v43), .val (.int v52), .val (.ref b199), .val (.ref b206), .val (.int z103_s0), .val (.int z117_s0), .val (.int z131_s0), .val (.int v137), .val (.int v143), .val (.int v149), .val (.int v155), .unset, .unset, .unset, .unset, .unset, .unset, .unset, .unset] [])) _
        refine XS.aload X228.here hx rfl (hb hby at_179) rfl rfl ?_
        show Steps p.tables e below (T228.setTop (mkF m 181 #[.val (.int p1), .val (.int p2), .val (.int p3), .val (.int p4), .val (.int p5), .val (.int p6), .val (.int v5), .val (.int v12), .val (.int v19), .val (.int v26), .val (.int v34), .val (.int v43), .val (.int v52), .val (.ref b199), .val (.ref b206), .val (.int z103_s0), .val (.int z117_s0), .val (.int z131_s0), .val (.int v137), .val (.int v143), .val (.int v149), .val (.int v155), .unset, .unset, .unset, .unset, .unset, .unset, .unset, .unset] [(.ref b206)])) _
        refine XS.iconst X228.here hx rfl (hb hby at_181) ?_
        show Steps p.tables e below (T228.setTop (mkF m 182 #[.val (.int p1), .val (.int p2), .val (.int p3), .val (.int p4), .val (.int p5), .val (.int p6), .val (.int v5), .val (.int v12), .val (.int v19), .val (.int v26), .val (.int v34), .val (.int v43), .val (.int v52), .val (.ref b199), .val (.ref b206), .val (.int z103_s0), .val (.int z117_s0), .val (.int z131_s0), .val (.int v137), .val (.int v143), .val (.int v149), .val (.int v155), .unset, .unset, .unset, .unset, .unset, .unset, .unset, .unset] [(.int (1 : Int32)), (.ref b206)])) _
        refine XS.iload X228.here hx rfl (hb hby at_182) rfl ?_
        show Steps p.tables e below (T228.setTop (mkF m 184 #[.val (.int p1), .val (.int p2), .val (.int p3), .val (.int p4), .val (.int p5), .val (.int p6), .val (.int v5), .val (.int v12), .val (.int v19), .val (.int v26), .val (.int v34), .val (.int v43), .val (.int v52), .val (.ref b199), .val (.ref b206), .val (.int z103_s0), .val (.int z117_s0), .val (.int z131_s0), .val (.int v137), .val (.int v143), .val (.int v149), .val (.int v155), .unset, .unset, .unset, .unset, .unset, .unset, .unset, .unset] [(.int v137), (.int (1 : Int32)), (.ref b206)])) _
        refine XS.i2dS X228.here hx rfl (hb hby at_184) rfl (i2d_w _) ?_
        show Steps p.tables e below (T228.setTop (mkF m 185 #[.val (.int p1), .val (.int p2), .val (.int p3), .val (.int p4), .val (.int p5), .val (.int p6), .val (.int v5), .val (.int v12), .val (.int v19), .val (.int v26), .val (.int v34), .val (.int v43), .val (.int v52), .val (.ref b199), .val (.ref b206), .val (.int z103_s0), .val (.int z117_s0), .val (.int z131_s0), .val (.int v137), .val (.int v143), .val (.int v149), .val (.int v155), .unset, .unset, .unset, .unset, .unset, .unset, .unset, .unset] [(.double (FP.l2d v137.toInt64)), (.int (1 : Int32)), (.ref b206)])) _
        refine XS.iload X228.here hx rfl (hb hby at_185) rfl ?_
        show Steps p.tables e below (T228.setTop (mkF m 187 #[.val (.int p1), .val (.int p2), .val (.int p3), .val (.int p4), .val (.int p5), .val (.int p6), .val (.int v5), .val (.int v12), .val (.int v19), .val (.int v26), .val (.int v34), .val (.int v43), .val (.int v52), .val (.ref b199), .val (.ref b206), .val (.int z103_s0), .val (.int z117_s0), .val (.int z131_s0), .val (.int v137), .val (.int v143), .val (.int v149), .val (.int v155), .unset, .unset, .unset, .unset, .unset, .unset, .unset, .unset] [(.int v143), (.double (FP.l2d v137.toInt64)), (.int (1 : Int32)), (.ref b206)])) _
        refine XS.i2dS X228.here hx rfl (hb hby at_187) rfl (i2d_w _) ?_
        show Steps p.tables e below (T228.setTop (mkF m 188 #[.val (.int p1), .val (.int p2), .val (.int p3), .val (.int p4), .val (.int p5), .val (.int p6), .val (.int v5), .val (.int v12), .val (.int v19), .val (.int v26), .val (.int v34), .val (.int v43), .val (.int v52), .val (.ref b199), .val (.ref b206), .val (.int z103_s0), .val (.int z117_s0), .val (.int z131_s0), .val (.int v137), .val (.int v143), .val (.int v149), .val (.int v155), .unset, .unset, .unset, .unset, .unset, .unset, .unset, .unset] [(.double (FP.l2d v143.toInt64)), (.double (FP.l2d v137.toInt64)), (.int (1 : Int32)), (.ref b206)])) _
        refine st231.trans ?_
        exact k)
      have q_z191_A_lo_207 : z191_A_lo_207 = (upd z174_A_lo_207 (1 : Int32).toNatClampNeg v137.toInt64) := by rw [hz191_A_lo_207, if_neg hc176]
      have q_z191_A_up_207 : z191_A_up_207 = (upd z174_A_up_207 (1 : Int32).toNatClampNeg v143.toInt64) := by rw [hz191_A_up_207, if_neg hc176]
      have q_z191_A_va_207 : z191_A_va_207 = (upd z174_A_va_207 (1 : Int32).toNatClampNeg (if (own_z ((upd (upd (upd (fun _ => 0) (0 : Int32).toNatClampNeg ((upd (upd (upd (fun _ => 0) (0 : Int32).toNatClampNeg v5.toInt64) (1 : Int32).toNatClampNeg v12.toInt64) (2 : Int32).toNatClampNeg v19.toInt64) (0 : Int32).toNatClampNeg)) (1 : Int32).toNatClampNeg ((upd (upd (upd (fun _ => 0) (0 : Int32).toNatClampNeg v5.toInt64) (1 : Int32).toNatClampNeg v12.toInt64) (2 : Int32).toNatClampNeg v19.toInt64) (1 : Int32).toNatClampNeg)) (2 : Int32).toNatClampNeg ((upd (upd (upd (fun _ => 0) (0 : Int32).toNatClampNeg v5.toInt64) (1 : Int32).toNatClampNeg v12.toInt64) (2 : Int32).toNatClampNeg v19.toInt64) (2 : Int32).toNatClampNeg)) (1 : Int32).toNatClampNeg) (z174_A_sa_207 (1 : Int32).toNatClampNeg)) = (0 : Int32) then v137.toInt64 else v143.toInt64)) := by rw [hz191_A_va_207, if_neg hc176]
      have q_z191_A_sa_207 : z191_A_sa_207 = (upd z174_A_sa_207 (1 : Int32).toNatClampNeg (if (own_z ((upd (upd (upd (fun _ => 0) (0 : Int32).toNatClampNeg ((upd (upd (upd (fun _ => 0) (0 : Int32).toNatClampNeg v5.toInt64) (1 : Int32).toNatClampNeg v12.toInt64) (2 : Int32).toNatClampNeg v19.toInt64) (0 : Int32).toNatClampNeg)) (1 : Int32).toNatClampNeg ((upd (upd (upd (fun _ => 0) (0 : Int32).toNatClampNeg v5.toInt64) (1 : Int32).toNatClampNeg v12.toInt64) (2 : Int32).toNatClampNeg v19.toInt64) (1 : Int32).toNatClampNeg)) (2 : Int32).toNatClampNeg ((upd (upd (upd (fun _ => 0) (0 : Int32).toNatClampNeg v5.toInt64) (1 : Int32).toNatClampNeg v12.toInt64) (2 : Int32).toNatClampNeg v19.toInt64) (2 : Int32).toNatClampNeg)) (1 : Int32).toNatClampNeg) (z174_A_sa_207 (1 : Int32).toNatClampNeg)) = (0 : Int32) then (1 : Int32) else (2 : Int32))) := by rw [hz191_A_sa_207, if_neg hc176]
      refine ⟨_, _, _, X231, rfl, N231, Zs, Ol, E_b199, A_b199, E_b206, F_rows_b206, F_columns_b206, F_cost_b206, F_lower_b206, F_upper_b206, F_value_b206, F_status_b206, F_reduced_b206, E_rl_207, F_size_rl_207, A_co_207, (by rw [q_z191_A_lo_207]; exact A_lo_207), (by rw [q_z191_A_up_207]; exact A_up_207), (by rw [q_z191_A_va_207]; exact A_va_207), (by rw [q_z191_A_sa_207]; exact A_sa_207), A_re_207, fun t k => ?_⟩
      exact pre232 t k
  have hV2 := own_fite hz191_A_va_207 hV1 (own_upd hV1 (own_itS (own_smB s1) (own_smB s2)))
  have pre234 : ∀ t, Steps p.tables e below (T233.setTop (mkF m 193 #[.val (.int p1), .val (.int p2), .val (.int p3), .val (.int p4), .val (.int p5), .val (.int p6), .val (.int v5), .val (.int v12), .val (.int v19), .val (.int v26), .val (.int v34), .val (.int v43), .val (.int v52), .val (.ref b199), .val (.ref b206), .val (.int z103_s0), .val (.int z117_s0), .val (.int z131_s0), .val (.int v137), .val (.int v143), .val (.int v149), .val (.int v155), .unset, .unset, .unset, .unset, .unset, .unset, .unset, .unset] [(.int z131_s0)])) t → Steps p.tables e below (s₁.setTop (entryFrame m #[(.int p1), (.int p2), (.int p3), (.int p4), (.int p5), (.int p6)] maxLocals)) t := fun t k => pre233 t (by
    show Steps p.tables e below (T233.setTop (mkF m 191 #[.val (.int p1), .val (.int p2), .val (.int p3), .val (.int p4), .val (.int p5), .val (.int p6), .val (.int v5), .val (.int v12), .val (.int v19), .val (.int v26), .val (.int v34), .val (.int v43), .val (.int v52), .val (.ref b199), .val (.ref b206), .val (.int z103_s0), .val (.int z117_s0), .val (.int z131_s0), .val (.int v137), .val (.int v143), .val (.int v149), .val (.int v155), .unset, .unset, .unset, .unset, .unset, .unset, .unset, .unset] [])) _
    refine XS.iload X233.here hx rfl (hb hby at_191) rfl ?_
    exact k)
  obtain ⟨z208_A_lo_207, hz208_A_lo_207⟩ : ∃ z : Nat → Int64, z = (if z131_s0 = (0 : Int32) then z191_A_lo_207 else (upd z191_A_lo_207 (2 : Int32).toNatClampNeg v149.toInt64)) := ⟨_, rfl⟩
  obtain ⟨z208_A_up_207, hz208_A_up_207⟩ : ∃ z : Nat → Int64, z = (if z131_s0 = (0 : Int32) then z191_A_up_207 else (upd z191_A_up_207 (2 : Int32).toNatClampNeg v155.toInt64)) := ⟨_, rfl⟩
  obtain ⟨z208_A_va_207, hz208_A_va_207⟩ : ∃ z : Nat → Int64, z = (if z131_s0 = (0 : Int32) then z191_A_va_207 else (upd z191_A_va_207 (2 : Int32).toNatClampNeg (if (own_z ((upd (upd (upd (fun _ => 0) (0 : Int32).toNatClampNeg ((upd (upd (upd (fun _ => 0) (0 : Int32).toNatClampNeg v5.toInt64) (1 : Int32).toNatClampNeg v12.toInt64) (2 : Int32).toNatClampNeg v19.toInt64) (0 : Int32).toNatClampNeg)) (1 : Int32).toNatClampNeg ((upd (upd (upd (fun _ => 0) (0 : Int32).toNatClampNeg v5.toInt64) (1 : Int32).toNatClampNeg v12.toInt64) (2 : Int32).toNatClampNeg v19.toInt64) (1 : Int32).toNatClampNeg)) (2 : Int32).toNatClampNeg ((upd (upd (upd (fun _ => 0) (0 : Int32).toNatClampNeg v5.toInt64) (1 : Int32).toNatClampNeg v12.toInt64) (2 : Int32).toNatClampNeg v19.toInt64) (2 : Int32).toNatClampNeg)) (2 : Int32).toNatClampNeg) (z191_A_sa_207 (2 : Int32).toNatClampNeg)) = (0 : Int32) then v149.toInt64 else v155.toInt64))) := ⟨_, rfl⟩
  obtain ⟨z208_A_sa_207, hz208_A_sa_207⟩ : ∃ z : Nat → Int32, z = (if z131_s0 = (0 : Int32) then z191_A_sa_207 else (upd z191_A_sa_207 (2 : Int32).toNatClampNeg (if (own_z ((upd (upd (upd (fun _ => 0) (0 : Int32).toNatClampNeg ((upd (upd (upd (fun _ => 0) (0 : Int32).toNatClampNeg v5.toInt64) (1 : Int32).toNatClampNeg v12.toInt64) (2 : Int32).toNatClampNeg v19.toInt64) (0 : Int32).toNatClampNeg)) (1 : Int32).toNatClampNeg ((upd (upd (upd (fun _ => 0) (0 : Int32).toNatClampNeg v5.toInt64) (1 : Int32).toNatClampNeg v12.toInt64) (2 : Int32).toNatClampNeg v19.toInt64) (1 : Int32).toNatClampNeg)) (2 : Int32).toNatClampNeg ((upd (upd (upd (fun _ => 0) (0 : Int32).toNatClampNeg v5.toInt64) (1 : Int32).toNatClampNeg v12.toInt64) (2 : Int32).toNatClampNeg v19.toInt64) (2 : Int32).toNatClampNeg)) (2 : Int32).toNatClampNeg) (z191_A_sa_207 (2 : Int32).toNatClampNeg)) = (0 : Int32) then (1 : Int32) else (2 : Int32)))) := ⟨_, rfl⟩
  obtain ⟨T238, Lc238, h238, X238, e238, N238, Zs, Ol, E_b199, A_b199, E_b206, F_rows_b206, F_columns_b206, F_cost_b206, F_lower_b206, F_upper_b206, F_value_b206, F_status_b206, F_reduced_b206, E_rl_207, F_size_rl_207, A_co_207, A_lo_207, A_up_207, A_va_207, A_sa_207, A_re_207, pre238⟩ : ∃ (T' : State) (locs' : List Loc) (h' : Heap), Stand p l e room_1 s m #[(.int p1), (.int p2), (.int p3), (.int p4), (.int p5), (.int p6)] below meth c T' locs' 13 42 ∧ T'.heap = h' ∧ Fr n0 locs' ∧ (n0 ≤ h'.size) ∧ (Old Z n0 h') ∧ (Exa Z h' b199 "[D") ∧ (ArD Z h' b199 (3 : Int32) (upd (upd (upd (fun _ => 0) (0 : Int32).toNatClampNeg v5.toInt64) (1 : Int32).toNatClampNeg v12.toInt64) (2 : Int32).toNatClampNeg v19.toInt64)) ∧ (Exa Z h' b206 "com/example/regolo/regolo/engine/Relaxation") ∧ (Fld Z h' b206 "com/example/regolo/regolo/engine/Relaxation" "rows" "Ljava/util/List;" (.ref rl_207)) ∧ (Fld Z h' b206 "com/example/regolo/regolo/engine/Relaxation" "columns" "I" (.int (3 : Int32))) ∧ (Fld Z h' b206 "com/example/regolo/regolo/engine/Relaxation" "cost" "[D" (.ref co_207)) ∧ (Fld Z h' b206 "com/example/regolo/regolo/engine/Relaxation" "lower" "[D" (.ref lo_207)) ∧ (Fld Z h' b206 "com/example/regolo/regolo/engine/Relaxation" "upper" "[D" (.ref up_207)) ∧ (Fld Z h' b206 "com/example/regolo/regolo/engine/Relaxation" "value" "[D" (.ref va_207)) ∧ (Fld Z h' b206 "com/example/regolo/regolo/engine/Relaxation" "status" "[I" (.ref sa_207)) ∧ (Fld Z h' b206 "com/example/regolo/regolo/engine/Relaxation" "reduced" "[D" (.ref re_207)) ∧ (Exa Z h' rl_207 "java/util/ArrayList") ∧ (Fld Z h' rl_207 "java/util/ArrayList" "size" "I" (.int (0 : Int32))) ∧ (ArD Z h' co_207 (3 : Int32) (upd (upd (upd (fun _ => 0) (0 : Int32).toNatClampNeg v5.toInt64) (1 : Int32).toNatClampNeg v12.toInt64) (2 : Int32).toNatClampNeg v19.toInt64)) ∧ (ArD Z h' lo_207 (3 : Int32) z208_A_lo_207) ∧ (ArD Z h' up_207 (3 : Int32) z208_A_up_207) ∧ (ArD Z h' va_207 (3 : Int32) z208_A_va_207) ∧ (ArI Z h' sa_207 (3 : Int32) z208_A_sa_207) ∧ (ArD Z h' re_207 (3 : Int32) (upd (upd (upd (fun _ => 0) (0 : Int32).toNatClampNeg ((upd (upd (upd (fun _ => 0) (0 : Int32).toNatClampNeg v5.toInt64) (1 : Int32).toNatClampNeg v12.toInt64) (2 : Int32).toNatClampNeg v19.toInt64) (0 : Int32).toNatClampNeg)) (1 : Int32).toNatClampNeg ((upd (upd (upd (fun _ => 0) (0 : Int32).toNatClampNeg v5.toInt64) (1 : Int32).toNatClampNeg v12.toInt64) (2 : Int32).toNatClampNeg v19.toInt64) (1 : Int32).toNatClampNeg)) (2 : Int32).toNatClampNeg ((upd (upd (upd (fun _ => 0) (0 : Int32).toNatClampNeg v5.toInt64) (1 : Int32).toNatClampNeg v12.toInt64) (2 : Int32).toNatClampNeg v19.toInt64) (2 : Int32).toNatClampNeg))) ∧ ∀ t, Steps p.tables e below (T'.setTop (mkF m 208 #[.val (.int p1), .val (.int p2), .val (.int p3), .val (.int p4), .val (.int p5), .val (.int p6), .val (.int v5), .val (.int v12), .val (.int v19), .val (.int v26), .val (.int v34), .val (.int v43), .val (.int v52), .val (.ref b199), .val (.ref b206), .val (.int z103_s0), .val (.int z117_s0), .val (.int z131_s0), .val (.int v137), .val (.int v143), .val (.int v149), .val (.int v155), .unset, .unset, .unset, .unset, .unset, .unset, .unset, .unset] [])) t → Steps p.tables e below (s₁.setTop (entryFrame m #[(.int p1), (.int p2), (.int p3), (.int p4), (.int p5), (.int p6)] maxLocals)) t := by
    by_cases hc193 : z131_s0 = (0 : Int32)
    ·
      have pre235 : ∀ t, Steps p.tables e below (T233.setTop (mkF m 208 #[.val (.int p1), .val (.int p2), .val (.int p3), .val (.int p4), .val (.int p5), .val (.int p6), .val (.int v5), .val (.int v12), .val (.int v19), .val (.int v26), .val (.int v34), .val (.int v43), .val (.int v52), .val (.ref b199), .val (.ref b206), .val (.int z103_s0), .val (.int z117_s0), .val (.int z131_s0), .val (.int v137), .val (.int v143), .val (.int v149), .val (.int v155), .unset, .unset, .unset, .unset, .unset, .unset, .unset, .unset] [])) t → Steps p.tables e below (s₁.setTop (entryFrame m #[(.int p1), (.int p2), (.int p3), (.int p4), (.int p5), (.int p6)] maxLocals)) t := fun t k => pre234 t (by
        show Steps p.tables e below (T233.setTop (mkF m 193 #[.val (.int p1), .val (.int p2), .val (.int p3), .val (.int p4), .val (.int p5), .val (.int p6), .val (.int v5), .val (.int v12), .val (.int v19), .val (.int v26), .val (.int v34), .val (.int v43), .val (.int v52), .val (.ref b199), .val (.ref b206), .val (.int z103_s0), .val (.int z117_s0), .val (.int z131_s0), .val (.int v137), .val (.int v143), .val (.int v149), .val (.int v155), .unset, .unset, .unset, .unset, .unset, .unset, .unset, .unset] [(.int z131_s0)])) _
        refine XS.ifYes X233.here hx rfl (pc0 := 193) (pc' := 208) rfl (hb hby at_193) rfl ((if0 _ _).trans (teq hc193).1) (by decide) (by decide) ?_
        exact k)
      have q_z208_A_lo_207 : z208_A_lo_207 = z191_A_lo_207 := by rw [hz208_A_lo_207, if_pos hc193]
      have q_z208_A_up_207 : z208_A_up_207 = z191_A_up_207 := by rw [hz208_A_up_207, if_pos hc193]
      have q_z208_A_va_207 : z208_A_va_207 = z191_A_va_207 := by rw [hz208_A_va_207, if_pos hc193]
      have q_z208_A_sa_207 : z208_A_sa_207 = z191_A_sa_207 := by rw [hz208_A_sa_207, if_pos hc193]
      refine ⟨_, _, _, X233, e233, N233, Zs, Ol, E_b199, A_b199, E_b206, F_rows_b206, F_columns_b206, F_cost_b206, F_lower_b206, F_upper_b206, F_value_b206, F_status_b206, F_reduced_b206, E_rl_207, F_size_rl_207, A_co_207, (by rw [q_z208_A_lo_207]; exact A_lo_207), (by rw [q_z208_A_up_207]; exact A_up_207), (by rw [q_z208_A_va_207]; exact A_va_207), (by rw [q_z208_A_sa_207]; exact A_sa_207), A_re_207, fun t k => ?_⟩
      exact pre235 t k
    ·
      obtain ⟨cq236, kq236, q236a, q236b, q236c⟩ := isOf hZ e233 E_b206
      obtain ⟨_, _, ⟨T236, L236, k236, n236⟩, -, X236, ⟨Lc236, hQ236, l236, y236, z236⟩, st236⟩ := X233.virtualBack hx (y := (⟨"com/example/regolo/regolo/engine/Relaxation", "bound", "(IDD)V"⟩ : MethodName)) (z := (⟨"com/example/regolo/regolo/engine/Relaxation", "bound", "(IDD)V"⟩ : MethodName)) hown (mvT hZ (hw _ (List.mem_of_getElem? (i := 83) rfl))) (mvT hZ (hw _ (List.mem_of_getElem? (i := 84) rfl))) (notFace_of_selects (args := #[]) (mvT hZ (hw _ (List.mem_of_getElem? (i := 86) rfl)))) (mvT hZ (hw _ (List.mem_of_getElem? (i := 86) rfl))) (mvT hZ (hw _ (List.mem_of_getElem? (i := 85) rfl))) (by decide) (backOf (W := 0) (rmB l Z a0 hw [] b206 (2 : Int32) (v149.toInt64) (v155.toInt64) rl_207 lo_207 up_207 va_207 sa_207 re_207 z191_A_lo_207 z191_A_up_207 z191_A_va_207 z191_A_sa_207 (upd (upd (upd (fun _ => 0) (0 : Int32).toNatClampNeg ((upd (upd (upd (fun _ => 0) (0 : Int32).toNatClampNeg v5.toInt64) (1 : Int32).toNatClampNeg v12.toInt64) (2 : Int32).toNatClampNeg v19.toInt64) (0 : Int32).toNatClampNeg)) (1 : Int32).toNatClampNeg ((upd (upd (upd (fun _ => 0) (0 : Int32).toNatClampNeg v5.toInt64) (1 : Int32).toNatClampNeg v12.toInt64) (2 : Int32).toNatClampNeg v19.toInt64) (1 : Int32).toNatClampNeg)) (2 : Int32).toNatClampNeg ((upd (upd (upd (fun _ => 0) (0 : Int32).toNatClampNeg v5.toInt64) (1 : Int32).toNatClampNeg v12.toInt64) (2 : Int32).toNatClampNeg v19.toInt64) (2 : Int32).toNatClampNeg)) h233 n0 Zs E_b206 F_rows_b206 F_lower_b206 F_upper_b206 F_value_b206 F_status_b206 F_reduced_b206 E_rl_207 F_size_rl_207 A_lo_207 A_up_207 A_va_207 A_sa_207 A_re_207 g_lo_207 g_up_207 g_va_207 g_sa_207 ne_b206_rl_207 ne_b206_lo_207 ne_b206_up_207 ne_b206_va_207 ne_b206_sa_207 ne_b206_re_207 ne_rl_207_lo_207 ne_rl_207_up_207 ne_rl_207_va_207 ne_rl_207_sa_207 ne_rl_207_re_207 ne_lo_207_up_207 ne_lo_207_va_207 ne_lo_207_sa_207 ne_lo_207_re_207 ne_up_207_va_207 ne_up_207_sa_207 ne_up_207_re_207 ne_va_207_sa_207 ne_va_207_re_207 ne_sa_207_re_207 (by decide) (own_smB s3) (own_smB s4) hV2 (own_REs hR0) (own_SA2 hz174_A_sa_207 hz191_A_sa_207)) hZ (hw _ (List.mem_of_getElem? (i := 87) rfl)) (hw _ (List.mem_of_getElem? (i := 10) rfl)) (by decide) (by decide)) q236a q236c (g := (mkF m 205 #[.val (.int p1), .val (.int p2), .val (.int p3), .val (.int p4), .val (.int p5), .val (.int p6), .val (.int v5), .val (.int v12), .val (.int v19), .val (.int v26), .val (.int v34), .val (.int v43), .val (.int v52), .val (.ref b199), .val (.ref b206), .val (.int z103_s0), .val (.int z117_s0), .val (.int z131_s0), .val (.int v137), .val (.int v143), .val (.int v149), .val (.int v155), .unset, .unset, .unset, .unset, .unset, .unset, .unset, .unset] [(.double (FP.l2d v155.toInt64)), (.double (FP.l2d v149.toInt64)), (.int (2 : Int32)), (.ref b206)])) rfl (by rw [hml]; rfl) (Steps.refl _) (argsL := [(.int (2 : Int32)), (.double (FP.l2d v149.toInt64)), (.double (FP.l2d v155.toInt64))]) (rest := []) (lenOf pd_7 rfl) rfl (by show 2 * 0 + _ ≤ _; exact Nat.le_of_eq rfl) (hb hby at_205) (fun _ _ => ⟨rfl, e233, (by decide : 13 + 0 ≤ _), (by decide : 42 + 0 ≤ _)⟩)
      dsimp only [Pt.U, Pt.locs, Pt.cells, Pt.slots] at X236 l236 y236 z236 st236 hQ236
      subst l236 y236 z236
      obtain ⟨rfl, N236q, K236, P236_1, P236_2, P236_3, P236_4⟩ := hQ236
      have Zs : n0 ≤ T236.heap.size := Nat.le_trans Zs K236.1
      have Ol : Old Z n0 T236.heap := Ol.keep K236 (allS g_lo_207 (allS g_up_207 (allS g_va_207 (allS g_sa_207 all0))))
      have E_b199 : Exa Z T236.heap b199 "[D" := E_b199.keep K236
      have A_b199 : ArD Z T236.heap b199 (3 : Int32) (upd (upd (upd (fun _ => 0) (0 : Int32).toNatClampNeg v5.toInt64) (1 : Int32).toNatClampNeg v12.toInt64) (2 : Int32).toNatClampNeg v19.toInt64) := A_b199.keep K236 (ninS ne_b199_lo_207 (ninS ne_b199_up_207 (ninS ne_b199_va_207 (ninS ne_b199_sa_207 nin0))))
      have E_b206 : Exa Z T236.heap b206 "com/example/regolo/regolo/engine/Relaxation" := E_b206.keep K236
      have F_rows_b206 : Fld Z T236.heap b206 "com/example/regolo/regolo/engine/Relaxation" "rows" "Ljava/util/List;" (.ref rl_207) := F_rows_b206.keep K236 (ninS ne_b206_lo_207 (ninS ne_b206_up_207 (ninS ne_b206_va_207 (ninS ne_b206_sa_207 nin0))))
      have F_columns_b206 : Fld Z T236.heap b206 "com/example/regolo/regolo/engine/Relaxation" "columns" "I" (.int (3 : Int32)) := F_columns_b206.keep K236 (ninS ne_b206_lo_207 (ninS ne_b206_up_207 (ninS ne_b206_va_207 (ninS ne_b206_sa_207 nin0))))
      have F_cost_b206 : Fld Z T236.heap b206 "com/example/regolo/regolo/engine/Relaxation" "cost" "[D" (.ref co_207) := F_cost_b206.keep K236 (ninS ne_b206_lo_207 (ninS ne_b206_up_207 (ninS ne_b206_va_207 (ninS ne_b206_sa_207 nin0))))
      have F_lower_b206 : Fld Z T236.heap b206 "com/example/regolo/regolo/engine/Relaxation" "lower" "[D" (.ref lo_207) := F_lower_b206.keep K236 (ninS ne_b206_lo_207 (ninS ne_b206_up_207 (ninS ne_b206_va_207 (ninS ne_b206_sa_207 nin0))))
      have F_upper_b206 : Fld Z T236.heap b206 "com/example/regolo/regolo/engine/Relaxation" "upper" "[D" (.ref up_207) := F_upper_b206.keep K236 (ninS ne_b206_lo_207 (ninS ne_b206_up_207 (ninS ne_b206_va_207 (ninS ne_b206_sa_207 nin0))))
      have F_value_b206 : Fld Z T236.heap b206 "com/example/regolo/regolo/engine/Relaxation" "value" "[D" (.ref va_207) := F_value_b206.keep K236 (ninS ne_b206_lo_207 (ninS ne_b206_up_207 (ninS ne_b206_va_207 (ninS ne_b206_sa_207 nin0))))
      have F_status_b206 : Fld Z T236.heap b206 "com/example/regolo/regolo/engine/Relaxation" "status" "[I" (.ref sa_207) := F_status_b206.keep K236 (ninS ne_b206_lo_207 (ninS ne_b206_up_207 (ninS ne_b206_va_207 (ninS ne_b206_sa_207 nin0))))
      have F_reduced_b206 : Fld Z T236.heap b206 "com/example/regolo/regolo/engine/Relaxation" "reduced" "[D" (.ref re_207) := F_reduced_b206.keep K236 (ninS ne_b206_lo_207 (ninS ne_b206_up_207 (ninS ne_b206_va_207 (ninS ne_b206_sa_207 nin0))))
      have E_rl_207 : Exa Z T236.heap rl_207 "java/util/ArrayList" := E_rl_207.keep K236
      have F_size_rl_207 : Fld Z T236.heap rl_207 "java/util/ArrayList" "size" "I" (.int (0 : Int32)) := F_size_rl_207.keep K236 (ninS ne_rl_207_lo_207 (ninS ne_rl_207_up_207 (ninS ne_rl_207_va_207 (ninS ne_rl_207_sa_207 nin0))))
      have A_co_207 : ArD Z T236.heap co_207 (3 : Int32) (upd (upd (upd (fun _ => 0) (0 : Int32).toNatClampNeg v5.toInt64) (1 : Int32).toNatClampNeg v12.toInt64) (2 : Int32).toNatClampNeg v19.toInt64) := A_co_207.keep K236 (ninS ne_co_207_lo_207 (ninS ne_co_207_up_207 (ninS ne_co_207_va_207 (ninS ne_co_207_sa_207 nin0))))
      have A_re_207 : ArD Z T236.heap re_207 (3 : Int32) (upd (upd (upd (fun _ => 0) (0 : Int32).toNatClampNeg ((upd (upd (upd (fun _ => 0) (0 : Int32).toNatClampNeg v5.toInt64) (1 : Int32).toNatClampNeg v12.toInt64) (2 : Int32).toNatClampNeg v19.toInt64) (0 : Int32).toNatClampNeg)) (1 : Int32).toNatClampNeg ((upd (upd (upd (fun _ => 0) (0 : Int32).toNatClampNeg v5.toInt64) (1 : Int32).toNatClampNeg v12.toInt64) (2 : Int32).toNatClampNeg v19.toInt64) (1 : Int32).toNatClampNeg)) (2 : Int32).toNatClampNeg ((upd (upd (upd (fun _ => 0) (0 : Int32).toNatClampNeg v5.toInt64) (1 : Int32).toNatClampNeg v12.toInt64) (2 : Int32).toNatClampNeg v19.toInt64) (2 : Int32).toNatClampNeg)) := A_re_207.keep K236 (ninS (Ne.symm ne_lo_207_re_207) (ninS (Ne.symm ne_up_207_re_207) (ninS (Ne.symm ne_va_207_re_207) (ninS (Ne.symm ne_sa_207_re_207) nin0))))
      have A_lo_207 : ArD Z T236.heap lo_207 (3 : Int32) (upd z191_A_lo_207 (2 : Int32).toNatClampNeg v149.toInt64) := P236_1
      have A_up_207 : ArD Z T236.heap up_207 (3 : Int32) (upd z191_A_up_207 (2 : Int32).toNatClampNeg v155.toInt64) := P236_2
      have A_va_207 : ArD Z T236.heap va_207 (3 : Int32) (upd z191_A_va_207 (2 : Int32).toNatClampNeg (if (own_z ((upd (upd (upd (fun _ => 0) (0 : Int32).toNatClampNeg ((upd (upd (upd (fun _ => 0) (0 : Int32).toNatClampNeg v5.toInt64) (1 : Int32).toNatClampNeg v12.toInt64) (2 : Int32).toNatClampNeg v19.toInt64) (0 : Int32).toNatClampNeg)) (1 : Int32).toNatClampNeg ((upd (upd (upd (fun _ => 0) (0 : Int32).toNatClampNeg v5.toInt64) (1 : Int32).toNatClampNeg v12.toInt64) (2 : Int32).toNatClampNeg v19.toInt64) (1 : Int32).toNatClampNeg)) (2 : Int32).toNatClampNeg ((upd (upd (upd (fun _ => 0) (0 : Int32).toNatClampNeg v5.toInt64) (1 : Int32).toNatClampNeg v12.toInt64) (2 : Int32).toNatClampNeg v19.toInt64) (2 : Int32).toNatClampNeg)) (2 : Int32).toNatClampNeg) (z191_A_sa_207 (2 : Int32).toNatClampNeg)) = (0 : Int32) then v149.toInt64 else v155.toInt64)) := P236_3
      have A_sa_207 : ArI Z T236.heap sa_207 (3 : Int32) (upd z191_A_sa_207 (2 : Int32).toNatClampNeg (if (own_z ((upd (upd (upd (fun _ => 0) (0 : Int32).toNatClampNeg ((upd (upd (upd (fun _ => 0) (0 : Int32).toNatClampNeg v5.toInt64) (1 : Int32).toNatClampNeg v12.toInt64) (2 : Int32).toNatClampNeg v19.toInt64) (0 : Int32).toNatClampNeg)) (1 : Int32).toNatClampNeg ((upd (upd (upd (fun _ => 0) (0 : Int32).toNatClampNeg v5.toInt64) (1 : Int32).toNatClampNeg v12.toInt64) (2 : Int32).toNatClampNeg v19.toInt64) (1 : Int32).toNatClampNeg)) (2 : Int32).toNatClampNeg ((upd (upd (upd (fun _ => 0) (0 : Int32).toNatClampNeg v5.toInt64) (1 : Int32).toNatClampNeg v12.toInt64) (2 : Int32).toNatClampNeg v19.toInt64) (2 : Int32).toNatClampNeg)) (2 : Int32).toNatClampNeg) (z191_A_sa_207 (2 : Int32).toNatClampNeg)) = (0 : Int32) then (1 : Int32) else (2 : Int32))) := P236_4
      have N236 := Fr.app N233 N236q
      have pre237 : ∀ t, Steps p.tables e below (T236.setTop (mkF m 208 #[.val (.int p1), .val (.int p2), .val (.int p3), .val (.int p4), .val (.int p5), .val (.int p6), .val (.int v5), .val (.int v12), .val (.int v19), .val (.int v26), .val (.int v34), .val (.int v43), .val (.int v52), .val (.ref b199), .val (.ref b206), .val (.int z103_s0), .val (.int z117_s0), .val (.int z131_s0), .val (.int v137), .val (.int v143), .val (.int v149), .val (.int v155), .unset, .unset, .unset, .unset, .unset, .unset, .unset, .unset] [])) t → Steps p.tables e below (s₁.setTop (entryFrame m #[(.int p1), (.int p2), (.int p3), (.int p4), (.int p5), (.int p6)] maxLocals)) t := fun t k => pre234 t (by
        show Steps p.tables e below (T233.setTop (mkF m 193 #[.val (.int p1), .val (.int p2), .val (.int p3), .val (.int p4), .val (.int p5), .val (.int p6), .val (.int v5), .val (.int v12), .val (.int v19), .val (.int v26), .val (.int v34), .val (.int v43), .val (.int v52), .val (.ref b199), .val (.ref b206), .val (.int z103_s0), .val (.int z117_s0), .val (.int z131_s0), .val (.int v137), .val (.int v143), .val (.int v149), .val (.int v155), .unset, .unset, .unset, .unset, .unset, .unset, .unset, .unset] [(.int z131_s0)])) _
        refine XS.ifNo X233.here hx rfl (hb hby at_193) rfl ((if0 _ _).trans (feq hc193).1) ?_
        show Steps p.tables e below (T233.setTop (mkF m 196 #[.val (.int p1), .val (.int p2), .val (.int p3), .val (.int p4), .val (.int p5), .val (.int p6), .val (.int v5), .val (.int v12), .val (.int v19), .val (.int v26), .val (.int v34), .val (.int v43), .val (.int v52), .val (.ref b199), .val (.ref b206), .val (.int z103_s0), .val (.int z117_s0), .val (.int z131_s0), .val (.int v137), .val (.int v143), .val (.int v149), .val (.int v155), .unset, .unset, .unset, .unset, .unset, .unset, .unset, .unset] [])) _
        refine XS.aload X233.here hx rfl (hb hby at_196) rfl rfl ?_
        show Steps p.tables e below (T233.setTop (mkF m 198 #[.val (.int p1), .val (.int p2), .val (.int p3), .val (.int p4), .val (.int p5), .val (.int p6), .val (.int v5), .val (.int v12), .val (.int v19), .val (.int v26), .val (.int v34), .val (.int v43), .val (.int v52), .val (.ref b199), .val (.ref b206), .val (.int z103_s0), .val (.int z117_s0), .val (.int z131_s0), .val (.int v137), .val (.int v143), .val (.int v149), .val (.int v155), .unset, .unset, .unset, .unset, .unset, .unset, .unset, .unset] [(.ref b206)])) _
        refine XS.iconst X233.here hx rfl (hb hby at_198) ?_
        show Steps p.tables e below (T233.setTop (mkF m 199 #[.val (.int p1), .val (.int p2), .val (.int p3), .val (.int p4), .val (.int p5), .val (.int p6), .val (.int v5), .val (.int v12), .val (.int v19), .val (.int v26), .val (.int v34), .val (.int v43), .val (.int v52), .val (.ref b199), .val (.ref b206), .val (.int z103_s0), .val (.int z117_s0), .val (.int z131_s0), .val (.int v137), .val (.int v143), .val (.int v149), .val (.int v155), .unset, .unset, .unset, .unset, .unset, .unset, .unset, .unset] [(.int (2 : Int32)), (.ref b206)])) _
        refine XS.iload X233.here hx rfl (hb hby at_199) rfl ?_
        show Steps p.tables e below (T233.setTop (mkF m 201 #[.val (.int p1), .val (.int p2), .val (.int p3), .val (.int p4), .val (.int p5), .val (.int p6), .val (.int v5), .val (.int v12), .val (.int v19), .val (.int v26), .val (.int v34), .val (.int v43), .val (.int v52), .val (.ref b199), .val (.ref b206), .val (.int z103_s0), .val (.int z117_s0), .val (.int z131_s0), .val (.int v137), .val (.int v143), .val (.int v149), .val (.int v155), .unset, .unset, .unset, .unset, .unset, .unset, .unset, .unset] [(.int v149), (.int (2 : Int32)), (.ref b206)])) _
        refine XS.i2dS X233.here hx rfl (hb hby at_201) rfl (i2d_w _) ?_
        show Steps p.tables e below (T233.setTop (mkF m 202 #[.val (.int p1), .val (.int p2), .val (.int p3), .val (.int p4), .val (.int p5), .val (.int p6), .val (.int v5), .val (.int v12), .val (.int v19), .val (.int v26), .val (.int v34), .val (.int v43), .val (.int v52), .val (.ref b199), .val (.ref b206), .val (.int z103_s0), .val (.int z117_s0), .val (.int z131_s0), .val (.int v137), .val (.int v143), .val (.int v149), .val (.int v155), .unset, .unset, .unset, .unset, .unset, .unset, .unset, .unset] [(.double (FP.l2d v149.toInt64)), (.int (2 : Int32)), (.ref b206)])) _
        refine XS.iload X233.here hx rfl (hb hby at_202) rfl ?_
        show Steps p.tables e below (T233.setTop (mkF m 204 #[.val (.int p1), .val (.int p2), .val (.int p3), .val (.int p4), .val (.int p5), .val (.int p6), .val (.int v5), .val (.int v12), .val (.int v19), .val (.int v26), .val (.int v34), .val (.int v43), .val (.int v52), .val (.ref b199), .val (.ref b206), .val (.int z103_s0), .val (.int z117_s0), .val (.int z131_s0), .val (.int v137), .val (.int v143), .val (.int v149), .val (.int v155), .unset, .unset, .unset, .unset, .unset, .unset, .unset, .unset] [(.int v155), (.double (FP.l2d v149.toInt64)), (.int (2 : Int32)), (.ref b206)])) _
        refine XS.i2dS X233.here hx rfl (hb hby at_204) rfl (i2d_w _) ?_
        show Steps p.tables e below (T233.setTop (mkF m 205 #[.val (.int p1), .val (.int p2), .val (.int p3), .val (.int p4), .val (.int p5), .val (.int p6), .val (.int v5), .val (.int v12), .val (.int v19), .val (.int v26), .val (.int v34), .val (.int v43), .val (.int v52), .val (.ref b199), .val (.ref b206), .val (.int z103_s0), .val (.int z117_s0), .val (.int z131_s0), .val (.int v137), .val (.int v143), .val (.int v149), .val (.int v155), .unset, .unset, .unset, .unset, .unset, .unset, .unset, .unset] [(.double (FP.l2d v155.toInt64)), (.double (FP.l2d v149.toInt64)), (.int (2 : Int32)), (.ref b206)])) _
        refine st236.trans ?_
        exact k)
      have q_z208_A_lo_207 : z208_A_lo_207 = (upd z191_A_lo_207 (2 : Int32).toNatClampNeg v149.toInt64) := by rw [hz208_A_lo_207, if_neg hc193]
      have q_z208_A_up_207 : z208_A_up_207 = (upd z191_A_up_207 (2 : Int32).toNatClampNeg v155.toInt64) := by rw [hz208_A_up_207, if_neg hc193]
      have q_z208_A_va_207 : z208_A_va_207 = (upd z191_A_va_207 (2 : Int32).toNatClampNeg (if (own_z ((upd (upd (upd (fun _ => 0) (0 : Int32).toNatClampNeg ((upd (upd (upd (fun _ => 0) (0 : Int32).toNatClampNeg v5.toInt64) (1 : Int32).toNatClampNeg v12.toInt64) (2 : Int32).toNatClampNeg v19.toInt64) (0 : Int32).toNatClampNeg)) (1 : Int32).toNatClampNeg ((upd (upd (upd (fun _ => 0) (0 : Int32).toNatClampNeg v5.toInt64) (1 : Int32).toNatClampNeg v12.toInt64) (2 : Int32).toNatClampNeg v19.toInt64) (1 : Int32).toNatClampNeg)) (2 : Int32).toNatClampNeg ((upd (upd (upd (fun _ => 0) (0 : Int32).toNatClampNeg v5.toInt64) (1 : Int32).toNatClampNeg v12.toInt64) (2 : Int32).toNatClampNeg v19.toInt64) (2 : Int32).toNatClampNeg)) (2 : Int32).toNatClampNeg) (z191_A_sa_207 (2 : Int32).toNatClampNeg)) = (0 : Int32) then v149.toInt64 else v155.toInt64)) := by rw [hz208_A_va_207, if_neg hc193]
      have q_z208_A_sa_207 : z208_A_sa_207 = (upd z191_A_sa_207 (2 : Int32).toNatClampNeg (if (own_z ((upd (upd (upd (fun _ => 0) (0 : Int32).toNatClampNeg ((upd (upd (upd (fun _ => 0) (0 : Int32).toNatClampNeg v5.toInt64) (1 : Int32).toNatClampNeg v12.toInt64) (2 : Int32).toNatClampNeg v19.toInt64) (0 : Int32).toNatClampNeg)) (1 : Int32).toNatClampNeg ((upd (upd (upd (fun _ => 0) (0 : Int32).toNatClampNeg v5.toInt64) (1 : Int32).toNatClampNeg v12.toInt64) (2 : Int32).toNatClampNeg v19.toInt64) (1 : Int32).toNatClampNeg)) (2 : Int32).toNatClampNeg ((upd (upd (upd (fun _ => 0) (0 : Int32).toNatClampNeg v5.toInt64) (1 : Int32).toNatClampNeg v12.toInt64) (2 : Int32).toNatClampNeg v19.toInt64) (2 : Int32).toNatClampNeg)) (2 : Int32).toNatClampNeg) (z191_A_sa_207 (2 : Int32).toNatClampNeg)) = (0 : Int32) then (1 : Int32) else (2 : Int32))) := by rw [hz208_A_sa_207, if_neg hc193]
      refine ⟨_, _, _, X236, rfl, N236, Zs, Ol, E_b199, A_b199, E_b206, F_rows_b206, F_columns_b206, F_cost_b206, F_lower_b206, F_upper_b206, F_value_b206, F_status_b206, F_reduced_b206, E_rl_207, F_size_rl_207, A_co_207, (by rw [q_z208_A_lo_207]; exact A_lo_207), (by rw [q_z208_A_up_207]; exact A_up_207), (by rw [q_z208_A_va_207]; exact A_va_207), (by rw [q_z208_A_sa_207]; exact A_sa_207), A_re_207, fun t k => ?_⟩
      exact pre237 t k
  have hV3 := own_fite hz208_A_va_207 hV2 (own_upd hV2 (own_itS (own_smB s3) (own_smB s4)))
  obtain ⟨_, _, ⟨T239, L239, k239, n239⟩, -, X239, ⟨Lc239, hQ239, l239, y239, z239⟩, st239⟩ := Jvm.LawKit.callS X238 hx (y := (⟨"com/example/regolo/regolo/engine/RelaxationObjectivePinLaw", "expectedValue", "(IZII)J"⟩ : MethodName)) hown (mvT hZ (hw _ (List.mem_of_getElem? (i := 108) rfl))) (mvT hZ (hw _ (List.mem_of_getElem? (i := 109) rfl))) (mvT hZ (hw _ (List.mem_of_getElem? (i := 110) rfl))) (mvT hZ (hw _ (List.mem_of_getElem? (i := 111) rfl))) (by decide) (backOf (W := 0) (rmX l Z a0 hw [] v5 z103_s0 v43 v52 h238 n0 Zs ) hZ (hw _ (List.mem_of_getElem? (i := 111) rfl)) (hw _ (List.mem_of_getElem? (i := 110) rfl)) (by decide) (by decide)) (g := (mkF m 216 #[.val (.int p1), .val (.int p2), .val (.int p3), .val (.int p4), .val (.int p5), .val (.int p6), .val (.int v5), .val (.int v12), .val (.int v19), .val (.int v26), .val (.int v34), .val (.int v43), .val (.int v52), .val (.ref b199), .val (.ref b206), .val (.int z103_s0), .val (.int z117_s0), .val (.int z131_s0), .val (.int v137), .val (.int v143), .val (.int v149), .val (.int v155), .unset, .unset, .unset, .unset, .unset, .unset, .unset, .unset] [(.int v52), (.int v43), (.int z103_s0), (.int v5)])) rfl (by rw [hml]; rfl) (argsL := [(.int v5), (.int z103_s0), (.int v43), (.int v52)]) (rest := []) (lenOf pd_8 rfl) rfl (by show 2 * 0 + _ ≤ _; exact Nat.le_of_eq rfl) (hb hby at_216) (fun _ _ => ⟨rfl, e238, (by decide : 13 + 0 ≤ _), (by decide : 42 + 0 ≤ _)⟩)
  dsimp only [Pt.U, Pt.locs, Pt.cells, Pt.slots] at X239 l239 y239 z239 st239 hQ239
  subst l239 y239 z239
  obtain ⟨rfl, N239q, e239⟩ := hQ239
  have N239 := Fr.app N238 N239q
  obtain ⟨v219, hv219⟩ : ∃ z : Int64, z = (fX v5 z103_s0 v43 v52) := ⟨_, rfl⟩
  have pre240 : ∀ t, Steps p.tables e below (T239.setTop (mkF m 221 #[.val (.int p1), .val (.int p2), .val (.int p3), .val (.int p4), .val (.int p5), .val (.int p6), .val (.int v5), .val (.int v12), .val (.int v19), .val (.int v26), .val (.int v34), .val (.int v43), .val (.int v52), .val (.ref b199), .val (.ref b206), .val (.int z103_s0), .val (.int z117_s0), .val (.int z131_s0), .val (.int v137), .val (.int v143), .val (.int v149), .val (.int v155), .val (.long v219), .second, .unset, .unset, .unset, .unset, .unset, .unset] [])) t → Steps p.tables e below (s₁.setTop (entryFrame m #[(.int p1), (.int p2), (.int p3), (.int p4), (.int p5), (.int p6)] maxLocals)) t := fun t k => pre238 t (by
    show Steps p.tables e below (T238.setTop (mkF m 208 #[.val (.int p1), .val (.int p2), .val (.int p3), .val (.int p4), .val (.int p5), .val (.int p6), .val (.int v5), .val (.int v12), .val (.int v19), .val (.int v26), .val (.int v34), .val (.int v43), .val (.int v52), .val (.ref b199), .val (.ref b206), .val (.int z103_s0), .val (.int z117_s0), .val (.int z131_s0), .val (.int v137), .val (.int v143), .val (.int v149), .val (.int v155), .unset, .unset, .unset, .unset, .unset, .unset, .unset, .unset] [])) _
    refine XS.iload X238.here hx rfl (hb hby at_208) rfl ?_
    show Steps p.tables e below (T238.setTop (mkF m 210 #[.val (.int p1), .val (.int p2), .val (.int p3), .val (.int p4), .val (.int p5), .val (.int p6), .val (.int v5), .val (.int v12), .val (.int v19), .val (.int v26), .val (.int v34), .val (.int v43), .val (.int v52), .val (.ref b199), .val (.ref b206), .val (.int z103_s0), .val (.int z117_s0), .val (.int z131_s0), .val (.int v137), .val (.int v143), .val (.int v149), .val (.int v155), .unset, .unset, .unset, .unset, .unset, .unset, .unset, .unset] [(.int v5)])) _
    refine XS.iload X238.here hx rfl (hb hby at_210) rfl ?_
    show Steps p.tables e below (T238.setTop (mkF m 212 #[.val (.int p1), .val (.int p2), .val (.int p3), .val (.int p4), .val (.int p5), .val (.int p6), .val (.int v5), .val (.int v12), .val (.int v19), .val (.int v26), .val (.int v34), .val (.int v43), .val (.int v52), .val (.ref b199), .val (.ref b206), .val (.int z103_s0), .val (.int z117_s0), .val (.int z131_s0), .val (.int v137), .val (.int v143), .val (.int v149), .val (.int v155), .unset, .unset, .unset, .unset, .unset, .unset, .unset, .unset] [(.int z103_s0), (.int v5)])) _
    refine XS.iload X238.here hx rfl (hb hby at_212) rfl ?_
    show Steps p.tables e below (T238.setTop (mkF m 214 #[.val (.int p1), .val (.int p2), .val (.int p3), .val (.int p4), .val (.int p5), .val (.int p6), .val (.int v5), .val (.int v12), .val (.int v19), .val (.int v26), .val (.int v34), .val (.int v43), .val (.int v52), .val (.ref b199), .val (.ref b206), .val (.int z103_s0), .val (.int z117_s0), .val (.int z131_s0), .val (.int v137), .val (.int v143), .val (.int v149), .val (.int v155), .unset, .unset, .unset, .unset, .unset, .unset, .unset, .unset] [(.int v43), (.int z103_s0), (.int v5)])) _
    refine XS.iload X238.here hx rfl (hb hby at_214) rfl ?_
    show Steps p.tables e below (T238.setTop (mkF m 216 #[.val (.int p1), .val (.int p2), .val (.int p3), .val (.int p4), .val (.int p5), .val (.int p6), .val (.int v5), .val (.int v12), .val (.int v19), .val (.int v26), .val (.int v34), .val (.int v43), .val (.int v52), .val (.ref b199), .val (.ref b206), .val (.int z103_s0), .val (.int z117_s0), .val (.int z131_s0), .val (.int v137), .val (.int v143), .val (.int v149), .val (.int v155), .unset, .unset, .unset, .unset, .unset, .unset, .unset, .unset] [(.int v52), (.int v43), (.int z103_s0), (.int v5)])) _
    refine st239 _ ?_
    show Steps p.tables e below (T239.setTop (mkF m 219 #[.val (.int p1), .val (.int p2), .val (.int p3), .val (.int p4), .val (.int p5), .val (.int p6), .val (.int v5), .val (.int v12), .val (.int v19), .val (.int v26), .val (.int v34), .val (.int v43), .val (.int v52), .val (.ref b199), .val (.ref b206), .val (.int z103_s0), .val (.int z117_s0), .val (.int z131_s0), .val (.int v137), .val (.int v143), .val (.int v149), .val (.int v155), .unset, .unset, .unset, .unset, .unset, .unset, .unset, .unset] [(.long (fX v5 z103_s0 v43 v52))])) _
    refine XS.lstore X239.here hx rfl (hb hby at_219) rfl (l' := #[.val (.int p1), .val (.int p2), .val (.int p3), .val (.int p4), .val (.int p5), .val (.int p6), .val (.int v5), .val (.int v12), .val (.int v19), .val (.int v26), .val (.int v34), .val (.int v43), .val (.int v52), .val (.ref b199), .val (.ref b206), .val (.int z103_s0), .val (.int z117_s0), .val (.int z131_s0), .val (.int v137), .val (.int v143), .val (.int v149), .val (.int v155), .val (.long (fX v5 z103_s0 v43 v52)), .second, .unset, .unset, .unset, .unset, .unset, .unset]) rfl ?_
    rw [hv219] at k
    exact k)
  obtain ⟨_, _, ⟨T241, L241, k241, n241⟩, -, X241, ⟨Lc241, hQ241, l241, y241, z241⟩, st241⟩ := Jvm.LawKit.callS X239 hx (y := (⟨"com/example/regolo/regolo/engine/RelaxationObjectivePinLaw", "expectedValue", "(IZII)J"⟩ : MethodName)) hown (mvT hZ (hw _ (List.mem_of_getElem? (i := 108) rfl))) (mvT hZ (hw _ (List.mem_of_getElem? (i := 109) rfl))) (mvT hZ (hw _ (List.mem_of_getElem? (i := 110) rfl))) (mvT hZ (hw _ (List.mem_of_getElem? (i := 111) rfl))) (by decide) (backOf (W := 0) (rmX l Z a0 hw [] v12 z117_s0 v137 v143 h238 n0 Zs ) hZ (hw _ (List.mem_of_getElem? (i := 111) rfl)) (hw _ (List.mem_of_getElem? (i := 110) rfl)) (by decide) (by decide)) (g := (mkF m 229 #[.val (.int p1), .val (.int p2), .val (.int p3), .val (.int p4), .val (.int p5), .val (.int p6), .val (.int v5), .val (.int v12), .val (.int v19), .val (.int v26), .val (.int v34), .val (.int v43), .val (.int v52), .val (.ref b199), .val (.ref b206), .val (.int z103_s0), .val (.int z117_s0), .val (.int z131_s0), .val (.int v137), .val (.int v143), .val (.int v149), .val (.int v155), .val (.long v219), .second, .unset, .unset, .unset, .unset, .unset, .unset] [(.int v143), (.int v137), (.int z117_s0), (.int v12)])) rfl (by rw [hml]; rfl) (argsL := [(.int v12), (.int z117_s0), (.int v137), (.int v143)]) (rest := []) (lenOf pd_8 rfl) rfl (by show 2 * 0 + _ ≤ _; exact Nat.le_of_eq rfl) (hb hby at_229) (fun _ _ => ⟨rfl, e239, (by decide : 13 + 0 ≤ _), (by decide : 42 + 0 ≤ _)⟩)
  dsimp only [Pt.U, Pt.locs, Pt.cells, Pt.slots] at X241 l241 y241 z241 st241 hQ241
  subst l241 y241 z241
  obtain ⟨rfl, N241q, e241⟩ := hQ241
  have N241 := Fr.app N239 N241q
  obtain ⟨v232, hv232⟩ : ∃ z : Int64, z = (fX v12 z117_s0 v137 v143) := ⟨_, rfl⟩
  have pre242 : ∀ t, Steps p.tables e below (T241.setTop (mkF m 234 #[.val (.int p1), .val (.int p2), .val (.int p3), .val (.int p4), .val (.int p5), .val (.int p6), .val (.int v5), .val (.int v12), .val (.int v19), .val (.int v26), .val (.int v34), .val (.int v43), .val (.int v52), .val (.ref b199), .val (.ref b206), .val (.int z103_s0), .val (.int z117_s0), .val (.int z131_s0), .val (.int v137), .val (.int v143), .val (.int v149), .val (.int v155), .val (.long v219), .second, .val (.long v232), .second, .unset, .unset, .unset, .unset] [])) t → Steps p.tables e below (s₁.setTop (entryFrame m #[(.int p1), (.int p2), (.int p3), (.int p4), (.int p5), (.int p6)] maxLocals)) t := fun t k => pre240 t (by
    show Steps p.tables e below (T239.setTop (mkF m 221 #[.val (.int p1), .val (.int p2), .val (.int p3), .val (.int p4), .val (.int p5), .val (.int p6), .val (.int v5), .val (.int v12), .val (.int v19), .val (.int v26), .val (.int v34), .val (.int v43), .val (.int v52), .val (.ref b199), .val (.ref b206), .val (.int z103_s0), .val (.int z117_s0), .val (.int z131_s0), .val (.int v137), .val (.int v143), .val (.int v149), .val (.int v155), .val (.long v219), .second, .unset, .unset, .unset, .unset, .unset, .unset] [])) _
    refine XS.iload X239.here hx rfl (hb hby at_221) rfl ?_
    show Steps p.tables e below (T239.setTop (mkF m 223 #[.val (.int p1), .val (.int p2), .val (.int p3), .val (.int p4), .val (.int p5), .val (.int p6), .val (.int v5), .val (.int v12), .val (.int v19), .val (.int v26), .val (.int v34), .val (.int v43), .val (.int v52), .val (.ref b199), .val (.ref b206), .val (.int z103_s0), .val (.int z117_s0), .val (.int z131_s0), .val (.int v137), .val (.int v143), .val (.int v149), .val (.int v155), .val (.long v219), .second, .unset, .unset, .unset, .unset, .unset, .unset] [(.int v12)])) _
    refine XS.iload X239.here hx rfl (hb hby at_223) rfl ?_
    show Steps p.tables e below (T239.setTop (mkF m 225 #[.val (.int p1), .val (.int p2), .val (.int p3), .val (.int p4), .val (.int p5), .val (.int p6), .val (.int v5), .val (.int v12), .val (.int v19), .val (.int v26), .val (.int v34), .val (.int v43), .val (.int v52), .val (.ref b199), .val (.ref b206), .val (.int z103_s0), .val (.int z117_s0), .val (.int z131_s0), .val (.int v137), .val (.int v143), .val (.int v149), .val (.int v155), .val (.long v219), .second, .unset, .unset, .unset, .unset, .unset, .unset] [(.int z117_s0), (.int v12)])) _
    refine XS.iload X239.here hx rfl (hb hby at_225) rfl ?_
    show Steps p.tables e below (T239.setTop (mkF m 227 #[.val (.int p1), .val (.int p2), .val (.int p3), .val (.int p4), .val (.int p5), .val (.int p6), .val (.int v5), .val (.int v12), .val (.int v19), .val (.int v26), .val (.int v34), .val (.int v43), .val (.int v52), .val (.ref b199), .val (.ref b206), .val (.int z103_s0), .val (.int z117_s0), .val (.int z131_s0), .val (.int v137), .val (.int v143), .val (.int v149), .val (.int v155), .val (.long v219), .second, .unset, .unset, .unset, .unset, .unset, .unset] [(.int v137), (.int z117_s0), (.int v12)])) _
    refine XS.iload X239.here hx rfl (hb hby at_227) rfl ?_
    show Steps p.tables e below (T239.setTop (mkF m 229 #[.val (.int p1), .val (.int p2), .val (.int p3), .val (.int p4), .val (.int p5), .val (.int p6), .val (.int v5), .val (.int v12), .val (.int v19), .val (.int v26), .val (.int v34), .val (.int v43), .val (.int v52), .val (.ref b199), .val (.ref b206), .val (.int z103_s0), .val (.int z117_s0), .val (.int z131_s0), .val (.int v137), .val (.int v143), .val (.int v149), .val (.int v155), .val (.long v219), .second, .unset, .unset, .unset, .unset, .unset, .unset] [(.int v143), (.int v137), (.int z117_s0), (.int v12)])) _
    refine st241 _ ?_
    show Steps p.tables e below (T241.setTop (mkF m 232 #[.val (.int p1), .val (.int p2), .val (.int p3), .val (.int p4), .val (.int p5), .val (.int p6), .val (.int v5), .val (.int v12), .val (.int v19), .val (.int v26), .val (.int v34), .val (.int v43), .val (.int v52), .val (.ref b199), .val (.ref b206), .val (.int z103_s0), .val (.int z117_s0), .val (.int z131_s0), .val (.int v137), .val (.int v143), .val (.int v149), .val (.int v155), .val (.long v219), .second, .unset, .unset, .unset, .unset, .unset, .unset] [(.long (fX v12 z117_s0 v137 v143))])) _
    refine XS.lstore X241.here hx rfl (hb hby at_232) rfl (l' := #[.val (.int p1), .val (.int p2), .val (.int p3), .val (.int p4), .val (.int p5), .val (.int p6), .val (.int v5), .val (.int v12), .val (.int v19), .val (.int v26), .val (.int v34), .val (.int v43), .val (.int v52), .val (.ref b199), .val (.ref b206), .val (.int z103_s0), .val (.int z117_s0), .val (.int z131_s0), .val (.int v137), .val (.int v143), .val (.int v149), .val (.int v155), .val (.long v219), .second, .val (.long (fX v12 z117_s0 v137 v143)), .second, .unset, .unset, .unset, .unset]) rfl ?_
    rw [hv232] at k
    exact k)
  obtain ⟨_, _, ⟨T243, L243, k243, n243⟩, -, X243, ⟨Lc243, hQ243, l243, y243, z243⟩, st243⟩ := Jvm.LawKit.callS X241 hx (y := (⟨"com/example/regolo/regolo/engine/RelaxationObjectivePinLaw", "expectedValue", "(IZII)J"⟩ : MethodName)) hown (mvT hZ (hw _ (List.mem_of_getElem? (i := 108) rfl))) (mvT hZ (hw _ (List.mem_of_getElem? (i := 109) rfl))) (mvT hZ (hw _ (List.mem_of_getElem? (i := 110) rfl))) (mvT hZ (hw _ (List.mem_of_getElem? (i := 111) rfl))) (by decide) (backOf (W := 0) (rmX l Z a0 hw [] v19 z131_s0 v149 v155 h238 n0 Zs ) hZ (hw _ (List.mem_of_getElem? (i := 111) rfl)) (hw _ (List.mem_of_getElem? (i := 110) rfl)) (by decide) (by decide)) (g := (mkF m 242 #[.val (.int p1), .val (.int p2), .val (.int p3), .val (.int p4), .val (.int p5), .val (.int p6), .val (.int v5), .val (.int v12), .val (.int v19), .val (.int v26), .val (.int v34), .val (.int v43), .val (.int v52), .val (.ref b199), .val (.ref b206), .val (.int z103_s0), .val (.int z117_s0), .val (.int z131_s0), .val (.int v137), .val (.int v143), .val (.int v149), .val (.int v155), .val (.long v219), .second, .val (.long v232), .second, .unset, .unset, .unset, .unset] [(.int v155), (.int v149), (.int z131_s0), (.int v19)])) rfl (by rw [hml]; rfl) (argsL := [(.int v19), (.int z131_s0), (.int v149), (.int v155)]) (rest := []) (lenOf pd_8 rfl) rfl (by show 2 * 0 + _ ≤ _; exact Nat.le_of_eq rfl) (hb hby at_242) (fun _ _ => ⟨rfl, e241, (by decide : 13 + 0 ≤ _), (by decide : 42 + 0 ≤ _)⟩)
  dsimp only [Pt.U, Pt.locs, Pt.cells, Pt.slots] at X243 l243 y243 z243 st243 hQ243
  subst l243 y243 z243
  obtain ⟨rfl, N243q, e243⟩ := hQ243
  have N243 := Fr.app N241 N243q
  obtain ⟨v245, hv245⟩ : ∃ z : Int64, z = (fX v19 z131_s0 v149 v155) := ⟨_, rfl⟩
  have pre244 : ∀ t, Steps p.tables e below (T243.setTop (mkF m 247 #[.val (.int p1), .val (.int p2), .val (.int p3), .val (.int p4), .val (.int p5), .val (.int p6), .val (.int v5), .val (.int v12), .val (.int v19), .val (.int v26), .val (.int v34), .val (.int v43), .val (.int v52), .val (.ref b199), .val (.ref b206), .val (.int z103_s0), .val (.int z117_s0), .val (.int z131_s0), .val (.int v137), .val (.int v143), .val (.int v149), .val (.int v155), .val (.long v219), .second, .val (.long v232), .second, .val (.long v245), .second, .unset, .unset] [])) t → Steps p.tables e below (s₁.setTop (entryFrame m #[(.int p1), (.int p2), (.int p3), (.int p4), (.int p5), (.int p6)] maxLocals)) t := fun t k => pre242 t (by
    show Steps p.tables e below (T241.setTop (mkF m 234 #[.val (.int p1), .val (.int p2), .val (.int p3), .val (.int p4), .val (.int p5), .val (.int p6), .val (.int v5), .val (.int v12), .val (.int v19), .val (.int v26), .val (.int v34), .val (.int v43), .val (.int v52), .val (.ref b199), .val (.ref b206), .val (.int z103_s0), .val (.int z117_s0), .val (.int z131_s0), .val (.int v137), .val (.int v143), .val (.int v149), .val (.int v155), .val (.long v219), .second, .val (.long v232), .second, .unset, .unset, .unset, .unset] [])) _
    refine XS.iload X241.here hx rfl (hb hby at_234) rfl ?_
    show Steps p.tables e below (T241.setTop (mkF m 236 #[.val (.int p1), .val (.int p2), .val (.int p3), .val (.int p4), .val (.int p5), .val (.int p6), .val (.int v5), .val (.int v12), .val (.int v19), .val (.int v26), .val (.int v34), .val (.int v43), .val (.int v52), .val (.ref b199), .val (.ref b206), .val (.int z103_s0), .val (.int z117_s0), .val (.int z131_s0), .val (.int v137), .val (.int v143), .val (.int v149), .val (.int v155), .val (.long v219), .second, .val (.long v232), .second, .unset, .unset, .unset, .unset] [(.int v19)])) _
    refine XS.iload X241.here hx rfl (hb hby at_236) rfl ?_
    show Steps p.tables e below (T241.setTop (mkF m 238 #[.val (.int p1), .val (.int p2), .val (.int p3), .val (.int p4), .val (.int p5), .val (.int p6), .val (.int v5), .val (.int v12), .val (.int v19), .val (.int v26), .val (.int v34), .val (.int v43), .val (.int v52), .val (.ref b199), .val (.ref b206), .val (.int z103_s0), .val (.int z117_s0), .val (.int z131_s0), .val (.int v137), .val (.int v143), .val (.int v149), .val (.int v155), .val (.long v219), .second, .val (.long v232), .second, .unset, .unset, .unset, .unset] [(.int z131_s0), (.int v19)])) _
    refine XS.iload X241.here hx rfl (hb hby at_238) rfl ?_
    show Steps p.tables e below (T241.setTop (mkF m 240 #[.val (.int p1), .val (.int p2), .val (.int p3), .val (.int p4), .val (.int p5), .val (.int p6), .val (.int v5), .val (.int v12), .val (.int v19), .val (.int v26), .val (.int v34), .val (.int v43), .val (.int v52), .val (.ref b199), .val (.ref b206), .val (.int z103_s0), .val (.int z117_s0), .val (.int z131_s0), .val (.int v137), .val (.int v143), .val (.int v149), .val (.int v155), .val (.long v219), .second, .val (.long v232), .second, .unset, .unset, .unset, .unset] [(.int v149), (.int z131_s0), (.int v19)])) _
    refine XS.iload X241.here hx rfl (hb hby at_240) rfl ?_
    show Steps p.tables e below (T241.setTop (mkF m 242 #[.val (.int p1), .val (.int p2), .val (.int p3), .val (.int p4), .val (.int p5), .val (.int p6), .val (.int v5), .val (.int v12), .val (.int v19), .val (.int v26), .val (.int v34), .val (.int v43), .val (.int v52), .val (.ref b199), .val (.ref b206), .val (.int z103_s0), .val (.int z117_s0), .val (.int z131_s0), .val (.int v137), .val (.int v143), .val (.int v149), .val (.int v155), .val (.long v219), .second, .val (.long v232), .second, .unset, .unset, .unset, .unset] [(.int v155), (.int v149), (.int z131_s0), (.int v19)])) _
    refine st243 _ ?_
    show Steps p.tables e below (T243.setTop (mkF m 245 #[.val (.int p1), .val (.int p2), .val (.int p3), .val (.int p4), .val (.int p5), .val (.int p6), .val (.int v5), .val (.int v12), .val (.int v19), .val (.int v26), .val (.int v34), .val (.int v43), .val (.int v52), .val (.ref b199), .val (.ref b206), .val (.int z103_s0), .val (.int z117_s0), .val (.int z131_s0), .val (.int v137), .val (.int v143), .val (.int v149), .val (.int v155), .val (.long v219), .second, .val (.long v232), .second, .unset, .unset, .unset, .unset] [(.long (fX v19 z131_s0 v149 v155))])) _
    refine XS.lstore X243.here hx rfl (hb hby at_245) rfl (l' := #[.val (.int p1), .val (.int p2), .val (.int p3), .val (.int p4), .val (.int p5), .val (.int p6), .val (.int v5), .val (.int v12), .val (.int v19), .val (.int v26), .val (.int v34), .val (.int v43), .val (.int v52), .val (.ref b199), .val (.ref b206), .val (.int z103_s0), .val (.int z117_s0), .val (.int z131_s0), .val (.int v137), .val (.int v143), .val (.int v149), .val (.int v155), .val (.long v219), .second, .val (.long v232), .second, .val (.long (fX v19 z131_s0 v149 v155)), .second, .unset, .unset]) rfl ?_
    rw [hv245] at k
    exact k)
  obtain ⟨v267, hv267⟩ : ∃ z : Int64, z = ((((v5.toInt64) * v219) + ((v12.toInt64) * v232)) + ((v19.toInt64) * v245)) := ⟨_, rfl⟩
  have pre245 : ∀ t, Steps p.tables e below (T243.setTop (mkF m 269 #[.val (.int p1), .val (.int p2), .val (.int p3), .val (.int p4), .val (.int p5), .val (.int p6), .val (.int v5), .val (.int v12), .val (.int v19), .val (.int v26), .val (.int v34), .val (.int v43), .val (.int v52), .val (.ref b199), .val (.ref b206), .val (.int z103_s0), .val (.int z117_s0), .val (.int z131_s0), .val (.int v137), .val (.int v143), .val (.int v149), .val (.int v155), .val (.long v219), .second, .val (.long v232), .second, .val (.long v245), .second, .val (.long v267), .second] [])) t → Steps p.tables e below (s₁.setTop (entryFrame m #[(.int p1), (.int p2), (.int p3), (.int p4), (.int p5), (.int p6)] maxLocals)) t := fun t k => pre244 t (by
    show Steps p.tables e below (T243.setTop (mkF m 247 #[.val (.int p1), .val (.int p2), .val (.int p3), .val (.int p4), .val (.int p5), .val (.int p6), .val (.int v5), .val (.int v12), .val (.int v19), .val (.int v26), .val (.int v34), .val (.int v43), .val (.int v52), .val (.ref b199), .val (.ref b206), .val (.int z103_s0), .val (.int z117_s0), .val (.int z131_s0), .val (.int v137), .val (.int v143), .val (.int v149), .val (.int v155), .val (.long v219), .second, .val (.long v232), .second, .val (.long v245), .second, .unset, .unset] [])) _
    refine XS.iload X243.here hx rfl (hb hby at_247) rfl ?_
    show Steps p.tables e below (T243.setTop (mkF m 249 #[.val (.int p1), .val (.int p2), .val (.int p3), .val (.int p4), .val (.int p5), .val (.int p6), .val (.int v5), .val (.int v12), .val (.int v19), .val (.int v26), .val (.int v34), .val (.int v43), .val (.int v52), .val (.ref b199), .val (.ref b206), .val (.int z103_s0), .val (.int z117_s0), .val (.int z131_s0), .val (.int v137), .val (.int v143), .val (.int v149), .val (.int v155), .val (.long v219), .second, .val (.long v232), .second, .val (.long v245), .second, .unset, .unset] [(.int v5)])) _
    refine XS.i2l X243.here hx rfl (hb hby at_249) rfl ?_
    show Steps p.tables e below (T243.setTop (mkF m 250 #[.val (.int p1), .val (.int p2), .val (.int p3), .val (.int p4), .val (.int p5), .val (.int p6), .val (.int v5), .val (.int v12), .val (.int v19), .val (.int v26), .val (.int v34), .val (.int v43), .val (.int v52), .val (.ref b199), .val (.ref b206), .val (.int z103_s0), .val (.int z117_s0), .val (.int z131_s0), .val (.int v137), .val (.int v143), .val (.int v149), .val (.int v155), .val (.long v219), .second, .val (.long v232), .second, .val (.long v245), .second, .unset, .unset] [(.long (v5.toInt64))])) _
    refine XS.lload X243.here hx rfl (hb hby at_250) rfl ?_
    show Steps p.tables e below (T243.setTop (mkF m 252 #[.val (.int p1), .val (.int p2), .val (.int p3), .val (.int p4), .val (.int p5), .val (.int p6), .val (.int v5), .val (.int v12), .val (.int v19), .val (.int v26), .val (.int v34), .val (.int v43), .val (.int v52), .val (.ref b199), .val (.ref b206), .val (.int z103_s0), .val (.int z117_s0), .val (.int z131_s0), .val (.int v137), .val (.int v143), .val (.int v149), .val (.int v155), .val (.long v219), .second, .val (.long v232), .second, .val (.long v245), .second, .unset, .unset] [(.long v219), (.long (v5.toInt64))])) _
    refine XS.lmul X243.here hx rfl (hb hby at_252) rfl ?_
    show Steps p.tables e below (T243.setTop (mkF m 253 #[.val (.int p1), .val (.int p2), .val (.int p3), .val (.int p4), .val (.int p5), .val (.int p6), .val (.int v5), .val (.int v12), .val (.int v19), .val (.int v26), .val (.int v34), .val (.int v43), .val (.int v52), .val (.ref b199), .val (.ref b206), .val (.int z103_s0), .val (.int z117_s0), .val (.int z131_s0), .val (.int v137), .val (.int v143), .val (.int v149), .val (.int v155), .val (.long v219), .second, .val (.long v232), .second, .val (.long v245), .second, .unset, .unset] [(.long ((v5.toInt64) * v219))])) _
    refine XS.iload X243.here hx rfl (hb hby at_253) rfl ?_
    show Steps p.tables e below (T243.setTop (mkF m 255 #[.val (.int p1), .val (.int p2), .val (.int p3), .val (.int p4), .val (.int p5), .val (.int p6), .val (.int v5), .val (.int v12), .val (.int v19), .val (.int v26), .val (.int v34), .val (.int v43), .val (.int v52), .val (.ref b199), .val (.ref b206), .val (.int z103_s0), .val (.int z117_s0), .val (.int z131_s0), .val (.int v137), .val (.int v143), .val (.int v149), .val (.int v155), .val (.long v219), .second, .val (.long v232), .second, .val (.long v245), .second, .unset, .unset] [(.int v12), (.long ((v5.toInt64) * v219))])) _
    refine XS.i2l X243.here hx rfl (hb hby at_255) rfl ?_
    show Steps p.tables e below (T243.setTop (mkF m 256 #[.val (.int p1), .val (.int p2), .val (.int p3), .val (.int p4), .val (.int p5), .val (.int p6), .val (.int v5), .val (.int v12), .val (.int v19), .val (.int v26), .val (.int v34), .val (.int v43), .val (.int v52), .val (.ref b199), .val (.ref b206), .val (.int z103_s0), .val (.int z117_s0), .val (.int z131_s0), .val (.int v137), .val (.int v143), .val (.int v149), .val (.int v155), .val (.long v219), .second, .val (.long v232), .second, .val (.long v245), .second, .unset, .unset] [(.long (v12.toInt64)), (.long ((v5.toInt64) * v219))])) _
    refine XS.lload X243.here hx rfl (hb hby at_256) rfl ?_
    show Steps p.tables e below (T243.setTop (mkF m 258 #[.val (.int p1), .val (.int p2), .val (.int p3), .val (.int p4), .val (.int p5), .val (.int p6), .val (.int v5), .val (.int v12), .val (.int v19), .val (.int v26), .val (.int v34), .val (.int v43), .val (.int v52), .val (.ref b199), .val (.ref b206), .val (.int z103_s0), .val (.int z117_s0), .val (.int z131_s0), .val (.int v137), .val (.int v143), .val (.int v149), .val (.int v155), .val (.long v219), .second, .val (.long v232), .second, .val (.long v245), .second, .unset, .unset] [(.long v232), (.long (v12.toInt64)), (.long ((v5.toInt64) * v219))])) _
    refine XS.lmul X243.here hx rfl (hb hby at_258) rfl ?_
    show Steps p.tables e below (T243.setTop (mkF m 259 #[.val (.int p1), .val (.int p2), .val (.int p3), .val (.int p4), .val (.int p5), .val (.int p6), .val (.int v5), .val (.int v12), .val (.int v19), .val (.int v26), .val (.int v34), .val (.int v43), .val (.int v52), .val (.ref b199), .val (.ref b206), .val (.int z103_s0), .val (.int z117_s0), .val (.int z131_s0), .val (.int v137), .val (.int v143), .val (.int v149), .val (.int v155), .val (.long v219), .second, .val (.long v232), .second, .val (.long v245), .second, .unset, .unset] [(.long ((v12.toInt64) * v232)), (.long ((v5.toInt64) * v219))])) _
    refine XS.ladd X243.here hx rfl (hb hby at_259) rfl ?_
    show Steps p.tables e below (T243.setTop (mkF m 260 #[.val (.int p1), .val (.int p2), .val (.int p3), .val (.int p4), .val (.int p5), .val (.int p6), .val (.int v5), .val (.int v12), .val (.int v19), .val (.int v26), .val (.int v34), .val (.int v43), .val (.int v52), .val (.ref b199), .val (.ref b206), .val (.int z103_s0), .val (.int z117_s0), .val (.int z131_s0), .val (.int v137), .val (.int v143), .val (.int v149), .val (.int v155), .val (.long v219), .second, .val (.long v232), .second, .val (.long v245), .second, .unset, .unset] [(.long (((v5.toInt64) * v219) + ((v12.toInt64) * v232)))])) _
    refine XS.iload X243.here hx rfl (hb hby at_260) rfl ?_
    show Steps p.tables e below (T243.setTop (mkF m 262 #[.val (.int p1), .val (.int p2), .val (.int p3), .val (.int p4), .val (.int p5), .val (.int p6), .val (.int v5), .val (.int v12), .val (.int v19), .val (.int v26), .val (.int v34), .val (.int v43), .val (.int v52), .val (.ref b199), .val (.ref b206), .val (.int z103_s0), .val (.int z117_s0), .val (.int z131_s0), .val (.int v137), .val (.int v143), .val (.int v149), .val (.int v155), .val (.long v219), .second, .val (.long v232), .second, .val (.long v245), .second, .unset, .unset] [(.int v19), (.long (((v5.toInt64) * v219) + ((v12.toInt64) * v232)))])) _
    refine XS.i2l X243.here hx rfl (hb hby at_262) rfl ?_
    show Steps p.tables e below (T243.setTop (mkF m 263 #[.val (.int p1), .val (.int p2), .val (.int p3), .val (.int p4), .val (.int p5), .val (.int p6), .val (.int v5), .val (.int v12), .val (.int v19), .val (.int v26), .val (.int v34), .val (.int v43), .val (.int v52), .val (.ref b199), .val (.ref b206), .val (.int z103_s0), .val (.int z117_s0), .val (.int z131_s0), .val (.int v137), .val (.int v143), .val (.int v149), .val (.int v155), .val (.long v219), .second, .val (.long v232), .second, .val (.long v245), .second, .unset, .unset] [(.long (v19.toInt64)), (.long (((v5.toInt64) * v219) + ((v12.toInt64) * v232)))])) _
    refine XS.lload X243.here hx rfl (hb hby at_263) rfl ?_
    show Steps p.tables e below (T243.setTop (mkF m 265 #[.val (.int p1), .val (.int p2), .val (.int p3), .val (.int p4), .val (.int p5), .val (.int p6), .val (.int v5), .val (.int v12), .val (.int v19), .val (.int v26), .val (.int v34), .val (.int v43), .val (.int v52), .val (.ref b199), .val (.ref b206), .val (.int z103_s0), .val (.int z117_s0), .val (.int z131_s0), .val (.int v137), .val (.int v143), .val (.int v149), .val (.int v155), .val (.long v219), .second, .val (.long v232), .second, .val (.long v245), .second, .unset, .unset] [(.long v245), (.long (v19.toInt64)), (.long (((v5.toInt64) * v219) + ((v12.toInt64) * v232)))])) _
    refine XS.lmul X243.here hx rfl (hb hby at_265) rfl ?_
    show Steps p.tables e below (T243.setTop (mkF m 266 #[.val (.int p1), .val (.int p2), .val (.int p3), .val (.int p4), .val (.int p5), .val (.int p6), .val (.int v5), .val (.int v12), .val (.int v19), .val (.int v26), .val (.int v34), .val (.int v43), .val (.int v52), .val (.ref b199), .val (.ref b206), .val (.int z103_s0), .val (.int z117_s0), .val (.int z131_s0), .val (.int v137), .val (.int v143), .val (.int v149), .val (.int v155), .val (.long v219), .second, .val (.long v232), .second, .val (.long v245), .second, .unset, .unset] [(.long ((v19.toInt64) * v245)), (.long (((v5.toInt64) * v219) + ((v12.toInt64) * v232)))])) _
    refine XS.ladd X243.here hx rfl (hb hby at_266) rfl ?_
    show Steps p.tables e below (T243.setTop (mkF m 267 #[.val (.int p1), .val (.int p2), .val (.int p3), .val (.int p4), .val (.int p5), .val (.int p6), .val (.int v5), .val (.int v12), .val (.int v19), .val (.int v26), .val (.int v34), .val (.int v43), .val (.int v52), .val (.ref b199), .val (.ref b206), .val (.int z103_s0), .val (.int z117_s0), .val (.int z131_s0), .val (.int v137), .val (.int v143), .val (.int v149), .val (.int v155), .val (.long v219), .second, .val (.long v232), .second, .val (.long v245), .second, .unset, .unset] [(.long ((((v5.toInt64) * v219) + ((v12.toInt64) * v232)) + ((v19.toInt64) * v245)))])) _
    refine XS.lstore X243.here hx rfl (hb hby at_267) rfl (l' := #[.val (.int p1), .val (.int p2), .val (.int p3), .val (.int p4), .val (.int p5), .val (.int p6), .val (.int v5), .val (.int v12), .val (.int v19), .val (.int v26), .val (.int v34), .val (.int v43), .val (.int v52), .val (.ref b199), .val (.ref b206), .val (.int z103_s0), .val (.int z117_s0), .val (.int z131_s0), .val (.int v137), .val (.int v143), .val (.int v149), .val (.int v155), .val (.long v219), .second, .val (.long v232), .second, .val (.long v245), .second, .val (.long ((((v5.toInt64) * v219) + ((v12.toInt64) * v232)) + ((v19.toInt64) * v245))), .second]) rfl ?_
    rw [hv267] at k
    exact k)
  obtain ⟨cq246, kq246, q246a, q246b, q246c⟩ := isOf hZ e243 E_b206
  obtain ⟨_, _, ⟨T246, L246, k246, n246⟩, -, X246, ⟨Lc246, hQ246, l246, y246, z246⟩, st246⟩ := X243.virtualBack hx (y := (⟨"com/example/regolo/regolo/engine/Relaxation", "objective", "()D"⟩ : MethodName)) (z := (⟨"com/example/regolo/regolo/engine/Relaxation", "objective", "()D"⟩ : MethodName)) hown (mvT hZ (hw _ (List.mem_of_getElem? (i := 112) rfl))) (mvT hZ (hw _ (List.mem_of_getElem? (i := 113) rfl))) (notFace_of_selects (args := #[]) (mvT hZ (hw _ (List.mem_of_getElem? (i := 115) rfl)))) (mvT hZ (hw _ (List.mem_of_getElem? (i := 115) rfl))) (mvT hZ (hw _ (List.mem_of_getElem? (i := 114) rfl))) (by decide) (backOf (W := 0) (rmO l Z a0 hw [] b206 co_207 va_207 (upd (upd (upd (fun _ => 0) (0 : Int32).toNatClampNeg v5.toInt64) (1 : Int32).toNatClampNeg v12.toInt64) (2 : Int32).toNatClampNeg v19.toInt64) z208_A_va_207 h238 n0 Zs F_columns_b206 F_cost_b206 F_value_b206 A_co_207 A_va_207 hR0 hV3) hZ (hw _ (List.mem_of_getElem? (i := 116) rfl)) (hw _ (List.mem_of_getElem? (i := 10) rfl)) (by decide) (by decide)) q246a q246c (g := (mkF m 271 #[.val (.int p1), .val (.int p2), .val (.int p3), .val (.int p4), .val (.int p5), .val (.int p6), .val (.int v5), .val (.int v12), .val (.int v19), .val (.int v26), .val (.int v34), .val (.int v43), .val (.int v52), .val (.ref b199), .val (.ref b206), .val (.int z103_s0), .val (.int z117_s0), .val (.int z131_s0), .val (.int v137), .val (.int v143), .val (.int v149), .val (.int v155), .val (.long v219), .second, .val (.long v232), .second, .val (.long v245), .second, .val (.long v267), .second] [(.ref b206)])) rfl (by rw [hml]; rfl) (Steps.refl _) (argsL := []) (rest := []) (lenOf pd_9 rfl) rfl (by show 2 * 0 + _ ≤ _; exact Nat.le_of_eq rfl) (hb hby at_271) (fun _ _ => ⟨rfl, e243, (by decide : 13 + 0 ≤ _), (by decide : 42 + 0 ≤ _)⟩)
  dsimp only [Pt.U, Pt.locs, Pt.cells, Pt.slots] at X246 l246 y246 z246 st246 hQ246
  subst l246 y246 z246
  obtain ⟨rfl, N246q, e246⟩ := hQ246
  have N246 := Fr.app N243 N246q
  have hA := own_bd (own_bd (own_bd own_bd0 (hR0 (0 : Int32).toNatClampNeg) (hV3 (0 : Int32).toNatClampNeg) (by decide)) (hR0 (1 : Int32).toNatClampNeg) (hV3 (1 : Int32).toNatClampNeg) (by decide)) (hR0 (2 : Int32).toNatClampNeg) (hV3 (2 : Int32).toNatClampNeg) (by decide)
  have hAB := own_sum hz174_A_va_207 hz174_A_sa_207 hz191_A_va_207 hz191_A_sa_207 hz208_A_va_207 hv219 hv232 hv245 hv267
  have pre247 : ∀ t, Steps p.tables e below (T246.setTop (mkF m 278 #[.val (.int p1), .val (.int p2), .val (.int p3), .val (.int p4), .val (.int p5), .val (.int p6), .val (.int v5), .val (.int v12), .val (.int v19), .val (.int v26), .val (.int v34), .val (.int v43), .val (.int v52), .val (.ref b199), .val (.ref b206), .val (.int z103_s0), .val (.int z117_s0), .val (.int z131_s0), .val (.int v137), .val (.int v143), .val (.int v149), .val (.int v155), .val (.long v219), .second, .val (.long v232), .second, .val (.long v245), .second, .val (.long v267), .second] [(.int (lcmpW ((((0 : Int64) + (((upd (upd (upd (fun _ => 0) (0 : Int32).toNatClampNeg v5.toInt64) (1 : Int32).toNatClampNeg v12.toInt64) (2 : Int32).toNatClampNeg v19.toInt64) (0 : Int32).toNatClampNeg) * (z208_A_va_207 (0 : Int32).toNatClampNeg))) + (((upd (upd (upd (fun _ => 0) (0 : Int32).toNatClampNeg v5.toInt64) (1 : Int32).toNatClampNeg v12.toInt64) (2 : Int32).toNatClampNeg v19.toInt64) (1 : Int32).toNatClampNeg) * (z208_A_va_207 (1 : Int32).toNatClampNeg))) + (((upd (upd (upd (fun _ => 0) (0 : Int32).toNatClampNeg v5.toInt64) (1 : Int32).toNatClampNeg v12.toInt64) (2 : Int32).toNatClampNeg v19.toInt64) (2 : Int32).toNatClampNeg) * (z208_A_va_207 (2 : Int32).toNatClampNeg))) v267))])) t → Steps p.tables e below (s₁.setTop (entryFrame m #[(.int p1), (.int p2), (.int p3), (.int p4), (.int p5), (.int p6)] maxLocals)) t := fun t k => pre245 t (by
    show Steps p.tables e below (T243.setTop (mkF m 269 #[.val (.int p1), .val (.int p2), .val (.int p3), .val (.int p4), .val (.int p5), .val (.int p6), .val (.int v5), .val (.int v12), .val (.int v19), .val (.int v26), .val (.int v34), .val (.int v43), .val (.int v52), .val (.ref b199), .val (.ref b206), .val (.int z103_s0), .val (.int z117_s0), .val (.int z131_s0), .val (.int v137), .val (.int v143), .val (.int v149), .val (.int v155), .val (.long v219), .second, .val (.long v232), .second, .val (.long v245), .second, .val (.long v267), .second] [])) _
    refine XS.aload X243.here hx rfl (hb hby at_269) rfl rfl ?_
    show Steps p.tables e below (T243.setTop (mkF m 271 #[.val (.int p1), .val (.int p2), .val (.int p3), .val (.int p4), .val (.int p5), .val (.int p6), .val (.int v5), .val (.int v12), .val (.int v19), .val (.int v26), .val (.int v34), .val (.int v43), .val (.int v52), .val (.ref b199), .val (.ref b206), .val (.int z103_s0), .val (.int z117_s0), .val (.int z131_s0), .val (.int v137), .val (.int v143), .val (.int v149), .val (.int v155), .val (.long v219), .second, .val (.long v232), .second, .val (.long v245), .second, .val (.long v267), .second] [(.ref b206)])) _
    refine st246.trans ?_
    show Steps p.tables e below (T246.setTop (mkF m 274 #[.val (.int p1), .val (.int p2), .val (.int p3), .val (.int p4), .val (.int p5), .val (.int p6), .val (.int v5), .val (.int v12), .val (.int v19), .val (.int v26), .val (.int v34), .val (.int v43), .val (.int v52), .val (.ref b199), .val (.ref b206), .val (.int z103_s0), .val (.int z117_s0), .val (.int z131_s0), .val (.int v137), .val (.int v143), .val (.int v149), .val (.int v155), .val (.long v219), .second, .val (.long v232), .second, .val (.long v245), .second, .val (.long v267), .second] [(.double (FP.l2d ((((0 : Int64) + (((upd (upd (upd (fun _ => 0) (0 : Int32).toNatClampNeg v5.toInt64) (1 : Int32).toNatClampNeg v12.toInt64) (2 : Int32).toNatClampNeg v19.toInt64) (0 : Int32).toNatClampNeg) * (z208_A_va_207 (0 : Int32).toNatClampNeg))) + (((upd (upd (upd (fun _ => 0) (0 : Int32).toNatClampNeg v5.toInt64) (1 : Int32).toNatClampNeg v12.toInt64) (2 : Int32).toNatClampNeg v19.toInt64) (1 : Int32).toNatClampNeg) * (z208_A_va_207 (1 : Int32).toNatClampNeg))) + (((upd (upd (upd (fun _ => 0) (0 : Int32).toNatClampNeg v5.toInt64) (1 : Int32).toNatClampNeg v12.toInt64) (2 : Int32).toNatClampNeg v19.toInt64) (2 : Int32).toNatClampNeg) * (z208_A_va_207 (2 : Int32).toNatClampNeg)))))])) _
    refine XS.lload X246.here hx rfl (hb hby at_274) rfl ?_
    show Steps p.tables e below (T246.setTop (mkF m 276 #[.val (.int p1), .val (.int p2), .val (.int p3), .val (.int p4), .val (.int p5), .val (.int p6), .val (.int v5), .val (.int v12), .val (.int v19), .val (.int v26), .val (.int v34), .val (.int v43), .val (.int v52), .val (.ref b199), .val (.ref b206), .val (.int z103_s0), .val (.int z117_s0), .val (.int z131_s0), .val (.int v137), .val (.int v143), .val (.int v149), .val (.int v155), .val (.long v219), .second, .val (.long v232), .second, .val (.long v245), .second, .val (.long v267), .second] [(.long v267), (.double (FP.l2d ((((0 : Int64) + (((upd (upd (upd (fun _ => 0) (0 : Int32).toNatClampNeg v5.toInt64) (1 : Int32).toNatClampNeg v12.toInt64) (2 : Int32).toNatClampNeg v19.toInt64) (0 : Int32).toNatClampNeg) * (z208_A_va_207 (0 : Int32).toNatClampNeg))) + (((upd (upd (upd (fun _ => 0) (0 : Int32).toNatClampNeg v5.toInt64) (1 : Int32).toNatClampNeg v12.toInt64) (2 : Int32).toNatClampNeg v19.toInt64) (1 : Int32).toNatClampNeg) * (z208_A_va_207 (1 : Int32).toNatClampNeg))) + (((upd (upd (upd (fun _ => 0) (0 : Int32).toNatClampNeg v5.toInt64) (1 : Int32).toNatClampNeg v12.toInt64) (2 : Int32).toNatClampNeg v19.toInt64) (2 : Int32).toNatClampNeg) * (z208_A_va_207 (2 : Int32).toNatClampNeg)))))])) _
    refine XS.l2dS X246.here hx rfl (hb hby at_276) rfl rfl ?_
    show Steps p.tables e below (T246.setTop (mkF m 277 #[.val (.int p1), .val (.int p2), .val (.int p3), .val (.int p4), .val (.int p5), .val (.int p6), .val (.int v5), .val (.int v12), .val (.int v19), .val (.int v26), .val (.int v34), .val (.int v43), .val (.int v52), .val (.ref b199), .val (.ref b206), .val (.int z103_s0), .val (.int z117_s0), .val (.int z131_s0), .val (.int v137), .val (.int v143), .val (.int v149), .val (.int v155), .val (.long v219), .second, .val (.long v232), .second, .val (.long v245), .second, .val (.long v267), .second] [(.double (FP.l2d v267)), (.double (FP.l2d ((((0 : Int64) + (((upd (upd (upd (fun _ => 0) (0 : Int32).toNatClampNeg v5.toInt64) (1 : Int32).toNatClampNeg v12.toInt64) (2 : Int32).toNatClampNeg v19.toInt64) (0 : Int32).toNatClampNeg) * (z208_A_va_207 (0 : Int32).toNatClampNeg))) + (((upd (upd (upd (fun _ => 0) (0 : Int32).toNatClampNeg v5.toInt64) (1 : Int32).toNatClampNeg v12.toInt64) (2 : Int32).toNatClampNeg v19.toInt64) (1 : Int32).toNatClampNeg) * (z208_A_va_207 (1 : Int32).toNatClampNeg))) + (((upd (upd (upd (fun _ => 0) (0 : Int32).toNatClampNeg v5.toInt64) (1 : Int32).toNatClampNeg v12.toInt64) (2 : Int32).toNatClampNeg v19.toInt64) (2 : Int32).toNatClampNeg) * (z208_A_va_207 (2 : Int32).toNatClampNeg)))))])) _
    refine XS.dcmpS X246.here hx rfl (hb hby at_277) rfl (dcmpV_w (own_bd53 hA (by decide)) (own_cast hAB (own_bd53 hA (by decide))) .l) ?_
    exact k)
  obtain ⟨z286_s0, hz286_s0⟩ : ∃ z : Int32, z = (if ((((0 : Int64) + (((upd (upd (upd (fun _ => 0) (0 : Int32).toNatClampNeg v5.toInt64) (1 : Int32).toNatClampNeg v12.toInt64) (2 : Int32).toNatClampNeg v19.toInt64) (0 : Int32).toNatClampNeg) * (z208_A_va_207 (0 : Int32).toNatClampNeg))) + (((upd (upd (upd (fun _ => 0) (0 : Int32).toNatClampNeg v5.toInt64) (1 : Int32).toNatClampNeg v12.toInt64) (2 : Int32).toNatClampNeg v19.toInt64) (1 : Int32).toNatClampNeg) * (z208_A_va_207 (1 : Int32).toNatClampNeg))) + (((upd (upd (upd (fun _ => 0) (0 : Int32).toNatClampNeg v5.toInt64) (1 : Int32).toNatClampNeg v12.toInt64) (2 : Int32).toNatClampNeg v19.toInt64) (2 : Int32).toNatClampNeg) * (z208_A_va_207 (2 : Int32).toNatClampNeg))) = v267 then (1 : Int32) else (0 : Int32)) := ⟨_, rfl⟩
  obtain ⟨T250, Lc250, X250, e250, N250, pre250⟩ : ∃ (T' : State) (locs' : List Loc), Stand p l e room_1 s m #[(.int p1), (.int p2), (.int p3), (.int p4), (.int p5), (.int p6)] below meth c T' locs' 13 42 ∧ T'.heap = h238 ∧ Fr n0 locs' ∧ ∀ t, Steps p.tables e below (T'.setTop (mkF m 286 #[.val (.int p1), .val (.int p2), .val (.int p3), .val (.int p4), .val (.int p5), .val (.int p6), .val (.int v5), .val (.int v12), .val (.int v19), .val (.int v26), .val (.int v34), .val (.int v43), .val (.int v52), .val (.ref b199), .val (.ref b206), .val (.int z103_s0), .val (.int z117_s0), .val (.int z131_s0), .val (.int v137), .val (.int v143), .val (.int v149), .val (.int v155), .val (.long v219), .second, .val (.long v232), .second, .val (.long v245), .second, .val (.long v267), .second] [(.int z286_s0)])) t → Steps p.tables e below (s₁.setTop (entryFrame m #[(.int p1), (.int p2), (.int p3), (.int p4), (.int p5), (.int p6)] maxLocals)) t := by
    by_cases hc278 : ((((0 : Int64) + (((upd (upd (upd (fun _ => 0) (0 : Int32).toNatClampNeg v5.toInt64) (1 : Int32).toNatClampNeg v12.toInt64) (2 : Int32).toNatClampNeg v19.toInt64) (0 : Int32).toNatClampNeg) * (z208_A_va_207 (0 : Int32).toNatClampNeg))) + (((upd (upd (upd (fun _ => 0) (0 : Int32).toNatClampNeg v5.toInt64) (1 : Int32).toNatClampNeg v12.toInt64) (2 : Int32).toNatClampNeg v19.toInt64) (1 : Int32).toNatClampNeg) * (z208_A_va_207 (1 : Int32).toNatClampNeg))) + (((upd (upd (upd (fun _ => 0) (0 : Int32).toNatClampNeg v5.toInt64) (1 : Int32).toNatClampNeg v12.toInt64) (2 : Int32).toNatClampNeg v19.toInt64) (2 : Int32).toNatClampNeg) * (z208_A_va_207 (2 : Int32).toNatClampNeg))) = v267
    ·
      have pre248 : ∀ t, Steps p.tables e below (T246.setTop (mkF m 286 #[.val (.int p1), .val (.int p2), .val (.int p3), .val (.int p4), .val (.int p5), .val (.int p6), .val (.int v5), .val (.int v12), .val (.int v19), .val (.int v26), .val (.int v34), .val (.int v43), .val (.int v52), .val (.ref b199), .val (.ref b206), .val (.int z103_s0), .val (.int z117_s0), .val (.int z131_s0), .val (.int v137), .val (.int v143), .val (.int v149), .val (.int v155), .val (.long v219), .second, .val (.long v232), .second, .val (.long v245), .second, .val (.long v267), .second] [(.int (1 : Int32))])) t → Steps p.tables e below (s₁.setTop (entryFrame m #[(.int p1), (.int p2), (.int p3), (.int p4), (.int p5), (.int p6)] maxLocals)) t := fun t k => pre247 t (by
        show Steps p.tables e below (T246.setTop (mkF m 278 #[.val (.int p1), .val (.int p2), .val (.int p3), .val (.int p4), .val (.int p5), .val (.int p6), .val (.int v5), .val (.int v12), .val (.int v19), .val (.int v26), .val (.int v34), .val (.int v43), .val (.int v52), .val (.ref b199), .val (.ref b206), .val (.int z103_s0), .val (.int z117_s0), .val (.int z131_s0), .val (.int v137), .val (.int v143), .val (.int v149), .val (.int v155), .val (.long v219), .second, .val (.long v232), .second, .val (.long v245), .second, .val (.long v267), .second] [(.int (lcmpW ((((0 : Int64) + (((upd (upd (upd (fun _ => 0) (0 : Int32).toNatClampNeg v5.toInt64) (1 : Int32).toNatClampNeg v12.toInt64) (2 : Int32).toNatClampNeg v19.toInt64) (0 : Int32).toNatClampNeg) * (z208_A_va_207 (0 : Int32).toNatClampNeg))) + (((upd (upd (upd (fun _ => 0) (0 : Int32).toNatClampNeg v5.toInt64) (1 : Int32).toNatClampNeg v12.toInt64) (2 : Int32).toNatClampNeg v19.toInt64) (1 : Int32).toNatClampNeg) * (z208_A_va_207 (1 : Int32).toNatClampNeg))) + (((upd (upd (upd (fun _ => 0) (0 : Int32).toNatClampNeg v5.toInt64) (1 : Int32).toNatClampNeg v12.toInt64) (2 : Int32).toNatClampNeg v19.toInt64) (2 : Int32).toNatClampNeg) * (z208_A_va_207 (2 : Int32).toNatClampNeg))) v267))])) _
        refine XS.ifNo X246.here hx rfl (hb hby at_278) rfl ((if0 _ _).trans (teq ((lw_eq ((((0 : Int64) + (((upd (upd (upd (fun _ => 0) (0 : Int32).toNatClampNeg v5.toInt64) (1 : Int32).toNatClampNeg v12.toInt64) (2 : Int32).toNatClampNeg v19.toInt64) (0 : Int32).toNatClampNeg) * (z208_A_va_207 (0 : Int32).toNatClampNeg))) + (((upd (upd (upd (fun _ => 0) (0 : Int32).toNatClampNeg v5.toInt64) (1 : Int32).toNatClampNeg v12.toInt64) (2 : Int32).toNatClampNeg v19.toInt64) (1 : Int32).toNatClampNeg) * (z208_A_va_207 (1 : Int32).toNatClampNeg))) + (((upd (upd (upd (fun _ => 0) (0 : Int32).toNatClampNeg v5.toInt64) (1 : Int32).toNatClampNeg v12.toInt64) (2 : Int32).toNatClampNeg v19.toInt64) (2 : Int32).toNatClampNeg) * (z208_A_va_207 (2 : Int32).toNatClampNeg))) v267).mpr hc278)).2) ?_
        show Steps p.tables e below (T246.setTop (mkF m 281 #[.val (.int p1), .val (.int p2), .val (.int p3), .val (.int p4), .val (.int p5), .val (.int p6), .val (.int v5), .val (.int v12), .val (.int v19), .val (.int v26), .val (.int v34), .val (.int v43), .val (.int v52), .val (.ref b199), .val (.ref b206), .val (.int z103_s0), .val (.int z117_s0), .val (.int z131_s0), .val (.int v137), .val (.int v143), .val (.int v149), .val (.int v155), .val (.long v219), .second, .val (.long v232), .second, .val (.long v245), .second, .val (.long v267), .second] [])) _
        refine XS.iconst X246.here hx rfl (hb hby at_281) ?_
        show Steps p.tables e below (T246.setTop (mkF m 282 #[.val (.int p1), .val (.int p2), .val (.int p3), .val (.int p4), .val (.int p5), .val (.int p6), .val (.int v5), .val (.int v12), .val (.int v19), .val (.int v26), .val (.int v34), .val (.int v43), .val (.int v52), .val (.ref b199), .val (.ref b206), .val (.int z103_s0), .val (.int z117_s0), .val (.int z131_s0), .val (.int v137), .val (.int v143), .val (.int v149), .val (.int v155), .val (.long v219), .second, .val (.long v232), .second, .val (.long v245), .second, .val (.long v267), .second] [(.int (1 : Int32))])) _
        refine XS.goto X246.here hx rfl (pc0 := 282) (pc' := 286) rfl (hb hby at_282) (by decide) (by decide) ?_
        exact k)
      have q_z286_s0 : z286_s0 = (1 : Int32) := by rw [hz286_s0, if_pos hc278]
      refine ⟨_, _, X246, e246, N246, fun t k => ?_⟩
      rw [q_z286_s0] at k
      exact pre248 t k
    ·
      have pre249 : ∀ t, Steps p.tables e below (T246.setTop (mkF m 286 #[.val (.int p1), .val (.int p2), .val (.int p3), .val (.int p4), .val (.int p5), .val (.int p6), .val (.int v5), .val (.int v12), .val (.int v19), .val (.int v26), .val (.int v34), .val (.int v43), .val (.int v52), .val (.ref b199), .val (.ref b206), .val (.int z103_s0), .val (.int z117_s0), .val (.int z131_s0), .val (.int v137), .val (.int v143), .val (.int v149), .val (.int v155), .val (.long v219), .second, .val (.long v232), .second, .val (.long v245), .second, .val (.long v267), .second] [(.int (0 : Int32))])) t → Steps p.tables e below (s₁.setTop (entryFrame m #[(.int p1), (.int p2), (.int p3), (.int p4), (.int p5), (.int p6)] maxLocals)) t := fun t k => pre247 t (by
        show Steps p.tables e below (T246.setTop (mkF m 278 #[.val (.int p1), .val (.int p2), .val (.int p3), .val (.int p4), .val (.int p5), .val (.int p6), .val (.int v5), .val (.int v12), .val (.int v19), .val (.int v26), .val (.int v34), .val (.int v43), .val (.int v52), .val (.ref b199), .val (.ref b206), .val (.int z103_s0), .val (.int z117_s0), .val (.int z131_s0), .val (.int v137), .val (.int v143), .val (.int v149), .val (.int v155), .val (.long v219), .second, .val (.long v232), .second, .val (.long v245), .second, .val (.long v267), .second] [(.int (lcmpW ((((0 : Int64) + (((upd (upd (upd (fun _ => 0) (0 : Int32).toNatClampNeg v5.toInt64) (1 : Int32).toNatClampNeg v12.toInt64) (2 : Int32).toNatClampNeg v19.toInt64) (0 : Int32).toNatClampNeg) * (z208_A_va_207 (0 : Int32).toNatClampNeg))) + (((upd (upd (upd (fun _ => 0) (0 : Int32).toNatClampNeg v5.toInt64) (1 : Int32).toNatClampNeg v12.toInt64) (2 : Int32).toNatClampNeg v19.toInt64) (1 : Int32).toNatClampNeg) * (z208_A_va_207 (1 : Int32).toNatClampNeg))) + (((upd (upd (upd (fun _ => 0) (0 : Int32).toNatClampNeg v5.toInt64) (1 : Int32).toNatClampNeg v12.toInt64) (2 : Int32).toNatClampNeg v19.toInt64) (2 : Int32).toNatClampNeg) * (z208_A_va_207 (2 : Int32).toNatClampNeg))) v267))])) _
        refine XS.ifYes X246.here hx rfl (pc0 := 278) (pc' := 285) rfl (hb hby at_278) rfl ((if0 _ _).trans (feq (fun q => hc278 ((lw_eq ((((0 : Int64) + (((upd (upd (upd (fun _ => 0) (0 : Int32).toNatClampNeg v5.toInt64) (1 : Int32).toNatClampNeg v12.toInt64) (2 : Int32).toNatClampNeg v19.toInt64) (0 : Int32).toNatClampNeg) * (z208_A_va_207 (0 : Int32).toNatClampNeg))) + (((upd (upd (upd (fun _ => 0) (0 : Int32).toNatClampNeg v5.toInt64) (1 : Int32).toNatClampNeg v12.toInt64) (2 : Int32).toNatClampNeg v19.toInt64) (1 : Int32).toNatClampNeg) * (z208_A_va_207 (1 : Int32).toNatClampNeg))) + (((upd (upd (upd (fun _ => 0) (0 : Int32).toNatClampNeg v5.toInt64) (1 : Int32).toNatClampNeg v12.toInt64) (2 : Int32).toNatClampNeg v19.toInt64) (2 : Int32).toNatClampNeg) * (z208_A_va_207 (2 : Int32).toNatClampNeg))) v267).mp q))).2) (by decide) (by decide) ?_
        show Steps p.tables e below (T246.setTop (mkF m 285 #[.val (.int p1), .val (.int p2), .val (.int p3), .val (.int p4), .val (.int p5), .val (.int p6), .val (.int v5), .val (.int v12), .val (.int v19), .val (.int v26), .val (.int v34), .val (.int v43), .val (.int v52), .val (.ref b199), .val (.ref b206), .val (.int z103_s0), .val (.int z117_s0), .val (.int z131_s0), .val (.int v137), .val (.int v143), .val (.int v149), .val (.int v155), .val (.long v219), .second, .val (.long v232), .second, .val (.long v245), .second, .val (.long v267), .second] [])) _
        refine XS.iconst X246.here hx rfl (hb hby at_285) ?_
        exact k)
      have q_z286_s0 : z286_s0 = (0 : Int32) := by rw [hz286_s0, if_neg hc278]
      refine ⟨_, _, X246, e246, N246, fun t k => ?_⟩
      rw [q_z286_s0] at k
      exact pre249 t k
  obtain rfl : z286_s0 = (1 : Int32) := by rw [hz286_s0, if_pos hAB]
  obtain ⟨fs, hr, hrun, hended, hW, hsame⟩ := X250.leave (v := some (.int (1 : Int32))) (fun h => by rw [Bd.returns] at h; cases h)
  refine ⟨_, _, pre250 _ ?_, hrun, hended, _, _, rfl, ?_, ⟨_, rfl⟩, hW, hsame.mono (by decide) (by decide)⟩
  · show Steps p.tables e below (T250.setTop (mkF m 286 #[.val (.int p1), .val (.int p2), .val (.int p3), .val (.int p4), .val (.int p5), .val (.int p6), .val (.int v5), .val (.int v12), .val (.int v19), .val (.int v26), .val (.int v34), .val (.int v43), .val (.int v52), .val (.ref b199), .val (.ref b206), .val (.int z103_s0), .val (.int z117_s0), .val (.int z131_s0), .val (.int v137), .val (.int v143), .val (.int v149), .val (.int v155), .val (.long v219), .second, .val (.long v232), .second, .val (.long v245), .second, .val (.long v267), .second] [(.int (1 : Int32))])) _
    exact retN X250 hx (t := .boolean) Bd.returns (by simp) (hb hby at_286) hr
  · show Q0 Z p1 p2 p3 p4 p5 p6 dd h0 n0 _ T250.heap _
    rw [e250]
    exact ⟨rfl, N250⟩
set_option maxRecDepth 65536 in
set_option maxHeartbeats 40000000 in
theorem comes_1 {Post : Tables → Env → Array Value → State → Outcome → State → Prop} (hpost : ∀ tb e args s v u, (limb_1_1.after args s (.returned v) u = true ∧ limb_1_2.after args s (.returned v) u = true ∧ True) → FrameEnd s (.returned v) u (Jvm.fieldLocs frame_1_writes args s ++ Jvm.arrayLocs frame_1_arrays args s ++ Jvm.staticLocs frame_1_statics s) 40 192 → Post tb e args s (.returned v) u) :
    ArmFor flags0 classFile x code maxLocals ret World_1 tables_1 room_1 Calls_1 rest_1 Pre_1 Post := by
  intro l hfl _ _ p e ha hc hk s m args below hf hA hF happ hP
  obtain ⟨hcalls, hrest, hpre⟩ := hP
  obtain ⟨-, -, -, hnamed, -, -, -, hat⟩ := (Spec.applies_iff hf).mp happ
  obtain ⟨hg, hn⟩ := and_e (Cond.before_iff.mp (show (Jvm.Cond.and given_1 narrow_1).before args s = true from hpre))
  obtain ⟨hcount, ha0⟩ := and_e hg
  obtain ⟨ga0, gb0⟩ := and_e ha0
  obtain ⟨ga1, gb1⟩ := and_e gb0
  obtain ⟨ga2, gb2⟩ := and_e gb1
  obtain ⟨ga3, gb3⟩ := and_e gb2
  obtain ⟨ga4, gb4⟩ := and_e gb3
  obtain ⟨w0, w1, w2, w3, w4, w5, rfl⟩ : ∃ w0 w1 w2 w3 w4 w5 : Value, args = #[w0, w1, w2, w3, w4, w5] := by
    have hs : args.size = 6 := by simpa [Cond.value, given_1] using hcount
    obtain ⟨L⟩ := args
    match L, hs with
    | [w0, w1, w2, w3, w4, w5], _ => exact ⟨w0, w1, w2, w3, w4, w5, rfl⟩
  have hw := fun d (hd : d ∈ tables_1) => atoms_spec (ws := Jvm.Cond.code x code maxLocals ret :: tables_1) hat d (List.mem_cons_of_mem _ hd)
  have hfit : Fit s := fun {y c} hc i hi => by
    obtain ⟨ha, rfl⟩ := Array.getElem?_eq_some_iff.mp hc
    have q := List.all_eq_true.mp ((Array.all_eq_true_iff_forall_mem.mp hF) _ (Array.getElem_mem ha)) i (List.mem_range.mpr hi)
    simpa [Array.getElem?_eq_getElem hi] using q
  obtain ⟨hsets, hown0⟩ := atoms_of _ (rest_1_c_eq ▸ (show rest_1_c.before _ s = true from hrest))
  obtain ⟨i0, ei0⟩ := is_v ga0
  obtain rfl : w0 = (.int i0) := Option.some.inj ei0
  obtain ⟨i1, ei1⟩ := is_v ga1
  obtain rfl : w1 = (.int i1) := Option.some.inj ei1
  obtain ⟨i2, ei2⟩ := is_v ga2
  obtain rfl : w2 = (.int i2) := Option.some.inj ei2
  obtain ⟨i3, ei3⟩ := is_v ga3
  obtain rfl : w3 = (.int i3) := Option.some.inj ei3
  obtain ⟨i4, ei4⟩ := is_v ga4
  obtain rfl : w4 = (.int i4) := Option.some.inj ei4
  obtain ⟨i5, ei5⟩ := is_v gb4
  obtain rfl : w5 = (.int i5) := Option.some.inj ei5
  obtain ⟨dd, evd⟩ := arr_v (Cond.before_iff.mp (hsets _ (List.mem_of_getElem? (i := 6) rfl)))
  have S_DEFAULTCAPACITY_EMPTY_ELEMENTDATA := Sta.start evd (Or.inr ⟨(hw _ (List.mem_of_getElem? (i := 19) rfl)), (hsets _ (List.mem_of_getElem? (i := 2) rfl))⟩)
  obtain ⟨n, o, h1, h2, h3, _, L, rfl, ⟨rfl, N⟩, hq⟩ := rm0 l s _ hw tables_1 i0 i1 i2 i3 i4 i5 dd s.heap s.heap.size (Nat.le_refl _) (Old.start s) S_DEFAULTCAPACITY_EMPTY_ELEMENTDATA p e ha hc hk s m _ below hf ((Spec.applies_iff_loose hf).mp happ).1 ⟨rfl, State.Warmed39.refl s, rfl⟩ trivial
  refine ⟨n, _, h1, h2, h3, hpost _ _ _ _ _ _ ⟨Cond.after_iff.mpr rfl, Cond.after_iff.mpr (eq_i res_at (Term.int_eval (1)) rfl), trivial⟩ ⟨hq.1, hq.2.1, (hq.2.2.sift fun y hy => Or.inr (N y hy)).mono (by decide) (by decide)⟩⟩
theorem main_1_1 : Claimed_1_1 := comes_1 fun _ _ _ _ _ _ h hF => ⟨h.1, hF⟩
theorem main_1_2 : Claimed_1_2 := comes_1 fun _ _ _ _ _ _ h hF => ⟨h.2.1, hF⟩
end Jvm.Pilot.@@N@@
namespace Jvm.Pilot.@@N@@
open Jvm Jvm.ClassFile Sem Op Lib Jvm.Free Jvm.Stand Jvm.Pilot.@@N@@.Jvm.D
/-! MADE BY PROGRAM (witnessworld.py) out of the Statement's table words and the real class files: 20 classes; the members and pool entries that the words name. The judged class is class 1, her method 1. -/
namespace start1
open Jvm.ClassFile
def u (s : String) : CpInfo := .utf8 (stringToUtf16 s)
/-- a pool by its gaps: so many unusable entries, then the entry; so many at the end -/
def gap : Nat → List CpInfo → List CpInfo
  | 0, r => r
  | n + 1, r => .unusable :: gap n r
def poolList (es : List (Nat × CpInfo)) (last : Nat) : List CpInfo := es.foldr (fun e r => gap e.1 (e.2 :: r)) (gap last [])
def pool (es : List (Nat × CpInfo)) (last : Nat) : Array CpInfo := ⟨poolList es last⟩
def fileOf (pool : Array CpInfo) (this : Nat) (attrs : Array Attribute := #[]) (ms : Array MethodInfo := #[]) (fl : Nat := 33) (sup : Nat := 0) (ifs : Array Nat := #[]) (fds : Array FieldInfo := #[]) : ClassFile where
  minorVersion := 0
  majorVersion := 65
  constantPool := pool
  accessFlags := fl
  thisClass := this
  superClass := sup
  interfaces := ifs
  fields := fds
  methods := ms
  attributes := attrs
def plain (name : String) (sup : Option ClassId) : Class where
  name := name
  kind := .ordinary
  loader := none
  accessFlags := 33
  super := sup
  interfaces := #[]
  cf := none
  fields := #[]
  methods := #[]
  instanceTypes := #[]
  staticTypes := #[]
  resolved := #[]
  callSites := []
  init := .initialized
  statics := none
  mirror := none

def pool0 : Array CpInfo := pool [(5, u "<init>"), (0, u "()V"), (1, .class_ 10), (1, u "java/lang/Object"), (85, u "clone"), (0, u "()Ljava/lang/Object;")] 26

def k0c0 : Code := { maxStack := 0, maxLocals := 1, code := object_method_1_code, exceptionTable := #[], attributes := #[] }
def k0m0 : Method := { name := "<init>", desc := "()V", sig := { parameters := [], returnType := none }, accessFlags := 1, code := some k0c0 }
def k0m1 : Method := { name := "clone", desc := "()Ljava/lang/Object;", sig := { parameters := [], returnType := some (.object "java/lang/Object") }, accessFlags := 260, code := none }
/-- java/lang/Object -/
def k0 : Class := { plain "java/lang/Object" none with
  accessFlags := 33
  interfaces := #[]
  cf := some (fileOf pool0 8 #[] #[{ accessFlags := 1, nameIndex := 5, descriptorIndex := 6, attributes := #[] }, { accessFlags := 260, nameIndex := 96, descriptorIndex := 97, attributes := #[] }] 33 0 #[] #[])
  fields := #[]
  methods := #[k0m0, k0m1]
  instanceTypes := #[]
  staticTypes := #[]
  resolved := Array.replicate 124 none
  statics := none }

def pool1 : Array CpInfo := pool [(2, .class_ 4), (1, u "java/lang/Object"), (0, u "<init>"), (0, u "()V"), (0, .methodref 8 9), (0, .class_ 10), (0, .nameAndType 11 12), (0, u "java/lang/Math"), (0, u "min"), (0, u "(II)I"), (0, .methodref 8 14), (0, .nameAndType 15 12), (0, u "max"), (0, .class_ 17), (0, u "com/example/regolo/regolo/engine/Relaxation"), (0, .methodref 16 19), (0, .nameAndType 5 20), (0, u "([D)V"), (0, .methodref 16 22), (0, .nameAndType 23 24), (0, u "bound"), (0, u "(IDD)V"), (0, .methodref 26 27), (0, .class_ 28), (0, .nameAndType 29 30), (0, u "com/example/regolo/regolo/engine/RelaxationObjectivePinLaw"), (0, u "expectedValue"), (0, u "(IZII)J"), (0, .methodref 16 32), (0, .nameAndType 33 34), (0, u "objective"), (0, u "()D"), (2, u "law"), (0, u "(IIIIII)Z")] 5

def k1m0 : Method := { name := "<init>", desc := "()V", sig := { parameters := [], returnType := none }, accessFlags := 1, code := none }
def k1c1 : Code := { maxStack := 6, maxLocals := 30, code := code, exceptionTable := #[], attributes := #[] }
def k1m1 : Method := { name := "law", desc := "(IIIIII)Z", sig := { parameters := [.int, .int, .int, .int, .int, .int], returnType := some .boolean }, accessFlags := 9, code := some k1c1 }
def k1c2 : Code := { maxStack := 2, maxLocals := 4, code := method_3_code, exceptionTable := #[], attributes := #[] }
def k1m2 : Method := { name := "expectedValue", desc := "(IZII)J", sig := { parameters := [.int, .boolean, .int, .int], returnType := some .long }, accessFlags := 10, code := some k1c2 }
/-- com/example/regolo/regolo/engine/RelaxationObjectivePinLaw -/
def k1 : Class := { plain "com/example/regolo/regolo/engine/RelaxationObjectivePinLaw" (some 0) with
  accessFlags := 49
  interfaces := #[]
  cf := some (fileOf pool1 26 #[] #[{ accessFlags := 1, nameIndex := 5, descriptorIndex := 6, attributes := #[] }, { accessFlags := 9, nameIndex := 37, descriptorIndex := 38, attributes := #[] }, { accessFlags := 10, nameIndex := 29, descriptorIndex := 30, attributes := #[] }] 49 2 #[] #[])
  fields := #[]
  methods := #[k1m0, k1m1, k1m2]
  instanceTypes := #[]
  staticTypes := #[]
  resolved := Array.replicate 44 none
  statics := none }

def pool2 : Array CpInfo := pool [(1, .class_ 2), (0, u "java/lang/Math"), (1, .class_ 6), (1, u "java/lang/Object"), (0, u "<init>"), (0, u "()V"), (89, .class_ 100), (1, u "java/lang/Math$RandomNumberGeneratorHolder"), (71, u "negativeZeroFloatBits"), (0, u "J"), (2, u "negativeZeroDoubleBits"), (21, u "max"), (2, u "min"), (43, u "$assertionsDisabled"), (0, u "Z"), (88, u "(II)I"), (2, u "twoToTheDoubleScaleDown"), (0, u "D"), (4, u "twoToTheDoubleScaleUp"), (9, u "E"), (3, u "PI"), (2, u "TAU"), (2, u "DEGREES_TO_RADIANS"), (0, u "RADIANS_TO_DEGREES")] 94

def k2m0 : Method := { name := "<init>", desc := "()V", sig := { parameters := [], returnType := none }, accessFlags := 2, code := none }
def k2c1 : Code := { maxStack := 2, maxLocals := 2, code := jdk_29_method_65_code, exceptionTable := #[], attributes := #[] }
def k2m1 : Method := { name := "max", desc := "(II)I", sig := { parameters := [.int, .int], returnType := some .int }, accessFlags := 9, code := some k2c1 }
def k2c2 : Code := { maxStack := 2, maxLocals := 2, code := jdk_29_method_69_code, exceptionTable := #[], attributes := #[] }
def k2m2 : Method := { name := "min", desc := "(II)I", sig := { parameters := [.int, .int], returnType := some .int }, accessFlags := 9, code := some k2c2 }
/-- java/lang/Math -/
def k2 : Class := { plain "java/lang/Math" (some 0) with
  accessFlags := 49
  interfaces := #[]
  cf := some (fileOf pool2 1 #[.nestMembers #[98]] #[{ accessFlags := 2, nameIndex := 7, descriptorIndex := 8, attributes := #[] }, { accessFlags := 9, nameIndex := 198, descriptorIndex := 335, attributes := #[] }, { accessFlags := 9, nameIndex := 201, descriptorIndex := 335, attributes := #[] }] 49 4 #[] #[{ accessFlags := 25, nameIndex := 354, descriptorIndex := 339, attributes := #[] }, { accessFlags := 25, nameIndex := 358, descriptorIndex := 339, attributes := #[] }, { accessFlags := 25, nameIndex := 361, descriptorIndex := 339, attributes := #[] }, { accessFlags := 26, nameIndex := 364, descriptorIndex := 339, attributes := #[] }, { accessFlags := 26, nameIndex := 365, descriptorIndex := 339, attributes := #[] }, { accessFlags := 26, nameIndex := 172, descriptorIndex := 173, attributes := #[] }, { accessFlags := 26, nameIndex := 176, descriptorIndex := 173, attributes := #[] }, { accessFlags := 8, nameIndex := 344, descriptorIndex := 339, attributes := #[] }, { accessFlags := 8, nameIndex := 338, descriptorIndex := 339, attributes := #[] }, { accessFlags := 4120, nameIndex := 245, descriptorIndex := 246, attributes := #[] }])
  fields := #[{ name := "E", type := .double, accessFlags := 25, slot := 0, constantValue := 0 }, { name := "PI", type := .double, accessFlags := 25, slot := 1, constantValue := 0 }, { name := "TAU", type := .double, accessFlags := 25, slot := 2, constantValue := 0 }, { name := "DEGREES_TO_RADIANS", type := .double, accessFlags := 26, slot := 3, constantValue := 0 }, { name := "RADIANS_TO_DEGREES", type := .double, accessFlags := 26, slot := 4, constantValue := 0 }, { name := "negativeZeroFloatBits", type := .long, accessFlags := 26, slot := 5, constantValue := 0 }, { name := "negativeZeroDoubleBits", type := .long, accessFlags := 26, slot := 6, constantValue := 0 }, { name := "twoToTheDoubleScaleUp", type := .double, accessFlags := 8, slot := 7, constantValue := 0 }, { name := "twoToTheDoubleScaleDown", type := .double, accessFlags := 8, slot := 8, constantValue := 0 }, { name := "$assertionsDisabled", type := .boolean, accessFlags := 4120, slot := 9, constantValue := 0 }]
  methods := #[k2m0, k2m1, k2m2]
  instanceTypes := #[]
  staticTypes := #[.double, .double, .double, .double, .double, .long, .long, .double, .double, .boolean]
  resolved := Array.replicate 460 none
  statics := none }

def pool3 : Array CpInfo := pool [(1, .methodref 2 3), (0, .class_ 4), (0, .nameAndType 5 6), (0, u "java/lang/Object"), (0, u "<init>"), (0, u "()V"), (0, .class_ 8), (0, u "java/util/ArrayList"), (0, .methodref 7 3), (0, .fieldref 11 12), (0, .class_ 13), (0, .nameAndType 14 15), (0, u "com/example/regolo/regolo/engine/Relaxation"), (0, u "rows"), (0, u "Ljava/util/List;"), (0, .fieldref 11 17), (0, .nameAndType 18 19), (0, u "head"), (0, u "[I"), (0, .fieldref 11 21), (0, .nameAndType 22 23), (0, u "weight"), (0, u "[D"), (0, .class_ 23), (0, .fieldref 11 26), (0, .nameAndType 27 28), (0, u "inverse"), (0, u "[[D"), (0, .fieldref 11 30), (0, .nameAndType 31 32), (0, u "columns"), (0, u "I"), (0, .methodref 24 34), (0, .nameAndType 35 36), (0, u "clone"), (0, u "()Ljava/lang/Object;"), (0, .fieldref 11 38), (0, .nameAndType 39 23), (0, u "cost"), (0, .fieldref 11 41), (0, .nameAndType 42 23), (0, u "lower"), (0, .fieldref 11 44), (0, .nameAndType 45 23), (0, u "upper"), (0, .fieldref 11 47), (0, .nameAndType 48 23), (0, u "value"), (0, .fieldref 11 50), (0, .nameAndType 51 19), (0, u "status"), (0, .fieldref 11 53), (0, .nameAndType 54 23), (0, u "reduced"), (0, .fieldref 11 56), (0, .nameAndType 57 19), (0, u "place"), (0, .methodref 59 60), (0, .class_ 61), (0, .nameAndType 62 63), (0, u "java/util/Arrays"), (0, u "fill"), (0, u "([DD)V"), (0, .methodref 59 65), (0, .nameAndType 62 66), (0, u "([II)V"), (0, .interfaceMethodref 68 69), (0, .class_ 70), (0, .nameAndType 71 72), (0, u "java/util/List"), (0, u "size"), (0, u "()I"), (4, .class_ 78), (0, u "com/example/regolo/regolo/engine/Relaxation$Row"), (0, .methodref 11 80), (0, .nameAndType 14 72), (33, u "bound"), (0, u "D"), (9, .fieldref 11 126), (0, .nameAndType 127 128), (0, u "columnRows"), (0, u "[[I"), (16, .methodref 11 146), (0, .nameAndType 147 148), (0, u "move"), (0, u "(ID)V"), (5, u "pivots"), (7, .class_ 164), (1, u "com/example/regolo/regolo/engine/Relaxation$Outcome"), (73, u "columnValues"), (33, u "FEASIBLE"), (1, u "OPTIMAL_COST"), (0, u "PIVOT"), (0, u "REFRESH"), (1, u "BASIC"), (1, u "AT_LOWER"), (1, u "AT_UPPER"), (3, u "([D)V"), (12, u "(IDD)V"), (1, u "objective"), (0, u "()D")] 40

def k3c0 : Code := { maxStack := 6, maxLocals := 3, code := prog_62_method_1_code, exceptionTable := #[], attributes := #[] }
def k3m0 : Method := { name := "<init>", desc := "([D)V", sig := { parameters := [(.array .double)], returnType := none }, accessFlags := 0, code := some k3c0 }
def k3c1 : Code := { maxStack := 1, maxLocals := 1, code := prog_62_method_2_code, exceptionTable := #[], attributes := #[] }
def k3m1 : Method := { name := "rows", desc := "()I", sig := { parameters := [], returnType := some .int }, accessFlags := 0, code := some k3c1 }
def k3c2 : Code := { maxStack := 4, maxLocals := 7, code := prog_62_method_7_code, exceptionTable := #[], attributes := #[] }
def k3m2 : Method := { name := "bound", desc := "(IDD)V", sig := { parameters := [.int, .double, .double], returnType := none }, accessFlags := 0, code := some k3c2 }
def k3c3 : Code := { maxStack := 6, maxLocals := 4, code := prog_62_method_9_code, exceptionTable := #[], attributes := #[] }
def k3m3 : Method := { name := "objective", desc := "()D", sig := { parameters := [], returnType := some .double }, accessFlags := 0, code := some k3c3 }
def k3c4 : Code := { maxStack := 6, maxLocals := 9, code := prog_62_method_18_code, exceptionTable := #[], attributes := #[] }
def k3m4 : Method := { name := "move", desc := "(ID)V", sig := { parameters := [.int, .double], returnType := none }, accessFlags := 2, code := some k3c4 }
/-- com/example/regolo/regolo/engine/Relaxation -/
def k3 : Class := { plain "com/example/regolo/regolo/engine/Relaxation" (some 0) with
  accessFlags := 48
  interfaces := #[]
  cf := some (fileOf pool3 11 #[.nestMembers #[77, 162]] #[{ accessFlags := 0, nameIndex := 5, descriptorIndex := 286, attributes := #[] }, { accessFlags := 0, nameIndex := 14, descriptorIndex := 72, attributes := #[] }, { accessFlags := 0, nameIndex := 114, descriptorIndex := 299, attributes := #[] }, { accessFlags := 0, nameIndex := 301, descriptorIndex := 302, attributes := #[] }, { accessFlags := 2, nameIndex := 147, descriptorIndex := 148, attributes := #[] }] 48 2 #[] #[{ accessFlags := 24, nameIndex := 272, descriptorIndex := 115, attributes := #[] }, { accessFlags := 26, nameIndex := 274, descriptorIndex := 115, attributes := #[] }, { accessFlags := 26, nameIndex := 275, descriptorIndex := 115, attributes := #[] }, { accessFlags := 26, nameIndex := 276, descriptorIndex := 32, attributes := #[] }, { accessFlags := 26, nameIndex := 278, descriptorIndex := 32, attributes := #[] }, { accessFlags := 26, nameIndex := 280, descriptorIndex := 32, attributes := #[] }, { accessFlags := 26, nameIndex := 282, descriptorIndex := 32, attributes := #[] }, { accessFlags := 18, nameIndex := 31, descriptorIndex := 32, attributes := #[] }, { accessFlags := 18, nameIndex := 39, descriptorIndex := 23, attributes := #[] }, { accessFlags := 18, nameIndex := 14, descriptorIndex := 15, attributes := #[] }, { accessFlags := 2, nameIndex := 42, descriptorIndex := 23, attributes := #[] }, { accessFlags := 2, nameIndex := 45, descriptorIndex := 23, attributes := #[] }, { accessFlags := 2, nameIndex := 48, descriptorIndex := 23, attributes := #[] }, { accessFlags := 2, nameIndex := 51, descriptorIndex := 19, attributes := #[] }, { accessFlags := 2, nameIndex := 54, descriptorIndex := 23, attributes := #[] }, { accessFlags := 2, nameIndex := 57, descriptorIndex := 19, attributes := #[] }, { accessFlags := 2, nameIndex := 18, descriptorIndex := 19, attributes := #[] }, { accessFlags := 2, nameIndex := 22, descriptorIndex := 23, attributes := #[] }, { accessFlags := 2, nameIndex := 27, descriptorIndex := 28, attributes := #[] }, { accessFlags := 2, nameIndex := 127, descriptorIndex := 128, attributes := #[] }, { accessFlags := 2, nameIndex := 238, descriptorIndex := 28, attributes := #[] }, { accessFlags := 2, nameIndex := 154, descriptorIndex := 32, attributes := #[] }])
  fields := #[{ name := "FEASIBLE", type := .double, accessFlags := 24, slot := 0, constantValue := 0 }, { name := "OPTIMAL_COST", type := .double, accessFlags := 26, slot := 1, constantValue := 0 }, { name := "PIVOT", type := .double, accessFlags := 26, slot := 2, constantValue := 0 }, { name := "REFRESH", type := .int, accessFlags := 26, slot := 3, constantValue := 0 }, { name := "BASIC", type := .int, accessFlags := 26, slot := 4, constantValue := 0 }, { name := "AT_LOWER", type := .int, accessFlags := 26, slot := 5, constantValue := 0 }, { name := "AT_UPPER", type := .int, accessFlags := 26, slot := 6, constantValue := 0 }, { name := "columns", type := .int, accessFlags := 18, slot := 0, constantValue := 0 }, { name := "cost", type := (.array .double), accessFlags := 18, slot := 1, constantValue := 0 }, { name := "rows", type := (.object "java/util/List"), accessFlags := 18, slot := 2, constantValue := 0 }, { name := "lower", type := (.array .double), accessFlags := 2, slot := 3, constantValue := 0 }, { name := "upper", type := (.array .double), accessFlags := 2, slot := 4, constantValue := 0 }, { name := "value", type := (.array .double), accessFlags := 2, slot := 5, constantValue := 0 }, { name := "status", type := (.array .int), accessFlags := 2, slot := 6, constantValue := 0 }, { name := "reduced", type := (.array .double), accessFlags := 2, slot := 7, constantValue := 0 }, { name := "place", type := (.array .int), accessFlags := 2, slot := 8, constantValue := 0 }, { name := "head", type := (.array .int), accessFlags := 2, slot := 9, constantValue := 0 }, { name := "weight", type := (.array .double), accessFlags := 2, slot := 10, constantValue := 0 }, { name := "inverse", type := (.array (.array .double)), accessFlags := 2, slot := 11, constantValue := 0 }, { name := "columnRows", type := (.array (.array .int)), accessFlags := 2, slot := 12, constantValue := 0 }, { name := "columnValues", type := (.array (.array .double)), accessFlags := 2, slot := 13, constantValue := 0 }, { name := "pivots", type := .int, accessFlags := 2, slot := 14, constantValue := 0 }]
  methods := #[k3m0, k3m1, k3m2, k3m3, k3m4]
  instanceTypes := #[.int, (.array .double), (.object "java/util/List"), (.array .double), (.array .double), (.array .double), (.array .int), (.array .double), (.array .int), (.array .int), (.array .double), (.array (.array .double)), (.array (.array .int)), (.array (.array .double)), .int]
  staticTypes := #[.double, .double, .double, .int, .int, .int, .int]
  resolved := Array.replicate 343 none
  statics := none }

def pool4 : Array CpInfo := pool [(8, .class_ 10), (1, u "java/lang/Iterable"), (24, .class_ 36), (0, u "java/lang/Object")] 25

/-- java/lang/Iterable -/
def k4 : Class := { plain "java/lang/Iterable" (some 0) with
  accessFlags := 1537
  interfaces := #[]
  cf := some (fileOf pool4 8 #[] #[] 1537 35 #[] #[])
  fields := #[]
  methods := #[]
  instanceTypes := #[]
  staticTypes := #[]
  resolved := Array.replicate 62 none
  statics := none }

def pool5 : Array CpInfo := pool [(10, .class_ 12), (1, u "java/util/Collection"), (47, .class_ 61), (0, u "java/lang/Object"), (0, .class_ 63), (0, u "java/lang/Iterable")] 51

/-- java/util/Collection -/
def k5 : Class := { plain "java/util/Collection" (some 0) with
  accessFlags := 1537
  interfaces := #[4]
  cf := some (fileOf pool5 10 #[] #[] 1537 60 #[62] #[])
  fields := #[]
  methods := #[]
  instanceTypes := #[]
  staticTypes := #[]
  resolved := Array.replicate 115 none
  statics := none }

def pool6 : Array CpInfo := pool [(1, .methodref 2 3), (0, .class_ 4), (0, .nameAndType 5 6), (0, u "java/lang/Object"), (0, u "<init>"), (0, u "()V"), (1, .class_ 10), (1, u "java/util/AbstractCollection"), (66, .class_ 78), (0, u "java/util/Collection")] 81

def k6c0 : Code := { maxStack := 1, maxLocals := 1, code := jdk_22_method_1_code, exceptionTable := #[], attributes := #[] }
def k6m0 : Method := { name := "<init>", desc := "()V", sig := { parameters := [], returnType := none }, accessFlags := 4, code := some k6c0 }
/-- java/util/AbstractCollection -/
def k6 : Class := { plain "java/util/AbstractCollection" (some 0) with
  accessFlags := 1057
  interfaces := #[5]
  cf := some (fileOf pool6 8 #[] #[{ accessFlags := 4, nameIndex := 5, descriptorIndex := 6, attributes := #[] }] 1057 2 #[77] #[])
  fields := #[]
  methods := #[k6m0]
  instanceTypes := #[]
  staticTypes := #[]
  resolved := Array.replicate 160 none
  statics := none }

def pool7 : Array CpInfo := pool [(8, .class_ 10), (1, u "java/util/SequencedCollection"), (15, .class_ 27), (0, u "java/lang/Object"), (0, .class_ 29), (0, u "java/util/Collection")] 27

/-- java/util/SequencedCollection -/
def k7 : Class := { plain "java/util/SequencedCollection" (some 0) with
  accessFlags := 1537
  interfaces := #[5]
  cf := some (fileOf pool7 8 #[] #[] 1537 26 #[28] #[])
  fields := #[]
  methods := #[]
  instanceTypes := #[]
  staticTypes := #[]
  resolved := Array.replicate 57 none
  statics := none }

def pool8 : Array CpInfo := pool [(8, .class_ 10), (1, u "java/util/List"), (68, u "size"), (0, u "()I"), (22, .class_ 104), (0, u "java/lang/Object"), (15, .class_ 121), (0, u "java/util/SequencedCollection")] 129

def k8m0 : Method := { name := "size", desc := "()I", sig := { parameters := [], returnType := some .int }, accessFlags := 1025, code := none }
/-- java/util/List -/
def k8 : Class := { plain "java/util/List" (some 0) with
  accessFlags := 1537
  interfaces := #[7]
  cf := some (fileOf pool8 8 #[] #[{ accessFlags := 1025, nameIndex := 79, descriptorIndex := 80, attributes := #[] }] 1537 103 #[120] #[])
  fields := #[]
  methods := #[k8m0]
  instanceTypes := #[]
  staticTypes := #[]
  resolved := Array.replicate 251 none
  statics := none }

def pool9 : Array CpInfo := pool [(1, .methodref 2 3), (0, .class_ 4), (0, .nameAndType 5 6), (0, u "java/util/AbstractCollection"), (0, u "<init>"), (0, u "()V"), (0, .fieldref 8 9), (0, .class_ 10), (0, .nameAndType 11 12), (0, u "java/util/AbstractList"), (0, u "modCount"), (0, u "I"), (64, .class_ 78), (0, u "java/util/AbstractList$Itr"), (3, .class_ 83), (0, u "java/util/AbstractList$ListItr"), (9, .class_ 94), (0, u "java/util/AbstractList$RandomAccessSubList"), (3, .class_ 99), (0, u "java/util/AbstractList$SubList"), (33, .class_ 134), (0, u "java/util/List"), (73, .class_ 209), (0, u "java/util/AbstractList$SubList$1"), (0, .class_ 211), (0, u "java/util/AbstractList$RandomAccessSpliterator")] 6

def k9c0 : Code := { maxStack := 2, maxLocals := 1, code := jdk_39_method_1_code, exceptionTable := #[], attributes := #[] }
def k9m0 : Method := { name := "<init>", desc := "()V", sig := { parameters := [], returnType := none }, accessFlags := 4, code := some k9c0 }
/-- java/util/AbstractList -/
def k9 : Class := { plain "java/util/AbstractList" (some 6) with
  accessFlags := 1057
  interfaces := #[8]
  cf := some (fileOf pool9 8 #[.nestMembers #[93, 98, 208, 210, 82, 77]] #[{ accessFlags := 4, nameIndex := 5, descriptorIndex := 6, attributes := #[] }] 1057 2 #[133] #[{ accessFlags := 132, nameIndex := 11, descriptorIndex := 12, attributes := #[] }])
  fields := #[{ name := "modCount", type := .int, accessFlags := 132, slot := 0, constantValue := 0 }]
  methods := #[k9m0]
  instanceTypes := #[.int]
  staticTypes := #[]
  resolved := Array.replicate 218 none
  statics := none }

def pool10 : Array CpInfo := pool [(1, .class_ 2), (0, u "java/util/RandomAccess"), (0, .class_ 4), (0, u "java/lang/Object")] 2

/-- java/util/RandomAccess -/
def k10 : Class := { plain "java/util/RandomAccess" (some 0) with
  accessFlags := 1537
  interfaces := #[]
  cf := some (fileOf pool10 1 #[] #[] 1537 3 #[] #[])
  fields := #[]
  methods := #[]
  instanceTypes := #[]
  staticTypes := #[]
  resolved := Array.replicate 7 none
  statics := none }

def pool11 : Array CpInfo := pool [(1, .class_ 2), (0, u "java/lang/Cloneable"), (0, .class_ 4), (0, u "java/lang/Object")] 2

/-- java/lang/Cloneable -/
def k11 : Class := { plain "java/lang/Cloneable" (some 0) with
  accessFlags := 1537
  interfaces := #[]
  cf := some (fileOf pool11 1 #[] #[] 1537 3 #[] #[])
  fields := #[]
  methods := #[]
  instanceTypes := #[]
  staticTypes := #[]
  resolved := Array.replicate 7 none
  statics := none }

def pool12 : Array CpInfo := pool [(1, .class_ 2), (0, u "java/io/Serializable"), (0, .class_ 4), (0, u "java/lang/Object")] 2

/-- java/io/Serializable -/
def k12 : Class := { plain "java/io/Serializable" (some 0) with
  accessFlags := 1537
  interfaces := #[]
  cf := some (fileOf pool12 1 #[] #[] 1537 3 #[] #[])
  fields := #[]
  methods := #[]
  instanceTypes := #[]
  staticTypes := #[]
  resolved := Array.replicate 7 none
  statics := none }

def pool13 : Array CpInfo := pool [(1, .methodref 2 3), (0, .class_ 4), (0, .nameAndType 5 6), (0, u "java/util/AbstractList"), (0, u "<init>"), (0, u "()V"), (2, .fieldref 10 11), (0, .class_ 12), (0, .nameAndType 13 14), (0, u "java/util/ArrayList"), (0, u "elementData"), (0, u "[Ljava/lang/Object;"), (2, u "EMPTY_ELEMENTDATA"), (21, .fieldref 10 40), (0, .nameAndType 41 14), (0, u "DEFAULTCAPACITY_EMPTY_ELEMENTDATA"), (6, .fieldref 10 49), (0, .nameAndType 50 51), (0, u "size"), (0, u "I"), (96, .class_ 149), (0, u "java/util/List"), (36, u "()I"), (75, .class_ 263), (0, u "java/util/ArrayList$ListItr"), (3, .class_ 268), (0, u "java/util/ArrayList$Itr"), (7, .class_ 277), (0, u "java/util/ArrayList$SubList"), (12, .class_ 291), (0, u "java/util/ArrayList$ArrayListSpliterator"), (37, .class_ 330), (0, u "java/util/RandomAccess"), (0, .class_ 332), (0, u "java/lang/Cloneable"), (0, .class_ 334), (0, u "java/io/Serializable"), (0, u "serialVersionUID"), (0, u "J"), (3, u "DEFAULT_CAPACITY"), (159, .class_ 501), (0, u "java/util/ArrayList$SubList$2"), (0, .class_ 503), (0, u "java/util/ArrayList$SubList$1")] 5

def k13c0 : Code := { maxStack := 2, maxLocals := 1, code := jdk_38_method_2_code, exceptionTable := #[], attributes := #[] }
def k13m0 : Method := { name := "<init>", desc := "()V", sig := { parameters := [], returnType := none }, accessFlags := 1, code := some k13c0 }
def k13c1 : Code := { maxStack := 1, maxLocals := 1, code := jdk_38_method_8_code, exceptionTable := #[], attributes := #[] }
def k13m1 : Method := { name := "size", desc := "()I", sig := { parameters := [], returnType := some .int }, accessFlags := 1, code := some k13c1 }
/-- java/util/ArrayList -/
def k13 : Class := { plain "java/util/ArrayList" (some 9) with
  accessFlags := 33
  interfaces := #[8, 10, 11, 12]
  cf := some (fileOf pool13 10 #[.nestMembers #[290, 276, 500, 502, 262, 267]] #[{ accessFlags := 1, nameIndex := 5, descriptorIndex := 6, attributes := #[] }, { accessFlags := 1, nameIndex := 50, descriptorIndex := 186, attributes := #[] }] 33 2 #[148, 329, 331, 333] #[{ accessFlags := 26, nameIndex := 335, descriptorIndex := 336, attributes := #[] }, { accessFlags := 26, nameIndex := 340, descriptorIndex := 51, attributes := #[] }, { accessFlags := 26, nameIndex := 17, descriptorIndex := 14, attributes := #[] }, { accessFlags := 26, nameIndex := 41, descriptorIndex := 14, attributes := #[] }, { accessFlags := 128, nameIndex := 13, descriptorIndex := 14, attributes := #[] }, { accessFlags := 2, nameIndex := 50, descriptorIndex := 51, attributes := #[] }])
  fields := #[{ name := "serialVersionUID", type := .long, accessFlags := 26, slot := 0, constantValue := 0 }, { name := "DEFAULT_CAPACITY", type := .int, accessFlags := 26, slot := 1, constantValue := 0 }, { name := "EMPTY_ELEMENTDATA", type := (.array (.object "java/lang/Object")), accessFlags := 26, slot := 2, constantValue := 0 }, { name := "DEFAULTCAPACITY_EMPTY_ELEMENTDATA", type := (.array (.object "java/lang/Object")), accessFlags := 26, slot := 3, constantValue := 0 }, { name := "elementData", type := (.array (.object "java/lang/Object")), accessFlags := 128, slot := 1, constantValue := 0 }, { name := "size", type := .int, accessFlags := 2, slot := 2, constantValue := 0 }]
  methods := #[k13m0, k13m1]
  instanceTypes := #[.int, (.array (.object "java/lang/Object")), .int]
  staticTypes := #[.long, .int, (.array (.object "java/lang/Object")), (.array (.object "java/lang/Object"))]
  resolved := Array.replicate 509 none
  statics := some 0 }

def pool14 : Array CpInfo := pool [(2, .class_ 4), (1, u "java/lang/Object"), (0, u "<init>"), (0, u "()V"), (7, .class_ 16), (1, u "java/util/Arrays"), (57, .class_ 76), (1, u "java/util/Arrays$NaturalOrder"), (36, .class_ 115), (1, u "java/util/Arrays$LegacyMergeSort"), (1, u "Z"), (257, .class_ 376), (0, u "java/util/Arrays$ArrayList"), (68, u "$assertionsDisabled"), (269, u "MIN_ARRAY_SORT_GRAN"), (0, u "I"), (2, u "INSERTIONSORT_THRESHOLD"), (120, u "fill"), (4, u "([II)V"), (8, u "([DD)V"), (120, .class_ 976), (0, u "java/util/Arrays$ArrayItr")] 52

def k14m0 : Method := { name := "<init>", desc := "()V", sig := { parameters := [], returnType := none }, accessFlags := 2, code := none }
def k14c1 : Code := { maxStack := 3, maxLocals := 4, code := jdk_65_method_103_code, exceptionTable := #[], attributes := #[] }
def k14m1 : Method := { name := "fill", desc := "([II)V", sig := { parameters := [(.array .int), .int], returnType := none }, accessFlags := 9, code := some k14c1 }
def k14c2 : Code := { maxStack := 4, maxLocals := 5, code := jdk_65_method_113_code, exceptionTable := #[], attributes := #[] }
def k14m2 : Method := { name := "fill", desc := "([DD)V", sig := { parameters := [(.array .double), .double], returnType := none }, accessFlags := 9, code := some k14c2 }
/-- java/util/Arrays -/
def k14 : Class := { plain "java/util/Arrays" (some 0) with
  accessFlags := 49
  interfaces := #[]
  cf := some (fileOf pool14 14 #[.nestMembers #[975, 375, 113, 74]] #[{ accessFlags := 2, nameIndex := 5, descriptorIndex := 6, attributes := #[] }, { accessFlags := 9, nameIndex := 840, descriptorIndex := 845, attributes := #[] }, { accessFlags := 9, nameIndex := 840, descriptorIndex := 854, attributes := #[] }] 49 2 #[] #[{ accessFlags := 26, nameIndex := 715, descriptorIndex := 716, attributes := #[] }, { accessFlags := 26, nameIndex := 719, descriptorIndex := 716, attributes := #[] }, { accessFlags := 4120, nameIndex := 445, descriptorIndex := 117, attributes := #[] }])
  fields := #[{ name := "MIN_ARRAY_SORT_GRAN", type := .int, accessFlags := 26, slot := 0, constantValue := 0 }, { name := "INSERTIONSORT_THRESHOLD", type := .int, accessFlags := 26, slot := 1, constantValue := 0 }, { name := "$assertionsDisabled", type := .boolean, accessFlags := 4120, slot := 2, constantValue := 0 }]
  methods := #[k14m0, k14m1, k14m2]
  instanceTypes := #[]
  staticTypes := #[.int, .int, .boolean]
  resolved := Array.replicate 1029 none
  statics := none }

/-- the primitive byte -/
def k15 : Class := { plain "byte" none with kind := .primitive 'B', accessFlags := 0x411 }
/-- [B -/
def k16 : Class := { plain "[B" (some 0) with kind := .array 15 .byte, interfaces := #[11, 12], accessFlags := 1041 }

/-- the primitive int -/
def k17 : Class := { plain "int" none with kind := .primitive 'I', accessFlags := 0x411 }
/-- [I -/
def k18 : Class := { plain "[I" (some 0) with kind := .array 17 .int, interfaces := #[11, 12], accessFlags := 1041 }

/-- [Ljava/lang/Object; -/
def k19 : Class := { plain "[Ljava/lang/Object;" (some 0) with kind := .array 0 (.object "java/lang/Object"), interfaces := #[11, 12], accessFlags := 1041 }

/-- the primitive double, [D, [[D -/
def k20 : Class := { plain "double" none with kind := .primitive 'D', accessFlags := 0x411 }
def k21 : Class := { plain "[D" (some 0) with kind := .array 20 .double, interfaces := #[11, 12], accessFlags := 1041 }
def k22 : Class := { plain "[[D" (some 0) with kind := .array 21 (.array .double), interfaces := #[11, 12], accessFlags := 1041 }
def heap : Heap := #[{ cls := 13, slots := #[.long 0, .int 0, .ref 1, .ref 2], vm := .statics 13 },
  { cls := 19, slots := #[], vm := .none },
  { cls := 19, slots := #[], vm := .none }]
def classes : Array Class := #[k0, k1, k2, k3, k4, k5, k6, k7, k8, k9, k10, k11, k12, k13, k14, k15, k16, k17, k18, k19, k20, k21, k22]
def interned : List (Array UInt16 × Addr) := []
def slotsUsed : Nat := 4
def theMethod : MethodId := ⟨1, 1⟩
def args0 : Array Value := #[.int 5, .int 3, .int (-7), .int 100, .int 2, .int 5]
def aboutOver (below : List Frame) : State where
  vm := { classes := classes, interned := interned.toArray }
  heap := heap
  slotsUsed := slotsUsed
  threads := #[{ frames := .invoking theMethod args0 :: below }]
def below0 : List Frame := [.native { method := ⟨0, 0⟩, args := #[] }]
def about1 : State := aboutOver below0
def p0 : Program := .bare "" "" ""
def e0 : Env := launch0.env 0 0 0
theorem w_frames : about1.frames = Frame.invoking theMethod args0 :: below0 := rfl
set_option maxRecDepth 65536 in
theorem w_args : argsFit about1.vm theMethod args0 = true := by decide +kernel
set_option maxRecDepth 65536 in
theorem w_heap : heapFits about1 = true := by decide +kernel
set_option maxRecDepth 65536 in
theorem w_runnable : about1.curStatus? = some .runnable := by decide +kernel
set_option maxRecDepth 65536 in
theorem w_alone : about1.alone = true := by decide +kernel
set_option maxRecDepth 65536 in
theorem w_named : about1.methodNamed? x = some theMethod := by decide +kernel
set_option maxRecDepth 65536 in
theorem w_hears : about1.hears theMethod below0 = true := by decide +kernel
set_option maxRecDepth 65536 in
theorem w_ripe : about1.ripe theMethod args0 below0 = true := by decide +kernel
theorem w_running : about1.status = .running := rfl
set_option maxRecDepth 65536 in
theorem w_room : about1.hasRoom e0.platform room_1 = true :=
  launch0.hasRoom_least _ room_1 (by decide +kernel) (by decide +kernel) (by decide +kernel) (by decide +kernel) (by decide +kernel) (by decide +kernel)
theorem allAtoms_all (ts : List Jvm.Cond) (a : Array Jvm.Value) (st : Jvm.State) : (allAtoms ts).before a st = ts.all (fun c => c.before a st) := by
  induction ts with
  | nil => rfl
  | cons c t ih =>
    show (Jvm.Cond.and c (allAtoms t)).before a st = _
    rw [Jvm.Cond.before_and, ih, List.all_cons]
def words1 : List Jvm.Cond := Jvm.Cond.code x code maxLocals ret :: tables_1
/-- a 'code' word, met by the world's own term for the bytes: nothing is compared byte by byte -/
theorem code_word {y : MethodName} {bytes : ByteArray} {mx : Nat} {rt : Option FieldType} {a : Array Value} {s : State} {m : MethodId} {meth : Method} {c : Code} (h1 : s.methodNamed? y = some m) (h2 : s.vm.method? m = some meth) (h3 : meth.code = some c) (h4 : c.code = bytes)
    (h5 : (c.maxLocals == mx && c.exceptionTable.isEmpty && decide (c.maxStack ≤ mostOperands) && decide (meth.sig.returnType = rt) && !meth.locks && decide (parseMethodDescriptor y.desc = some meth.sig)) = true) : (Jvm.Cond.code y bytes mx rt).before a s = true := by
  simp only [Bool.and_eq_true, beq_iff_eq, Bool.not_eq_true', decide_eq_true_eq] at h5
  obtain ⟨⟨⟨⟨⟨g1, g2⟩, g3⟩, g4⟩, g5⟩, g6⟩ := h5
  simp [Cond.before, Cond.holds, Cond.value, h1, h2, h3, h4, g1, g2, g3, g4, g5, g6]
def isCode : Jvm.Cond → Bool
  | .code _ _ _ _ => true
  | _ => false
theorem all_split {L : List Jvm.Cond} {P : Jvm.Cond → Bool} (h1 : L.all (fun c => isCode c || P c) = true) (h2 : ∀ c ∈ L.filter isCode, P c = true) : L.all P = true := by
  refine List.all_eq_true.mpr fun c hc => ?_
  have h := List.all_eq_true.mp h1 c hc
  rcases Bool.eq_false_or_eq_true (isCode c) with hi | hi
  · exact h2 c (List.mem_filter.mpr ⟨hc, hi⟩)
  · simpa [hi] using h
set_option maxRecDepth 65536 in
theorem w_c0 : (Jvm.Cond.code x code maxLocals ret).before args0 about1 = true := code_word (m := ⟨1, 1⟩) (meth := k1m1) (c := k1c1) (by decide +kernel) rfl rfl rfl (by decide +kernel)
set_option maxRecDepth 65536 in
theorem w_c1 : (Jvm.Cond.code ({ cls := "java/lang/Math", name := "min", desc := "(II)I" } : Jvm.MethodName) jdk_29_method_69_code (2 : Nat) (Option.some Jvm.ClassFile.FieldType.int)).before args0 about1 = true := code_word (m := ⟨2, 2⟩) (meth := k2m2) (c := k2c2) (by decide +kernel) rfl rfl rfl (by decide +kernel)
set_option maxRecDepth 65536 in
theorem w_c2 : (Jvm.Cond.code ({ cls := "java/lang/Math", name := "max", desc := "(II)I" } : Jvm.MethodName) jdk_29_method_65_code (2 : Nat) (Option.some Jvm.ClassFile.FieldType.int)).before args0 about1 = true := code_word (m := ⟨2, 1⟩) (meth := k2m1) (c := k2c1) (by decide +kernel) rfl rfl rfl (by decide +kernel)
set_option maxRecDepth 65536 in
theorem w_c3 : (Jvm.Cond.code ({ cls := "com/example/regolo/regolo/engine/Relaxation", name := "<init>", desc := "([D)V" } : Jvm.MethodName) prog_62_method_1_code (3 : Nat) (Option.none : Option Jvm.ClassFile.FieldType)).before args0 about1 = true := code_word (m := ⟨3, 0⟩) (meth := k3m0) (c := k3c0) (by decide +kernel) rfl rfl rfl (by decide +kernel)
set_option maxRecDepth 65536 in
theorem w_c4 : (Jvm.Cond.code ({ cls := "java/lang/Object", name := "<init>", desc := "()V" } : Jvm.MethodName) object_method_1_code (1 : Nat) (Option.none : Option Jvm.ClassFile.FieldType)).before args0 about1 = true := code_word (m := ⟨0, 0⟩) (meth := k0m0) (c := k0c0) (by decide +kernel) rfl rfl rfl (by decide +kernel)
set_option maxRecDepth 65536 in
theorem w_c5 : (Jvm.Cond.code ({ cls := "java/util/ArrayList", name := "<init>", desc := "()V" } : Jvm.MethodName) jdk_38_method_2_code (1 : Nat) (Option.none : Option Jvm.ClassFile.FieldType)).before args0 about1 = true := code_word (m := ⟨13, 0⟩) (meth := k13m0) (c := k13c0) (by decide +kernel) rfl rfl rfl (by decide +kernel)
set_option maxRecDepth 65536 in
theorem w_c6 : (Jvm.Cond.code ({ cls := "java/util/AbstractList", name := "<init>", desc := "()V" } : Jvm.MethodName) jdk_39_method_1_code (1 : Nat) (Option.none : Option Jvm.ClassFile.FieldType)).before args0 about1 = true := code_word (m := ⟨9, 0⟩) (meth := k9m0) (c := k9c0) (by decide +kernel) rfl rfl rfl (by decide +kernel)
set_option maxRecDepth 65536 in
theorem w_c7 : (Jvm.Cond.code ({ cls := "java/util/AbstractCollection", name := "<init>", desc := "()V" } : Jvm.MethodName) jdk_22_method_1_code (1 : Nat) (Option.none : Option Jvm.ClassFile.FieldType)).before args0 about1 = true := code_word (m := ⟨6, 0⟩) (meth := k6m0) (c := k6c0) (by decide +kernel) rfl rfl rfl (by decide +kernel)
set_option maxRecDepth 65536 in
theorem w_c8 : (Jvm.Cond.code ({ cls := "java/util/Arrays", name := "fill", desc := "([DD)V" } : Jvm.MethodName) jdk_65_method_113_code (5 : Nat) (Option.none : Option Jvm.ClassFile.FieldType)).before args0 about1 = true := code_word (m := ⟨14, 2⟩) (meth := k14m2) (c := k14c2) (by decide +kernel) rfl rfl rfl (by decide +kernel)
set_option maxRecDepth 65536 in
theorem w_c9 : (Jvm.Cond.code ({ cls := "java/util/Arrays", name := "fill", desc := "([II)V" } : Jvm.MethodName) jdk_65_method_103_code (4 : Nat) (Option.none : Option Jvm.ClassFile.FieldType)).before args0 about1 = true := code_word (m := ⟨14, 1⟩) (meth := k14m1) (c := k14c1) (by decide +kernel) rfl rfl rfl (by decide +kernel)
set_option maxRecDepth 65536 in
theorem w_c10 : (Jvm.Cond.code ({ cls := "com/example/regolo/regolo/engine/Relaxation", name := "bound", desc := "(IDD)V" } : Jvm.MethodName) prog_62_method_7_code (7 : Nat) (Option.none : Option Jvm.ClassFile.FieldType)).before args0 about1 = true := code_word (m := ⟨3, 2⟩) (meth := k3m2) (c := k3c2) (by decide +kernel) rfl rfl rfl (by decide +kernel)
set_option maxRecDepth 65536 in
theorem w_c11 : (Jvm.Cond.code ({ cls := "com/example/regolo/regolo/engine/Relaxation", name := "move", desc := "(ID)V" } : Jvm.MethodName) prog_62_method_18_code (9 : Nat) (Option.none : Option Jvm.ClassFile.FieldType)).before args0 about1 = true := code_word (m := ⟨3, 4⟩) (meth := k3m4) (c := k3c4) (by decide +kernel) rfl rfl rfl (by decide +kernel)
set_option maxRecDepth 65536 in
theorem w_c12 : (Jvm.Cond.code ({ cls := "com/example/regolo/regolo/engine/Relaxation", name := "rows", desc := "()I" } : Jvm.MethodName) prog_62_method_2_code (1 : Nat) (Option.some Jvm.ClassFile.FieldType.int)).before args0 about1 = true := code_word (m := ⟨3, 1⟩) (meth := k3m1) (c := k3c1) (by decide +kernel) rfl rfl rfl (by decide +kernel)
set_option maxRecDepth 65536 in
theorem w_c13 : (Jvm.Cond.code ({ cls := "java/util/ArrayList", name := "size", desc := "()I" } : Jvm.MethodName) jdk_38_method_8_code (1 : Nat) (Option.some Jvm.ClassFile.FieldType.int)).before args0 about1 = true := code_word (m := ⟨13, 1⟩) (meth := k13m1) (c := k13c1) (by decide +kernel) rfl rfl rfl (by decide +kernel)
set_option maxRecDepth 65536 in
theorem w_c14 : (Jvm.Cond.code ({ cls := "com/example/regolo/regolo/engine/RelaxationObjectivePinLaw", name := "expectedValue", desc := "(IZII)J" } : Jvm.MethodName) method_3_code (4 : Nat) (Option.some Jvm.ClassFile.FieldType.long)).before args0 about1 = true := code_word (m := ⟨1, 2⟩) (meth := k1m2) (c := k1c2) (by decide +kernel) rfl rfl rfl (by decide +kernel)
set_option maxRecDepth 65536 in
theorem w_c15 : (Jvm.Cond.code ({ cls := "com/example/regolo/regolo/engine/Relaxation", name := "objective", desc := "()D" } : Jvm.MethodName) prog_62_method_9_code (4 : Nat) (Option.some Jvm.ClassFile.FieldType.double)).before args0 about1 = true := code_word (m := ⟨3, 3⟩) (meth := k3m3) (c := k3c3) (by decide +kernel) rfl rfl rfl (by decide +kernel)
def codes1 : List Jvm.Cond := [Jvm.Cond.code x code maxLocals ret, Jvm.Cond.code ({ cls := "java/lang/Math", name := "min", desc := "(II)I" } : Jvm.MethodName) jdk_29_method_69_code (2 : Nat) (Option.some Jvm.ClassFile.FieldType.int), Jvm.Cond.code ({ cls := "java/lang/Math", name := "max", desc := "(II)I" } : Jvm.MethodName) jdk_29_method_65_code (2 : Nat) (Option.some Jvm.ClassFile.FieldType.int), Jvm.Cond.code ({ cls := "com/example/regolo/regolo/engine/Relaxation", name := "<init>", desc := "([D)V" } : Jvm.MethodName) prog_62_method_1_code (3 : Nat) (Option.none : Option Jvm.ClassFile.FieldType), Jvm.Cond.code ({ cls := "java/lang/Object", name := "<init>", desc := "()V" } : Jvm.MethodName) object_method_1_code (1 : Nat) (Option.none : Option Jvm.ClassFile.FieldType), Jvm.Cond.code ({ cls := "java/util/ArrayList", name := "<init>", desc := "()V" } : Jvm.MethodName) jdk_38_method_2_code (1 : Nat) (Option.none : Option Jvm.ClassFile.FieldType), Jvm.Cond.code ({ cls := "java/util/AbstractList", name := "<init>", desc := "()V" } : Jvm.MethodName) jdk_39_method_1_code (1 : Nat) (Option.none : Option Jvm.ClassFile.FieldType), Jvm.Cond.code ({ cls := "java/util/AbstractCollection", name := "<init>", desc := "()V" } : Jvm.MethodName) jdk_22_method_1_code (1 : Nat) (Option.none : Option Jvm.ClassFile.FieldType), Jvm.Cond.code ({ cls := "java/util/Arrays", name := "fill", desc := "([DD)V" } : Jvm.MethodName) jdk_65_method_113_code (5 : Nat) (Option.none : Option Jvm.ClassFile.FieldType), Jvm.Cond.code ({ cls := "java/util/Arrays", name := "fill", desc := "([II)V" } : Jvm.MethodName) jdk_65_method_103_code (4 : Nat) (Option.none : Option Jvm.ClassFile.FieldType), Jvm.Cond.code ({ cls := "com/example/regolo/regolo/engine/Relaxation", name := "bound", desc := "(IDD)V" } : Jvm.MethodName) prog_62_method_7_code (7 : Nat) (Option.none : Option Jvm.ClassFile.FieldType), Jvm.Cond.code ({ cls := "com/example/regolo/regolo/engine/Relaxation", name := "move", desc := "(ID)V" } : Jvm.MethodName) prog_62_method_18_code (9 : Nat) (Option.none : Option Jvm.ClassFile.FieldType), Jvm.Cond.code ({ cls := "com/example/regolo/regolo/engine/Relaxation", name := "rows", desc := "()I" } : Jvm.MethodName) prog_62_method_2_code (1 : Nat) (Option.some Jvm.ClassFile.FieldType.int), Jvm.Cond.code ({ cls := "java/util/ArrayList", name := "size", desc := "()I" } : Jvm.MethodName) jdk_38_method_8_code (1 : Nat) (Option.some Jvm.ClassFile.FieldType.int), Jvm.Cond.code ({ cls := "com/example/regolo/regolo/engine/RelaxationObjectivePinLaw", name := "expectedValue", desc := "(IZII)J" } : Jvm.MethodName) method_3_code (4 : Nat) (Option.some Jvm.ClassFile.FieldType.long), Jvm.Cond.code ({ cls := "com/example/regolo/regolo/engine/Relaxation", name := "objective", desc := "()D" } : Jvm.MethodName) prog_62_method_9_code (4 : Nat) (Option.some Jvm.ClassFile.FieldType.double)]
set_option maxRecDepth 65536 in
theorem codes_eq : words1.filter isCode = codes1 := rfl
theorem w_codes : ∀ c ∈ words1.filter isCode, c.before args0 about1 = true := by
  rw [codes_eq]
  intro c hc
  simp only [codes1, List.mem_cons, List.not_mem_nil, or_false] at hc
  rcases hc with rfl | rfl | rfl | rfl | rfl | rfl | rfl | rfl | rfl | rfl | rfl | rfl | rfl | rfl | rfl | rfl
  · exact w_c0
  · exact w_c1
  · exact w_c2
  · exact w_c3
  · exact w_c4
  · exact w_c5
  · exact w_c6
  · exact w_c7
  · exact w_c8
  · exact w_c9
  · exact w_c10
  · exact w_c11
  · exact w_c12
  · exact w_c13
  · exact w_c14
  · exact w_c15
set_option maxRecDepth 65536 in
theorem w_t1 : (words1.take 24).all (fun c => isCode c || c.before args0 about1) = true := by decide +kernel
set_option maxRecDepth 65536 in
theorem w_t2 : ((words1.drop 24).take 24).all (fun c => isCode c || c.before args0 about1) = true := by decide +kernel
set_option maxRecDepth 65536 in
theorem w_t3 : (((words1.drop 24).drop 24).take 24).all (fun c => isCode c || c.before args0 about1) = true := by decide +kernel
set_option maxRecDepth 65536 in
theorem w_t4 : ((((words1.drop 24).drop 24).drop 24).take 24).all (fun c => isCode c || c.before args0 about1) = true := by decide +kernel
set_option maxRecDepth 65536 in
theorem w_t5 : ((((words1.drop 24).drop 24).drop 24).drop 24).all (fun c => isCode c || c.before args0 about1) = true := by decide +kernel
theorem w_tables : (allAtoms (Jvm.Cond.code x code maxLocals ret :: tables_1)).before args0 about1 = true := by
  rw [allAtoms_all]
  show words1.all (fun c => c.before args0 about1) = true
  refine all_split ?_ w_codes
  rw [← List.take_append_drop 24 words1, List.all_append, w_t1, ← List.take_append_drop 24 (words1.drop 24), List.all_append, w_t2, ← List.take_append_drop 24 ((words1.drop 24).drop 24), List.all_append, w_t3, ← List.take_append_drop 24 (((words1.drop 24).drop 24).drop 24), List.all_append, w_t4, w_t5]
  rfl
set_option maxRecDepth 65536 in
theorem w_rest : rest_1_c.before args0 about1 = true := by decide +kernel
set_option maxRecDepth 65536 in
theorem w_case : (Jvm.Cond.and given_1 narrow_1).before args0 about1 = true := by decide +kernel
theorem w_applies : (headSpec (Jvm.Cond.code x code maxLocals ret :: tables_1) room_1).applies x e0.platform about1 = true :=
  (Spec.applies_iff w_frames).mpr ⟨w_running, w_runnable, w_alone, w_named, w_hears, w_ripe, w_room, w_tables⟩
theorem atStart : AtStart classFile x code maxLocals ret World_1 tables_1 room_1 Calls_1 rest_1 Pre_1 launch0 p0 e0 about1 theMethod args0 below0 :=
  ⟨lists_1, trivial, launch0.admits_env _ _ _, launch0.least_env, fairChoices_fair.cas, fairChoices_fair.clock, w_frames, w_args, w_heap, w_applies, trivial, w_rest, w_case⟩
end start1
theorem witness_1 : WitnessClaimed_1 := ⟨start1.p0, start1.e0, start1.about1, start1.theMethod, start1.args0, start1.below0, start1.atStart⟩
end Jvm.Pilot.@@N@@
