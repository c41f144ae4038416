import JvmDerived
import JvmDerived.Pilot.@@N@@Statement
import JvmDerived.Pilot.@@N@@Code
set_option linter.unusedVariables false
set_option linter.unusedSimpArgs false
@@BLOCK:NumsL.lean.txt@@
namespace Jvm.RoadKit
open Sem ClassFile Op Lib Jvm.Stand Jvm.Free Jvm.LawKit
section New
variable {p : Program} {l : Launch} {e : Env} {R : Room} {s : State} {m : MethodId} {args : Array Value} {below : List Frame} {meth : Method} {c : Code} {T : State} {locs : List Loc} {cells slots : Nat}
theorem retI (X : Stand p l e R s m args below meth c T locs cells slots) (hx : p.tables.exec = Jvm.exec) {pc : Nat} {Ls : Array Slot} {z : Int32} {rest : List Value} (hret : meth.sig.returnType = some .int) (hd : decode c.code pc = .ok (.ireturn, 1)) {fs : List Frame}
    (hl : ∀ (f : JFrame) (acts : List Action), f.method = m → f.locked = none → f.entered = [] → (doReturn e (T.setTop f) acts (some (.int z))).1 = T.setFrames fs) : Steps p.tables e below (T.setTop (mkF m pc Ls (.int z :: rest))) (T.setFrames fs) := by
  have hm' : T.vm.method? m = some meth := X.method'
  have hn : narrow .int (.int z) = .int z := rfl
  show Steps p.tables e below (T.setTop { method := m, pc := pc, locals := Ls, stack := _ :: rest, locked := none }) _
  jvm_step X.here [X.here.top, hx, hd, hm', hret, hn]
  first | (intro acts; rw [hl _ acts rfl rfl rfl]) | rw [hl _ _ rfl rfl rfl]
  exact Steps.refl _
end New
end Jvm.RoadKit
namespace Jvm.Pilot.@@N@@
open Jvm Jvm.ClassFile Sem Op Lib Jvm.Free Jvm.Stand Jvm.LawKit Jvm.RoadKit Bundle Jvm.Pilot.@@N@@.Jvm.D
def OwA (Z : State) (h : Heap) (a : Addr) (ty : FieldType) (n : Nat) (f : Nat → Value) : Prop := ∃ c : Cell, Arr Z h a c ty ∧ c.slots.size = n ∧ ∀ j, j < n → c.slots[j]? = some (f j)
theorem owa_lt {Z : State} {h : Heap} {a : Addr} {ty : FieldType} {n : Nat} {f : Nat → Value} (F : OwA Z h a ty n f) : a < h.size := by obtain ⟨c, A, -⟩ := F; exact A.lt
theorem owa_ext {Z : State} {h h' : Heap} {a : Addr} {ty : FieldType} {n : Nat} {f : Nat → Value} (F : OwA Z h a ty n f) (E : Ext h h') : OwA Z h' a ty n f := by obtain ⟨c, A, r⟩ := F; exact ⟨c, A.ext E, r⟩
theorem owa_other {Z : State} {h h' : Heap} {a b : Addr} {ty : FieldType} {n sl : Nat} {v : Value} {f : Nat → Value} (F : OwA Z h b ty n f) (W : Wr h h' a sl v) (q : b ≠ a) : OwA Z h' b ty n f := by obtain ⟨c, A, r⟩ := F; exact ⟨c, A.other W q, r⟩
theorem owa_keep {Z : State} {h h' : Heap} {a : Addr} {ty : FieldType} {n : Nat} {f : Nat → Value} {ws : List Addr} (F : OwA Z h a ty n f) (K : Keep h h' ws) (q : a ∉ ws) : OwA Z h' a ty n f := by obtain ⟨c, A, r⟩ := F; exact ⟨c, ⟨K.2.1 a c A.1 q, A.2⟩, r⟩
theorem owa_heap {Z : State} {h h' : Heap} {a : Addr} {ty : FieldType} {n : Nat} {f : Nat → Value} (F : OwA Z h a ty n f) (q : h' = h) : OwA Z h' a ty n f := by rw [q]; exact F
theorem owa_congr {Z : State} {h : Heap} {a : Addr} {ty : FieldType} {n : Nat} {f g : Nat → Value} (F : OwA Z h a ty n f) (q : ∀ j, j < n → f j = g j) : OwA Z h a ty n g := by
  obtain ⟨c, A, S, H⟩ := F; exact ⟨c, A, S, fun j hj => by rw [← q j hj]; exact H j hj⟩
theorem owa_set {Z : State} {h h' : Heap} {a : Addr} {ty : FieldType} {n sl : Nat} {v : Value} {f : Nat → Value} (F : OwA Z h a ty n f) (W : Wr h h' a sl v) : OwA Z h' a ty n (fun j => if j = sl then v else f j) := by
  obtain ⟨c, A, S, H⟩ := F
  refine ⟨_, A.same W, by rw [sz_set]; exact S, fun j hj => ?_⟩
  by_cases u : sl = j
  · subst u
    have hj' : sl < c.slots.size := by rw [S]; exact hj
    simp [Cell.setSlot, hj']
  · have hu : ¬ j = sl := fun q => u q.symm
    have := H j hj
    simp only [Cell.setSlot, hu, if_false] at this ⊢
    rw [Array.getElem?_setIfInBounds_ne u]; exact this
theorem owa_new {Z : State} {h : Heap} {a : Addr} {ty : FieldType} {k : ClassId} {z : Int32} {n : Nat} (A : Arr Z h a (newA k ty z) ty) (hn : z.toNatClampNeg = n) : OwA Z h a ty n (fun _ => defaultValue ty) :=
  ⟨_, A, by rw [sz_new]; exact hn, fun j hj => by
    have : j < z.toNatClampNeg := by rw [hn]; exact hj
    simp [newA, this]⟩
theorem owa_in {c : Cell} {n : Nat} {j : Int32} (S : c.slots.size = n) (h0 : ¬ j < 0) (h1 : j.toNatClampNeg < n) : ¬ (j < 0 ∨ c.slots.size ≤ j.toNatClampNeg) := by
  rintro (q | q)
  · exact h0 q
  · rw [S] at q; omega
theorem own_nat {i : Nat} (h : i < 2147483648) : (Int32.ofNat i).toInt = (i : Int) := Int32.toInt_ofNat_of_lt (by omega)
theorem own_clamp {i : Nat} (h : i < 2147483648) : (Int32.ofNat i).toNatClampNeg = i := by
  rw [Int32.toNatClampNeg, own_nat h]; omega
theorem own_pos {i : Nat} (h : i < 2147483648) : ¬ Int32.ofNat i < 0 := by
  rw [Int32.lt_iff_toInt_lt, own_nat h, Int32.toInt_zero]; omega
theorem own_ltn {i n : Nat} (hi : i < 2147483648) (hn : n < 2147483648) : Int32.ofNat i < Int32.ofNat n ↔ i < n := by
  rw [Int32.lt_iff_toInt_lt, own_nat hi, own_nat hn]; omega
theorem own_up1 (i : Nat) : Int32.ofNat i + (1 : Int32) = Int32.ofNat (i + 1) := (Int32.ofNat_add i 1).symm

def own_draw (v s : Int32) : Int32 := if s = (0 : Int32) then (-1 : Int32) else ((v &&& (2147483647 : Int32)) % (s + (1 : Int32))) - (1 : Int32)
def own_hit (j n x k : Int32) : Int32 := if j < n then (if x = k then 1 else 0) else 0
def own_cnt (g : Nat → Int32) : Nat → Nat → Int32
  | 0, _ => 0
  | i + 1, k => own_cnt g i k + (if g i = Int32.ofNat k then 1 else 0)
def own_cv (g : Nat → Int32) (i k : Nat) : Value := .int (own_cnt g i k)
def own_x (a b c d : Int32) (j : Nat) : Int32 := match j with | 0 => a | 1 => b | 2 => c | _ => d
def own_nv (a b c d : Int32) (i j : Nat) : Value := .int (if j < i then own_x a b c d j else 0)
theorem own_size (x : Int32) : ∃ n : Nat, n ≤ 7 ∧ (x &&& (7 : Int32)) = Int32.ofNat n := by
  have m : (x &&& (7 : Int32)).toInt = x.toInt % 2 ^ 3 := Jvm.Kit.i32_mask x 7 (k := 3) (by decide) (by decide)
  refine ⟨(x &&& (7 : Int32)).toInt.toNat, by omega, ?_⟩
  apply Int32.toInt_inj.mp
  rw [own_nat (by omega)]
  omega
theorem own_len (x : Int32) : ∃ n : Nat, n ≤ 4 ∧ ((x &&& (2147483647 : Int32)) % (5 : Int32)) = Int32.ofNat n := by
  have m : (x &&& (2147483647 : Int32)).toInt = x.toInt % 2 ^ 31 := Jvm.Kit.i32_mask x 2147483647 (k := 31) (by decide) (by decide)
  have r : ((x &&& (2147483647 : Int32)) % (5 : Int32)).toInt = (x &&& (2147483647 : Int32)).toInt % ((5 : Int32)).toInt := Jvm.Kit.i32_rem_nonneg (by omega)
  rw [show ((5 : Int32)).toInt = 5 from by decide] at r
  refine ⟨((x &&& (2147483647 : Int32)) % (5 : Int32)).toInt.toNat, by omega, ?_⟩
  apply Int32.toInt_inj.mp
  rw [own_nat (by omega)]
  omega
theorem own_s1 (sz : Nat) (h : sz ≤ 7) : (Int32.ofNat sz + (1 : Int32)).toInt = (sz : Int) + 1 := by
  rw [own_up1, own_nat (by omega)]; omega
theorem own_s1z (sz : Nat) (h : sz ≤ 7) : ¬ (Int32.ofNat sz + (1 : Int32)) = 0 := fun q => by
  have := own_s1 sz h
  rw [q, Int32.toInt_zero] at this; omega
def own_ok (x : Int32) (sz : Nat) : Prop := x.toInt < 0 ∨ (0 ≤ x.toInt ∧ x.toInt < (sz : Int))
theorem own_draw_ok (v : Int32) (sz : Nat) (h : sz ≤ 7) : own_ok (own_draw v (Int32.ofNat sz)) sz := by
  unfold own_draw own_ok
  by_cases z : Int32.ofNat sz = (0 : Int32)
  · rw [if_pos z]; left; decide
  · rw [if_neg z]
    have m : (v &&& (2147483647 : Int32)).toInt = v.toInt % 2 ^ 31 := Jvm.Kit.i32_mask v 2147483647 (k := 31) (by decide) (by decide)
    have r : ((v &&& (2147483647 : Int32)) % (Int32.ofNat sz + (1 : Int32))).toInt = (v &&& (2147483647 : Int32)).toInt % (Int32.ofNat sz + (1 : Int32)).toInt := Jvm.Kit.i32_rem_nonneg (by omega)
    rw [own_s1 sz h] at r
    have b1 := Int.emod_nonneg (v &&& (2147483647 : Int32)).toInt (show ((sz : Int) + 1) ≠ 0 by omega)
    have b2 := Int.emod_lt_of_pos (v &&& (2147483647 : Int32)).toInt (show (0 : Int) < (sz : Int) + 1 by omega)
    have e1 : ((1 : Int32)).toInt = 1 := by decide
    have d : (((v &&& (2147483647 : Int32)) % (Int32.ofNat sz + (1 : Int32))) - (1 : Int32)).toInt = (v &&& (2147483647 : Int32)).toInt % ((sz : Int) + 1) - 1 := by
      rw [Jvm.Kit.i32_sub (by rw [r, e1]; omega) (by rw [r, e1]; omega), r, e1]
    omega
theorem own_eqn (x : Int32) (k : Nat) (hk : k < 2147483648) : x = Int32.ofNat k ↔ x.toInt = (k : Int) := by
  rw [← Int32.toInt_inj, own_nat hk]
theorem own_cskip (g : Nat → Int32) (i j sz : Nat) (hj : j < sz) (hs : sz ≤ 7) (h : (g i).toInt < 0) : own_cv g i j = own_cv g (i + 1) j := by
  have n : ¬ g i = Int32.ofNat j := fun q => by rw [own_eqn _ _ (by omega)] at q; omega
  simp only [own_cv, own_cnt, n, if_false, Int32.add_zero]
theorem own_cset (g : Nat → Int32) (i j sz : Nat) (hj : j < sz) (hs : sz ≤ 7) (h : 0 ≤ (g i).toInt) : (if j = (g i).toNatClampNeg then Value.int (own_cnt g i ((g i).toNatClampNeg) + (1 : Int32)) else own_cv g i j) = own_cv g (i + 1) j := by
  by_cases q : j = (g i).toNatClampNeg
  · have e : g i = Int32.ofNat j := by rw [own_eqn _ _ (by omega), q, Int32.toNatClampNeg]; omega
    rw [if_pos q, ← q]
    simp only [own_cv, own_cnt, e, if_true]
  · have n : ¬ g i = Int32.ofNat j := fun u => by
      rw [own_eqn _ _ (by omega)] at u
      exact q (by rw [Int32.toNatClampNeg, u]; omega)
    rw [if_neg q]
    simp only [own_cv, own_cnt, n, if_false, Int32.add_zero]
theorem own_nskip (a b c d : Int32) (i j n : Nat) (hj : j < n) (h : ¬ i < n) : own_nv a b c d i j = own_nv a b c d (i + 1) j := by
  have x : j < i := by omega
  have y : j < i + 1 := by omega
  simp only [own_nv, x, y, if_true]
theorem own_nset (a b c d : Int32) (i j : Nat) : (if j = i then Value.int (own_x a b c d i) else own_nv a b c d i j) = own_nv a b c d (i + 1) j := by
  by_cases q : j = i
  · subst q
    have b : j < j + 1 := by omega
    simp only [own_nv, b, if_true]
  · by_cases r : j < i
    · have b : j < i + 1 := by omega
      simp only [own_nv, q, b, r, if_true, if_false]
    · have b : ¬ j < i + 1 := by omega
      simp only [own_nv, q, b, r, if_false]
theorem own_nend (a b c d : Int32) (j n : Nat) (hj : j < n) (hn : n ≤ 4) : own_nv a b c d 4 j = .int (own_x a b c d j) := by
  have x : j < 4 := by omega
  simp only [own_nv, x, if_true]
theorem own_hits (a b c d : Int32) (n k : Nat) (hn : n ≤ 4) : own_cnt (own_x a b c d) n k = ((own_hit (0 : Int32) (Int32.ofNat n) a (Int32.ofNat k) + own_hit (1 : Int32) (Int32.ofNat n) b (Int32.ofNat k)) + own_hit (2 : Int32) (Int32.ofNat n) c (Int32.ofNat k)) + own_hit (3 : Int32) (Int32.ofNat n) d (Int32.ofNat k) := by
  have h0 : (0 : Int32) < Int32.ofNat n ↔ 0 < n := own_ltn (i := 0) (by omega) (by omega)
  have h1 : (1 : Int32) < Int32.ofNat n ↔ 1 < n := own_ltn (i := 1) (by omega) (by omega)
  have h2 : (2 : Int32) < Int32.ofNat n ↔ 2 < n := own_ltn (i := 2) (by omega) (by omega)
  have h3 : (3 : Int32) < Int32.ofNat n ↔ 3 < n := own_ltn (i := 3) (by omega) (by omega)
  simp only [own_hit, h0, h1, h2, h3]
  have hc : n = 0 ∨ n = 1 ∨ n = 2 ∨ n = 3 ∨ n = 4 := by omega
  rcases hc with rfl | rfl | rfl | rfl | rfl <;> simp only [own_cnt, own_x, Nat.reduceLT, if_true, if_false, Int32.zero_add, Int32.add_zero, Nat.lt_irrefl]
theorem d1_0 : decode method_3_code 0 = .ok (.iload_n 1, 1) := by decide +kernel
theorem d1_1 : decode method_3_code 1 = .ok (.ifCond .ne 7, 3) := by decide +kernel
theorem d1_4 : decode method_3_code 4 = .ok (.iconst (-1), 1) := by decide +kernel
theorem d1_5 : decode method_3_code 5 = .ok (.goto 13, 3) := by decide +kernel
theorem d1_18 : decode method_3_code 18 = .ok (.ireturn, 1) := by decide +kernel
theorem pn_1 : plainName "com/example/fairjoin/fairjoin/operator/KeyIndexCountsPinLaw" = true := by first | (simp [plainName, overriddenIn]; done) | decide +kernel
theorem ef_1 (m : MethodId) (x0 : Int32) (x1 : Int32) : entryFrame m #[(.int x0), (.int x1)] 2 = mkF m 0 #[.val (.int x0), .val (.int x1)] [] := by first | (simp [entryFrame, mkF, argsToLocals, Value.category]; done) | rfl
theorem d1_8 : decode method_3_code 8 = .ok (.iload_n 0, 1) := by decide +kernel
theorem d1_9 : decode method_3_code 9 = .ok (.ldc 7, 2) := by decide +kernel
theorem d1_11 : decode method_3_code 11 = .ok (.iand, 1) := by decide +kernel
theorem d1_12 : decode method_3_code 12 = .ok (.iload_n 1, 1) := by decide +kernel
theorem d1_13 : decode method_3_code 13 = .ok (.iconst 1, 1) := by decide +kernel
theorem d1_14 : decode method_3_code 14 = .ok (.iadd, 1) := by decide +kernel
theorem d1_15 : decode method_3_code 15 = .ok (.irem, 1) := by decide +kernel
theorem d1_16 : decode method_3_code 16 = .ok (.iconst 1, 1) := by decide +kernel
theorem d1_17 : decode method_3_code 17 = .ok (.isub, 1) := by decide +kernel
theorem d4_0 : decode method_4_code 0 = .ok (.iload_n 0, 1) := by decide +kernel
theorem d4_1 : decode method_4_code 1 = .ok (.iload_n 1, 1) := by decide +kernel
theorem d4_2 : decode method_4_code 2 = .ok (.if_icmp .ge 12, 3) := by decide +kernel
theorem d4_14 : decode method_4_code 14 = .ok (.iconst 0, 1) := by decide +kernel
theorem d4_15 : decode method_4_code 15 = .ok (.ireturn, 1) := by decide +kernel
theorem pn_4 : plainName "com/example/fairjoin/fairjoin/operator/KeyIndexCountsPinLaw" = true := by first | (simp [plainName, overriddenIn]; done) | decide +kernel
theorem ef_4 (m : MethodId) (x0 : Int32) (x1 : Int32) (x2 : Int32) (x3 : Int32) : entryFrame m #[(.int x0), (.int x1), (.int x2), (.int x3)] 4 = mkF m 0 #[.val (.int x0), .val (.int x1), .val (.int x2), .val (.int x3)] [] := by first | (simp [entryFrame, mkF, argsToLocals, Value.category]; done) | rfl
theorem d4_5 : decode method_4_code 5 = .ok (.iload_n 2, 1) := by decide +kernel
theorem d4_6 : decode method_4_code 6 = .ok (.iload_n 3, 1) := by decide +kernel
theorem d4_7 : decode method_4_code 7 = .ok (.if_icmp .ne 7, 3) := by decide +kernel
theorem d4_10 : decode method_4_code 10 = .ok (.iconst 1, 1) := by decide +kernel
theorem d4_11 : decode method_4_code 11 = .ok (.goto 4, 3) := by decide +kernel
theorem d3_0 : decode method_5_code 0 = .ok (.iload_n 1, 1) := by decide +kernel
theorem d3_1 : decode method_5_code 1 = .ok (.aload_n 0, 1) := by decide +kernel
theorem d3_2 : decode method_5_code 2 = .ok (.arraylength, 1) := by decide +kernel
theorem d3_3 : decode method_5_code 3 = .ok (.if_icmp .lt 5, 3) := by decide +kernel
theorem d3_6 : decode method_5_code 6 = .ok (.iconst 1, 1) := by decide +kernel
theorem d3_7 : decode method_5_code 7 = .ok (.ireturn, 1) := by decide +kernel
theorem pn_3 : plainName "com/example/fairjoin/fairjoin/operator/KeyIndexCountsPinLaw" = true := by first | (simp [plainName, overriddenIn]; done) | decide +kernel
theorem ef_3 (m : MethodId) (x0 : Addr) (x1 : Int32) (x2 : Int32) (x3 : Int32) (x4 : Int32) (x5 : Int32) (x6 : Int32) : entryFrame m #[(.ref x0), (.int x1), (.int x2), (.int x3), (.int x4), (.int x5), (.int x6)] 8 = mkF m 0 #[.val (.ref x0), .val (.int x1), .val (.int x2), .val (.int x3), .val (.int x4), .val (.int x5), .val (.int x6), .unset] [] := by first | (simp [entryFrame, mkF, argsToLocals, Value.category]; done) | rfl
theorem d3_8 : decode method_5_code 8 = .ok (.iconst 0, 1) := by decide +kernel
theorem d3_9 : decode method_5_code 9 = .ok (.iload_n 2, 1) := by decide +kernel
theorem d3_10 : decode method_5_code 10 = .ok (.iload_n 3, 1) := by decide +kernel
theorem d3_11 : decode method_5_code 11 = .ok (.iload_n 1, 1) := by decide +kernel
theorem d3_12 : decode method_5_code 12 = .ok (.invokestatic 24, 3) := by decide +kernel
theorem d3_15 : decode method_5_code 15 = .ok (.iconst 1, 1) := by decide +kernel
theorem d3_16 : decode method_5_code 16 = .ok (.iload_n 2, 1) := by decide +kernel
theorem d3_17 : decode method_5_code 17 = .ok (.iload 4, 2) := by decide +kernel
theorem d3_19 : decode method_5_code 19 = .ok (.iload_n 1, 1) := by decide +kernel
theorem d3_20 : decode method_5_code 20 = .ok (.invokestatic 24, 3) := by decide +kernel
theorem d3_23 : decode method_5_code 23 = .ok (.iadd, 1) := by decide +kernel
theorem d3_24 : decode method_5_code 24 = .ok (.iconst 2, 1) := by decide +kernel
theorem d3_25 : decode method_5_code 25 = .ok (.iload_n 2, 1) := by decide +kernel
theorem d3_26 : decode method_5_code 26 = .ok (.iload 5, 2) := by decide +kernel
theorem d3_28 : decode method_5_code 28 = .ok (.iload_n 1, 1) := by decide +kernel
theorem d3_29 : decode method_5_code 29 = .ok (.invokestatic 24, 3) := by decide +kernel
theorem d3_32 : decode method_5_code 32 = .ok (.iadd, 1) := by decide +kernel
theorem d3_33 : decode method_5_code 33 = .ok (.iconst 3, 1) := by decide +kernel
theorem d3_34 : decode method_5_code 34 = .ok (.iload_n 2, 1) := by decide +kernel
theorem d3_35 : decode method_5_code 35 = .ok (.iload 6, 2) := by decide +kernel
theorem d3_37 : decode method_5_code 37 = .ok (.iload_n 1, 1) := by decide +kernel
theorem d3_38 : decode method_5_code 38 = .ok (.invokestatic 24, 3) := by decide +kernel
theorem d3_41 : decode method_5_code 41 = .ok (.iadd, 1) := by decide +kernel
theorem d3_42 : decode method_5_code 42 = .ok (.istore 7, 2) := by decide +kernel
theorem d3_44 : decode method_5_code 44 = .ok (.aload_n 0, 1) := by decide +kernel
theorem d3_45 : decode method_5_code 45 = .ok (.iload_n 1, 1) := by decide +kernel
theorem d3_46 : decode method_5_code 46 = .ok (.iaload, 1) := by decide +kernel
theorem d3_47 : decode method_5_code 47 = .ok (.iload 7, 2) := by decide +kernel
theorem d3_49 : decode method_5_code 49 = .ok (.if_icmp .ne 7, 3) := by decide +kernel
theorem d3_52 : decode method_5_code 52 = .ok (.iconst 1, 1) := by decide +kernel
theorem d3_53 : decode method_5_code 53 = .ok (.goto 4, 3) := by decide +kernel
theorem d3_57 : decode method_5_code 57 = .ok (.ireturn, 1) := by decide +kernel
theorem pd_3_3 : parseMethodDescriptor "(IIII)I" = some ⟨[.int, .int, .int, .int], some .int⟩ := by decide +kernel
theorem d2_13 : decode prog_160_method_3_code 13 = .ok (.iload 5, 2) := by decide +kernel
theorem d2_15 : decode prog_160_method_3_code 15 = .ok (.iload 4, 2) := by decide +kernel
theorem d2_17 : decode prog_160_method_3_code 17 = .ok (.if_icmp .ge 28, 3) := by decide +kernel
theorem d2_20 : decode prog_160_method_3_code 20 = .ok (.aload_n 3, 1) := by decide +kernel
theorem d2_21 : decode prog_160_method_3_code 21 = .ok (.iload 5, 2) := by decide +kernel
theorem d2_23 : decode prog_160_method_3_code 23 = .ok (.iaload, 1) := by decide +kernel
theorem d2_24 : decode prog_160_method_3_code 24 = .ok (.istore 6, 2) := by decide +kernel
theorem d2_26 : decode prog_160_method_3_code 26 = .ok (.iload 6, 2) := by decide +kernel
theorem d2_28 : decode prog_160_method_3_code 28 = .ok (.ifCond .lt 11, 3) := by decide +kernel
theorem d2_31 : decode prog_160_method_3_code 31 = .ok (.aload_n 2, 1) := by decide +kernel
theorem d2_32 : decode prog_160_method_3_code 32 = .ok (.iload 6, 2) := by decide +kernel
theorem d2_34 : decode prog_160_method_3_code 34 = .ok (.dup2, 1) := by decide +kernel
theorem d2_35 : decode prog_160_method_3_code 35 = .ok (.iaload, 1) := by decide +kernel
theorem d2_36 : decode prog_160_method_3_code 36 = .ok (.iconst 1, 1) := by decide +kernel
theorem d2_37 : decode prog_160_method_3_code 37 = .ok (.iadd, 1) := by decide +kernel
theorem d2_38 : decode prog_160_method_3_code 38 = .ok (.iastore, 1) := by decide +kernel
theorem d2_39 : decode prog_160_method_3_code 39 = .ok (.iinc 5 1, 3) := by decide +kernel
theorem d2_42 : decode prog_160_method_3_code 42 = .ok (.goto (-29), 3) := by decide +kernel
theorem os2_24 {s0 : Slot} {s1 : Slot} {z2 : Value} {z3 : Value} {z4 : Value} {z5 : Value} {s6 : Slot} {v : Int32} (h : One s6) : storeLocals #[s0, s1, .val z2, .val z3, .val z4, .val z5, s6] 6 (.int v) = some #[s0, s1, .val z2, .val z3, .val z4, .val z5, .val (.int v)] := by
  rcases h with rfl | ⟨w, rfl, hw⟩
  · rfl
  · cases w <;> first | rfl | (simp [Value.category] at hw)
theorem d2_0 : decode prog_160_method_3_code 0 = .ok (.iload_n 1, 1) := by decide +kernel
theorem d2_1 : decode prog_160_method_3_code 1 = .ok (.newarray .int, 2) := by decide +kernel
theorem d2_3 : decode prog_160_method_3_code 3 = .ok (.astore_n 2, 1) := by decide +kernel
theorem d2_4 : decode prog_160_method_3_code 4 = .ok (.aload_n 0, 1) := by decide +kernel
theorem d2_5 : decode prog_160_method_3_code 5 = .ok (.astore_n 3, 1) := by decide +kernel
theorem d2_6 : decode prog_160_method_3_code 6 = .ok (.aload_n 3, 1) := by decide +kernel
theorem d2_7 : decode prog_160_method_3_code 7 = .ok (.arraylength, 1) := by decide +kernel
theorem d2_8 : decode prog_160_method_3_code 8 = .ok (.istore 4, 2) := by decide +kernel
theorem d2_10 : decode prog_160_method_3_code 10 = .ok (.iconst 0, 1) := by decide +kernel
theorem d2_11 : decode prog_160_method_3_code 11 = .ok (.istore 5, 2) := by decide +kernel
theorem d2_45 : decode prog_160_method_3_code 45 = .ok (.aload_n 2, 1) := by decide +kernel
theorem d2_46 : decode prog_160_method_3_code 46 = .ok (.areturn, 1) := by decide +kernel
theorem pn_2 : plainName "com/example/fairjoin/fairjoin/operator/KeyIndex" = true := by first | (simp [plainName, overriddenIn]; done) | decide +kernel
theorem ef_2 (m : MethodId) (x0 : Addr) (x1 : Int32) : entryFrame m #[(.ref x0), (.int x1)] 7 = mkF m 0 #[.val (.ref x0), .val (.int x1), .unset, .unset, .unset, .unset, .unset] [] := by first | (simp [entryFrame, mkF, argsToLocals, Value.category]; done) | rfl
theorem pn_0 : plainName "com/example/fairjoin/fairjoin/operator/KeyIndexCountsPinLaw" = true := by first | (simp [plainName, overriddenIn]; done) | decide +kernel
theorem pd_0_0 : parseMethodDescriptor "(II)I" = some ⟨[.int, .int], some .int⟩ := by decide +kernel
theorem pd_0_1 : parseMethodDescriptor "([II)[I" = some ⟨[(.array .int), .int], some (.array .int)⟩ := by decide +kernel
theorem pd_0_2 : parseMethodDescriptor "([IIIIIII)Z" = some ⟨[(.array .int), .int, .int, .int, .int, .int, .int], some .boolean⟩ := by decide +kernel
theorem ef_0 (m : MethodId) (x0 : Int32) (x1 : Int32) (x2 : Int32) (x3 : Int32) (x4 : Int32) (x5 : Int32) : entryFrame m #[(.int x0), (.int x1), (.int x2), (.int x3), (.int x4), (.int x5)] maxLocals = mkF m 0 #[.val (.int x0), .val (.int x1), .val (.int x2), .val (.int x3), .val (.int x4), .val (.int x5), .unset, .unset, .unset, .unset, .unset, .unset, .unset, .unset] [] := by first | (simp [entryFrame, mkF, argsToLocals, Value.category, maxLocals]; done) | rfl
def Q1 (Z : State) (p1 : Int32) (p2 : Int32)  (h0 : Heap) (n0 : Nat) (v : Option Value) (h : Heap) (L : List Loc) : Prop := v = some (.int (own_draw p1 p2)) ∧ Fr n0 L ∧ h = h0
set_option maxRecDepth 65536 in
set_option maxHeartbeats 40000000 in
theorem rm1a (l : Launch) (Z : State) (a0 : Array Value) (hw : ∀ d ∈ tables_1, d.before a0 Z = true) (ws : List Jvm.Cond) (p1 : Int32) (p2 : Int32) (h0 : Heap) (n0 : Nat) (Z0 : n0 ≤ h0.size) (hc1 : p2 = (0 : Int32)) :
    MetFree l (⟨"com/example/fairjoin/fairjoin/operator/KeyIndexCountsPinLaw", "draw", "(II)I"⟩ : MethodName) (head1 (Jvm.Cond.code (⟨"com/example/fairjoin/fairjoin/operator/KeyIndexCountsPinLaw", "draw", "(II)I"⟩ : MethodName) method_3_code 2 (some .int) :: ws) ({ frames := 0, cells := 0, slots := 0, locals := 0 } : Room)) (fun a U => a = #[(.int p1), (.int p2)] ∧ Z.Warmed39 U.vm ∧ U.heap = h0) (fun _ _ _ _ _ => True) (fun _ U o U' => ∃ v L, o = .returned v ∧ Q1 Z p1 p2 h0 n0 v U'.heap L ∧ FrameEnd U o U' L ({ frames := 0, cells := 0, slots := 0, locals := 0 } : Room).cells ({ frames := 0, cells := 0, slots := 0, locals := 0 } : Room).slots) := by
  refine MetFree.of_bodySF (plainFor_of_name pn_1) hisR ?_
  intro p e s m args below meth c s₁ Bd hml0 hP hK
  obtain ⟨rfl, hZ, hh⟩ := hP
  have hx := Bd.exec
  have hby := Bd.bytes
  have hml : c.maxLocals = 2 := hml0
  have hown : s.vm.findClass "com/example/fairjoin/fairjoin/operator/KeyIndexCountsPinLaw" = some m.cls := findClass_of_methodNamed Bd.named
  have hnm := (name_of_methodNamed Bd.named Bd.method).1
  have X0 : Stand p l e ({ frames := 0, cells := 0, slots := 0, locals := 0 } : Room) s m #[(.int p1), (.int p2)] below meth c s₁ [] 0 0 := Stand.of_body Bd
  have e0 : s₁.heap = h0 := by rw [← hh, Bd.state]; rfl
  have N0 := Fr.nil n0
  have pre0 : ∀ t, Steps p.tables e below (s₁.setTop (mkF m 0 #[.val (.int p1), .val (.int p2)] [])) t → Steps p.tables e below (s₁.setTop (entryFrame m #[(.int p1), (.int p2)] 2)) t := fun t ktt => castTop (ef_1 m p1 p2) ktt
  obtain ⟨fs, hr, hrun, hended, hW, hsame⟩ := X0.leave (v := some (.int (-1 : Int32))) (fun h => by rw [Bd.returns] at h; cases h)
  refine ⟨_, _, pre0 _ ?_, hrun, hended, _, _, rfl, ?_, ⟨_, rfl⟩, hW, hsame.mono (by decide) (by decide)⟩
  · show Steps p.tables e below (s₁.setTop (mkF m 0 #[.val (.int p1), .val (.int p2)] [])) _
    refine XS.iloadN X0.here hx rfl (hb hby d1_0) rfl ?_
    show Steps p.tables e below (s₁.setTop (mkF m 1 #[.val (.int p1), .val (.int p2)] [(.int p2)])) _
    refine XS.ifNo X0.here hx rfl (hb hby d1_1) rfl ((if0 _ _).trans (teq hc1).2) ?_
    show Steps p.tables e below (s₁.setTop (mkF m 4 #[.val (.int p1), .val (.int p2)] [])) _
    refine XS.iconst X0.here hx rfl (hb hby d1_4) ?_
    show Steps p.tables e below (s₁.setTop (mkF m 5 #[.val (.int p1), .val (.int p2)] [(.int (-1 : Int32))])) _
    refine XS.goto X0.here hx rfl (pc0 := 5) (pc' := 18) rfl (hb hby d1_5) (by decide) (by decide) ?_
    show Steps p.tables e below (s₁.setTop (mkF m 18 #[.val (.int p1), .val (.int p2)] [(.int (-1 : Int32))])) _
    exact retI X0 hx Bd.returns (hb hby d1_18) hr
  · show Q1 Z p1 p2 h0 n0 _ s₁.heap _
    rw [e0]
    exact ⟨by rw [own_draw, if_pos hc1], N0, rfl⟩
set_option maxRecDepth 65536 in
set_option maxHeartbeats 40000000 in
theorem rm1b (l : Launch) (Z : State) (a0 : Array Value) (hw : ∀ d ∈ tables_1, d.before a0 Z = true) (ws : List Jvm.Cond) (p1 : Int32) (p2 : Int32) (h0 : Heap) (n0 : Nat) (Z0 : n0 ≤ h0.size) (hc1 : ¬ (p2 = (0 : Int32))) (hnz15 : ¬ ((p2 + (1 : Int32)) = (0 : Int32))) :
    MetFree l (⟨"com/example/fairjoin/fairjoin/operator/KeyIndexCountsPinLaw", "draw", "(II)I"⟩ : MethodName) (head1 (Jvm.Cond.code (⟨"com/example/fairjoin/fairjoin/operator/KeyIndexCountsPinLaw", "draw", "(II)I"⟩ : MethodName) method_3_code 2 (some .int) :: ws) ({ frames := 0, cells := 0, slots := 0, locals := 0 } : Room)) (fun a U => a = #[(.int p1), (.int p2)] ∧ Z.Warmed39 U.vm ∧ U.heap = h0) (fun _ _ _ _ _ => True) (fun _ U o U' => ∃ v L, o = .returned v ∧ Q1 Z p1 p2 h0 n0 v U'.heap L ∧ FrameEnd U o U' L ({ frames := 0, cells := 0, slots := 0, locals := 0 } : Room).cells ({ frames := 0, cells := 0, slots := 0, locals := 0 } : Room).slots) := by
  refine MetFree.of_bodySF (plainFor_of_name pn_1) hisR ?_
  intro p e s m args below meth c s₁ Bd hml0 hP hK
  obtain ⟨rfl, hZ, hh⟩ := hP
  have hx := Bd.exec
  have hby := Bd.bytes
  have hml : c.maxLocals = 2 := hml0
  have hown : s.vm.findClass "com/example/fairjoin/fairjoin/operator/KeyIndexCountsPinLaw" = some m.cls := findClass_of_methodNamed Bd.named
  have hnm := (name_of_methodNamed Bd.named Bd.method).1
  have X0 : Stand p l e ({ frames := 0, cells := 0, slots := 0, locals := 0 } : Room) s m #[(.int p1), (.int p2)] below meth c s₁ [] 0 0 := Stand.of_body Bd
  have e0 : s₁.heap = h0 := by rw [← hh, Bd.state]; rfl
  have N0 := Fr.nil n0
  have pre0 : ∀ t, Steps p.tables e below (s₁.setTop (mkF m 0 #[.val (.int p1), .val (.int p2)] [])) t → Steps p.tables e below (s₁.setTop (entryFrame m #[(.int p1), (.int p2)] 2)) t := fun t ktt => castTop (ef_1 m p1 p2) ktt
  obtain ⟨fs, hr, hrun, hended, hW, hsame⟩ := X0.leave (v := some (.int (((p1 &&& (2147483647 : Int32)) % (p2 + (1 : Int32))) - (1 : Int32)))) (fun h => by rw [Bd.returns] at h; cases h)
  refine ⟨_, _, pre0 _ ?_, hrun, hended, _, _, rfl, ?_, ⟨_, rfl⟩, hW, hsame.mono (by decide) (by decide)⟩
  · show Steps p.tables e below (s₁.setTop (mkF m 0 #[.val (.int p1), .val (.int p2)] [])) _
    refine XS.iloadN X0.here hx rfl (hb hby d1_0) rfl ?_
    show Steps p.tables e below (s₁.setTop (mkF m 1 #[.val (.int p1), .val (.int p2)] [(.int p2)])) _
    refine XS.ifYes X0.here hx rfl (pc0 := 1) (pc' := 8) rfl (hb hby d1_1) rfl ((if0 _ _).trans (feq hc1).2) (by decide) (by decide) ?_
    show Steps p.tables e below (s₁.setTop (mkF m 8 #[.val (.int p1), .val (.int p2)] [])) _
    refine XS.iloadN X0.here hx rfl (hb hby d1_8) rfl ?_
    show Steps p.tables e below (s₁.setTop (mkF m 9 #[.val (.int p1), .val (.int p2)] [(.int p1)])) _
    refine X0.ldcInt hx hown (mvT hZ (hw _ (List.mem_of_getElem? (i := 0) rfl))) (g := (mkF m 9 #[.val (.int p1), .val (.int p2)] [(.int p1)])) rfl (hb hby d1_9) _ ?_
    show Steps p.tables e below (s₁.setTop (mkF m 11 #[.val (.int p1), .val (.int p2)] [(.int (2147483647 : Int32)), (.int p1)])) _
    refine XS.iand X0.here hx rfl (hb hby d1_11) rfl ?_
    show Steps p.tables e below (s₁.setTop (mkF m 12 #[.val (.int p1), .val (.int p2)] [(.int (p1 &&& (2147483647 : Int32)))])) _
    refine XS.iloadN X0.here hx rfl (hb hby d1_12) rfl ?_
    show Steps p.tables e below (s₁.setTop (mkF m 13 #[.val (.int p1), .val (.int p2)] [(.int p2), (.int (p1 &&& (2147483647 : Int32)))])) _
    refine XS.iconst X0.here hx rfl (hb hby d1_13) ?_
    show Steps p.tables e below (s₁.setTop (mkF m 14 #[.val (.int p1), .val (.int p2)] [(.int (1 : Int32)), (.int p2), (.int (p1 &&& (2147483647 : Int32)))])) _
    refine XS.iadd X0.here hx rfl (hb hby d1_14) rfl ?_
    show Steps p.tables e below (s₁.setTop (mkF m 15 #[.val (.int p1), .val (.int p2)] [(.int (p2 + (1 : Int32))), (.int (p1 &&& (2147483647 : Int32)))])) _
    refine iremM X0 hx rfl (hb hby d1_15) rfl hnz15 ?_
    show Steps p.tables e below (s₁.setTop (mkF m 16 #[.val (.int p1), .val (.int p2)] [(.int ((p1 &&& (2147483647 : Int32)) % (p2 + (1 : Int32))))])) _
    refine XS.iconst X0.here hx rfl (hb hby d1_16) ?_
    show Steps p.tables e below (s₁.setTop (mkF m 17 #[.val (.int p1), .val (.int p2)] [(.int (1 : Int32)), (.int ((p1 &&& (2147483647 : Int32)) % (p2 + (1 : Int32))))])) _
    refine XS.isub X0.here hx rfl (hb hby d1_17) rfl ?_
    show Steps p.tables e below (s₁.setTop (mkF m 18 #[.val (.int p1), .val (.int p2)] [(.int (((p1 &&& (2147483647 : Int32)) % (p2 + (1 : Int32))) - (1 : Int32)))])) _
    exact retI X0 hx Bd.returns (hb hby d1_18) hr
  · show Q1 Z p1 p2 h0 n0 _ s₁.heap _
    rw [e0]
    exact ⟨by rw [own_draw, if_neg hc1], N0, rfl⟩
set_option maxRecDepth 65536 in
set_option maxHeartbeats 40000000 in
theorem rm1 (l : Launch) (Z : State) (a0 : Array Value) (hw : ∀ d ∈ tables_1, d.before a0 Z = true) (ws : List Jvm.Cond) (p1 : Int32) (p2 : Int32) (h0 : Heap) (n0 : Nat) (Z0 : n0 ≤ h0.size) (hz : ¬ ((p2 + (1 : Int32)) = (0 : Int32))) :
    MetFree l (⟨"com/example/fairjoin/fairjoin/operator/KeyIndexCountsPinLaw", "draw", "(II)I"⟩ : MethodName) (head1 (Jvm.Cond.code (⟨"com/example/fairjoin/fairjoin/operator/KeyIndexCountsPinLaw", "draw", "(II)I"⟩ : MethodName) method_3_code 2 (some .int) :: ws) ({ frames := 0, cells := 0, slots := 0, locals := 0 } : Room)) (fun a U => a = #[(.int p1), (.int p2)] ∧ Z.Warmed39 U.vm ∧ U.heap = h0) (fun _ _ _ _ _ => True) (fun _ U o U' => ∃ v L, o = .returned v ∧ Q1 Z p1 p2 h0 n0 v U'.heap L ∧ FrameEnd U o U' L ({ frames := 0, cells := 0, slots := 0, locals := 0 } : Room).cells ({ frames := 0, cells := 0, slots := 0, locals := 0 } : Room).slots) := by
  by_cases hc1 : p2 = (0 : Int32)
  · exact rm1a l Z a0 hw ws p1 p2 h0 n0 Z0 hc1
  · exact rm1b l Z a0 hw ws p1 p2 h0 n0 Z0 hc1 hz
def Q4 (Z : State) (p1 : Int32) (p2 : Int32) (p3 : Int32) (p4 : Int32)  (h0 : Heap) (n0 : Nat) (v : Option Value) (h : Heap) (L : List Loc) : Prop := v = some (.int (own_hit p1 p2 p3 p4)) ∧ Fr n0 L ∧ h = h0
set_option maxRecDepth 65536 in
set_option maxHeartbeats 40000000 in
theorem rm4a (l : Launch) (Z : State) (a0 : Array Value) (hw : ∀ d ∈ tables_1, d.before a0 Z = true) (ws : List Jvm.Cond) (p1 : Int32) (p2 : Int32) (p3 : Int32) (p4 : Int32) (h0 : Heap) (n0 : Nat) (Z0 : n0 ≤ h0.size) (hc2 : ¬ (p1 < p2)) :
    MetFree l (⟨"com/example/fairjoin/fairjoin/operator/KeyIndexCountsPinLaw", "hit", "(IIII)I"⟩ : MethodName) (head1 (Jvm.Cond.code (⟨"com/example/fairjoin/fairjoin/operator/KeyIndexCountsPinLaw", "hit", "(IIII)I"⟩ : MethodName) method_4_code 4 (some .int) :: ws) ({ frames := 0, cells := 0, slots := 0, locals := 0 } : Room)) (fun a U => a = #[(.int p1), (.int p2), (.int p3), (.int p4)] ∧ Z.Warmed39 U.vm ∧ U.heap = h0) (fun _ _ _ _ _ => True) (fun _ U o U' => ∃ v L, o = .returned v ∧ Q4 Z p1 p2 p3 p4 h0 n0 v U'.heap L ∧ FrameEnd U o U' L ({ frames := 0, cells := 0, slots := 0, locals := 0 } : Room).cells ({ frames := 0, cells := 0, slots := 0, locals := 0 } : Room).slots) := by
  refine MetFree.of_bodySF (plainFor_of_name pn_4) hisR ?_
  intro p e s m args below meth c s₁ Bd hml0 hP hK
  obtain ⟨rfl, hZ, hh⟩ := hP
  have hx := Bd.exec
  have hby := Bd.bytes
  have hml : c.maxLocals = 4 := hml0
  have hown : s.vm.findClass "com/example/fairjoin/fairjoin/operator/KeyIndexCountsPinLaw" = some m.cls := findClass_of_methodNamed Bd.named
  have hnm := (name_of_methodNamed Bd.named Bd.method).1
  have X0 : Stand p l e ({ frames := 0, cells := 0, slots := 0, locals := 0 } : Room) s m #[(.int p1), (.int p2), (.int p3), (.int p4)] below meth c s₁ [] 0 0 := Stand.of_body Bd
  have e0 : s₁.heap = h0 := by rw [← hh, Bd.state]; rfl
  have N0 := Fr.nil n0
  have pre0 : ∀ t, Steps p.tables e below (s₁.setTop (mkF m 0 #[.val (.int p1), .val (.int p2), .val (.int p3), .val (.int p4)] [])) t → Steps p.tables e below (s₁.setTop (entryFrame m #[(.int p1), (.int p2), (.int p3), (.int p4)] 4)) t := fun t ktt => castTop (ef_4 m p1 p2 p3 p4) ktt
  obtain ⟨fs, hr, hrun, hended, hW, hsame⟩ := X0.leave (v := some (.int (0 : Int32))) (fun h => by rw [Bd.returns] at h; cases h)
  refine ⟨_, _, pre0 _ ?_, hrun, hended, _, _, rfl, ?_, ⟨_, rfl⟩, hW, hsame.mono (by decide) (by decide)⟩
  · show Steps p.tables e below (s₁.setTop (mkF m 0 #[.val (.int p1), .val (.int p2), .val (.int p3), .val (.int p4)] [])) _
    refine XS.iloadN X0.here hx rfl (hb hby d4_0) rfl ?_
    show Steps p.tables e below (s₁.setTop (mkF m 1 #[.val (.int p1), .val (.int p2), .val (.int p3), .val (.int p4)] [(.int p1)])) _
    refine XS.iloadN X0.here hx rfl (hb hby d4_1) rfl ?_
    show Steps p.tables e below (s₁.setTop (mkF m 2 #[.val (.int p1), .val (.int p2), .val (.int p3), .val (.int p4)] [(.int p2), (.int p1)])) _
    refine XS.icmpYes X0.here hx rfl (pc0 := 2) (pc' := 14) rfl (hb hby d4_2) rfl (flt hc2).2.1 (by decide) (by decide) ?_
    show Steps p.tables e below (s₁.setTop (mkF m 14 #[.val (.int p1), .val (.int p2), .val (.int p3), .val (.int p4)] [])) _
    refine XS.iconst X0.here hx rfl (hb hby d4_14) ?_
    show Steps p.tables e below (s₁.setTop (mkF m 15 #[.val (.int p1), .val (.int p2), .val (.int p3), .val (.int p4)] [(.int (0 : Int32))])) _
    exact retI X0 hx Bd.returns (hb hby d4_15) hr
  · show Q4 Z p1 p2 p3 p4 h0 n0 _ s₁.heap _
    rw [e0]
    exact ⟨by rw [own_hit, if_neg hc2], N0, rfl⟩
set_option maxRecDepth 65536 in
set_option maxHeartbeats 40000000 in
theorem rm4b (l : Launch) (Z : State) (a0 : Array Value) (hw : ∀ d ∈ tables_1, d.before a0 Z = true) (ws : List Jvm.Cond) (p1 : Int32) (p2 : Int32) (p3 : Int32) (p4 : Int32) (h0 : Heap) (n0 : Nat) (Z0 : n0 ≤ h0.size) (hc2 : p1 < p2) (hc7 : ¬ (p3 = p4)) :
    MetFree l (⟨"com/example/fairjoin/fairjoin/operator/KeyIndexCountsPinLaw", "hit", "(IIII)I"⟩ : MethodName) (head1 (Jvm.Cond.code (⟨"com/example/fairjoin/fairjoin/operator/KeyIndexCountsPinLaw", "hit", "(IIII)I"⟩ : MethodName) method_4_code 4 (some .int) :: ws) ({ frames := 0, cells := 0, slots := 0, locals := 0 } : Room)) (fun a U => a = #[(.int p1), (.int p2), (.int p3), (.int p4)] ∧ Z.Warmed39 U.vm ∧ U.heap = h0) (fun _ _ _ _ _ => True) (fun _ U o U' => ∃ v L, o = .returned v ∧ Q4 Z p1 p2 p3 p4 h0 n0 v U'.heap L ∧ FrameEnd U o U' L ({ frames := 0, cells := 0, slots := 0, locals := 0 } : Room).cells ({ frames := 0, cells := 0, slots := 0, locals := 0 } : Room).slots) := by
  refine MetFree.of_bodySF (plainFor_of_name pn_4) hisR ?_
  intro p e s m args below meth c s₁ Bd hml0 hP hK
  obtain ⟨rfl, hZ, hh⟩ := hP
  have hx := Bd.exec
  have hby := Bd.bytes
  have hml : c.maxLocals = 4 := hml0
  have hown : s.vm.findClass "com/example/fairjoin/fairjoin/operator/KeyIndexCountsPinLaw" = some m.cls := findClass_of_methodNamed Bd.named
  have hnm := (name_of_methodNamed Bd.named Bd.method).1
  have X0 : Stand p l e ({ frames := 0, cells := 0, slots := 0, locals := 0 } : Room) s m #[(.int p1), (.int p2), (.int p3), (.int p4)] below meth c s₁ [] 0 0 := Stand.of_body Bd
  have e0 : s₁.heap = h0 := by rw [← hh, Bd.state]; rfl
  have N0 := Fr.nil n0
  have pre0 : ∀ t, Steps p.tables e below (s₁.setTop (mkF m 0 #[.val (.int p1), .val (.int p2), .val (.int p3), .val (.int p4)] [])) t → Steps p.tables e below (s₁.setTop (entryFrame m #[(.int p1), (.int p2), (.int p3), (.int p4)] 4)) t := fun t ktt => castTop (ef_4 m p1 p2 p3 p4) ktt
  obtain ⟨fs, hr, hrun, hended, hW, hsame⟩ := X0.leave (v := some (.int (0 : Int32))) (fun h => by rw [Bd.returns] at h; cases h)
  refine ⟨_, _, pre0 _ ?_, hrun, hended, _, _, rfl, ?_, ⟨_, rfl⟩, hW, hsame.mono (by decide) (by decide)⟩
  · show Steps p.tables e below (s₁.setTop (mkF m 0 #[.val (.int p1), .val (.int p2), .val (.int p3), .val (.int p4)] [])) _
    refine XS.iloadN X0.here hx rfl (hb hby d4_0) rfl ?_
    show Steps p.tables e below (s₁.setTop (mkF m 1 #[.val (.int p1), .val (.int p2), .val (.int p3), .val (.int p4)] [(.int p1)])) _
    refine XS.iloadN X0.here hx rfl (hb hby d4_1) rfl ?_
    show Steps p.tables e below (s₁.setTop (mkF m 2 #[.val (.int p1), .val (.int p2), .val (.int p3), .val (.int p4)] [(.int p2), (.int p1)])) _
    refine XS.icmpNo X0.here hx rfl (hb hby d4_2) rfl (tlt hc2).2.1 ?_
    show Steps p.tables e below (s₁.setTop (mkF m 5 #[.val (.int p1), .val (.int p2), .val (.int p3), .val (.int p4)] [])) _
    refine XS.iloadN X0.here hx rfl (hb hby d4_5) rfl ?_
    show Steps p.tables e below (s₁.setTop (mkF m 6 #[.val (.int p1), .val (.int p2), .val (.int p3), .val (.int p4)] [(.int p3)])) _
    refine XS.iloadN X0.here hx rfl (hb hby d4_6) rfl ?_
    show Steps p.tables e below (s₁.setTop (mkF m 7 #[.val (.int p1), .val (.int p2), .val (.int p3), .val (.int p4)] [(.int p4), (.int p3)])) _
    refine XS.icmpYes X0.here hx rfl (pc0 := 7) (pc' := 14) rfl (hb hby d4_7) rfl (feq hc7).2 (by decide) (by decide) ?_
    show Steps p.tables e below (s₁.setTop (mkF m 14 #[.val (.int p1), .val (.int p2), .val (.int p3), .val (.int p4)] [])) _
    refine XS.iconst X0.here hx rfl (hb hby d4_14) ?_
    show Steps p.tables e below (s₁.setTop (mkF m 15 #[.val (.int p1), .val (.int p2), .val (.int p3), .val (.int p4)] [(.int (0 : Int32))])) _
    exact retI X0 hx Bd.returns (hb hby d4_15) hr
  · show Q4 Z p1 p2 p3 p4 h0 n0 _ s₁.heap _
    rw [e0]
    exact ⟨by rw [own_hit, if_pos hc2, if_neg hc7], N0, rfl⟩
set_option maxRecDepth 65536 in
set_option maxHeartbeats 40000000 in
theorem rm4c (l : Launch) (Z : State) (a0 : Array Value) (hw : ∀ d ∈ tables_1, d.before a0 Z = true) (ws : List Jvm.Cond) (p1 : Int32) (p2 : Int32) (p3 : Int32) (p4 : Int32) (h0 : Heap) (n0 : Nat) (Z0 : n0 ≤ h0.size) (hc2 : p1 < p2) (hc7 : p3 = p4) :
    MetFree l (⟨"com/example/fairjoin/fairjoin/operator/KeyIndexCountsPinLaw", "hit", "(IIII)I"⟩ : MethodName) (head1 (Jvm.Cond.code (⟨"com/example/fairjoin/fairjoin/operator/KeyIndexCountsPinLaw", "hit", "(IIII)I"⟩ : MethodName) method_4_code 4 (some .int) :: ws) ({ frames := 0, cells := 0, slots := 0, locals := 0 } : Room)) (fun a U => a = #[(.int p1), (.int p2), (.int p3), (.int p4)] ∧ Z.Warmed39 U.vm ∧ U.heap = h0) (fun _ _ _ _ _ => True) (fun _ U o U' => ∃ v L, o = .returned v ∧ Q4 Z p1 p2 p3 p4 h0 n0 v U'.heap L ∧ FrameEnd U o U' L ({ frames := 0, cells := 0, slots := 0, locals := 0 } : Room).cells ({ frames := 0, cells := 0, slots := 0, locals := 0 } : Room).slots) := by
  refine MetFree.of_bodySF (plainFor_of_name pn_4) hisR ?_
  intro p e s m args below meth c s₁ Bd hml0 hP hK
  obtain ⟨rfl, hZ, hh⟩ := hP
  have hx := Bd.exec
  have hby := Bd.bytes
  have hml : c.maxLocals = 4 := hml0
  have hown : s.vm.findClass "com/example/fairjoin/fairjoin/operator/KeyIndexCountsPinLaw" = some m.cls := findClass_of_methodNamed Bd.named
  have hnm := (name_of_methodNamed Bd.named Bd.method).1
  have X0 : Stand p l e ({ frames := 0, cells := 0, slots := 0, locals := 0 } : Room) s m #[(.int p1), (.int p2), (.int p3), (.int p4)] below meth c s₁ [] 0 0 := Stand.of_body Bd
  have e0 : s₁.heap = h0 := by rw [← hh, Bd.state]; rfl
  have N0 := Fr.nil n0
  have pre0 : ∀ t, Steps p.tables e below (s₁.setTop (mkF m 0 #[.val (.int p1), .val (.int p2), .val (.int p3), .val (.int p4)] [])) t → Steps p.tables e below (s₁.setTop (entryFrame m #[(.int p1), (.int p2), (.int p3), (.int p4)] 4)) t := fun t ktt => castTop (ef_4 m p1 p2 p3 p4) ktt
  obtain ⟨fs, hr, hrun, hended, hW, hsame⟩ := X0.leave (v := some (.int (1 : Int32))) (fun h => by rw [Bd.returns] at h; cases h)
  refine ⟨_, _, pre0 _ ?_, hrun, hended, _, _, rfl, ?_, ⟨_, rfl⟩, hW, hsame.mono (by decide) (by decide)⟩
  · show Steps p.tables e below (s₁.setTop (mkF m 0 #[.val (.int p1), .val (.int p2), .val (.int p3), .val (.int p4)] [])) _
    refine XS.iloadN X0.here hx rfl (hb hby d4_0) rfl ?_
    show Steps p.tables e below (s₁.setTop (mkF m 1 #[.val (.int p1), .val (.int p2), .val (.int p3), .val (.int p4)] [(.int p1)])) _
    refine XS.iloadN X0.here hx rfl (hb hby d4_1) rfl ?_
    show Steps p.tables e below (s₁.setTop (mkF m 2 #[.val (.int p1), .val (.int p2), .val (.int p3), .val (.int p4)] [(.int p2), (.int p1)])) _
    refine XS.icmpNo X0.here hx rfl (hb hby d4_2) rfl (tlt hc2).2.1 ?_
    show Steps p.tables e below (s₁.setTop (mkF m 5 #[.val (.int p1), .val (.int p2), .val (.int p3), .val (.int p4)] [])) _
    refine XS.iloadN X0.here hx rfl (hb hby d4_5) rfl ?_
    show Steps p.tables e below (s₁.setTop (mkF m 6 #[.val (.int p1), .val (.int p2), .val (.int p3), .val (.int p4)] [(.int p3)])) _
    refine XS.iloadN X0.here hx rfl (hb hby d4_6) rfl ?_
    show Steps p.tables e below (s₁.setTop (mkF m 7 #[.val (.int p1), .val (.int p2), .val (.int p3), .val (.int p4)] [(.int p4), (.int p3)])) _
    refine XS.icmpNo X0.here hx rfl (hb hby d4_7) rfl (teq hc7).2 ?_
    show Steps p.tables e below (s₁.setTop (mkF m 10 #[.val (.int p1), .val (.int p2), .val (.int p3), .val (.int p4)] [])) _
    refine XS.iconst X0.here hx rfl (hb hby d4_10) ?_
    show Steps p.tables e below (s₁.setTop (mkF m 11 #[.val (.int p1), .val (.int p2), .val (.int p3), .val (.int p4)] [(.int (1 : Int32))])) _
    refine XS.goto X0.here hx rfl (pc0 := 11) (pc' := 15) rfl (hb hby d4_11) (by decide) (by decide) ?_
    show Steps p.tables e below (s₁.setTop (mkF m 15 #[.val (.int p1), .val (.int p2), .val (.int p3), .val (.int p4)] [(.int (1 : Int32))])) _
    exact retI X0 hx Bd.returns (hb hby d4_15) hr
  · show Q4 Z p1 p2 p3 p4 h0 n0 _ s₁.heap _
    rw [e0]
    exact ⟨by rw [own_hit, if_pos hc2, if_pos hc7], N0, rfl⟩
set_option maxRecDepth 65536 in
set_option maxHeartbeats 40000000 in
theorem rm4 (l : Launch) (Z : State) (a0 : Array Value) (hw : ∀ d ∈ tables_1, d.before a0 Z = true) (ws : List Jvm.Cond) (p1 : Int32) (p2 : Int32) (p3 : Int32) (p4 : Int32) (h0 : Heap) (n0 : Nat) (Z0 : n0 ≤ h0.size) :
    MetFree l (⟨"com/example/fairjoin/fairjoin/operator/KeyIndexCountsPinLaw", "hit", "(IIII)I"⟩ : MethodName) (head1 (Jvm.Cond.code (⟨"com/example/fairjoin/fairjoin/operator/KeyIndexCountsPinLaw", "hit", "(IIII)I"⟩ : MethodName) method_4_code 4 (some .int) :: ws) ({ frames := 0, cells := 0, slots := 0, locals := 0 } : Room)) (fun a U => a = #[(.int p1), (.int p2), (.int p3), (.int p4)] ∧ Z.Warmed39 U.vm ∧ U.heap = h0) (fun _ _ _ _ _ => True) (fun _ U o U' => ∃ v L, o = .returned v ∧ Q4 Z p1 p2 p3 p4 h0 n0 v U'.heap L ∧ FrameEnd U o U' L ({ frames := 0, cells := 0, slots := 0, locals := 0 } : Room).cells ({ frames := 0, cells := 0, slots := 0, locals := 0 } : Room).slots) := by
  by_cases hc2 : p1 < p2
  · by_cases hc7 : p3 = p4
    · exact rm4c l Z a0 hw ws p1 p2 p3 p4 h0 n0 Z0 hc2 hc7
    · exact rm4b l Z a0 hw ws p1 p2 p3 p4 h0 n0 Z0 hc2 hc7
  · exact rm4a l Z a0 hw ws p1 p2 p3 p4 h0 n0 Z0 hc2
def Q3 (Z : State) (a1 : Addr) (k : Nat) (p3 p4 p5 p6 p7 : Int32)  (h0 : Heap) (n0 : Nat) (v : Option Value) (h : Heap) (L : List Loc) : Prop := v = some (.int (1 : Int32)) ∧ Fr n0 L ∧ h = h0
set_option maxRecDepth 65536 in
set_option maxHeartbeats 40000000 in
theorem rm3a (l : Launch) (Z : State) (a0 : Array Value) (hw : ∀ d ∈ tables_1, d.before a0 Z = true) (ws : List Jvm.Cond) (a1 : Addr) (k : Nat) (p3 p4 p5 p6 p7 : Int32) (sz : Nat) (f : Nat → Int32) (h0 : Heap) (n0 : Nat) (Z0 : n0 ≤ h0.size) (hk : k ≤ 7) (hsz : sz ≤ 7) (A : OwA Z h0 a1 .int sz (fun j => .int (f j))) (E : f k = (((own_hit (0 : Int32) p3 p4 (Int32.ofNat k) + own_hit (1 : Int32) p3 p5 (Int32.ofNat k)) + own_hit (2 : Int32) p3 p6 (Int32.ofNat k)) + own_hit (3 : Int32) p3 p7 (Int32.ofNat k))) (hlt : ¬ k < sz) :
    MetFree l (⟨"com/example/fairjoin/fairjoin/operator/KeyIndexCountsPinLaw", "at", "([IIIIIII)Z"⟩ : MethodName) (head1 (Jvm.Cond.code (⟨"com/example/fairjoin/fairjoin/operator/KeyIndexCountsPinLaw", "at", "([IIIIIII)Z"⟩ : MethodName) method_5_code 8 (some .boolean) :: ws) ({ frames := 1, cells := 0, slots := 0, locals := 16 } : Room)) (fun a U => a = #[(.ref a1), (.int (Int32.ofNat k)), (.int p3), (.int p4), (.int p5), (.int p6), (.int p7)] ∧ Z.Warmed39 U.vm ∧ U.heap = h0) (fun _ _ _ _ _ => True) (fun _ U o U' => ∃ v L, o = .returned v ∧ Q3 Z a1 k p3 p4 p5 p6 p7 h0 n0 v U'.heap L ∧ FrameEnd U o U' L ({ frames := 1, cells := 0, slots := 0, locals := 16 } : Room).cells ({ frames := 1, cells := 0, slots := 0, locals := 16 } : Room).slots) := by
  refine MetFree.of_bodySF (plainFor_of_name pn_3) hisR ?_
  intro p e s m args below meth c s₁ Bd hml0 hP hK
  obtain ⟨rfl, hZ, hh⟩ := hP
  have hx := Bd.exec
  have hby := Bd.bytes
  have hml : c.maxLocals = 8 := hml0
  have hown : s.vm.findClass "com/example/fairjoin/fairjoin/operator/KeyIndexCountsPinLaw" = some m.cls := findClass_of_methodNamed Bd.named
  have hnm := (name_of_methodNamed Bd.named Bd.method).1
  have X0 : Stand p l e ({ frames := 1, cells := 0, slots := 0, locals := 16 } : Room) s m #[(.ref a1), (.int (Int32.ofNat k)), (.int p3), (.int p4), (.int p5), (.int p6), (.int p7)] below meth c s₁ [] 0 0 := Stand.of_body Bd
  have e0 : s₁.heap = h0 := by rw [← hh, Bd.state]; rfl
  have N0 := Fr.nil n0
  have pre0 : ∀ t, Steps p.tables e below (s₁.setTop (mkF m 0 #[.val (.ref a1), .val (.int (Int32.ofNat k)), .val (.int p3), .val (.int p4), .val (.int p5), .val (.int p6), .val (.int p7), .unset] [])) t → Steps p.tables e below (s₁.setTop (entryFrame m #[(.ref a1), (.int (Int32.ofNat k)), (.int p3), (.int p4), (.int p5), (.int p6), (.int p7)] 8)) t := fun t ktt => castTop (ef_3 m a1 (Int32.ofNat k) p3 p4 p5 p6 p7) ktt
  obtain ⟨cl_a1, Ar_a1, Sn_a1, H_a1⟩ := A
  have S_a1 : cl_a1.slots.size = (Int32.ofNat sz).toNatClampNeg := by rw [own_clamp (by omega)]; exact Sn_a1
  have N_a1 : ¬ Int32.ofNat sz < 0 := own_pos (by omega)
  have hc3 : ¬ (Int32.ofNat k < Int32.ofNat sz) := fun q => hlt ((own_ltn (by omega) (by omega)).mp q)
  obtain ⟨fs, hr, hrun, hended, hW, hsame⟩ := X0.leave (v := some (.int (1 : Int32))) (fun h => by rw [Bd.returns] at h; cases h)
  refine ⟨_, _, pre0 _ ?_, hrun, hended, _, _, rfl, ?_, ⟨_, rfl⟩, hW, hsame.mono (by decide) (by decide)⟩
  · show Steps p.tables e below (s₁.setTop (mkF m 0 #[.val (.ref a1), .val (.int (Int32.ofNat k)), .val (.int p3), .val (.int p4), .val (.int p5), .val (.int p6), .val (.int p7), .unset] [])) _
    refine XS.iloadN X0.here hx rfl (hb hby d3_0) rfl ?_
    show Steps p.tables e below (s₁.setTop (mkF m 1 #[.val (.ref a1), .val (.int (Int32.ofNat k)), .val (.int p3), .val (.int p4), .val (.int p5), .val (.int p6), .val (.int p7), .unset] [(.int (Int32.ofNat k))])) _
    refine XS.aloadN X0.here hx rfl (hb hby d3_1) rfl rfl ?_
    show Steps p.tables e below (s₁.setTop (mkF m 2 #[.val (.ref a1), .val (.int (Int32.ofNat k)), .val (.int p3), .val (.int p4), .val (.int p5), .val (.int p6), .val (.int p7), .unset] [(.ref a1), (.int (Int32.ofNat k))])) _
    refine X0.arraylength hx (by rw [e0]; exact Ar_a1.1) (State.isArrayOf_alike hZ.alike Ar_a1.2.1) (g := (mkF m 2 #[.val (.ref a1), .val (.int (Int32.ofNat k)), .val (.int p3), .val (.int p4), .val (.int p5), .val (.int p6), .val (.int p7), .unset] [(.ref a1), (.int (Int32.ofNat k))])) rfl rfl (hb hby d3_2) _ ?_
    rw [len_of S_a1 N_a1]
    show Steps p.tables e below (s₁.setTop (mkF m 3 #[.val (.ref a1), .val (.int (Int32.ofNat k)), .val (.int p3), .val (.int p4), .val (.int p5), .val (.int p6), .val (.int p7), .unset] [(.int (Int32.ofNat sz)), (.int (Int32.ofNat k))])) _
    refine XS.icmpNo X0.here hx rfl (hb hby d3_3) rfl (flt hc3).1 ?_
    show Steps p.tables e below (s₁.setTop (mkF m 6 #[.val (.ref a1), .val (.int (Int32.ofNat k)), .val (.int p3), .val (.int p4), .val (.int p5), .val (.int p6), .val (.int p7), .unset] [])) _
    refine XS.iconst X0.here hx rfl (hb hby d3_6) ?_
    show Steps p.tables e below (s₁.setTop (mkF m 7 #[.val (.ref a1), .val (.int (Int32.ofNat k)), .val (.int p3), .val (.int p4), .val (.int p5), .val (.int p6), .val (.int p7), .unset] [(.int (1 : Int32))])) _
    exact retN X0 hx (t := .boolean) Bd.returns (by simp) (hb hby d3_7) hr
  · show Q3 Z a1 k p3 p4 p5 p6 p7 h0 n0 _ s₁.heap _
    rw [e0]
    exact ⟨rfl, N0, rfl⟩
set_option maxRecDepth 65536 in
set_option maxHeartbeats 40000000 in
theorem rm3b (l : Launch) (Z : State) (a0 : Array Value) (hw : ∀ d ∈ tables_1, d.before a0 Z = true) (ws : List Jvm.Cond) (a1 : Addr) (k : Nat) (p3 p4 p5 p6 p7 : Int32) (sz : Nat) (f : Nat → Int32) (h0 : Heap) (n0 : Nat) (Z0 : n0 ≤ h0.size) (hk : k ≤ 7) (hsz : sz ≤ 7) (A : OwA Z h0 a1 .int sz (fun j => .int (f j))) (E : f k = (((own_hit (0 : Int32) p3 p4 (Int32.ofNat k) + own_hit (1 : Int32) p3 p5 (Int32.ofNat k)) + own_hit (2 : Int32) p3 p6 (Int32.ofNat k)) + own_hit (3 : Int32) p3 p7 (Int32.ofNat k))) (hlt : k < sz) :
    MetFree l (⟨"com/example/fairjoin/fairjoin/operator/KeyIndexCountsPinLaw", "at", "([IIIIIII)Z"⟩ : MethodName) (head1 (Jvm.Cond.code (⟨"com/example/fairjoin/fairjoin/operator/KeyIndexCountsPinLaw", "at", "([IIIIIII)Z"⟩ : MethodName) method_5_code 8 (some .boolean) :: ws) ({ frames := 1, cells := 0, slots := 0, locals := 16 } : Room)) (fun a U => a = #[(.ref a1), (.int (Int32.ofNat k)), (.int p3), (.int p4), (.int p5), (.int p6), (.int p7)] ∧ Z.Warmed39 U.vm ∧ U.heap = h0) (fun _ _ _ _ _ => True) (fun _ U o U' => ∃ v L, o = .returned v ∧ Q3 Z a1 k p3 p4 p5 p6 p7 h0 n0 v U'.heap L ∧ FrameEnd U o U' L ({ frames := 1, cells := 0, slots := 0, locals := 16 } : Room).cells ({ frames := 1, cells := 0, slots := 0, locals := 16 } : Room).slots) := by
  refine MetFree.of_bodySF (plainFor_of_name pn_3) hisR ?_
  intro p e s m args below meth c s₁ Bd hml0 hP hK
  obtain ⟨rfl, hZ, hh⟩ := hP
  have hx := Bd.exec
  have hby := Bd.bytes
  have hml : c.maxLocals = 8 := hml0
  have hown : s.vm.findClass "com/example/fairjoin/fairjoin/operator/KeyIndexCountsPinLaw" = some m.cls := findClass_of_methodNamed Bd.named
  have hnm := (name_of_methodNamed Bd.named Bd.method).1
  have X0 : Stand p l e ({ frames := 1, cells := 0, slots := 0, locals := 16 } : Room) s m #[(.ref a1), (.int (Int32.ofNat k)), (.int p3), (.int p4), (.int p5), (.int p6), (.int p7)] below meth c s₁ [] 0 0 := Stand.of_body Bd
  have e0 : s₁.heap = h0 := by rw [← hh, Bd.state]; rfl
  have N0 := Fr.nil n0
  have pre0 : ∀ t, Steps p.tables e below (s₁.setTop (mkF m 0 #[.val (.ref a1), .val (.int (Int32.ofNat k)), .val (.int p3), .val (.int p4), .val (.int p5), .val (.int p6), .val (.int p7), .unset] [])) t → Steps p.tables e below (s₁.setTop (entryFrame m #[(.ref a1), (.int (Int32.ofNat k)), (.int p3), (.int p4), (.int p5), (.int p6), (.int p7)] 8)) t := fun t ktt => castTop (ef_3 m a1 (Int32.ofNat k) p3 p4 p5 p6 p7) ktt
  obtain ⟨cl_a1, Ar_a1, Sn_a1, H_a1⟩ := A
  have S_a1 : cl_a1.slots.size = (Int32.ofNat sz).toNatClampNeg := by rw [own_clamp (by omega)]; exact Sn_a1
  have N_a1 : ¬ Int32.ofNat sz < 0 := own_pos (by omega)
  have hc3 : Int32.ofNat k < Int32.ofNat sz := (own_ltn (by omega) (by omega)).mpr hlt
  have hck : (Int32.ofNat k).toNatClampNeg = k := own_clamp (by omega)
  have hin46 : ¬ (Int32.ofNat k < 0 ∨ cl_a1.slots.size ≤ (Int32.ofNat k).toNatClampNeg) := owa_in Sn_a1 (own_pos (by omega)) (by rw [hck]; exact hlt)
  have hat46 : cl_a1.slots[(Int32.ofNat k).toNatClampNeg]? = some (.int (f k)) := by rw [hck]; exact H_a1 k hlt
  obtain ⟨_, _, ⟨T8, L8, k8, n8⟩, -, X8, ⟨Lc8, hQ8, l8, y8, z8⟩, st8⟩ := Jvm.LawKit.callS X0 hx (y := (⟨"com/example/fairjoin/fairjoin/operator/KeyIndexCountsPinLaw", "hit", "(IIII)I"⟩ : MethodName)) hown (mvT hZ (hw _ (List.mem_of_getElem? (i := 13) rfl))) (mvT hZ (hw _ (List.mem_of_getElem? (i := 14) rfl))) (mvT hZ (hw _ (List.mem_of_getElem? (i := 3) rfl))) (mvT hZ (hw _ (List.mem_of_getElem? (i := 15) rfl))) (by decide) (backOf (W := 0) (rm4 l Z a0 hw [] (0 : Int32) p3 p4 (Int32.ofNat k) h0 n0 Z0) hZ (hw _ (List.mem_of_getElem? (i := 15) rfl)) (hw _ (List.mem_of_getElem? (i := 3) rfl)) (by decide) (by decide)) (g := (mkF m 12 #[.val (.ref a1), .val (.int (Int32.ofNat k)), .val (.int p3), .val (.int p4), .val (.int p5), .val (.int p6), .val (.int p7), .unset] [(.int (Int32.ofNat k)), (.int p4), (.int p3), (.int (0 : Int32))])) rfl (by rw [hml]; rfl) (argsL := [(.int (0 : Int32)), (.int p3), (.int p4), (.int (Int32.ofNat k))]) (rest := []) (lenOf pd_3_3 rfl) rfl (by show 2 * 0 + _ ≤ _; exact Nat.le_of_eq rfl) (hb hby d3_12) (fun _ _ => ⟨rfl, e0, (by decide : 0 + 0 ≤ _), (by decide : 0 + 0 ≤ _)⟩)
  dsimp only [Pt.U, Pt.locs, Pt.cells, Pt.slots] at X8 l8 y8 z8 st8 hQ8
  subst l8 y8 z8
  obtain ⟨rfl, N8q, e8⟩ := hQ8
  have Z8 : n0 ≤ T8.heap.size := by rw [e8]; exact Z0
  have N8 := Fr.app N0 N8q
  obtain ⟨_, _, ⟨T9, L9, k9, n9⟩, -, X9, ⟨Lc9, hQ9, l9, y9, z9⟩, st9⟩ := Jvm.LawKit.callS X8 hx (y := (⟨"com/example/fairjoin/fairjoin/operator/KeyIndexCountsPinLaw", "hit", "(IIII)I"⟩ : MethodName)) hown (mvT hZ (hw _ (List.mem_of_getElem? (i := 13) rfl))) (mvT hZ (hw _ (List.mem_of_getElem? (i := 14) rfl))) (mvT hZ (hw _ (List.mem_of_getElem? (i := 3) rfl))) (mvT hZ (hw _ (List.mem_of_getElem? (i := 15) rfl))) (by decide) (backOf (W := 1) (rm4 l Z a0 hw [] (1 : Int32) p3 p5 (Int32.ofNat k) T8.heap n0 Z8) hZ (hw _ (List.mem_of_getElem? (i := 15) rfl)) (hw _ (List.mem_of_getElem? (i := 3) rfl)) (by decide) (by decide)) (g := (mkF m 20 #[.val (.ref a1), .val (.int (Int32.ofNat k)), .val (.int p3), .val (.int p4), .val (.int p5), .val (.int p6), .val (.int p7), .unset] [(.int (Int32.ofNat k)), (.int p5), (.int p3), (.int (1 : Int32)), (.int (own_hit (0 : Int32) p3 p4 (Int32.ofNat k)))])) rfl (by rw [hml]; rfl) (argsL := [(.int (1 : Int32)), (.int p3), (.int p5), (.int (Int32.ofNat k))]) (rest := [(.int (own_hit (0 : Int32) p3 p4 (Int32.ofNat k)))]) (lenOf pd_3_3 rfl) rfl (by show 2 * 0 + _ ≤ _; exact Nat.le_of_eq rfl) (hb hby d3_20) (fun _ _ => ⟨rfl, rfl, (by decide : 0 + 0 ≤ _), (by decide : 0 + 0 ≤ _)⟩)
  dsimp only [Pt.U, Pt.locs, Pt.cells, Pt.slots] at X9 l9 y9 z9 st9 hQ9
  subst l9 y9 z9
  obtain ⟨rfl, N9q, e9⟩ := hQ9
  have Z9 : n0 ≤ T9.heap.size := by rw [e9]; exact Z8
  have N9 := Fr.app N8 N9q
  obtain ⟨_, _, ⟨T10, L10, k10, n10⟩, -, X10, ⟨Lc10, hQ10, l10, y10, z10⟩, st10⟩ := Jvm.LawKit.callS X9 hx (y := (⟨"com/example/fairjoin/fairjoin/operator/KeyIndexCountsPinLaw", "hit", "(IIII)I"⟩ : MethodName)) hown (mvT hZ (hw _ (List.mem_of_getElem? (i := 13) rfl))) (mvT hZ (hw _ (List.mem_of_getElem? (i := 14) rfl))) (mvT hZ (hw _ (List.mem_of_getElem? (i := 3) rfl))) (mvT hZ (hw _ (List.mem_of_getElem? (i := 15) rfl))) (by decide) (backOf (W := 1) (rm4 l Z a0 hw [] (2 : Int32) p3 p6 (Int32.ofNat k) T9.heap n0 Z9) hZ (hw _ (List.mem_of_getElem? (i := 15) rfl)) (hw _ (List.mem_of_getElem? (i := 3) rfl)) (by decide) (by decide)) (g := (mkF m 29 #[.val (.ref a1), .val (.int (Int32.ofNat k)), .val (.int p3), .val (.int p4), .val (.int p5), .val (.int p6), .val (.int p7), .unset] [(.int (Int32.ofNat k)), (.int p6), (.int p3), (.int (2 : Int32)), (.int ((own_hit (0 : Int32) p3 p4 (Int32.ofNat k)) + (own_hit (1 : Int32) p3 p5 (Int32.ofNat k))))])) rfl (by rw [hml]; rfl) (argsL := [(.int (2 : Int32)), (.int p3), (.int p6), (.int (Int32.ofNat k))]) (rest := [(.int ((own_hit (0 : Int32) p3 p4 (Int32.ofNat k)) + (own_hit (1 : Int32) p3 p5 (Int32.ofNat k))))]) (lenOf pd_3_3 rfl) rfl (by show 2 * 0 + _ ≤ _; exact Nat.le_of_eq rfl) (hb hby d3_29) (fun _ _ => ⟨rfl, rfl, (by decide : 0 + 0 ≤ _), (by decide : 0 + 0 ≤ _)⟩)
  dsimp only [Pt.U, Pt.locs, Pt.cells, Pt.slots] at X10 l10 y10 z10 st10 hQ10
  subst l10 y10 z10
  obtain ⟨rfl, N10q, e10⟩ := hQ10
  have Z10 : n0 ≤ T10.heap.size := by rw [e10]; exact Z9
  have N10 := Fr.app N9 N10q
  obtain ⟨_, _, ⟨T11, L11, k11, n11⟩, -, X11, ⟨Lc11, hQ11, l11, y11, z11⟩, st11⟩ := Jvm.LawKit.callS X10 hx (y := (⟨"com/example/fairjoin/fairjoin/operator/KeyIndexCountsPinLaw", "hit", "(IIII)I"⟩ : MethodName)) hown (mvT hZ (hw _ (List.mem_of_getElem? (i := 13) rfl))) (mvT hZ (hw _ (List.mem_of_getElem? (i := 14) rfl))) (mvT hZ (hw _ (List.mem_of_getElem? (i := 3) rfl))) (mvT hZ (hw _ (List.mem_of_getElem? (i := 15) rfl))) (by decide) (backOf (W := 1) (rm4 l Z a0 hw [] (3 : Int32) p3 p7 (Int32.ofNat k) T10.heap n0 Z10) hZ (hw _ (List.mem_of_getElem? (i := 15) rfl)) (hw _ (List.mem_of_getElem? (i := 3) rfl)) (by decide) (by decide)) (g := (mkF m 38 #[.val (.ref a1), .val (.int (Int32.ofNat k)), .val (.int p3), .val (.int p4), .val (.int p5), .val (.int p6), .val (.int p7), .unset] [(.int (Int32.ofNat k)), (.int p7), (.int p3), (.int (3 : Int32)), (.int (((own_hit (0 : Int32) p3 p4 (Int32.ofNat k)) + (own_hit (1 : Int32) p3 p5 (Int32.ofNat k))) + (own_hit (2 : Int32) p3 p6 (Int32.ofNat k))))])) rfl (by rw [hml]; rfl) (argsL := [(.int (3 : Int32)), (.int p3), (.int p7), (.int (Int32.ofNat k))]) (rest := [(.int (((own_hit (0 : Int32) p3 p4 (Int32.ofNat k)) + (own_hit (1 : Int32) p3 p5 (Int32.ofNat k))) + (own_hit (2 : Int32) p3 p6 (Int32.ofNat k))))]) (lenOf pd_3_3 rfl) rfl (by show 2 * 0 + _ ≤ _; exact Nat.le_of_eq rfl) (hb hby d3_38) (fun _ _ => ⟨rfl, rfl, (by decide : 0 + 0 ≤ _), (by decide : 0 + 0 ≤ _)⟩)
  dsimp only [Pt.U, Pt.locs, Pt.cells, Pt.slots] at X11 l11 y11 z11 st11 hQ11
  subst l11 y11 z11
  obtain ⟨rfl, N11q, e11⟩ := hQ11
  have Z11 : n0 ≤ T11.heap.size := by rw [e11]; exact Z10
  have N11 := Fr.app N10 N11q
  obtain ⟨fs, hr, hrun, hended, hW, hsame⟩ := X11.leave (v := some (.int (1 : Int32))) (fun h => by rw [Bd.returns] at h; cases h)
  refine ⟨_, _, pre0 _ ?_, hrun, hended, _, _, rfl, ?_, ⟨_, rfl⟩, hW, hsame.mono (by decide) (by decide)⟩
  · show Steps p.tables e below (s₁.setTop (mkF m 0 #[.val (.ref a1), .val (.int (Int32.ofNat k)), .val (.int p3), .val (.int p4), .val (.int p5), .val (.int p6), .val (.int p7), .unset] [])) _
    refine XS.iloadN X0.here hx rfl (hb hby d3_0) rfl ?_
    show Steps p.tables e below (s₁.setTop (mkF m 1 #[.val (.ref a1), .val (.int (Int32.ofNat k)), .val (.int p3), .val (.int p4), .val (.int p5), .val (.int p6), .val (.int p7), .unset] [(.int (Int32.ofNat k))])) _
    refine XS.aloadN X0.here hx rfl (hb hby d3_1) rfl rfl ?_
    show Steps p.tables e below (s₁.setTop (mkF m 2 #[.val (.ref a1), .val (.int (Int32.ofNat k)), .val (.int p3), .val (.int p4), .val (.int p5), .val (.int p6), .val (.int p7), .unset] [(.ref a1), (.int (Int32.ofNat k))])) _
    refine X0.arraylength hx (by rw [e0]; exact Ar_a1.1) (State.isArrayOf_alike hZ.alike Ar_a1.2.1) (g := (mkF m 2 #[.val (.ref a1), .val (.int (Int32.ofNat k)), .val (.int p3), .val (.int p4), .val (.int p5), .val (.int p6), .val (.int p7), .unset] [(.ref a1), (.int (Int32.ofNat k))])) rfl rfl (hb hby d3_2) _ ?_
    rw [len_of S_a1 N_a1]
    show Steps p.tables e below (s₁.setTop (mkF m 3 #[.val (.ref a1), .val (.int (Int32.ofNat k)), .val (.int p3), .val (.int p4), .val (.int p5), .val (.int p6), .val (.int p7), .unset] [(.int (Int32.ofNat sz)), (.int (Int32.ofNat k))])) _
    refine XS.icmpYes X0.here hx rfl (pc0 := 3) (pc' := 8) rfl (hb hby d3_3) rfl (tlt hc3).1 (by decide) (by decide) ?_
    show Steps p.tables e below (s₁.setTop (mkF m 8 #[.val (.ref a1), .val (.int (Int32.ofNat k)), .val (.int p3), .val (.int p4), .val (.int p5), .val (.int p6), .val (.int p7), .unset] [])) _
    refine XS.iconst X0.here hx rfl (hb hby d3_8) ?_
    show Steps p.tables e below (s₁.setTop (mkF m 9 #[.val (.ref a1), .val (.int (Int32.ofNat k)), .val (.int p3), .val (.int p4), .val (.int p5), .val (.int p6), .val (.int p7), .unset] [(.int (0 : Int32))])) _
    refine XS.iloadN X0.here hx rfl (hb hby d3_9) rfl ?_
    show Steps p.tables e below (s₁.setTop (mkF m 10 #[.val (.ref a1), .val (.int (Int32.ofNat k)), .val (.int p3), .val (.int p4), .val (.int p5), .val (.int p6), .val (.int p7), .unset] [(.int p3), (.int (0 : Int32))])) _
    refine XS.iloadN X0.here hx rfl (hb hby d3_10) rfl ?_
    show Steps p.tables e below (s₁.setTop (mkF m 11 #[.val (.ref a1), .val (.int (Int32.ofNat k)), .val (.int p3), .val (.int p4), .val (.int p5), .val (.int p6), .val (.int p7), .unset] [(.int p4), (.int p3), (.int (0 : Int32))])) _
    refine XS.iloadN X0.here hx rfl (hb hby d3_11) rfl ?_
    show Steps p.tables e below (s₁.setTop (mkF m 12 #[.val (.ref a1), .val (.int (Int32.ofNat k)), .val (.int p3), .val (.int p4), .val (.int p5), .val (.int p6), .val (.int p7), .unset] [(.int (Int32.ofNat k)), (.int p4), (.int p3), (.int (0 : Int32))])) _
    refine st8 _ ?_
    show Steps p.tables e below (T8.setTop (mkF m 15 #[.val (.ref a1), .val (.int (Int32.ofNat k)), .val (.int p3), .val (.int p4), .val (.int p5), .val (.int p6), .val (.int p7), .unset] [(.int (own_hit (0 : Int32) p3 p4 (Int32.ofNat k)))])) _
    refine XS.iconst X8.here hx rfl (hb hby d3_15) ?_
    show Steps p.tables e below (T8.setTop (mkF m 16 #[.val (.ref a1), .val (.int (Int32.ofNat k)), .val (.int p3), .val (.int p4), .val (.int p5), .val (.int p6), .val (.int p7), .unset] [(.int (1 : Int32)), (.int (own_hit (0 : Int32) p3 p4 (Int32.ofNat k)))])) _
    refine XS.iloadN X8.here hx rfl (hb hby d3_16) rfl ?_
    show Steps p.tables e below (T8.setTop (mkF m 17 #[.val (.ref a1), .val (.int (Int32.ofNat k)), .val (.int p3), .val (.int p4), .val (.int p5), .val (.int p6), .val (.int p7), .unset] [(.int p3), (.int (1 : Int32)), (.int (own_hit (0 : Int32) p3 p4 (Int32.ofNat k)))])) _
    refine XS.iload X8.here hx rfl (hb hby d3_17) rfl ?_
    show Steps p.tables e below (T8.setTop (mkF m 19 #[.val (.ref a1), .val (.int (Int32.ofNat k)), .val (.int p3), .val (.int p4), .val (.int p5), .val (.int p6), .val (.int p7), .unset] [(.int p5), (.int p3), (.int (1 : Int32)), (.int (own_hit (0 : Int32) p3 p4 (Int32.ofNat k)))])) _
    refine XS.iloadN X8.here hx rfl (hb hby d3_19) rfl ?_
    show Steps p.tables e below (T8.setTop (mkF m 20 #[.val (.ref a1), .val (.int (Int32.ofNat k)), .val (.int p3), .val (.int p4), .val (.int p5), .val (.int p6), .val (.int p7), .unset] [(.int (Int32.ofNat k)), (.int p5), (.int p3), (.int (1 : Int32)), (.int (own_hit (0 : Int32) p3 p4 (Int32.ofNat k)))])) _
    refine st9 _ ?_
    show Steps p.tables e below (T9.setTop (mkF m 23 #[.val (.ref a1), .val (.int (Int32.ofNat k)), .val (.int p3), .val (.int p4), .val (.int p5), .val (.int p6), .val (.int p7), .unset] [(.int (own_hit (1 : Int32) p3 p5 (Int32.ofNat k))), (.int (own_hit (0 : Int32) p3 p4 (Int32.ofNat k)))])) _
    refine XS.iadd X9.here hx rfl (hb hby d3_23) rfl ?_
    show Steps p.tables e below (T9.setTop (mkF m 24 #[.val (.ref a1), .val (.int (Int32.ofNat k)), .val (.int p3), .val (.int p4), .val (.int p5), .val (.int p6), .val (.int p7), .unset] [(.int ((own_hit (0 : Int32) p3 p4 (Int32.ofNat k)) + (own_hit (1 : Int32) p3 p5 (Int32.ofNat k))))])) _
    refine XS.iconst X9.here hx rfl (hb hby d3_24) ?_
    show Steps p.tables e below (T9.setTop (mkF m 25 #[.val (.ref a1), .val (.int (Int32.ofNat k)), .val (.int p3), .val (.int p4), .val (.int p5), .val (.int p6), .val (.int p7), .unset] [(.int (2 : Int32)), (.int ((own_hit (0 : Int32) p3 p4 (Int32.ofNat k)) + (own_hit (1 : Int32) p3 p5 (Int32.ofNat k))))])) _
    refine XS.iloadN X9.here hx rfl (hb hby d3_25) rfl ?_
    show Steps p.tables e below (T9.setTop (mkF m 26 #[.val (.ref a1), .val (.int (Int32.ofNat k)), .val (.int p3), .val (.int p4), .val (.int p5), .val (.int p6), .val (.int p7), .unset] [(.int p3), (.int (2 : Int32)), (.int ((own_hit (0 : Int32) p3 p4 (Int32.ofNat k)) + (own_hit (1 : Int32) p3 p5 (Int32.ofNat k))))])) _
    refine XS.iload X9.here hx rfl (hb hby d3_26) rfl ?_
    show Steps p.tables e below (T9.setTop (mkF m 28 #[.val (.ref a1), .val (.int (Int32.ofNat k)), .val (.int p3), .val (.int p4), .val (.int p5), .val (.int p6), .val (.int p7), .unset] [(.int p6), (.int p3), (.int (2 : Int32)), (.int ((own_hit (0 : Int32) p3 p4 (Int32.ofNat k)) + (own_hit (1 : Int32) p3 p5 (Int32.ofNat k))))])) _
    refine XS.iloadN X9.here hx rfl (hb hby d3_28) rfl ?_
    show Steps p.tables e below (T9.setTop (mkF m 29 #[.val (.ref a1), .val (.int (Int32.ofNat k)), .val (.int p3), .val (.int p4), .val (.int p5), .val (.int p6), .val (.int p7), .unset] [(.int (Int32.ofNat k)), (.int p6), (.int p3), (.int (2 : Int32)), (.int ((own_hit (0 : Int32) p3 p4 (Int32.ofNat k)) + (own_hit (1 : Int32) p3 p5 (Int32.ofNat k))))])) _
    refine st10 _ ?_
    show Steps p.tables e below (T10.setTop (mkF m 32 #[.val (.ref a1), .val (.int (Int32.ofNat k)), .val (.int p3), .val (.int p4), .val (.int p5), .val (.int p6), .val (.int p7), .unset] [(.int (own_hit (2 : Int32) p3 p6 (Int32.ofNat k))), (.int ((own_hit (0 : Int32) p3 p4 (Int32.ofNat k)) + (own_hit (1 : Int32) p3 p5 (Int32.ofNat k))))])) _
    refine XS.iadd X10.here hx rfl (hb hby d3_32) rfl ?_
    show Steps p.tables e below (T10.setTop (mkF m 33 #[.val (.ref a1), .val (.int (Int32.ofNat k)), .val (.int p3), .val (.int p4), .val (.int p5), .val (.int p6), .val (.int p7), .unset] [(.int (((own_hit (0 : Int32) p3 p4 (Int32.ofNat k)) + (own_hit (1 : Int32) p3 p5 (Int32.ofNat k))) + (own_hit (2 : Int32) p3 p6 (Int32.ofNat k))))])) _
    refine XS.iconst X10.here hx rfl (hb hby d3_33) ?_
    show Steps p.tables e below (T10.setTop (mkF m 34 #[.val (.ref a1), .val (.int (Int32.ofNat k)), .val (.int p3), .val (.int p4), .val (.int p5), .val (.int p6), .val (.int p7), .unset] [(.int (3 : Int32)), (.int (((own_hit (0 : Int32) p3 p4 (Int32.ofNat k)) + (own_hit (1 : Int32) p3 p5 (Int32.ofNat k))) + (own_hit (2 : Int32) p3 p6 (Int32.ofNat k))))])) _
    refine XS.iloadN X10.here hx rfl (hb hby d3_34) rfl ?_
    show Steps p.tables e below (T10.setTop (mkF m 35 #[.val (.ref a1), .val (.int (Int32.ofNat k)), .val (.int p3), .val (.int p4), .val (.int p5), .val (.int p6), .val (.int p7), .unset] [(.int p3), (.int (3 : Int32)), (.int (((own_hit (0 : Int32) p3 p4 (Int32.ofNat k)) + (own_hit (1 : Int32) p3 p5 (Int32.ofNat k))) + (own_hit (2 : Int32) p3 p6 (Int32.ofNat k))))])) _
    refine XS.iload X10.here hx rfl (hb hby d3_35) rfl ?_
    show Steps p.tables e below (T10.setTop (mkF m 37 #[.val (.ref a1), .val (.int (Int32.ofNat k)), .val (.int p3), .val (.int p4), .val (.int p5), .val (.int p6), .val (.int p7), .unset] [(.int p7), (.int p3), (.int (3 : Int32)), (.int (((own_hit (0 : Int32) p3 p4 (Int32.ofNat k)) + (own_hit (1 : Int32) p3 p5 (Int32.ofNat k))) + (own_hit (2 : Int32) p3 p6 (Int32.ofNat k))))])) _
    refine XS.iloadN X10.here hx rfl (hb hby d3_37) rfl ?_
    show Steps p.tables e below (T10.setTop (mkF m 38 #[.val (.ref a1), .val (.int (Int32.ofNat k)), .val (.int p3), .val (.int p4), .val (.int p5), .val (.int p6), .val (.int p7), .unset] [(.int (Int32.ofNat k)), (.int p7), (.int p3), (.int (3 : Int32)), (.int (((own_hit (0 : Int32) p3 p4 (Int32.ofNat k)) + (own_hit (1 : Int32) p3 p5 (Int32.ofNat k))) + (own_hit (2 : Int32) p3 p6 (Int32.ofNat k))))])) _
    refine st11 _ ?_
    show Steps p.tables e below (T11.setTop (mkF m 41 #[.val (.ref a1), .val (.int (Int32.ofNat k)), .val (.int p3), .val (.int p4), .val (.int p5), .val (.int p6), .val (.int p7), .unset] [(.int (own_hit (3 : Int32) p3 p7 (Int32.ofNat k))), (.int (((own_hit (0 : Int32) p3 p4 (Int32.ofNat k)) + (own_hit (1 : Int32) p3 p5 (Int32.ofNat k))) + (own_hit (2 : Int32) p3 p6 (Int32.ofNat k))))])) _
    refine XS.iadd X11.here hx rfl (hb hby d3_41) rfl ?_
    show Steps p.tables e below (T11.setTop (mkF m 42 #[.val (.ref a1), .val (.int (Int32.ofNat k)), .val (.int p3), .val (.int p4), .val (.int p5), .val (.int p6), .val (.int p7), .unset] [(.int ((((own_hit (0 : Int32) p3 p4 (Int32.ofNat k)) + (own_hit (1 : Int32) p3 p5 (Int32.ofNat k))) + (own_hit (2 : Int32) p3 p6 (Int32.ofNat k))) + (own_hit (3 : Int32) p3 p7 (Int32.ofNat k))))])) _
    refine XS.istore X11.here hx rfl (hb hby d3_42) rfl (l' := #[.val (.ref a1), .val (.int (Int32.ofNat k)), .val (.int p3), .val (.int p4), .val (.int p5), .val (.int p6), .val (.int p7), .val (.int ((((own_hit (0 : Int32) p3 p4 (Int32.ofNat k)) + (own_hit (1 : Int32) p3 p5 (Int32.ofNat k))) + (own_hit (2 : Int32) p3 p6 (Int32.ofNat k))) + (own_hit (3 : Int32) p3 p7 (Int32.ofNat k))))]) rfl ?_
    show Steps p.tables e below (T11.setTop (mkF m 44 #[.val (.ref a1), .val (.int (Int32.ofNat k)), .val (.int p3), .val (.int p4), .val (.int p5), .val (.int p6), .val (.int p7), .val (.int ((((own_hit (0 : Int32) p3 p4 (Int32.ofNat k)) + (own_hit (1 : Int32) p3 p5 (Int32.ofNat k))) + (own_hit (2 : Int32) p3 p6 (Int32.ofNat k))) + (own_hit (3 : Int32) p3 p7 (Int32.ofNat k))))] [])) _
    refine XS.aloadN X11.here hx rfl (hb hby d3_44) rfl rfl ?_
    show Steps p.tables e below (T11.setTop (mkF m 45 #[.val (.ref a1), .val (.int (Int32.ofNat k)), .val (.int p3), .val (.int p4), .val (.int p5), .val (.int p6), .val (.int p7), .val (.int ((((own_hit (0 : Int32) p3 p4 (Int32.ofNat k)) + (own_hit (1 : Int32) p3 p5 (Int32.ofNat k))) + (own_hit (2 : Int32) p3 p6 (Int32.ofNat k))) + (own_hit (3 : Int32) p3 p7 (Int32.ofNat k))))] [(.ref a1)])) _
    refine XS.iloadN X11.here hx rfl (hb hby d3_45) rfl ?_
    show Steps p.tables e below (T11.setTop (mkF m 46 #[.val (.ref a1), .val (.int (Int32.ofNat k)), .val (.int p3), .val (.int p4), .val (.int p5), .val (.int p6), .val (.int p7), .val (.int ((((own_hit (0 : Int32) p3 p4 (Int32.ofNat k)) + (own_hit (1 : Int32) p3 p5 (Int32.ofNat k))) + (own_hit (2 : Int32) p3 p6 (Int32.ofNat k))) + (own_hit (3 : Int32) p3 p7 (Int32.ofNat k))))] [(.int (Int32.ofNat k)), (.ref a1)])) _
    refine X11.iaload hx (j := (Int32.ofNat k)) (v := (.int (f k))) (by rw [e11, e10, e9, e8]; exact Ar_a1.1) (State.isArrayOf_alike hZ.alike Ar_a1.2.1) Ar_a1.2.2 hin46 hat46 (g := (mkF m 46 #[.val (.ref a1), .val (.int (Int32.ofNat k)), .val (.int p3), .val (.int p4), .val (.int p5), .val (.int p6), .val (.int p7), .val (.int ((((own_hit (0 : Int32) p3 p4 (Int32.ofNat k)) + (own_hit (1 : Int32) p3 p5 (Int32.ofNat k))) + (own_hit (2 : Int32) p3 p6 (Int32.ofNat k))) + (own_hit (3 : Int32) p3 p7 (Int32.ofNat k))))] [(.int (Int32.ofNat k)), (.ref a1)])) rfl rfl (hb hby d3_46) _ ?_
    show Steps p.tables e below (T11.setTop (mkF m 47 #[.val (.ref a1), .val (.int (Int32.ofNat k)), .val (.int p3), .val (.int p4), .val (.int p5), .val (.int p6), .val (.int p7), .val (.int ((((own_hit (0 : Int32) p3 p4 (Int32.ofNat k)) + (own_hit (1 : Int32) p3 p5 (Int32.ofNat k))) + (own_hit (2 : Int32) p3 p6 (Int32.ofNat k))) + (own_hit (3 : Int32) p3 p7 (Int32.ofNat k))))] [(.int (f k))])) _
    refine XS.iload X11.here hx rfl (hb hby d3_47) rfl ?_
    show Steps p.tables e below (T11.setTop (mkF m 49 #[.val (.ref a1), .val (.int (Int32.ofNat k)), .val (.int p3), .val (.int p4), .val (.int p5), .val (.int p6), .val (.int p7), .val (.int ((((own_hit (0 : Int32) p3 p4 (Int32.ofNat k)) + (own_hit (1 : Int32) p3 p5 (Int32.ofNat k))) + (own_hit (2 : Int32) p3 p6 (Int32.ofNat k))) + (own_hit (3 : Int32) p3 p7 (Int32.ofNat k))))] [(.int ((((own_hit (0 : Int32) p3 p4 (Int32.ofNat k)) + (own_hit (1 : Int32) p3 p5 (Int32.ofNat k))) + (own_hit (2 : Int32) p3 p6 (Int32.ofNat k))) + (own_hit (3 : Int32) p3 p7 (Int32.ofNat k)))), (.int (f k))])) _
    refine XS.icmpNo X11.here hx rfl (hb hby d3_49) rfl (teq (E : (f k) = ((((own_hit (0 : Int32) p3 p4 (Int32.ofNat k)) + (own_hit (1 : Int32) p3 p5 (Int32.ofNat k))) + (own_hit (2 : Int32) p3 p6 (Int32.ofNat k))) + (own_hit (3 : Int32) p3 p7 (Int32.ofNat k))))).2 ?_
    show Steps p.tables e below (T11.setTop (mkF m 52 #[.val (.ref a1), .val (.int (Int32.ofNat k)), .val (.int p3), .val (.int p4), .val (.int p5), .val (.int p6), .val (.int p7), .val (.int ((((own_hit (0 : Int32) p3 p4 (Int32.ofNat k)) + (own_hit (1 : Int32) p3 p5 (Int32.ofNat k))) + (own_hit (2 : Int32) p3 p6 (Int32.ofNat k))) + (own_hit (3 : Int32) p3 p7 (Int32.ofNat k))))] [])) _
    refine XS.iconst X11.here hx rfl (hb hby d3_52) ?_
    show Steps p.tables e below (T11.setTop (mkF m 53 #[.val (.ref a1), .val (.int (Int32.ofNat k)), .val (.int p3), .val (.int p4), .val (.int p5), .val (.int p6), .val (.int p7), .val (.int ((((own_hit (0 : Int32) p3 p4 (Int32.ofNat k)) + (own_hit (1 : Int32) p3 p5 (Int32.ofNat k))) + (own_hit (2 : Int32) p3 p6 (Int32.ofNat k))) + (own_hit (3 : Int32) p3 p7 (Int32.ofNat k))))] [(.int (1 : Int32))])) _
    refine XS.goto X11.here hx rfl (pc0 := 53) (pc' := 57) rfl (hb hby d3_53) (by decide) (by decide) ?_
    show Steps p.tables e below (T11.setTop (mkF m 57 #[.val (.ref a1), .val (.int (Int32.ofNat k)), .val (.int p3), .val (.int p4), .val (.int p5), .val (.int p6), .val (.int p7), .val (.int ((((own_hit (0 : Int32) p3 p4 (Int32.ofNat k)) + (own_hit (1 : Int32) p3 p5 (Int32.ofNat k))) + (own_hit (2 : Int32) p3 p6 (Int32.ofNat k))) + (own_hit (3 : Int32) p3 p7 (Int32.ofNat k))))] [(.int (1 : Int32))])) _
    exact retN X11 hx (t := .boolean) Bd.returns (by simp) (hb hby d3_57) hr
  · show Q3 Z a1 k p3 p4 p5 p6 p7 h0 n0 _ T11.heap _
    exact ⟨rfl, N11, by rw [e11, e10, e9, e8]⟩
set_option maxRecDepth 65536 in
set_option maxHeartbeats 40000000 in
theorem rm3 (l : Launch) (Z : State) (a0 : Array Value) (hw : ∀ d ∈ tables_1, d.before a0 Z = true) (ws : List Jvm.Cond) (a1 : Addr) (k : Nat) (p3 p4 p5 p6 p7 : Int32) (sz : Nat) (f : Nat → Int32) (h0 : Heap) (n0 : Nat) (Z0 : n0 ≤ h0.size) (hk : k ≤ 7) (hsz : sz ≤ 7) (A : OwA Z h0 a1 .int sz (fun j => .int (f j))) (E : f k = (((own_hit (0 : Int32) p3 p4 (Int32.ofNat k) + own_hit (1 : Int32) p3 p5 (Int32.ofNat k)) + own_hit (2 : Int32) p3 p6 (Int32.ofNat k)) + own_hit (3 : Int32) p3 p7 (Int32.ofNat k))) :
    MetFree l (⟨"com/example/fairjoin/fairjoin/operator/KeyIndexCountsPinLaw", "at", "([IIIIIII)Z"⟩ : MethodName) (head1 (Jvm.Cond.code (⟨"com/example/fairjoin/fairjoin/operator/KeyIndexCountsPinLaw", "at", "([IIIIIII)Z"⟩ : MethodName) method_5_code 8 (some .boolean) :: ws) ({ frames := 1, cells := 0, slots := 0, locals := 16 } : Room)) (fun a U => a = #[(.ref a1), (.int (Int32.ofNat k)), (.int p3), (.int p4), (.int p5), (.int p6), (.int p7)] ∧ Z.Warmed39 U.vm ∧ U.heap = h0) (fun _ _ _ _ _ => True) (fun _ U o U' => ∃ v L, o = .returned v ∧ Q3 Z a1 k p3 p4 p5 p6 p7 h0 n0 v U'.heap L ∧ FrameEnd U o U' L ({ frames := 1, cells := 0, slots := 0, locals := 16 } : Room).cells ({ frames := 1, cells := 0, slots := 0, locals := 16 } : Room).slots) := by
  by_cases hlt : k < sz
  · exact rm3b l Z a0 hw ws a1 k p3 p4 p5 p6 p7 sz f h0 n0 Z0 hk hsz A E hlt
  · exact rm3a l Z a0 hw ws a1 k p3 p4 p5 p6 p7 sz f h0 n0 Z0 hk hsz A E hlt
set_option maxRecDepth 65536 in
set_option maxHeartbeats 40000000 in
theorem tn2f {p : Program} {l : Launch} {e : Env} {s : State} {m : MethodId} {args : Array Value} {below : List Frame} {meth : Method} {c : Code} {T0 : State} {locs : List Loc} {Z : State} {a0 : Array Value} {h0 : Heap} {R : Room} {cells slots : Nat} (s0 s1 : Slot) (o2 o3 : Addr) (n sz : Nat) (hn : n ≤ 4) (hsz : sz ≤ 7) (g : Nat → Int32) (i : Nat) (s6 : Slot) (n0 : Nat)
    (X0 : Stand p l e R s m args below meth c T0 locs cells slots) (hx : p.tables.exec = Jvm.exec) (hZ : Z.Warmed39 s.vm) (hw : ∀ d ∈ tables_1, d.before a0 Z = true) (hby : c.code = prog_160_method_3_code) (hml : c.maxLocals = 7) (hown : s.vm.findClass "com/example/fairjoin/fairjoin/operator/KeyIndex" = some m.cls) (e0 : T0.heap = h0) (N0 : Fr n0 locs) (g_o2 : n0 ≤ o2) (hne : o3 ≠ o2) (hs6 : One s6) (hi : i < n) (A3 : OwA Z h0 o3 .int n (fun j => .int (g j))) (A2 : OwA Z h0 o2 .int sz (own_cv g i)) (hpos : 0 ≤ (g i).toInt) (hlt : (g i).toInt < (sz : Int)) :
    ∃ (T' : State) (h' : Heap) (locs' : List Loc) (s6' : Slot), Stand p l e R s m args below meth c T' locs' cells slots ∧ T'.heap = h' ∧ Fr n0 locs' ∧ Keep h0 h' [o2] ∧ One s6' ∧ OwA Z h' o3 .int n (fun j => .int (g j)) ∧ OwA Z h' o2 .int sz (own_cv g (i + 1)) ∧
      ∀ target, Steps p.tables e below (T'.setTop (mkF m 13 #[s0, s1, .val (.ref o2), .val (.ref o3), .val (.int (Int32.ofNat n)), .val (.int (Int32.ofNat (i + 1))), s6'] [])) target → Steps p.tables e below (T0.setTop (mkF m 13 #[s0, s1, .val (.ref o2), .val (.ref o3), .val (.int (Int32.ofNat n)), .val (.int (Int32.ofNat i)), s6] [])) target := by
  obtain ⟨cl_o3, Ar_o3, S_o3, H_o3⟩ := A3
  have hci : (Int32.ofNat i).toNatClampNeg = i := own_clamp (by omega)
  have hin23 : ¬ (Int32.ofNat i < 0 ∨ cl_o3.slots.size ≤ (Int32.ofNat i).toNatClampNeg) := owa_in S_o3 (own_pos (by omega)) (by rw [hci]; exact hi)
  have hat23 : cl_o3.slots[(Int32.ofNat i).toNatClampNeg]? = some (.int (g i)) := by rw [hci]; exact H_o3 i hi
  have hc17 : Int32.ofNat i < Int32.ofNat n := (own_ltn (by omega) (by omega)).mpr hi
  have hc28 : ¬ ((g i) < (0 : Int32)) := by rw [Int32.lt_iff_toInt_lt, Int32.toInt_zero]; omega
  have A2' := A2
  obtain ⟨cl_o2, Ar_o2, S_o2, H_o2⟩ := A2
  have hcg : (g i).toNatClampNeg < sz := by rw [Int32.toNatClampNeg]; omega
  have hin35 : ¬ ((g i) < 0 ∨ cl_o2.slots.size ≤ ((g i)).toNatClampNeg) := owa_in S_o2 hc28 hcg
  have hin38 := hin35
  have hat35 : cl_o2.slots[((g i)).toNatClampNeg]? = some (.int (own_cnt g i (g i).toNatClampNeg)) := H_o2 _ hcg
  obtain ⟨T5, h5, X5, e5, W5, st5⟩ := stI X0 hx hZ e0 Ar_o2 (j := (g i)) hin38 (g := (mkF m 38 #[s0, s1, .val (.ref o2), .val (.ref o3), .val (.int (Int32.ofNat n)), .val (.int (Int32.ofNat i)), .val (.int (g i))] [(.int ((own_cnt g i (g i).toNatClampNeg) + (1 : Int32))), (.int (g i)), (.ref o2)])) rfl rfl (hb hby d2_38)
  have N5 := Fr.snoc X5 N0 g_o2
  have K5 : Keep h0 h5 [o2] := (Keep.refl h0 [o2]).wr W5 (Or.inl (List.mem_of_getElem? (i := 0) rfl))
  refine ⟨T5, h5, _, .val (.int (g i)), X5, e5, N5, K5, One.val rfl, owa_other ⟨cl_o3, Ar_o3, S_o3, H_o3⟩ W5 hne, owa_congr (owa_set A2' W5) (fun j hj => own_cset g i j sz hj hsz hpos), fun target kt => ?_⟩
  show Steps p.tables e below (T0.setTop (mkF m 13 #[s0, s1, .val (.ref o2), .val (.ref o3), .val (.int (Int32.ofNat n)), .val (.int (Int32.ofNat i)), s6] [])) _
  refine XS.iload X0.here hx rfl (hb hby d2_13) rfl ?_
  show Steps p.tables e below (T0.setTop (mkF m 15 #[s0, s1, .val (.ref o2), .val (.ref o3), .val (.int (Int32.ofNat n)), .val (.int (Int32.ofNat i)), s6] [(.int (Int32.ofNat i))])) _
  refine XS.iload X0.here hx rfl (hb hby d2_15) rfl ?_
  show Steps p.tables e below (T0.setTop (mkF m 17 #[s0, s1, .val (.ref o2), .val (.ref o3), .val (.int (Int32.ofNat n)), .val (.int (Int32.ofNat i)), s6] [(.int (Int32.ofNat n)), (.int (Int32.ofNat i))])) _
  refine XS.icmpNo X0.here hx rfl (hb hby d2_17) rfl (tlt hc17).2.1 ?_
  show Steps p.tables e below (T0.setTop (mkF m 20 #[s0, s1, .val (.ref o2), .val (.ref o3), .val (.int (Int32.ofNat n)), .val (.int (Int32.ofNat i)), s6] [])) _
  refine XS.aloadN X0.here hx rfl (hb hby d2_20) rfl rfl ?_
  show Steps p.tables e below (T0.setTop (mkF m 21 #[s0, s1, .val (.ref o2), .val (.ref o3), .val (.int (Int32.ofNat n)), .val (.int (Int32.ofNat i)), s6] [(.ref o3)])) _
  refine XS.iload X0.here hx rfl (hb hby d2_21) rfl ?_
  show Steps p.tables e below (T0.setTop (mkF m 23 #[s0, s1, .val (.ref o2), .val (.ref o3), .val (.int (Int32.ofNat n)), .val (.int (Int32.ofNat i)), s6] [(.int (Int32.ofNat i)), (.ref o3)])) _
  refine X0.iaload hx (j := (Int32.ofNat i)) (v := (.int (g i))) (by rw [e0]; exact Ar_o3.1) (State.isArrayOf_alike hZ.alike Ar_o3.2.1) Ar_o3.2.2 hin23 hat23 (g := (mkF m 23 #[s0, s1, .val (.ref o2), .val (.ref o3), .val (.int (Int32.ofNat n)), .val (.int (Int32.ofNat i)), s6] [(.int (Int32.ofNat i)), (.ref o3)])) rfl rfl (hb hby d2_23) _ ?_
  show Steps p.tables e below (T0.setTop (mkF m 24 #[s0, s1, .val (.ref o2), .val (.ref o3), .val (.int (Int32.ofNat n)), .val (.int (Int32.ofNat i)), s6] [(.int (g i))])) _
  refine XS.istore X0.here hx rfl (hb hby d2_24) rfl (l' := #[s0, s1, .val (.ref o2), .val (.ref o3), .val (.int (Int32.ofNat n)), .val (.int (Int32.ofNat i)), .val (.int (g i))]) (os2_24 hs6) ?_
  show Steps p.tables e below (T0.setTop (mkF m 26 #[s0, s1, .val (.ref o2), .val (.ref o3), .val (.int (Int32.ofNat n)), .val (.int (Int32.ofNat i)), .val (.int (g i))] [])) _
  refine XS.iload X0.here hx rfl (hb hby d2_26) rfl ?_
  show Steps p.tables e below (T0.setTop (mkF m 28 #[s0, s1, .val (.ref o2), .val (.ref o3), .val (.int (Int32.ofNat n)), .val (.int (Int32.ofNat i)), .val (.int (g i))] [(.int (g i))])) _
  refine XS.ifNo X0.here hx rfl (hb hby d2_28) rfl ((if0 _ _).trans (flt hc28).1) ?_
  show Steps p.tables e below (T0.setTop (mkF m 31 #[s0, s1, .val (.ref o2), .val (.ref o3), .val (.int (Int32.ofNat n)), .val (.int (Int32.ofNat i)), .val (.int (g i))] [])) _
  refine XS.aloadN X0.here hx rfl (hb hby d2_31) rfl rfl ?_
  show Steps p.tables e below (T0.setTop (mkF m 32 #[s0, s1, .val (.ref o2), .val (.ref o3), .val (.int (Int32.ofNat n)), .val (.int (Int32.ofNat i)), .val (.int (g i))] [(.ref o2)])) _
  refine XS.iload X0.here hx rfl (hb hby d2_32) rfl ?_
  show Steps p.tables e below (T0.setTop (mkF m 34 #[s0, s1, .val (.ref o2), .val (.ref o3), .val (.int (Int32.ofNat n)), .val (.int (Int32.ofNat i)), .val (.int (g i))] [(.int (g i)), (.ref o2)])) _
  jvm_step X0.here [X0.here.top, hx, (hb hby d2_34), Value.category]
  show Steps p.tables e below (T0.setTop (mkF m 35 #[s0, s1, .val (.ref o2), .val (.ref o3), .val (.int (Int32.ofNat n)), .val (.int (Int32.ofNat i)), .val (.int (g i))] [(.int (g i)), (.ref o2), (.int (g i)), (.ref o2)])) _
  refine X0.iaload hx (j := (g i)) (v := (.int (own_cnt g i (g i).toNatClampNeg))) (by rw [e0]; exact Ar_o2.1) (State.isArrayOf_alike hZ.alike Ar_o2.2.1) Ar_o2.2.2 hin35 hat35 (g := (mkF m 35 #[s0, s1, .val (.ref o2), .val (.ref o3), .val (.int (Int32.ofNat n)), .val (.int (Int32.ofNat i)), .val (.int (g i))] [(.int (g i)), (.ref o2), (.int (g i)), (.ref o2)])) rfl rfl (hb hby d2_35) _ ?_
  show Steps p.tables e below (T0.setTop (mkF m 36 #[s0, s1, .val (.ref o2), .val (.ref o3), .val (.int (Int32.ofNat n)), .val (.int (Int32.ofNat i)), .val (.int (g i))] [(.int (own_cnt g i (g i).toNatClampNeg)), (.int (g i)), (.ref o2)])) _
  refine XS.iconst X0.here hx rfl (hb hby d2_36) ?_
  show Steps p.tables e below (T0.setTop (mkF m 37 #[s0, s1, .val (.ref o2), .val (.ref o3), .val (.int (Int32.ofNat n)), .val (.int (Int32.ofNat i)), .val (.int (g i))] [(.int (1 : Int32)), (.int (own_cnt g i (g i).toNatClampNeg)), (.int (g i)), (.ref o2)])) _
  refine XS.iadd X0.here hx rfl (hb hby d2_37) rfl ?_
  show Steps p.tables e below (T0.setTop (mkF m 38 #[s0, s1, .val (.ref o2), .val (.ref o3), .val (.int (Int32.ofNat n)), .val (.int (Int32.ofNat i)), .val (.int (g i))] [(.int ((own_cnt g i (g i).toNatClampNeg) + (1 : Int32))), (.int (g i)), (.ref o2)])) _
  refine st5 _ ?_
  show Steps p.tables e below (T5.setTop (mkF m 39 #[s0, s1, .val (.ref o2), .val (.ref o3), .val (.int (Int32.ofNat n)), .val (.int (Int32.ofNat i)), .val (.int (g i))] [])) _
  refine XS.iinc X5.here hx rfl (hb hby d2_39) rfl (l' := #[s0, s1, .val (.ref o2), .val (.ref o3), .val (.int (Int32.ofNat n)), .val (.int ((Int32.ofNat i) + (1 : Int32))), .val (.int (g i))]) rfl ?_
  show Steps p.tables e below (T5.setTop (mkF m 42 #[s0, s1, .val (.ref o2), .val (.ref o3), .val (.int (Int32.ofNat n)), .val (.int ((Int32.ofNat i) + (1 : Int32))), .val (.int (g i))] [])) _
  refine XS.goto X5.here hx rfl (pc0 := 42) (pc' := 13) rfl (hb hby d2_42) (by decide) (by decide) ?_
  rw [own_up1]
  exact kt
set_option maxRecDepth 65536 in
set_option maxHeartbeats 40000000 in
theorem tn2t {p : Program} {l : Launch} {e : Env} {s : State} {m : MethodId} {args : Array Value} {below : List Frame} {meth : Method} {c : Code} {T0 : State} {locs : List Loc} {Z : State} {a0 : Array Value} {h0 : Heap} {R : Room} {cells slots : Nat} (s0 s1 : Slot) (o2 o3 : Addr) (n sz : Nat) (hn : n ≤ 4) (hsz : sz ≤ 7) (g : Nat → Int32) (i : Nat) (s6 : Slot) (n0 : Nat)
    (X0 : Stand p l e R s m args below meth c T0 locs cells slots) (hx : p.tables.exec = Jvm.exec) (hZ : Z.Warmed39 s.vm) (hw : ∀ d ∈ tables_1, d.before a0 Z = true) (hby : c.code = prog_160_method_3_code) (hml : c.maxLocals = 7) (hown : s.vm.findClass "com/example/fairjoin/fairjoin/operator/KeyIndex" = some m.cls) (e0 : T0.heap = h0) (N0 : Fr n0 locs) (g_o2 : n0 ≤ o2) (hne : o3 ≠ o2) (hs6 : One s6) (hi : i < n) (A3 : OwA Z h0 o3 .int n (fun j => .int (g j))) (A2 : OwA Z h0 o2 .int sz (own_cv g i)) (hneg : (g i).toInt < 0) :
    ∃ (T' : State) (h' : Heap) (locs' : List Loc) (s6' : Slot), Stand p l e R s m args below meth c T' locs' cells slots ∧ T'.heap = h' ∧ Fr n0 locs' ∧ Keep h0 h' [o2] ∧ One s6' ∧ OwA Z h' o3 .int n (fun j => .int (g j)) ∧ OwA Z h' o2 .int sz (own_cv g (i + 1)) ∧
      ∀ target, Steps p.tables e below (T'.setTop (mkF m 13 #[s0, s1, .val (.ref o2), .val (.ref o3), .val (.int (Int32.ofNat n)), .val (.int (Int32.ofNat (i + 1))), s6'] [])) target → Steps p.tables e below (T0.setTop (mkF m 13 #[s0, s1, .val (.ref o2), .val (.ref o3), .val (.int (Int32.ofNat n)), .val (.int (Int32.ofNat i)), s6] [])) target := by
  obtain ⟨cl_o3, Ar_o3, S_o3, H_o3⟩ := A3
  have hci : (Int32.ofNat i).toNatClampNeg = i := own_clamp (by omega)
  have hin23 : ¬ (Int32.ofNat i < 0 ∨ cl_o3.slots.size ≤ (Int32.ofNat i).toNatClampNeg) := owa_in S_o3 (own_pos (by omega)) (by rw [hci]; exact hi)
  have hat23 : cl_o3.slots[(Int32.ofNat i).toNatClampNeg]? = some (.int (g i)) := by rw [hci]; exact H_o3 i hi
  have hc17 : Int32.ofNat i < Int32.ofNat n := (own_ltn (by omega) (by omega)).mpr hi
  have hc28 : (g i) < (0 : Int32) := by rw [Int32.lt_iff_toInt_lt, Int32.toInt_zero]; exact hneg
  refine ⟨T0, h0, locs, .val (.int (g i)), X0, e0, N0, Keep.refl _ _, One.val rfl, ⟨cl_o3, Ar_o3, S_o3, H_o3⟩, owa_congr A2 (fun j hj => own_cskip g i j sz hj hsz hneg), fun target kt => ?_⟩
  show Steps p.tables e below (T0.setTop (mkF m 13 #[s0, s1, .val (.ref o2), .val (.ref o3), .val (.int (Int32.ofNat n)), .val (.int (Int32.ofNat i)), s6] [])) _
  refine XS.iload X0.here hx rfl (hb hby d2_13) rfl ?_
  show Steps p.tables e below (T0.setTop (mkF m 15 #[s0, s1, .val (.ref o2), .val (.ref o3), .val (.int (Int32.ofNat n)), .val (.int (Int32.ofNat i)), s6] [(.int (Int32.ofNat i))])) _
  refine XS.iload X0.here hx rfl (hb hby d2_15) rfl ?_
  show Steps p.tables e below (T0.setTop (mkF m 17 #[s0, s1, .val (.ref o2), .val (.ref o3), .val (.int (Int32.ofNat n)), .val (.int (Int32.ofNat i)), s6] [(.int (Int32.ofNat n)), (.int (Int32.ofNat i))])) _
  refine XS.icmpNo X0.here hx rfl (hb hby d2_17) rfl (tlt hc17).2.1 ?_
  show Steps p.tables e below (T0.setTop (mkF m 20 #[s0, s1, .val (.ref o2), .val (.ref o3), .val (.int (Int32.ofNat n)), .val (.int (Int32.ofNat i)), s6] [])) _
  refine XS.aloadN X0.here hx rfl (hb hby d2_20) rfl rfl ?_
  show Steps p.tables e below (T0.setTop (mkF m 21 #[s0, s1, .val (.ref o2), .val (.ref o3), .val (.int (Int32.ofNat n)), .val (.int (Int32.ofNat i)), s6] [(.ref o3)])) _
  refine XS.iload X0.here hx rfl (hb hby d2_21) rfl ?_
  show Steps p.tables e below (T0.setTop (mkF m 23 #[s0, s1, .val (.ref o2), .val (.ref o3), .val (.int (Int32.ofNat n)), .val (.int (Int32.ofNat i)), s6] [(.int (Int32.ofNat i)), (.ref o3)])) _
  refine X0.iaload hx (j := (Int32.ofNat i)) (v := (.int (g i))) (by rw [e0]; exact Ar_o3.1) (State.isArrayOf_alike hZ.alike Ar_o3.2.1) Ar_o3.2.2 hin23 hat23 (g := (mkF m 23 #[s0, s1, .val (.ref o2), .val (.ref o3), .val (.int (Int32.ofNat n)), .val (.int (Int32.ofNat i)), s6] [(.int (Int32.ofNat i)), (.ref o3)])) rfl rfl (hb hby d2_23) _ ?_
  show Steps p.tables e below (T0.setTop (mkF m 24 #[s0, s1, .val (.ref o2), .val (.ref o3), .val (.int (Int32.ofNat n)), .val (.int (Int32.ofNat i)), s6] [(.int (g i))])) _
  refine XS.istore X0.here hx rfl (hb hby d2_24) rfl (l' := #[s0, s1, .val (.ref o2), .val (.ref o3), .val (.int (Int32.ofNat n)), .val (.int (Int32.ofNat i)), .val (.int (g i))]) (os2_24 hs6) ?_
  show Steps p.tables e below (T0.setTop (mkF m 26 #[s0, s1, .val (.ref o2), .val (.ref o3), .val (.int (Int32.ofNat n)), .val (.int (Int32.ofNat i)), .val (.int (g i))] [])) _
  refine XS.iload X0.here hx rfl (hb hby d2_26) rfl ?_
  show Steps p.tables e below (T0.setTop (mkF m 28 #[s0, s1, .val (.ref o2), .val (.ref o3), .val (.int (Int32.ofNat n)), .val (.int (Int32.ofNat i)), .val (.int (g i))] [(.int (g i))])) _
  refine XS.ifYes X0.here hx rfl (pc0 := 28) (pc' := 39) rfl (hb hby d2_28) rfl ((if0 _ _).trans (tlt hc28).1) (by decide) (by decide) ?_
  show Steps p.tables e below (T0.setTop (mkF m 39 #[s0, s1, .val (.ref o2), .val (.ref o3), .val (.int (Int32.ofNat n)), .val (.int (Int32.ofNat i)), .val (.int (g i))] [])) _
  refine XS.iinc X0.here hx rfl (hb hby d2_39) rfl (l' := #[s0, s1, .val (.ref o2), .val (.ref o3), .val (.int (Int32.ofNat n)), .val (.int ((Int32.ofNat i) + (1 : Int32))), .val (.int (g i))]) rfl ?_
  show Steps p.tables e below (T0.setTop (mkF m 42 #[s0, s1, .val (.ref o2), .val (.ref o3), .val (.int (Int32.ofNat n)), .val (.int ((Int32.ofNat i) + (1 : Int32))), .val (.int (g i))] [])) _
  refine XS.goto X0.here hx rfl (pc0 := 42) (pc' := 13) rfl (hb hby d2_42) (by decide) (by decide) ?_
  rw [own_up1]
  exact kt
set_option maxRecDepth 65536 in
set_option maxHeartbeats 40000000 in
theorem tn2_13_45 {p : Program} {l : Launch} {e : Env} {R : Room} {s : State} {m : MethodId} {args : Array Value} {below : List Frame} {meth : Method} {c : Code} {T0 : State} {locs : List Loc} {cells slots : Nat} {Z : State} {a0 : Array Value} {h0 : Heap} (s0 : Slot) (s1 : Slot) (s2 : Slot) (s3 : Slot) (i4 : Int32) (i5 : Int32) (s6 : Slot)
    (X0 : Stand p l e R s m args below meth c T0 locs cells slots) (hx : p.tables.exec = Jvm.exec) (hZ : Z.Warmed39 s.vm) (hw : ∀ d ∈ tables_1, d.before a0 Z = true) (hby : c.code = prog_160_method_3_code) (hml : c.maxLocals = 7) (hown : s.vm.findClass "com/example/fairjoin/fairjoin/operator/KeyIndex" = some m.cls) (e0 : T0.heap = h0) (hc17 : ¬ (i5 < i4)) :
    ∃ (T' : State), Stand p l e R s m args below meth c T' locs cells slots ∧ T'.heap = h0 ∧
      ∀ target, Steps p.tables e below (T'.setTop (mkF m 45 #[s0, s1, s2, s3, .val (.int i4), .val (.int i5), s6] [])) target → Steps p.tables e below (T0.setTop (mkF m 13 #[s0, s1, s2, s3, .val (.int i4), .val (.int i5), s6] [])) target := by
  refine ⟨T0, X0, e0, fun target kt => ?_⟩
  show Steps p.tables e below (T0.setTop (mkF m 13 #[s0, s1, s2, s3, .val (.int i4), .val (.int i5), s6] [])) _
  refine XS.iload X0.here hx rfl (hb hby d2_13) rfl ?_
  show Steps p.tables e below (T0.setTop (mkF m 15 #[s0, s1, s2, s3, .val (.int i4), .val (.int i5), s6] [(.int i5)])) _
  refine XS.iload X0.here hx rfl (hb hby d2_15) rfl ?_
  show Steps p.tables e below (T0.setTop (mkF m 17 #[s0, s1, s2, s3, .val (.int i4), .val (.int i5), s6] [(.int i4), (.int i5)])) _
  refine XS.icmpYes X0.here hx rfl (pc0 := 17) (pc' := 45) rfl (hb hby d2_17) rfl (flt hc17).2.1 (by decide) (by decide) ?_
  exact kt
set_option maxRecDepth 65536 in
set_option maxHeartbeats 40000000 in
theorem tn2 {p : Program} {l : Launch} {e : Env} {s : State} {m : MethodId} {args : Array Value} {below : List Frame} {meth : Method} {c : Code} {T0 : State} {locs : List Loc} {Z : State} {a0 : Array Value} {h0 : Heap} {R : Room} {cells slots : Nat} (s0 s1 : Slot) (o2 o3 : Addr) (n sz : Nat) (hn : n ≤ 4) (hsz : sz ≤ 7) (g : Nat → Int32) (i : Nat) (s6 : Slot) (n0 : Nat)
    (X0 : Stand p l e R s m args below meth c T0 locs cells slots) (hx : p.tables.exec = Jvm.exec) (hZ : Z.Warmed39 s.vm) (hw : ∀ d ∈ tables_1, d.before a0 Z = true) (hby : c.code = prog_160_method_3_code) (hml : c.maxLocals = 7) (hown : s.vm.findClass "com/example/fairjoin/fairjoin/operator/KeyIndex" = some m.cls) (e0 : T0.heap = h0) (N0 : Fr n0 locs) (g_o2 : n0 ≤ o2) (hne : o3 ≠ o2) (hs6 : One s6) (hi : i < n) (A3 : OwA Z h0 o3 .int n (fun j => .int (g j))) (A2 : OwA Z h0 o2 .int sz (own_cv g i)) (hok : own_ok (g i) sz) :
    ∃ (T' : State) (h' : Heap) (locs' : List Loc) (s6' : Slot), Stand p l e R s m args below meth c T' locs' cells slots ∧ T'.heap = h' ∧ Fr n0 locs' ∧ Keep h0 h' [o2] ∧ One s6' ∧ OwA Z h' o3 .int n (fun j => .int (g j)) ∧ OwA Z h' o2 .int sz (own_cv g (i + 1)) ∧
      ∀ target, Steps p.tables e below (T'.setTop (mkF m 13 #[s0, s1, .val (.ref o2), .val (.ref o3), .val (.int (Int32.ofNat n)), .val (.int (Int32.ofNat (i + 1))), s6'] [])) target → Steps p.tables e below (T0.setTop (mkF m 13 #[s0, s1, .val (.ref o2), .val (.ref o3), .val (.int (Int32.ofNat n)), .val (.int (Int32.ofNat i)), s6] [])) target := by
  rcases hok with h | ⟨h1, h2⟩
  · exact tn2t s0 s1 o2 o3 n sz hn hsz g i s6 n0 X0 hx hZ hw hby hml hown e0 N0 g_o2 hne hs6 hi A3 A2 h
  · exact tn2f s0 s1 o2 o3 n sz hn hsz g i s6 n0 X0 hx hZ hw hby hml hown e0 N0 g_o2 hne hs6 hi A3 A2 h1 h2
theorem loop2 {p : Program} {l : Launch} {e : Env} {s : State} {m : MethodId} {args : Array Value} {below : List Frame} {meth : Method} {c : Code} {Z : State} {a0 : Array Value} {R : Room} {cells slots : Nat} (s0 s1 : Slot) (o2 o3 : Addr) (n sz : Nat) (hn : n ≤ 4) (hsz : sz ≤ 7) (g : Nat → Int32) (n0 : Nat) (hx : p.tables.exec = Jvm.exec) (hZ : Z.Warmed39 s.vm) (hw : ∀ d ∈ tables_1, d.before a0 Z = true) (hby : c.code = prog_160_method_3_code) (hml : c.maxLocals = 7) (hown : s.vm.findClass "com/example/fairjoin/fairjoin/operator/KeyIndex" = some m.cls) (g_o2 : n0 ≤ o2) (hne : o3 ≠ o2) (hok : ∀ j, j < n → own_ok (g j) sz) :
    ∀ (k i : Nat) (s6 : Slot) (T0 : State) (h0 : Heap) (locs : List Loc), i + k = n → One s6 → Stand p l e R s m args below meth c T0 locs cells slots → T0.heap = h0 → Fr n0 locs → OwA Z h0 o3 .int n (fun j => .int (g j)) → OwA Z h0 o2 .int sz (own_cv g i) →
      ∃ (T' : State) (h' : Heap) (locs' : List Loc) (s6' : Slot), Stand p l e R s m args below meth c T' locs' cells slots ∧ T'.heap = h' ∧ Fr n0 locs' ∧ Keep h0 h' [o2] ∧ OwA Z h' o2 .int sz (own_cv g n) ∧
        ∀ target, Steps p.tables e below (T'.setTop (mkF m 45 #[s0, s1, .val (.ref o2), .val (.ref o3), .val (.int (Int32.ofNat n)), .val (.int (Int32.ofNat n)), s6'] [])) target → Steps p.tables e below (T0.setTop (mkF m 13 #[s0, s1, .val (.ref o2), .val (.ref o3), .val (.int (Int32.ofNat n)), .val (.int (Int32.ofNat i)), s6] [])) target := by
  intro k
  induction k with
  | zero =>
    intro i s6 T0 h0 locs hi h6 X0 e0 N0 A3 A2
    have hi' : i = n := by omega
    subst hi'
    obtain ⟨T1, X1, e1, st1⟩ := tn2_13_45 s0 s1 (.val (.ref o2)) (.val (.ref o3)) (Int32.ofNat i) (Int32.ofNat i) s6 X0 hx hZ hw hby hml hown e0 Int32.lt_irrefl
    exact ⟨T1, h0, locs, s6, X1, e1, N0, Keep.refl _ _, A2, st1⟩
  | succ k ih =>
    intro i s6 T0 h0 locs hi h6 X0 e0 N0 A3 A2
    obtain ⟨T1, h1, L1, s1', X1, e1, N1, K1, h6', B3, B2, st1⟩ := tn2 s0 s1 o2 o3 n sz hn hsz g i s6 n0 X0 hx hZ hw hby hml hown e0 N0 g_o2 hne h6 (by omega) A3 A2 (hok i (by omega))
    obtain ⟨T', h', L', s6', X', e', N', K', C2, st⟩ := ih (i + 1) s1' T1 h1 L1 (by omega) h6' X1 e1 N1 B3 B2
    exact ⟨T', h', L', s6', X', e', N', K1.trans K' (fun x hx => Or.inl hx), C2, fun target h => st1 target (st target h)⟩
def Q2 (Z : State) (a1 : Addr) (n sz : Nat) (g : Nat → Int32)  (h0 : Heap) (n0 : Nat) (v : Option Value) (h : Heap) (L : List Loc) : Prop := ∃ r : Addr, v = some (.ref r) ∧ Fr n0 L ∧ Keep h0 h [] ∧ OwA Z h r .int sz (own_cv g n) ∧ h0.size ≤ r
set_option maxRecDepth 65536 in
set_option maxHeartbeats 40000000 in
theorem rm2 (l : Launch) (Z : State) (a0 : Array Value) (hw : ∀ d ∈ tables_1, d.before a0 Z = true) (ws : List Jvm.Cond) (a1 : Addr) (n sz : Nat) (g : Nat → Int32) (h0 : Heap) (n0 : Nat) (Z0 : n0 ≤ h0.size) (hn : n ≤ 4) (hsz : sz ≤ 7) (hok : ∀ j, j < n → own_ok (g j) sz) (A : OwA Z h0 a1 .int n (fun j => .int (g j))) :
    MetFree l (⟨"com/example/fairjoin/fairjoin/operator/KeyIndex", "counts", "([II)[I"⟩ : MethodName) (head1 (Jvm.Cond.code (⟨"com/example/fairjoin/fairjoin/operator/KeyIndex", "counts", "([II)[I"⟩ : MethodName) prog_160_method_3_code 7 (some (.array .int)) :: ws) ({ frames := 0, cells := 1, slots := 7, locals := 0 } : Room)) (fun a U => a = #[(.ref a1), (.int (Int32.ofNat sz))] ∧ Z.Warmed39 U.vm ∧ U.heap = h0) (fun _ _ _ _ _ => True) (fun _ U o U' => ∃ v L, o = .returned v ∧ Q2 Z a1 n sz g h0 n0 v U'.heap L ∧ FrameEnd U o U' L ({ frames := 0, cells := 1, slots := 7, locals := 0 } : Room).cells ({ frames := 0, cells := 1, slots := 7, locals := 0 } : Room).slots) := by
  refine MetFree.of_bodySF (plainFor_of_name pn_2) hisR ?_
  intro p e s m args below meth c s₁ Bd hml0 hP hK
  obtain ⟨rfl, hZ, hh⟩ := hP
  have hx := Bd.exec
  have hby := Bd.bytes
  have hml : c.maxLocals = 7 := hml0
  have hown : s.vm.findClass "com/example/fairjoin/fairjoin/operator/KeyIndex" = some m.cls := findClass_of_methodNamed Bd.named
  have hnm := (name_of_methodNamed Bd.named Bd.method).1
  have X0 : Stand p l e ({ frames := 0, cells := 1, slots := 7, locals := 0 } : Room) s m #[(.ref a1), (.int (Int32.ofNat sz))] below meth c s₁ [] 0 0 := Stand.of_body Bd
  have e0 : s₁.heap = h0 := by rw [← hh, Bd.state]; rfl
  have N0 := Fr.nil n0
  have pre0 : ∀ t, Steps p.tables e below (s₁.setTop (mkF m 0 #[.val (.ref a1), .val (.int (Int32.ofNat sz)), .unset, .unset, .unset, .unset, .unset] [])) t → Steps p.tables e below (s₁.setTop (entryFrame m #[(.ref a1), (.int (Int32.ofNat sz))] 7)) t := fun t ktt => castTop (ef_2 m a1 (Int32.ofNat sz)) ktt
  obtain ⟨T3, h3, k3, X3, e3, E3, A3, st3⟩ := newP X0 hx hZ (hw _ (List.mem_of_getElem? (i := 5) rfl)) e0 (g := (mkF m 1 #[.val (.ref a1), .val (.int (Int32.ofNat sz)), .unset, .unset, .unset, .unset, .unset] [(.int (Int32.ofNat sz))])) rfl (hb hby d2_1) rfl (own_pos (by omega)) (cap := 7) (by rw [own_clamp (by omega)]; exact hsz) (by decide) (by decide) (by decide)
  obtain ⟨b3, g3⟩ : ∃ z, z = h0.size := ⟨_, rfl⟩
  rw [← g3] at A3 st3
  have A3' := owa_ext A E3
  have B3' : OwA Z h3 b3 .int sz (own_cv g 0) := owa_congr (owa_new A3 (own_clamp (by omega))) (fun j hj => rfl)
  have g_b3 : n0 ≤ b3 := Nat.le_trans Z0 (Nat.le_of_eq g3.symm)
  have sz_b3 : h0.size ≤ b3 := (Nat.le_trans (Keep.refl h0 []).1 (Nat.le_of_eq g3.symm))
  have K3 : Keep h0 h3 [] := (Keep.refl h0 []).ext E3
  have hne3 : a1 ≠ b3 := by
    have q := owa_lt A
    exact fun u => absurd (u ▸ q) (by rw [g3]; exact Nat.lt_irrefl _)
  obtain ⟨TL, hL, LL, s6', XL, eL, NL, KL, CL, stL⟩ := loop2 (.val (.ref a1)) (.val (.int (Int32.ofNat sz))) b3 a1 n sz hn hsz g n0 hx hZ hw hby hml hown g_b3 hne3 hok n 0 .unset T3 h3 [] (by omega) One.u X3 e3 N0 A3' B3'
  have AX := A3'
  obtain ⟨cl_a1, Ar_a1, Sn_a1, H_a1⟩ := AX
  have S_a1 : cl_a1.slots.size = (Int32.ofNat n).toNatClampNeg := by rw [own_clamp (by omega)]; exact Sn_a1
  have N_a1 : ¬ Int32.ofNat n < 0 := own_pos (by omega)
  obtain ⟨fs, hr, hrun, hended, hW, hsame⟩ := XL.leave (v := some (.ref b3)) (fun h => by rw [Bd.returns] at h; cases h)
  refine ⟨_, _, pre0 _ ?_, hrun, hended, _, _, rfl, ?_, ⟨_, rfl⟩, hW, hsame.mono (by decide) (by decide)⟩
  · show Steps p.tables e below (s₁.setTop (mkF m 0 #[.val (.ref a1), .val (.int (Int32.ofNat sz)), .unset, .unset, .unset, .unset, .unset] [])) _
    refine XS.iloadN X0.here hx rfl (hb hby d2_0) rfl ?_
    show Steps p.tables e below (s₁.setTop (mkF m 1 #[.val (.ref a1), .val (.int (Int32.ofNat sz)), .unset, .unset, .unset, .unset, .unset] [(.int (Int32.ofNat sz))])) _
    refine st3 _ ?_
    show Steps p.tables e below (T3.setTop (mkF m 3 #[.val (.ref a1), .val (.int (Int32.ofNat sz)), .unset, .unset, .unset, .unset, .unset] [(.ref b3)])) _
    refine XS.astoreN X3.here hx rfl (hb hby d2_3) rfl rfl (l' := #[.val (.ref a1), .val (.int (Int32.ofNat sz)), .val (.ref b3), .unset, .unset, .unset, .unset]) rfl ?_
    show Steps p.tables e below (T3.setTop (mkF m 4 #[.val (.ref a1), .val (.int (Int32.ofNat sz)), .val (.ref b3), .unset, .unset, .unset, .unset] [])) _
    refine XS.aloadN X3.here hx rfl (hb hby d2_4) rfl rfl ?_
    show Steps p.tables e below (T3.setTop (mkF m 5 #[.val (.ref a1), .val (.int (Int32.ofNat sz)), .val (.ref b3), .unset, .unset, .unset, .unset] [(.ref a1)])) _
    refine XS.astoreN X3.here hx rfl (hb hby d2_5) rfl rfl (l' := #[.val (.ref a1), .val (.int (Int32.ofNat sz)), .val (.ref b3), .val (.ref a1), .unset, .unset, .unset]) rfl ?_
    show Steps p.tables e below (T3.setTop (mkF m 6 #[.val (.ref a1), .val (.int (Int32.ofNat sz)), .val (.ref b3), .val (.ref a1), .unset, .unset, .unset] [])) _
    refine XS.aloadN X3.here hx rfl (hb hby d2_6) rfl rfl ?_
    show Steps p.tables e below (T3.setTop (mkF m 7 #[.val (.ref a1), .val (.int (Int32.ofNat sz)), .val (.ref b3), .val (.ref a1), .unset, .unset, .unset] [(.ref a1)])) _
    refine X3.arraylength hx (by rw [e3]; exact Ar_a1.1) (State.isArrayOf_alike hZ.alike Ar_a1.2.1) (g := (mkF m 7 #[.val (.ref a1), .val (.int (Int32.ofNat sz)), .val (.ref b3), .val (.ref a1), .unset, .unset, .unset] [(.ref a1)])) rfl rfl (hb hby d2_7) _ ?_
    rw [len_of S_a1 N_a1]
    show Steps p.tables e below (T3.setTop (mkF m 8 #[.val (.ref a1), .val (.int (Int32.ofNat sz)), .val (.ref b3), .val (.ref a1), .unset, .unset, .unset] [(.int (Int32.ofNat n))])) _
    refine XS.istore X3.here hx rfl (hb hby d2_8) rfl (l' := #[.val (.ref a1), .val (.int (Int32.ofNat sz)), .val (.ref b3), .val (.ref a1), .val (.int (Int32.ofNat n)), .unset, .unset]) rfl ?_
    show Steps p.tables e below (T3.setTop (mkF m 10 #[.val (.ref a1), .val (.int (Int32.ofNat sz)), .val (.ref b3), .val (.ref a1), .val (.int (Int32.ofNat n)), .unset, .unset] [])) _
    refine XS.iconst X3.here hx rfl (hb hby d2_10) ?_
    show Steps p.tables e below (T3.setTop (mkF m 11 #[.val (.ref a1), .val (.int (Int32.ofNat sz)), .val (.ref b3), .val (.ref a1), .val (.int (Int32.ofNat n)), .unset, .unset] [(.int (0 : Int32))])) _
    refine XS.istore X3.here hx rfl (hb hby d2_11) rfl (l' := #[.val (.ref a1), .val (.int (Int32.ofNat sz)), .val (.ref b3), .val (.ref a1), .val (.int (Int32.ofNat n)), .val (.int (0 : Int32)), .unset]) rfl ?_
    show Steps p.tables e below (T3.setTop (mkF m 13 #[.val (.ref a1), .val (.int (Int32.ofNat sz)), .val (.ref b3), .val (.ref a1), .val (.int (Int32.ofNat n)), .val (.int (0 : Int32)), .unset] [])) _
    refine stL _ ?_
    show Steps p.tables e below (TL.setTop (mkF m 45 #[.val (.ref a1), .val (.int (Int32.ofNat sz)), .val (.ref b3), .val (.ref a1), .val (.int (Int32.ofNat n)), .val (.int (Int32.ofNat n)), s6'] [])) _
    refine XS.aloadN XL.here hx rfl (hb hby d2_45) rfl rfl ?_
    show Steps p.tables e below (TL.setTop (mkF m 46 #[.val (.ref a1), .val (.int (Int32.ofNat sz)), .val (.ref b3), .val (.ref a1), .val (.int (Int32.ofNat n)), .val (.int (Int32.ofNat n)), s6'] [(.ref b3)])) _
    jvm_step XL.here [XL.here.top, hx, (hb hby d2_46), XL.method', Bd.returns, Value.isRef, FieldType.isReference]
    first | (intro acts; rw [hr _ acts rfl rfl rfl]) | rw [hr _ _ rfl rfl rfl]
    exact Steps.refl _
  · show Q2 Z a1 n sz g h0 n0 _ TL.heap _
    rw [eL]
    exact ⟨b3, rfl, NL, K3.trans KL (fun x hx => by cases List.mem_singleton.mp hx; exact Or.inr sz_b3), CL, sz_b3⟩
set_option maxRecDepth 65536 in
set_option maxHeartbeats 40000000 in
theorem pcS0f {p : Program} {l : Launch} {e : Env} {s : State} {m : MethodId} {args : Array Value} {below : List Frame} {meth : Method} {c : Code} {T0 : State} {locs : List Loc} {Z : State} {a0 : Array Value} {h0 : Heap} {R : Room} {cells slots : Nat} (i0 i1 i2 i3 i4 i5 : Int32) (sz n : Nat) (hn : n ≤ 4) (i8 i9 i10 i11 : Int32) (o12 : Addr) (n0 : Nat)
    (X0 : Stand p l e R s m args below meth c T0 locs cells slots) (hx : p.tables.exec = Jvm.exec) (hZ : Z.Warmed39 s.vm) (hw : ∀ d ∈ tables_1, d.before a0 Z = true) (hby : c.code = code) (hml : c.maxLocals = 14) (hown : s.vm.findClass "com/example/fairjoin/fairjoin/operator/KeyIndexCountsPinLaw" = some m.cls) (e0 : T0.heap = h0) (N0 : Fr n0 locs) (g_o12 : n0 ≤ o12) (A : OwA Z h0 o12 .int n (own_nv i8 i9 i10 i11 0)) (hlt : 0 < n) :
    ∃ (T' : State) (h' : Heap) (locs' : List Loc), Stand p l e R s m args below meth c T' locs' cells slots ∧ T'.heap = h' ∧ Fr n0 locs' ∧ h0.size ≤ h'.size ∧ OwA Z h' o12 .int n (own_nv i8 i9 i10 i11 1) ∧
      ∀ target, Steps p.tables e below (T'.setTop (mkF m 65 #[.val (.int i0), .val (.int i1), .val (.int i2), .val (.int i3), .val (.int i4), .val (.int i5), .val (.int (Int32.ofNat sz)), .val (.int (Int32.ofNat n)), .val (.int i8), .val (.int i9), .val (.int i10), .val (.int i11), .val (.ref o12), .unset] [])) target → Steps p.tables e below (T0.setTop (mkF m 54 #[.val (.int i0), .val (.int i1), .val (.int i2), .val (.int i3), .val (.int i4), .val (.int i5), .val (.int (Int32.ofNat sz)), .val (.int (Int32.ofNat n)), .val (.int i8), .val (.int i9), .val (.int i10), .val (.int i11), .val (.ref o12), .unset] [])) target := by
  have hc56 : (0 : Int32) < Int32.ofNat n := (own_ltn (i := 0) (by omega) (by omega)).mpr hlt
  have A' := A
  obtain ⟨cl_o12, Ar_o12, S_o12, H_o12⟩ := A
  have hin64 : ¬ ((0 : Int32) < 0 ∨ cl_o12.slots.size ≤ ((0 : Int32)).toNatClampNeg) := owa_in S_o12 (by decide) (by show 0 < n; exact hlt)
  obtain ⟨T7, h7, X7, e7, W7, st7⟩ := stI X0 hx hZ e0 Ar_o12 (j := (0 : Int32)) hin64 (g := (mkF m 64 #[.val (.int i0), .val (.int i1), .val (.int i2), .val (.int i3), .val (.int i4), .val (.int i5), .val (.int (Int32.ofNat sz)), .val (.int (Int32.ofNat n)), .val (.int i8), .val (.int i9), .val (.int i10), .val (.int i11), .val (.ref o12), .unset] [(.int i8), (.int (0 : Int32)), (.ref o12)])) rfl rfl (hb hby at_64)
  have N7 := Fr.snoc X7 N0 g_o12
  have K7 : Keep h0 h7 [o12] := (Keep.refl h0 [o12]).wr W7 (Or.inl (List.mem_of_getElem? (i := 0) rfl))
  refine ⟨T7, h7, _, X7, e7, N7, (Keep.of_wr W7).1, owa_congr (owa_set A' W7) (fun j hj => own_nset _ _ _ _ 0 j), fun target kt => ?_⟩
  show Steps p.tables e below (T0.setTop (mkF m 54 #[.val (.int i0), .val (.int i1), .val (.int i2), .val (.int i3), .val (.int i4), .val (.int i5), .val (.int (Int32.ofNat sz)), .val (.int (Int32.ofNat n)), .val (.int i8), .val (.int i9), .val (.int i10), .val (.int i11), .val (.ref o12), .unset] [])) _
  refine XS.iload X0.here hx rfl (hb hby at_54) rfl ?_
  show Steps p.tables e below (T0.setTop (mkF m 56 #[.val (.int i0), .val (.int i1), .val (.int i2), .val (.int i3), .val (.int i4), .val (.int i5), .val (.int (Int32.ofNat sz)), .val (.int (Int32.ofNat n)), .val (.int i8), .val (.int i9), .val (.int i10), .val (.int i11), .val (.ref o12), .unset] [(.int (Int32.ofNat n))])) _
  refine XS.ifNo X0.here hx rfl (hb hby at_56) rfl ((if0 _ _).trans (tlt hc56).2.2.2) ?_
  show Steps p.tables e below (T0.setTop (mkF m 59 #[.val (.int i0), .val (.int i1), .val (.int i2), .val (.int i3), .val (.int i4), .val (.int i5), .val (.int (Int32.ofNat sz)), .val (.int (Int32.ofNat n)), .val (.int i8), .val (.int i9), .val (.int i10), .val (.int i11), .val (.ref o12), .unset] [])) _
  refine XS.aload X0.here hx rfl (hb hby at_59) rfl rfl ?_
  show Steps p.tables e below (T0.setTop (mkF m 61 #[.val (.int i0), .val (.int i1), .val (.int i2), .val (.int i3), .val (.int i4), .val (.int i5), .val (.int (Int32.ofNat sz)), .val (.int (Int32.ofNat n)), .val (.int i8), .val (.int i9), .val (.int i10), .val (.int i11), .val (.ref o12), .unset] [(.ref o12)])) _
  refine XS.iconst X0.here hx rfl (hb hby at_61) ?_
  show Steps p.tables e below (T0.setTop (mkF m 62 #[.val (.int i0), .val (.int i1), .val (.int i2), .val (.int i3), .val (.int i4), .val (.int i5), .val (.int (Int32.ofNat sz)), .val (.int (Int32.ofNat n)), .val (.int i8), .val (.int i9), .val (.int i10), .val (.int i11), .val (.ref o12), .unset] [(.int (0 : Int32)), (.ref o12)])) _
  refine XS.iload X0.here hx rfl (hb hby at_62) rfl ?_
  show Steps p.tables e below (T0.setTop (mkF m 64 #[.val (.int i0), .val (.int i1), .val (.int i2), .val (.int i3), .val (.int i4), .val (.int i5), .val (.int (Int32.ofNat sz)), .val (.int (Int32.ofNat n)), .val (.int i8), .val (.int i9), .val (.int i10), .val (.int i11), .val (.ref o12), .unset] [(.int i8), (.int (0 : Int32)), (.ref o12)])) _
  refine st7 _ ?_
  exact kt
set_option maxRecDepth 65536 in
set_option maxHeartbeats 40000000 in
theorem pcS0t {p : Program} {l : Launch} {e : Env} {s : State} {m : MethodId} {args : Array Value} {below : List Frame} {meth : Method} {c : Code} {T0 : State} {locs : List Loc} {Z : State} {a0 : Array Value} {h0 : Heap} {R : Room} {cells slots : Nat} (i0 i1 i2 i3 i4 i5 : Int32) (sz n : Nat) (hn : n ≤ 4) (i8 i9 i10 i11 : Int32) (o12 : Addr) (n0 : Nat)
    (X0 : Stand p l e R s m args below meth c T0 locs cells slots) (hx : p.tables.exec = Jvm.exec) (hZ : Z.Warmed39 s.vm) (hw : ∀ d ∈ tables_1, d.before a0 Z = true) (hby : c.code = code) (hml : c.maxLocals = 14) (hown : s.vm.findClass "com/example/fairjoin/fairjoin/operator/KeyIndexCountsPinLaw" = some m.cls) (e0 : T0.heap = h0) (N0 : Fr n0 locs) (g_o12 : n0 ≤ o12) (A : OwA Z h0 o12 .int n (own_nv i8 i9 i10 i11 0)) (hlt : ¬ 0 < n) :
    ∃ (T' : State) (h' : Heap) (locs' : List Loc), Stand p l e R s m args below meth c T' locs' cells slots ∧ T'.heap = h' ∧ Fr n0 locs' ∧ h0.size ≤ h'.size ∧ OwA Z h' o12 .int n (own_nv i8 i9 i10 i11 1) ∧
      ∀ target, Steps p.tables e below (T'.setTop (mkF m 65 #[.val (.int i0), .val (.int i1), .val (.int i2), .val (.int i3), .val (.int i4), .val (.int i5), .val (.int (Int32.ofNat sz)), .val (.int (Int32.ofNat n)), .val (.int i8), .val (.int i9), .val (.int i10), .val (.int i11), .val (.ref o12), .unset] [])) target → Steps p.tables e below (T0.setTop (mkF m 54 #[.val (.int i0), .val (.int i1), .val (.int i2), .val (.int i3), .val (.int i4), .val (.int i5), .val (.int (Int32.ofNat sz)), .val (.int (Int32.ofNat n)), .val (.int i8), .val (.int i9), .val (.int i10), .val (.int i11), .val (.ref o12), .unset] [])) target := by
  have hc56 : ¬ ((0 : Int32) < Int32.ofNat n) := fun q => hlt ((own_ltn (i := 0) (by omega) (by omega)).mp q)
  refine ⟨T0, h0, locs, X0, e0, N0, Nat.le_refl _, owa_congr A (fun j hj => own_nskip _ _ _ _ 0 j n hj hlt), fun target kt => ?_⟩
  show Steps p.tables e below (T0.setTop (mkF m 54 #[.val (.int i0), .val (.int i1), .val (.int i2), .val (.int i3), .val (.int i4), .val (.int i5), .val (.int (Int32.ofNat sz)), .val (.int (Int32.ofNat n)), .val (.int i8), .val (.int i9), .val (.int i10), .val (.int i11), .val (.ref o12), .unset] [])) _
  refine XS.iload X0.here hx rfl (hb hby at_54) rfl ?_
  show Steps p.tables e below (T0.setTop (mkF m 56 #[.val (.int i0), .val (.int i1), .val (.int i2), .val (.int i3), .val (.int i4), .val (.int i5), .val (.int (Int32.ofNat sz)), .val (.int (Int32.ofNat n)), .val (.int i8), .val (.int i9), .val (.int i10), .val (.int i11), .val (.ref o12), .unset] [(.int (Int32.ofNat n))])) _
  refine XS.ifYes X0.here hx rfl (pc0 := 56) (pc' := 65) rfl (hb hby at_56) rfl ((if0 _ _).trans (flt hc56).2.2.2) (by decide) (by decide) ?_
  exact kt
set_option maxRecDepth 65536 in
set_option maxHeartbeats 40000000 in
theorem pcS0 {p : Program} {l : Launch} {e : Env} {s : State} {m : MethodId} {args : Array Value} {below : List Frame} {meth : Method} {c : Code} {T0 : State} {locs : List Loc} {Z : State} {a0 : Array Value} {h0 : Heap} {R : Room} {cells slots : Nat} (i0 i1 i2 i3 i4 i5 : Int32) (sz n : Nat) (hn : n ≤ 4) (i8 i9 i10 i11 : Int32) (o12 : Addr) (n0 : Nat)
    (X0 : Stand p l e R s m args below meth c T0 locs cells slots) (hx : p.tables.exec = Jvm.exec) (hZ : Z.Warmed39 s.vm) (hw : ∀ d ∈ tables_1, d.before a0 Z = true) (hby : c.code = code) (hml : c.maxLocals = 14) (hown : s.vm.findClass "com/example/fairjoin/fairjoin/operator/KeyIndexCountsPinLaw" = some m.cls) (e0 : T0.heap = h0) (N0 : Fr n0 locs) (g_o12 : n0 ≤ o12) (A : OwA Z h0 o12 .int n (own_nv i8 i9 i10 i11 0)) :
    ∃ (T' : State) (h' : Heap) (locs' : List Loc), Stand p l e R s m args below meth c T' locs' cells slots ∧ T'.heap = h' ∧ Fr n0 locs' ∧ h0.size ≤ h'.size ∧ OwA Z h' o12 .int n (own_nv i8 i9 i10 i11 1) ∧
      ∀ target, Steps p.tables e below (T'.setTop (mkF m 65 #[.val (.int i0), .val (.int i1), .val (.int i2), .val (.int i3), .val (.int i4), .val (.int i5), .val (.int (Int32.ofNat sz)), .val (.int (Int32.ofNat n)), .val (.int i8), .val (.int i9), .val (.int i10), .val (.int i11), .val (.ref o12), .unset] [])) target → Steps p.tables e below (T0.setTop (mkF m 54 #[.val (.int i0), .val (.int i1), .val (.int i2), .val (.int i3), .val (.int i4), .val (.int i5), .val (.int (Int32.ofNat sz)), .val (.int (Int32.ofNat n)), .val (.int i8), .val (.int i9), .val (.int i10), .val (.int i11), .val (.ref o12), .unset] [])) target := by
  by_cases hlt : 0 < n
  · exact pcS0f i0 i1 i2 i3 i4 i5 sz n hn i8 i9 i10 i11 o12 n0 X0 hx hZ hw hby hml hown e0 N0 g_o12 A hlt
  · exact pcS0t i0 i1 i2 i3 i4 i5 sz n hn i8 i9 i10 i11 o12 n0 X0 hx hZ hw hby hml hown e0 N0 g_o12 A hlt
set_option maxRecDepth 65536 in
set_option maxHeartbeats 40000000 in
theorem pcS1f {p : Program} {l : Launch} {e : Env} {s : State} {m : MethodId} {args : Array Value} {below : List Frame} {meth : Method} {c : Code} {T0 : State} {locs : List Loc} {Z : State} {a0 : Array Value} {h0 : Heap} {R : Room} {cells slots : Nat} (i0 i1 i2 i3 i4 i5 : Int32) (sz n : Nat) (hn : n ≤ 4) (i8 i9 i10 i11 : Int32) (o12 : Addr) (n0 : Nat)
    (X0 : Stand p l e R s m args below meth c T0 locs cells slots) (hx : p.tables.exec = Jvm.exec) (hZ : Z.Warmed39 s.vm) (hw : ∀ d ∈ tables_1, d.before a0 Z = true) (hby : c.code = code) (hml : c.maxLocals = 14) (hown : s.vm.findClass "com/example/fairjoin/fairjoin/operator/KeyIndexCountsPinLaw" = some m.cls) (e0 : T0.heap = h0) (N0 : Fr n0 locs) (g_o12 : n0 ≤ o12) (A : OwA Z h0 o12 .int n (own_nv i8 i9 i10 i11 1)) (hlt : 1 < n) :
    ∃ (T' : State) (h' : Heap) (locs' : List Loc), Stand p l e R s m args below meth c T' locs' cells slots ∧ T'.heap = h' ∧ Fr n0 locs' ∧ h0.size ≤ h'.size ∧ OwA Z h' o12 .int n (own_nv i8 i9 i10 i11 2) ∧
      ∀ target, Steps p.tables e below (T'.setTop (mkF m 77 #[.val (.int i0), .val (.int i1), .val (.int i2), .val (.int i3), .val (.int i4), .val (.int i5), .val (.int (Int32.ofNat sz)), .val (.int (Int32.ofNat n)), .val (.int i8), .val (.int i9), .val (.int i10), .val (.int i11), .val (.ref o12), .unset] [])) target → Steps p.tables e below (T0.setTop (mkF m 65 #[.val (.int i0), .val (.int i1), .val (.int i2), .val (.int i3), .val (.int i4), .val (.int i5), .val (.int (Int32.ofNat sz)), .val (.int (Int32.ofNat n)), .val (.int i8), .val (.int i9), .val (.int i10), .val (.int i11), .val (.ref o12), .unset] [])) target := by
  have hc68 : (1 : Int32) < Int32.ofNat n := (own_ltn (i := 1) (by omega) (by omega)).mpr hlt
  have A' := A
  obtain ⟨cl_o12, Ar_o12, S_o12, H_o12⟩ := A
  have hin76 : ¬ ((1 : Int32) < 0 ∨ cl_o12.slots.size ≤ ((1 : Int32)).toNatClampNeg) := owa_in S_o12 (by decide) (by show 1 < n; exact hlt)
  obtain ⟨T7, h7, X7, e7, W7, st7⟩ := stI X0 hx hZ e0 Ar_o12 (j := (1 : Int32)) hin76 (g := (mkF m 76 #[.val (.int i0), .val (.int i1), .val (.int i2), .val (.int i3), .val (.int i4), .val (.int i5), .val (.int (Int32.ofNat sz)), .val (.int (Int32.ofNat n)), .val (.int i8), .val (.int i9), .val (.int i10), .val (.int i11), .val (.ref o12), .unset] [(.int i9), (.int (1 : Int32)), (.ref o12)])) rfl rfl (hb hby at_76)
  have N7 := Fr.snoc X7 N0 g_o12
  have K7 : Keep h0 h7 [o12] := (Keep.refl h0 [o12]).wr W7 (Or.inl (List.mem_of_getElem? (i := 0) rfl))
  refine ⟨T7, h7, _, X7, e7, N7, (Keep.of_wr W7).1, owa_congr (owa_set A' W7) (fun j hj => own_nset _ _ _ _ 1 j), fun target kt => ?_⟩
  show Steps p.tables e below (T0.setTop (mkF m 65 #[.val (.int i0), .val (.int i1), .val (.int i2), .val (.int i3), .val (.int i4), .val (.int i5), .val (.int (Int32.ofNat sz)), .val (.int (Int32.ofNat n)), .val (.int i8), .val (.int i9), .val (.int i10), .val (.int i11), .val (.ref o12), .unset] [])) _
  refine XS.iload X0.here hx rfl (hb hby at_65) rfl ?_
  show Steps p.tables e below (T0.setTop (mkF m 67 #[.val (.int i0), .val (.int i1), .val (.int i2), .val (.int i3), .val (.int i4), .val (.int i5), .val (.int (Int32.ofNat sz)), .val (.int (Int32.ofNat n)), .val (.int i8), .val (.int i9), .val (.int i10), .val (.int i11), .val (.ref o12), .unset] [(.int (Int32.ofNat n))])) _
  refine XS.iconst X0.here hx rfl (hb hby at_67) ?_
  show Steps p.tables e below (T0.setTop (mkF m 68 #[.val (.int i0), .val (.int i1), .val (.int i2), .val (.int i3), .val (.int i4), .val (.int i5), .val (.int (Int32.ofNat sz)), .val (.int (Int32.ofNat n)), .val (.int i8), .val (.int i9), .val (.int i10), .val (.int i11), .val (.ref o12), .unset] [(.int (1 : Int32)), (.int (Int32.ofNat n))])) _
  refine XS.icmpNo X0.here hx rfl (hb hby at_68) rfl (tlt hc68).2.2.2 ?_
  show Steps p.tables e below (T0.setTop (mkF m 71 #[.val (.int i0), .val (.int i1), .val (.int i2), .val (.int i3), .val (.int i4), .val (.int i5), .val (.int (Int32.ofNat sz)), .val (.int (Int32.ofNat n)), .val (.int i8), .val (.int i9), .val (.int i10), .val (.int i11), .val (.ref o12), .unset] [])) _
  refine XS.aload X0.here hx rfl (hb hby at_71) rfl rfl ?_
  show Steps p.tables e below (T0.setTop (mkF m 73 #[.val (.int i0), .val (.int i1), .val (.int i2), .val (.int i3), .val (.int i4), .val (.int i5), .val (.int (Int32.ofNat sz)), .val (.int (Int32.ofNat n)), .val (.int i8), .val (.int i9), .val (.int i10), .val (.int i11), .val (.ref o12), .unset] [(.ref o12)])) _
  refine XS.iconst X0.here hx rfl (hb hby at_73) ?_
  show Steps p.tables e below (T0.setTop (mkF m 74 #[.val (.int i0), .val (.int i1), .val (.int i2), .val (.int i3), .val (.int i4), .val (.int i5), .val (.int (Int32.ofNat sz)), .val (.int (Int32.ofNat n)), .val (.int i8), .val (.int i9), .val (.int i10), .val (.int i11), .val (.ref o12), .unset] [(.int (1 : Int32)), (.ref o12)])) _
  refine XS.iload X0.here hx rfl (hb hby at_74) rfl ?_
  show Steps p.tables e below (T0.setTop (mkF m 76 #[.val (.int i0), .val (.int i1), .val (.int i2), .val (.int i3), .val (.int i4), .val (.int i5), .val (.int (Int32.ofNat sz)), .val (.int (Int32.ofNat n)), .val (.int i8), .val (.int i9), .val (.int i10), .val (.int i11), .val (.ref o12), .unset] [(.int i9), (.int (1 : Int32)), (.ref o12)])) _
  refine st7 _ ?_
  exact kt
set_option maxRecDepth 65536 in
set_option maxHeartbeats 40000000 in
theorem pcS1t {p : Program} {l : Launch} {e : Env} {s : State} {m : MethodId} {args : Array Value} {below : List Frame} {meth : Method} {c : Code} {T0 : State} {locs : List Loc} {Z : State} {a0 : Array Value} {h0 : Heap} {R : Room} {cells slots : Nat} (i0 i1 i2 i3 i4 i5 : Int32) (sz n : Nat) (hn : n ≤ 4) (i8 i9 i10 i11 : Int32) (o12 : Addr) (n0 : Nat)
    (X0 : Stand p l e R s m args below meth c T0 locs cells slots) (hx : p.tables.exec = Jvm.exec) (hZ : Z.Warmed39 s.vm) (hw : ∀ d ∈ tables_1, d.before a0 Z = true) (hby : c.code = code) (hml : c.maxLocals = 14) (hown : s.vm.findClass "com/example/fairjoin/fairjoin/operator/KeyIndexCountsPinLaw" = some m.cls) (e0 : T0.heap = h0) (N0 : Fr n0 locs) (g_o12 : n0 ≤ o12) (A : OwA Z h0 o12 .int n (own_nv i8 i9 i10 i11 1)) (hlt : ¬ 1 < n) :
    ∃ (T' : State) (h' : Heap) (locs' : List Loc), Stand p l e R s m args below meth c T' locs' cells slots ∧ T'.heap = h' ∧ Fr n0 locs' ∧ h0.size ≤ h'.size ∧ OwA Z h' o12 .int n (own_nv i8 i9 i10 i11 2) ∧
      ∀ target, Steps p.tables e below (T'.setTop (mkF m 77 #[.val (.int i0), .val (.int i1), .val (.int i2), .val (.int i3), .val (.int i4), .val (.int i5), .val (.int (Int32.ofNat sz)), .val (.int (Int32.ofNat n)), .val (.int i8), .val (.int i9), .val (.int i10), .val (.int i11), .val (.ref o12), .unset] [])) target → Steps p.tables e below (T0.setTop (mkF m 65 #[.val (.int i0), .val (.int i1), .val (.int i2), .val (.int i3), .val (.int i4), .val (.int i5), .val (.int (Int32.ofNat sz)), .val (.int (Int32.ofNat n)), .val (.int i8), .val (.int i9), .val (.int i10), .val (.int i11), .val (.ref o12), .unset] [])) target := by
  have hc68 : ¬ ((1 : Int32) < Int32.ofNat n) := fun q => hlt ((own_ltn (i := 1) (by omega) (by omega)).mp q)
  refine ⟨T0, h0, locs, X0, e0, N0, Nat.le_refl _, owa_congr A (fun j hj => own_nskip _ _ _ _ 1 j n hj hlt), fun target kt => ?_⟩
  show Steps p.tables e below (T0.setTop (mkF m 65 #[.val (.int i0), .val (.int i1), .val (.int i2), .val (.int i3), .val (.int i4), .val (.int i5), .val (.int (Int32.ofNat sz)), .val (.int (Int32.ofNat n)), .val (.int i8), .val (.int i9), .val (.int i10), .val (.int i11), .val (.ref o12), .unset] [])) _
  refine XS.iload X0.here hx rfl (hb hby at_65) rfl ?_
  show Steps p.tables e below (T0.setTop (mkF m 67 #[.val (.int i0), .val (.int i1), .val (.int i2), .val (.int i3), .val (.int i4), .val (.int i5), .val (.int (Int32.ofNat sz)), .val (.int (Int32.ofNat n)), .val (.int i8), .val (.int i9), .val (.int i10), .val (.int i11), .val (.ref o12), .unset] [(.int (Int32.ofNat n))])) _
  refine XS.iconst X0.here hx rfl (hb hby at_67) ?_
  show Steps p.tables e below (T0.setTop (mkF m 68 #[.val (.int i0), .val (.int i1), .val (.int i2), .val (.int i3), .val (.int i4), .val (.int i5), .val (.int (Int32.ofNat sz)), .val (.int (Int32.ofNat n)), .val (.int i8), .val (.int i9), .val (.int i10), .val (.int i11), .val (.ref o12), .unset] [(.int (1 : Int32)), (.int (Int32.ofNat n))])) _
  refine XS.icmpYes X0.here hx rfl (pc0 := 68) (pc' := 77) rfl (hb hby at_68) rfl (flt hc68).2.2.2 (by decide) (by decide) ?_
  exact kt
set_option maxRecDepth 65536 in
set_option maxHeartbeats 40000000 in
theorem pcS1 {p : Program} {l : Launch} {e : Env} {s : State} {m : MethodId} {args : Array Value} {below : List Frame} {meth : Method} {c : Code} {T0 : State} {locs : List Loc} {Z : State} {a0 : Array Value} {h0 : Heap} {R : Room} {cells slots : Nat} (i0 i1 i2 i3 i4 i5 : Int32) (sz n : Nat) (hn : n ≤ 4) (i8 i9 i10 i11 : Int32) (o12 : Addr) (n0 : Nat)
    (X0 : Stand p l e R s m args below meth c T0 locs cells slots) (hx : p.tables.exec = Jvm.exec) (hZ : Z.Warmed39 s.vm) (hw : ∀ d ∈ tables_1, d.before a0 Z = true) (hby : c.code = code) (hml : c.maxLocals = 14) (hown : s.vm.findClass "com/example/fairjoin/fairjoin/operator/KeyIndexCountsPinLaw" = some m.cls) (e0 : T0.heap = h0) (N0 : Fr n0 locs) (g_o12 : n0 ≤ o12) (A : OwA Z h0 o12 .int n (own_nv i8 i9 i10 i11 1)) :
    ∃ (T' : State) (h' : Heap) (locs' : List Loc), Stand p l e R s m args below meth c T' locs' cells slots ∧ T'.heap = h' ∧ Fr n0 locs' ∧ h0.size ≤ h'.size ∧ OwA Z h' o12 .int n (own_nv i8 i9 i10 i11 2) ∧
      ∀ target, Steps p.tables e below (T'.setTop (mkF m 77 #[.val (.int i0), .val (.int i1), .val (.int i2), .val (.int i3), .val (.int i4), .val (.int i5), .val (.int (Int32.ofNat sz)), .val (.int (Int32.ofNat n)), .val (.int i8), .val (.int i9), .val (.int i10), .val (.int i11), .val (.ref o12), .unset] [])) target → Steps p.tables e below (T0.setTop (mkF m 65 #[.val (.int i0), .val (.int i1), .val (.int i2), .val (.int i3), .val (.int i4), .val (.int i5), .val (.int (Int32.ofNat sz)), .val (.int (Int32.ofNat n)), .val (.int i8), .val (.int i9), .val (.int i10), .val (.int i11), .val (.ref o12), .unset] [])) target := by
  by_cases hlt : 1 < n
  · exact pcS1f i0 i1 i2 i3 i4 i5 sz n hn i8 i9 i10 i11 o12 n0 X0 hx hZ hw hby hml hown e0 N0 g_o12 A hlt
  · exact pcS1t i0 i1 i2 i3 i4 i5 sz n hn i8 i9 i10 i11 o12 n0 X0 hx hZ hw hby hml hown e0 N0 g_o12 A hlt
set_option maxRecDepth 65536 in
set_option maxHeartbeats 40000000 in
theorem pcS2f {p : Program} {l : Launch} {e : Env} {s : State} {m : MethodId} {args : Array Value} {below : List Frame} {meth : Method} {c : Code} {T0 : State} {locs : List Loc} {Z : State} {a0 : Array Value} {h0 : Heap} {R : Room} {cells slots : Nat} (i0 i1 i2 i3 i4 i5 : Int32) (sz n : Nat) (hn : n ≤ 4) (i8 i9 i10 i11 : Int32) (o12 : Addr) (n0 : Nat)
    (X0 : Stand p l e R s m args below meth c T0 locs cells slots) (hx : p.tables.exec = Jvm.exec) (hZ : Z.Warmed39 s.vm) (hw : ∀ d ∈ tables_1, d.before a0 Z = true) (hby : c.code = code) (hml : c.maxLocals = 14) (hown : s.vm.findClass "com/example/fairjoin/fairjoin/operator/KeyIndexCountsPinLaw" = some m.cls) (e0 : T0.heap = h0) (N0 : Fr n0 locs) (g_o12 : n0 ≤ o12) (A : OwA Z h0 o12 .int n (own_nv i8 i9 i10 i11 2)) (hlt : 2 < n) :
    ∃ (T' : State) (h' : Heap) (locs' : List Loc), Stand p l e R s m args below meth c T' locs' cells slots ∧ T'.heap = h' ∧ Fr n0 locs' ∧ h0.size ≤ h'.size ∧ OwA Z h' o12 .int n (own_nv i8 i9 i10 i11 3) ∧
      ∀ target, Steps p.tables e below (T'.setTop (mkF m 89 #[.val (.int i0), .val (.int i1), .val (.int i2), .val (.int i3), .val (.int i4), .val (.int i5), .val (.int (Int32.ofNat sz)), .val (.int (Int32.ofNat n)), .val (.int i8), .val (.int i9), .val (.int i10), .val (.int i11), .val (.ref o12), .unset] [])) target → Steps p.tables e below (T0.setTop (mkF m 77 #[.val (.int i0), .val (.int i1), .val (.int i2), .val (.int i3), .val (.int i4), .val (.int i5), .val (.int (Int32.ofNat sz)), .val (.int (Int32.ofNat n)), .val (.int i8), .val (.int i9), .val (.int i10), .val (.int i11), .val (.ref o12), .unset] [])) target := by
  have hc80 : (2 : Int32) < Int32.ofNat n := (own_ltn (i := 2) (by omega) (by omega)).mpr hlt
  have A' := A
  obtain ⟨cl_o12, Ar_o12, S_o12, H_o12⟩ := A
  have hin88 : ¬ ((2 : Int32) < 0 ∨ cl_o12.slots.size ≤ ((2 : Int32)).toNatClampNeg) := owa_in S_o12 (by decide) (by show 2 < n; exact hlt)
  obtain ⟨T7, h7, X7, e7, W7, st7⟩ := stI X0 hx hZ e0 Ar_o12 (j := (2 : Int32)) hin88 (g := (mkF m 88 #[.val (.int i0), .val (.int i1), .val (.int i2), .val (.int i3), .val (.int i4), .val (.int i5), .val (.int (Int32.ofNat sz)), .val (.int (Int32.ofNat n)), .val (.int i8), .val (.int i9), .val (.int i10), .val (.int i11), .val (.ref o12), .unset] [(.int i10), (.int (2 : Int32)), (.ref o12)])) rfl rfl (hb hby at_88)
  have N7 := Fr.snoc X7 N0 g_o12
  have K7 : Keep h0 h7 [o12] := (Keep.refl h0 [o12]).wr W7 (Or.inl (List.mem_of_getElem? (i := 0) rfl))
  refine ⟨T7, h7, _, X7, e7, N7, (Keep.of_wr W7).1, owa_congr (owa_set A' W7) (fun j hj => own_nset _ _ _ _ 2 j), fun target kt => ?_⟩
  show Steps p.tables e below (T0.setTop (mkF m 77 #[.val (.int i0), .val (.int i1), .val (.int i2), .val (.int i3), .val (.int i4), .val (.int i5), .val (.int (Int32.ofNat sz)), .val (.int (Int32.ofNat n)), .val (.int i8), .val (.int i9), .val (.int i10), .val (.int i11), .val (.ref o12), .unset] [])) _
  refine XS.iload X0.here hx rfl (hb hby at_77) rfl ?_
  show Steps p.tables e below (T0.setTop (mkF m 79 #[.val (.int i0), .val (.int i1), .val (.int i2), .val (.int i3), .val (.int i4), .val (.int i5), .val (.int (Int32.ofNat sz)), .val (.int (Int32.ofNat n)), .val (.int i8), .val (.int i9), .val (.int i10), .val (.int i11), .val (.ref o12), .unset] [(.int (Int32.ofNat n))])) _
  refine XS.iconst X0.here hx rfl (hb hby at_79) ?_
  show Steps p.tables e below (T0.setTop (mkF m 80 #[.val (.int i0), .val (.int i1), .val (.int i2), .val (.int i3), .val (.int i4), .val (.int i5), .val (.int (Int32.ofNat sz)), .val (.int (Int32.ofNat n)), .val (.int i8), .val (.int i9), .val (.int i10), .val (.int i11), .val (.ref o12), .unset] [(.int (2 : Int32)), (.int (Int32.ofNat n))])) _
  refine XS.icmpNo X0.here hx rfl (hb hby at_80) rfl (tlt hc80).2.2.2 ?_
  show Steps p.tables e below (T0.setTop (mkF m 83 #[.val (.int i0), .val (.int i1), .val (.int i2), .val (.int i3), .val (.int i4), .val (.int i5), .val (.int (Int32.ofNat sz)), .val (.int (Int32.ofNat n)), .val (.int i8), .val (.int i9), .val (.int i10), .val (.int i11), .val (.ref o12), .unset] [])) _
  refine XS.aload X0.here hx rfl (hb hby at_83) rfl rfl ?_
  show Steps p.tables e below (T0.setTop (mkF m 85 #[.val (.int i0), .val (.int i1), .val (.int i2), .val (.int i3), .val (.int i4), .val (.int i5), .val (.int (Int32.ofNat sz)), .val (.int (Int32.ofNat n)), .val (.int i8), .val (.int i9), .val (.int i10), .val (.int i11), .val (.ref o12), .unset] [(.ref o12)])) _
  refine XS.iconst X0.here hx rfl (hb hby at_85) ?_
  show Steps p.tables e below (T0.setTop (mkF m 86 #[.val (.int i0), .val (.int i1), .val (.int i2), .val (.int i3), .val (.int i4), .val (.int i5), .val (.int (Int32.ofNat sz)), .val (.int (Int32.ofNat n)), .val (.int i8), .val (.int i9), .val (.int i10), .val (.int i11), .val (.ref o12), .unset] [(.int (2 : Int32)), (.ref o12)])) _
  refine XS.iload X0.here hx rfl (hb hby at_86) rfl ?_
  show Steps p.tables e below (T0.setTop (mkF m 88 #[.val (.int i0), .val (.int i1), .val (.int i2), .val (.int i3), .val (.int i4), .val (.int i5), .val (.int (Int32.ofNat sz)), .val (.int (Int32.ofNat n)), .val (.int i8), .val (.int i9), .val (.int i10), .val (.int i11), .val (.ref o12), .unset] [(.int i10), (.int (2 : Int32)), (.ref o12)])) _
  refine st7 _ ?_
  exact kt
set_option maxRecDepth 65536 in
set_option maxHeartbeats 40000000 in
theorem pcS2t {p : Program} {l : Launch} {e : Env} {s : State} {m : MethodId} {args : Array Value} {below : List Frame} {meth : Method} {c : Code} {T0 : State} {locs : List Loc} {Z : State} {a0 : Array Value} {h0 : Heap} {R : Room} {cells slots : Nat} (i0 i1 i2 i3 i4 i5 : Int32) (sz n : Nat) (hn : n ≤ 4) (i8 i9 i10 i11 : Int32) (o12 : Addr) (n0 : Nat)
    (X0 : Stand p l e R s m args below meth c T0 locs cells slots) (hx : p.tables.exec = Jvm.exec) (hZ : Z.Warmed39 s.vm) (hw : ∀ d ∈ tables_1, d.before a0 Z = true) (hby : c.code = code) (hml : c.maxLocals = 14) (hown : s.vm.findClass "com/example/fairjoin/fairjoin/operator/KeyIndexCountsPinLaw" = some m.cls) (e0 : T0.heap = h0) (N0 : Fr n0 locs) (g_o12 : n0 ≤ o12) (A : OwA Z h0 o12 .int n (own_nv i8 i9 i10 i11 2)) (hlt : ¬ 2 < n) :
    ∃ (T' : State) (h' : Heap) (locs' : List Loc), Stand p l e R s m args below meth c T' locs' cells slots ∧ T'.heap = h' ∧ Fr n0 locs' ∧ h0.size ≤ h'.size ∧ OwA Z h' o12 .int n (own_nv i8 i9 i10 i11 3) ∧
      ∀ target, Steps p.tables e below (T'.setTop (mkF m 89 #[.val (.int i0), .val (.int i1), .val (.int i2), .val (.int i3), .val (.int i4), .val (.int i5), .val (.int (Int32.ofNat sz)), .val (.int (Int32.ofNat n)), .val (.int i8), .val (.int i9), .val (.int i10), .val (.int i11), .val (.ref o12), .unset] [])) target → Steps p.tables e below (T0.setTop (mkF m 77 #[.val (.int i0), .val (.int i1), .val (.int i2), .val (.int i3), .val (.int i4), .val (.int i5), .val (.int (Int32.ofNat sz)), .val (.int (Int32.ofNat n)), .val (.int i8), .val (.int i9), .val (.int i10), .val (.int i11), .val (.ref o12), .unset] [])) target := by
  have hc80 : ¬ ((2 : Int32) < Int32.ofNat n) := fun q => hlt ((own_ltn (i := 2) (by omega) (by omega)).mp q)
  refine ⟨T0, h0, locs, X0, e0, N0, Nat.le_refl _, owa_congr A (fun j hj => own_nskip _ _ _ _ 2 j n hj hlt), fun target kt => ?_⟩
  show Steps p.tables e below (T0.setTop (mkF m 77 #[.val (.int i0), .val (.int i1), .val (.int i2), .val (.int i3), .val (.int i4), .val (.int i5), .val (.int (Int32.ofNat sz)), .val (.int (Int32.ofNat n)), .val (.int i8), .val (.int i9), .val (.int i10), .val (.int i11), .val (.ref o12), .unset] [])) _
  refine XS.iload X0.here hx rfl (hb hby at_77) rfl ?_
  show Steps p.tables e below (T0.setTop (mkF m 79 #[.val (.int i0), .val (.int i1), .val (.int i2), .val (.int i3), .val (.int i4), .val (.int i5), .val (.int (Int32.ofNat sz)), .val (.int (Int32.ofNat n)), .val (.int i8), .val (.int i9), .val (.int i10), .val (.int i11), .val (.ref o12), .unset] [(.int (Int32.ofNat n))])) _
  refine XS.iconst X0.here hx rfl (hb hby at_79) ?_
  show Steps p.tables e below (T0.setTop (mkF m 80 #[.val (.int i0), .val (.int i1), .val (.int i2), .val (.int i3), .val (.int i4), .val (.int i5), .val (.int (Int32.ofNat sz)), .val (.int (Int32.ofNat n)), .val (.int i8), .val (.int i9), .val (.int i10), .val (.int i11), .val (.ref o12), .unset] [(.int (2 : Int32)), (.int (Int32.ofNat n))])) _
  refine XS.icmpYes X0.here hx rfl (pc0 := 80) (pc' := 89) rfl (hb hby at_80) rfl (flt hc80).2.2.2 (by decide) (by decide) ?_
  exact kt
set_option maxRecDepth 65536 in
set_option maxHeartbeats 40000000 in
theorem pcS2 {p : Program} {l : Launch} {e : Env} {s : State} {m : MethodId} {args : Array Value} {below : List Frame} {meth : Method} {c : Code} {T0 : State} {locs : List Loc} {Z : State} {a0 : Array Value} {h0 : Heap} {R : Room} {cells slots : Nat} (i0 i1 i2 i3 i4 i5 : Int32) (sz n : Nat) (hn : n ≤ 4) (i8 i9 i10 i11 : Int32) (o12 : Addr) (n0 : Nat)
    (X0 : Stand p l e R s m args below meth c T0 locs cells slots) (hx : p.tables.exec = Jvm.exec) (hZ : Z.Warmed39 s.vm) (hw : ∀ d ∈ tables_1, d.before a0 Z = true) (hby : c.code = code) (hml : c.maxLocals = 14) (hown : s.vm.findClass "com/example/fairjoin/fairjoin/operator/KeyIndexCountsPinLaw" = some m.cls) (e0 : T0.heap = h0) (N0 : Fr n0 locs) (g_o12 : n0 ≤ o12) (A : OwA Z h0 o12 .int n (own_nv i8 i9 i10 i11 2)) :
    ∃ (T' : State) (h' : Heap) (locs' : List Loc), Stand p l e R s m args below meth c T' locs' cells slots ∧ T'.heap = h' ∧ Fr n0 locs' ∧ h0.size ≤ h'.size ∧ OwA Z h' o12 .int n (own_nv i8 i9 i10 i11 3) ∧
      ∀ target, Steps p.tables e below (T'.setTop (mkF m 89 #[.val (.int i0), .val (.int i1), .val (.int i2), .val (.int i3), .val (.int i4), .val (.int i5), .val (.int (Int32.ofNat sz)), .val (.int (Int32.ofNat n)), .val (.int i8), .val (.int i9), .val (.int i10), .val (.int i11), .val (.ref o12), .unset] [])) target → Steps p.tables e below (T0.setTop (mkF m 77 #[.val (.int i0), .val (.int i1), .val (.int i2), .val (.int i3), .val (.int i4), .val (.int i5), .val (.int (Int32.ofNat sz)), .val (.int (Int32.ofNat n)), .val (.int i8), .val (.int i9), .val (.int i10), .val (.int i11), .val (.ref o12), .unset] [])) target := by
  by_cases hlt : 2 < n
  · exact pcS2f i0 i1 i2 i3 i4 i5 sz n hn i8 i9 i10 i11 o12 n0 X0 hx hZ hw hby hml hown e0 N0 g_o12 A hlt
  · exact pcS2t i0 i1 i2 i3 i4 i5 sz n hn i8 i9 i10 i11 o12 n0 X0 hx hZ hw hby hml hown e0 N0 g_o12 A hlt
set_option maxRecDepth 65536 in
set_option maxHeartbeats 40000000 in
theorem pcS3f {p : Program} {l : Launch} {e : Env} {s : State} {m : MethodId} {args : Array Value} {below : List Frame} {meth : Method} {c : Code} {T0 : State} {locs : List Loc} {Z : State} {a0 : Array Value} {h0 : Heap} {R : Room} {cells slots : Nat} (i0 i1 i2 i3 i4 i5 : Int32) (sz n : Nat) (hn : n ≤ 4) (i8 i9 i10 i11 : Int32) (o12 : Addr) (n0 : Nat)
    (X0 : Stand p l e R s m args below meth c T0 locs cells slots) (hx : p.tables.exec = Jvm.exec) (hZ : Z.Warmed39 s.vm) (hw : ∀ d ∈ tables_1, d.before a0 Z = true) (hby : c.code = code) (hml : c.maxLocals = 14) (hown : s.vm.findClass "com/example/fairjoin/fairjoin/operator/KeyIndexCountsPinLaw" = some m.cls) (e0 : T0.heap = h0) (N0 : Fr n0 locs) (g_o12 : n0 ≤ o12) (A : OwA Z h0 o12 .int n (own_nv i8 i9 i10 i11 3)) (hlt : 3 < n) :
    ∃ (T' : State) (h' : Heap) (locs' : List Loc), Stand p l e R s m args below meth c T' locs' cells slots ∧ T'.heap = h' ∧ Fr n0 locs' ∧ h0.size ≤ h'.size ∧ OwA Z h' o12 .int n (own_nv i8 i9 i10 i11 4) ∧
      ∀ target, Steps p.tables e below (T'.setTop (mkF m 101 #[.val (.int i0), .val (.int i1), .val (.int i2), .val (.int i3), .val (.int i4), .val (.int i5), .val (.int (Int32.ofNat sz)), .val (.int (Int32.ofNat n)), .val (.int i8), .val (.int i9), .val (.int i10), .val (.int i11), .val (.ref o12), .unset] [])) target → Steps p.tables e below (T0.setTop (mkF m 89 #[.val (.int i0), .val (.int i1), .val (.int i2), .val (.int i3), .val (.int i4), .val (.int i5), .val (.int (Int32.ofNat sz)), .val (.int (Int32.ofNat n)), .val (.int i8), .val (.int i9), .val (.int i10), .val (.int i11), .val (.ref o12), .unset] [])) target := by
  have hc92 : (3 : Int32) < Int32.ofNat n := (own_ltn (i := 3) (by omega) (by omega)).mpr hlt
  have A' := A
  obtain ⟨cl_o12, Ar_o12, S_o12, H_o12⟩ := A
  have hin100 : ¬ ((3 : Int32) < 0 ∨ cl_o12.slots.size ≤ ((3 : Int32)).toNatClampNeg) := owa_in S_o12 (by decide) (by show 3 < n; exact hlt)
  obtain ⟨T7, h7, X7, e7, W7, st7⟩ := stI X0 hx hZ e0 Ar_o12 (j := (3 : Int32)) hin100 (g := (mkF m 100 #[.val (.int i0), .val (.int i1), .val (.int i2), .val (.int i3), .val (.int i4), .val (.int i5), .val (.int (Int32.ofNat sz)), .val (.int (Int32.ofNat n)), .val (.int i8), .val (.int i9), .val (.int i10), .val (.int i11), .val (.ref o12), .unset] [(.int i11), (.int (3 : Int32)), (.ref o12)])) rfl rfl (hb hby at_100)
  have N7 := Fr.snoc X7 N0 g_o12
  have K7 : Keep h0 h7 [o12] := (Keep.refl h0 [o12]).wr W7 (Or.inl (List.mem_of_getElem? (i := 0) rfl))
  refine ⟨T7, h7, _, X7, e7, N7, (Keep.of_wr W7).1, owa_congr (owa_set A' W7) (fun j hj => own_nset _ _ _ _ 3 j), fun target kt => ?_⟩
  show Steps p.tables e below (T0.setTop (mkF m 89 #[.val (.int i0), .val (.int i1), .val (.int i2), .val (.int i3), .val (.int i4), .val (.int i5), .val (.int (Int32.ofNat sz)), .val (.int (Int32.ofNat n)), .val (.int i8), .val (.int i9), .val (.int i10), .val (.int i11), .val (.ref o12), .unset] [])) _
  refine XS.iload X0.here hx rfl (hb hby at_89) rfl ?_
  show Steps p.tables e below (T0.setTop (mkF m 91 #[.val (.int i0), .val (.int i1), .val (.int i2), .val (.int i3), .val (.int i4), .val (.int i5), .val (.int (Int32.ofNat sz)), .val (.int (Int32.ofNat n)), .val (.int i8), .val (.int i9), .val (.int i10), .val (.int i11), .val (.ref o12), .unset] [(.int (Int32.ofNat n))])) _
  refine XS.iconst X0.here hx rfl (hb hby at_91) ?_
  show Steps p.tables e below (T0.setTop (mkF m 92 #[.val (.int i0), .val (.int i1), .val (.int i2), .val (.int i3), .val (.int i4), .val (.int i5), .val (.int (Int32.ofNat sz)), .val (.int (Int32.ofNat n)), .val (.int i8), .val (.int i9), .val (.int i10), .val (.int i11), .val (.ref o12), .unset] [(.int (3 : Int32)), (.int (Int32.ofNat n))])) _
  refine XS.icmpNo X0.here hx rfl (hb hby at_92) rfl (tlt hc92).2.2.2 ?_
  show Steps p.tables e below (T0.setTop (mkF m 95 #[.val (.int i0), .val (.int i1), .val (.int i2), .val (.int i3), .val (.int i4), .val (.int i5), .val (.int (Int32.ofNat sz)), .val (.int (Int32.ofNat n)), .val (.int i8), .val (.int i9), .val (.int i10), .val (.int i11), .val (.ref o12), .unset] [])) _
  refine XS.aload X0.here hx rfl (hb hby at_95) rfl rfl ?_
  show Steps p.tables e below (T0.setTop (mkF m 97 #[.val (.int i0), .val (.int i1), .val (.int i2), .val (.int i3), .val (.int i4), .val (.int i5), .val (.int (Int32.ofNat sz)), .val (.int (Int32.ofNat n)), .val (.int i8), .val (.int i9), .val (.int i10), .val (.int i11), .val (.ref o12), .unset] [(.ref o12)])) _
  refine XS.iconst X0.here hx rfl (hb hby at_97) ?_
  show Steps p.tables e below (T0.setTop (mkF m 98 #[.val (.int i0), .val (.int i1), .val (.int i2), .val (.int i3), .val (.int i4), .val (.int i5), .val (.int (Int32.ofNat sz)), .val (.int (Int32.ofNat n)), .val (.int i8), .val (.int i9), .val (.int i10), .val (.int i11), .val (.ref o12), .unset] [(.int (3 : Int32)), (.ref o12)])) _
  refine XS.iload X0.here hx rfl (hb hby at_98) rfl ?_
  show Steps p.tables e below (T0.setTop (mkF m 100 #[.val (.int i0), .val (.int i1), .val (.int i2), .val (.int i3), .val (.int i4), .val (.int i5), .val (.int (Int32.ofNat sz)), .val (.int (Int32.ofNat n)), .val (.int i8), .val (.int i9), .val (.int i10), .val (.int i11), .val (.ref o12), .unset] [(.int i11), (.int (3 : Int32)), (.ref o12)])) _
  refine st7 _ ?_
  exact kt
set_option maxRecDepth 65536 in
set_option maxHeartbeats 40000000 in
theorem pcS3t {p : Program} {l : Launch} {e : Env} {s : State} {m : MethodId} {args : Array Value} {below : List Frame} {meth : Method} {c : Code} {T0 : State} {locs : List Loc} {Z : State} {a0 : Array Value} {h0 : Heap} {R : Room} {cells slots : Nat} (i0 i1 i2 i3 i4 i5 : Int32) (sz n : Nat) (hn : n ≤ 4) (i8 i9 i10 i11 : Int32) (o12 : Addr) (n0 : Nat)
    (X0 : Stand p l e R s m args below meth c T0 locs cells slots) (hx : p.tables.exec = Jvm.exec) (hZ : Z.Warmed39 s.vm) (hw : ∀ d ∈ tables_1, d.before a0 Z = true) (hby : c.code = code) (hml : c.maxLocals = 14) (hown : s.vm.findClass "com/example/fairjoin/fairjoin/operator/KeyIndexCountsPinLaw" = some m.cls) (e0 : T0.heap = h0) (N0 : Fr n0 locs) (g_o12 : n0 ≤ o12) (A : OwA Z h0 o12 .int n (own_nv i8 i9 i10 i11 3)) (hlt : ¬ 3 < n) :
    ∃ (T' : State) (h' : Heap) (locs' : List Loc), Stand p l e R s m args below meth c T' locs' cells slots ∧ T'.heap = h' ∧ Fr n0 locs' ∧ h0.size ≤ h'.size ∧ OwA Z h' o12 .int n (own_nv i8 i9 i10 i11 4) ∧
      ∀ target, Steps p.tables e below (T'.setTop (mkF m 101 #[.val (.int i0), .val (.int i1), .val (.int i2), .val (.int i3), .val (.int i4), .val (.int i5), .val (.int (Int32.ofNat sz)), .val (.int (Int32.ofNat n)), .val (.int i8), .val (.int i9), .val (.int i10), .val (.int i11), .val (.ref o12), .unset] [])) target → Steps p.tables e below (T0.setTop (mkF m 89 #[.val (.int i0), .val (.int i1), .val (.int i2), .val (.int i3), .val (.int i4), .val (.int i5), .val (.int (Int32.ofNat sz)), .val (.int (Int32.ofNat n)), .val (.int i8), .val (.int i9), .val (.int i10), .val (.int i11), .val (.ref o12), .unset] [])) target := by
  have hc92 : ¬ ((3 : Int32) < Int32.ofNat n) := fun q => hlt ((own_ltn (i := 3) (by omega) (by omega)).mp q)
  refine ⟨T0, h0, locs, X0, e0, N0, Nat.le_refl _, owa_congr A (fun j hj => own_nskip _ _ _ _ 3 j n hj hlt), fun target kt => ?_⟩
  show Steps p.tables e below (T0.setTop (mkF m 89 #[.val (.int i0), .val (.int i1), .val (.int i2), .val (.int i3), .val (.int i4), .val (.int i5), .val (.int (Int32.ofNat sz)), .val (.int (Int32.ofNat n)), .val (.int i8), .val (.int i9), .val (.int i10), .val (.int i11), .val (.ref o12), .unset] [])) _
  refine XS.iload X0.here hx rfl (hb hby at_89) rfl ?_
  show Steps p.tables e below (T0.setTop (mkF m 91 #[.val (.int i0), .val (.int i1), .val (.int i2), .val (.int i3), .val (.int i4), .val (.int i5), .val (.int (Int32.ofNat sz)), .val (.int (Int32.ofNat n)), .val (.int i8), .val (.int i9), .val (.int i10), .val (.int i11), .val (.ref o12), .unset] [(.int (Int32.ofNat n))])) _
  refine XS.iconst X0.here hx rfl (hb hby at_91) ?_
  show Steps p.tables e below (T0.setTop (mkF m 92 #[.val (.int i0), .val (.int i1), .val (.int i2), .val (.int i3), .val (.int i4), .val (.int i5), .val (.int (Int32.ofNat sz)), .val (.int (Int32.ofNat n)), .val (.int i8), .val (.int i9), .val (.int i10), .val (.int i11), .val (.ref o12), .unset] [(.int (3 : Int32)), (.int (Int32.ofNat n))])) _
  refine XS.icmpYes X0.here hx rfl (pc0 := 92) (pc' := 101) rfl (hb hby at_92) rfl (flt hc92).2.2.2 (by decide) (by decide) ?_
  exact kt
set_option maxRecDepth 65536 in
set_option maxHeartbeats 40000000 in
theorem pcS3 {p : Program} {l : Launch} {e : Env} {s : State} {m : MethodId} {args : Array Value} {below : List Frame} {meth : Method} {c : Code} {T0 : State} {locs : List Loc} {Z : State} {a0 : Array Value} {h0 : Heap} {R : Room} {cells slots : Nat} (i0 i1 i2 i3 i4 i5 : Int32) (sz n : Nat) (hn : n ≤ 4) (i8 i9 i10 i11 : Int32) (o12 : Addr) (n0 : Nat)
    (X0 : Stand p l e R s m args below meth c T0 locs cells slots) (hx : p.tables.exec = Jvm.exec) (hZ : Z.Warmed39 s.vm) (hw : ∀ d ∈ tables_1, d.before a0 Z = true) (hby : c.code = code) (hml : c.maxLocals = 14) (hown : s.vm.findClass "com/example/fairjoin/fairjoin/operator/KeyIndexCountsPinLaw" = some m.cls) (e0 : T0.heap = h0) (N0 : Fr n0 locs) (g_o12 : n0 ≤ o12) (A : OwA Z h0 o12 .int n (own_nv i8 i9 i10 i11 3)) :
    ∃ (T' : State) (h' : Heap) (locs' : List Loc), Stand p l e R s m args below meth c T' locs' cells slots ∧ T'.heap = h' ∧ Fr n0 locs' ∧ h0.size ≤ h'.size ∧ OwA Z h' o12 .int n (own_nv i8 i9 i10 i11 4) ∧
      ∀ target, Steps p.tables e below (T'.setTop (mkF m 101 #[.val (.int i0), .val (.int i1), .val (.int i2), .val (.int i3), .val (.int i4), .val (.int i5), .val (.int (Int32.ofNat sz)), .val (.int (Int32.ofNat n)), .val (.int i8), .val (.int i9), .val (.int i10), .val (.int i11), .val (.ref o12), .unset] [])) target → Steps p.tables e below (T0.setTop (mkF m 89 #[.val (.int i0), .val (.int i1), .val (.int i2), .val (.int i3), .val (.int i4), .val (.int i5), .val (.int (Int32.ofNat sz)), .val (.int (Int32.ofNat n)), .val (.int i8), .val (.int i9), .val (.int i10), .val (.int i11), .val (.ref o12), .unset] [])) target := by
  by_cases hlt : 3 < n
  · exact pcS3f i0 i1 i2 i3 i4 i5 sz n hn i8 i9 i10 i11 o12 n0 X0 hx hZ hw hby hml hown e0 N0 g_o12 A hlt
  · exact pcS3t i0 i1 i2 i3 i4 i5 sz n hn i8 i9 i10 i11 o12 n0 X0 hx hZ hw hby hml hown e0 N0 g_o12 A hlt
set_option maxRecDepth 65536 in
set_option maxHeartbeats 40000000 in
theorem pcR0f {p : Program} {l : Launch} {e : Env} {s : State} {m : MethodId} {args : Array Value} {below : List Frame} {meth : Method} {c : Code} {T0 : State} {locs : List Loc} {Z : State} {a0 : Array Value} {h0 : Heap} {R : Room} {cells slots : Nat} (i0 i1 i2 i3 i4 i5 : Int32) (sz n : Nat) (hn : n ≤ 4) (i8 i9 i10 i11 : Int32) (o12 : Addr) (o13 : Addr)
    (X0 : Stand p l e R s m args below meth c T0 locs cells slots) (hx : p.tables.exec = Jvm.exec) (hZ : Z.Warmed39 s.vm) (hw : ∀ d ∈ tables_1, d.before a0 Z = true) (hby : c.code = code) (hml : c.maxLocals = 14) (hown : s.vm.findClass "com/example/fairjoin/fairjoin/operator/KeyIndexCountsPinLaw" = some m.cls) (e0 : T0.heap = h0) (A : OwA Z h0 o12 .int n (fun j => .int (own_x i8 i9 i10 i11 j))) (hlt : 0 < n) :
    ∃ (T' : State), Stand p l e R s m args below meth c T' locs cells slots ∧ T'.heap = h0 ∧
      ∀ target, Steps p.tables e below (T'.setTop (mkF m 139 #[.val (.int i0), .val (.int i1), .val (.int i2), .val (.int i3), .val (.int i4), .val (.int i5), .val (.int (Int32.ofNat sz)), .val (.int (Int32.ofNat n)), .val (.int i8), .val (.int i9), .val (.int i10), .val (.int i11), .val (.ref o12), .val (.ref o13)] [])) target → Steps p.tables e below (T0.setTop (mkF m 125 #[.val (.int i0), .val (.int i1), .val (.int i2), .val (.int i3), .val (.int i4), .val (.int i5), .val (.int (Int32.ofNat sz)), .val (.int (Int32.ofNat n)), .val (.int i8), .val (.int i9), .val (.int i10), .val (.int i11), .val (.ref o12), .val (.ref o13)] [])) target := by
  have hc127 : (0 : Int32) < Int32.ofNat n := (own_ltn (i := 0) (by omega) (by omega)).mpr hlt
  obtain ⟨cl_o12, Ar_o12, S_o12, H_o12⟩ := A
  have hin133 : ¬ ((0 : Int32) < 0 ∨ cl_o12.slots.size ≤ ((0 : Int32)).toNatClampNeg) := owa_in S_o12 (by decide) (by show 0 < n; exact hlt)
  have hat133 : cl_o12.slots[((0 : Int32)).toNatClampNeg]? = some (.int i8) := H_o12 0 hlt
  have hc136 : i8 = i8 := rfl
  refine ⟨T0, X0, e0, fun target kt => ?_⟩
  show Steps p.tables e below (T0.setTop (mkF m 125 #[.val (.int i0), .val (.int i1), .val (.int i2), .val (.int i3), .val (.int i4), .val (.int i5), .val (.int (Int32.ofNat sz)), .val (.int (Int32.ofNat n)), .val (.int i8), .val (.int i9), .val (.int i10), .val (.int i11), .val (.ref o12), .val (.ref o13)] [])) _
  refine XS.iload X0.here hx rfl (hb hby at_125) rfl ?_
  show Steps p.tables e below (T0.setTop (mkF m 127 #[.val (.int i0), .val (.int i1), .val (.int i2), .val (.int i3), .val (.int i4), .val (.int i5), .val (.int (Int32.ofNat sz)), .val (.int (Int32.ofNat n)), .val (.int i8), .val (.int i9), .val (.int i10), .val (.int i11), .val (.ref o12), .val (.ref o13)] [(.int (Int32.ofNat n))])) _
  refine XS.ifNo X0.here hx rfl (hb hby at_127) rfl ((if0 _ _).trans (tlt hc127).2.2.2) ?_
  show Steps p.tables e below (T0.setTop (mkF m 130 #[.val (.int i0), .val (.int i1), .val (.int i2), .val (.int i3), .val (.int i4), .val (.int i5), .val (.int (Int32.ofNat sz)), .val (.int (Int32.ofNat n)), .val (.int i8), .val (.int i9), .val (.int i10), .val (.int i11), .val (.ref o12), .val (.ref o13)] [])) _
  refine XS.aload X0.here hx rfl (hb hby at_130) rfl rfl ?_
  show Steps p.tables e below (T0.setTop (mkF m 132 #[.val (.int i0), .val (.int i1), .val (.int i2), .val (.int i3), .val (.int i4), .val (.int i5), .val (.int (Int32.ofNat sz)), .val (.int (Int32.ofNat n)), .val (.int i8), .val (.int i9), .val (.int i10), .val (.int i11), .val (.ref o12), .val (.ref o13)] [(.ref o12)])) _
  refine XS.iconst X0.here hx rfl (hb hby at_132) ?_
  show Steps p.tables e below (T0.setTop (mkF m 133 #[.val (.int i0), .val (.int i1), .val (.int i2), .val (.int i3), .val (.int i4), .val (.int i5), .val (.int (Int32.ofNat sz)), .val (.int (Int32.ofNat n)), .val (.int i8), .val (.int i9), .val (.int i10), .val (.int i11), .val (.ref o12), .val (.ref o13)] [(.int (0 : Int32)), (.ref o12)])) _
  refine X0.iaload hx (j := (0 : Int32)) (v := (.int i8)) (by rw [e0]; exact Ar_o12.1) (State.isArrayOf_alike hZ.alike Ar_o12.2.1) Ar_o12.2.2 hin133 hat133 (g := (mkF m 133 #[.val (.int i0), .val (.int i1), .val (.int i2), .val (.int i3), .val (.int i4), .val (.int i5), .val (.int (Int32.ofNat sz)), .val (.int (Int32.ofNat n)), .val (.int i8), .val (.int i9), .val (.int i10), .val (.int i11), .val (.ref o12), .val (.ref o13)] [(.int (0 : Int32)), (.ref o12)])) rfl rfl (hb hby at_133) _ ?_
  show Steps p.tables e below (T0.setTop (mkF m 134 #[.val (.int i0), .val (.int i1), .val (.int i2), .val (.int i3), .val (.int i4), .val (.int i5), .val (.int (Int32.ofNat sz)), .val (.int (Int32.ofNat n)), .val (.int i8), .val (.int i9), .val (.int i10), .val (.int i11), .val (.ref o12), .val (.ref o13)] [(.int i8)])) _
  refine XS.iload X0.here hx rfl (hb hby at_134) rfl ?_
  show Steps p.tables e below (T0.setTop (mkF m 136 #[.val (.int i0), .val (.int i1), .val (.int i2), .val (.int i3), .val (.int i4), .val (.int i5), .val (.int (Int32.ofNat sz)), .val (.int (Int32.ofNat n)), .val (.int i8), .val (.int i9), .val (.int i10), .val (.int i11), .val (.ref o12), .val (.ref o13)] [(.int i8), (.int i8)])) _
  refine XS.icmpNo X0.here hx rfl (hb hby at_136) rfl (teq hc136).2 ?_
  exact kt
set_option maxRecDepth 65536 in
set_option maxHeartbeats 40000000 in
theorem pcR0t {p : Program} {l : Launch} {e : Env} {s : State} {m : MethodId} {args : Array Value} {below : List Frame} {meth : Method} {c : Code} {T0 : State} {locs : List Loc} {Z : State} {a0 : Array Value} {h0 : Heap} {R : Room} {cells slots : Nat} (i0 i1 i2 i3 i4 i5 : Int32) (sz n : Nat) (hn : n ≤ 4) (i8 i9 i10 i11 : Int32) (o12 : Addr) (o13 : Addr)
    (X0 : Stand p l e R s m args below meth c T0 locs cells slots) (hx : p.tables.exec = Jvm.exec) (hZ : Z.Warmed39 s.vm) (hw : ∀ d ∈ tables_1, d.before a0 Z = true) (hby : c.code = code) (hml : c.maxLocals = 14) (hown : s.vm.findClass "com/example/fairjoin/fairjoin/operator/KeyIndexCountsPinLaw" = some m.cls) (e0 : T0.heap = h0) (A : OwA Z h0 o12 .int n (fun j => .int (own_x i8 i9 i10 i11 j))) (hlt : ¬ 0 < n) :
    ∃ (T' : State), Stand p l e R s m args below meth c T' locs cells slots ∧ T'.heap = h0 ∧
      ∀ target, Steps p.tables e below (T'.setTop (mkF m 139 #[.val (.int i0), .val (.int i1), .val (.int i2), .val (.int i3), .val (.int i4), .val (.int i5), .val (.int (Int32.ofNat sz)), .val (.int (Int32.ofNat n)), .val (.int i8), .val (.int i9), .val (.int i10), .val (.int i11), .val (.ref o12), .val (.ref o13)] [])) target → Steps p.tables e below (T0.setTop (mkF m 125 #[.val (.int i0), .val (.int i1), .val (.int i2), .val (.int i3), .val (.int i4), .val (.int i5), .val (.int (Int32.ofNat sz)), .val (.int (Int32.ofNat n)), .val (.int i8), .val (.int i9), .val (.int i10), .val (.int i11), .val (.ref o12), .val (.ref o13)] [])) target := by
  have hc127 : ¬ ((0 : Int32) < Int32.ofNat n) := fun q => hlt ((own_ltn (i := 0) (by omega) (by omega)).mp q)
  refine ⟨T0, X0, e0, fun target kt => ?_⟩
  show Steps p.tables e below (T0.setTop (mkF m 125 #[.val (.int i0), .val (.int i1), .val (.int i2), .val (.int i3), .val (.int i4), .val (.int i5), .val (.int (Int32.ofNat sz)), .val (.int (Int32.ofNat n)), .val (.int i8), .val (.int i9), .val (.int i10), .val (.int i11), .val (.ref o12), .val (.ref o13)] [])) _
  refine XS.iload X0.here hx rfl (hb hby at_125) rfl ?_
  show Steps p.tables e below (T0.setTop (mkF m 127 #[.val (.int i0), .val (.int i1), .val (.int i2), .val (.int i3), .val (.int i4), .val (.int i5), .val (.int (Int32.ofNat sz)), .val (.int (Int32.ofNat n)), .val (.int i8), .val (.int i9), .val (.int i10), .val (.int i11), .val (.ref o12), .val (.ref o13)] [(.int (Int32.ofNat n))])) _
  refine XS.ifYes X0.here hx rfl (pc0 := 127) (pc' := 139) rfl (hb hby at_127) rfl ((if0 _ _).trans (flt hc127).2.2.2) (by decide) (by decide) ?_
  exact kt
set_option maxRecDepth 65536 in
set_option maxHeartbeats 40000000 in
theorem pcR0 {p : Program} {l : Launch} {e : Env} {s : State} {m : MethodId} {args : Array Value} {below : List Frame} {meth : Method} {c : Code} {T0 : State} {locs : List Loc} {Z : State} {a0 : Array Value} {h0 : Heap} {R : Room} {cells slots : Nat} (i0 i1 i2 i3 i4 i5 : Int32) (sz n : Nat) (hn : n ≤ 4) (i8 i9 i10 i11 : Int32) (o12 : Addr) (o13 : Addr)
    (X0 : Stand p l e R s m args below meth c T0 locs cells slots) (hx : p.tables.exec = Jvm.exec) (hZ : Z.Warmed39 s.vm) (hw : ∀ d ∈ tables_1, d.before a0 Z = true) (hby : c.code = code) (hml : c.maxLocals = 14) (hown : s.vm.findClass "com/example/fairjoin/fairjoin/operator/KeyIndexCountsPinLaw" = some m.cls) (e0 : T0.heap = h0) (A : OwA Z h0 o12 .int n (fun j => .int (own_x i8 i9 i10 i11 j))) :
    ∃ (T' : State), Stand p l e R s m args below meth c T' locs cells slots ∧ T'.heap = h0 ∧
      ∀ target, Steps p.tables e below (T'.setTop (mkF m 139 #[.val (.int i0), .val (.int i1), .val (.int i2), .val (.int i3), .val (.int i4), .val (.int i5), .val (.int (Int32.ofNat sz)), .val (.int (Int32.ofNat n)), .val (.int i8), .val (.int i9), .val (.int i10), .val (.int i11), .val (.ref o12), .val (.ref o13)] [])) target → Steps p.tables e below (T0.setTop (mkF m 125 #[.val (.int i0), .val (.int i1), .val (.int i2), .val (.int i3), .val (.int i4), .val (.int i5), .val (.int (Int32.ofNat sz)), .val (.int (Int32.ofNat n)), .val (.int i8), .val (.int i9), .val (.int i10), .val (.int i11), .val (.ref o12), .val (.ref o13)] [])) target := by
  by_cases hlt : 0 < n
  · exact pcR0f i0 i1 i2 i3 i4 i5 sz n hn i8 i9 i10 i11 o12 o13 X0 hx hZ hw hby hml hown e0 A hlt
  · exact pcR0t i0 i1 i2 i3 i4 i5 sz n hn i8 i9 i10 i11 o12 o13 X0 hx hZ hw hby hml hown e0 A hlt
set_option maxRecDepth 65536 in
set_option maxHeartbeats 40000000 in
theorem pcR1f {p : Program} {l : Launch} {e : Env} {s : State} {m : MethodId} {args : Array Value} {below : List Frame} {meth : Method} {c : Code} {T0 : State} {locs : List Loc} {Z : State} {a0 : Array Value} {h0 : Heap} {R : Room} {cells slots : Nat} (i0 i1 i2 i3 i4 i5 : Int32) (sz n : Nat) (hn : n ≤ 4) (i8 i9 i10 i11 : Int32) (o12 : Addr) (o13 : Addr)
    (X0 : Stand p l e R s m args below meth c T0 locs cells slots) (hx : p.tables.exec = Jvm.exec) (hZ : Z.Warmed39 s.vm) (hw : ∀ d ∈ tables_1, d.before a0 Z = true) (hby : c.code = code) (hml : c.maxLocals = 14) (hown : s.vm.findClass "com/example/fairjoin/fairjoin/operator/KeyIndexCountsPinLaw" = some m.cls) (e0 : T0.heap = h0) (A : OwA Z h0 o12 .int n (fun j => .int (own_x i8 i9 i10 i11 j))) (hlt : 1 < n) :
    ∃ (T' : State), Stand p l e R s m args below meth c T' locs cells slots ∧ T'.heap = h0 ∧
      ∀ target, Steps p.tables e below (T'.setTop (mkF m 154 #[.val (.int i0), .val (.int i1), .val (.int i2), .val (.int i3), .val (.int i4), .val (.int i5), .val (.int (Int32.ofNat sz)), .val (.int (Int32.ofNat n)), .val (.int i8), .val (.int i9), .val (.int i10), .val (.int i11), .val (.ref o12), .val (.ref o13)] [])) target → Steps p.tables e below (T0.setTop (mkF m 139 #[.val (.int i0), .val (.int i1), .val (.int i2), .val (.int i3), .val (.int i4), .val (.int i5), .val (.int (Int32.ofNat sz)), .val (.int (Int32.ofNat n)), .val (.int i8), .val (.int i9), .val (.int i10), .val (.int i11), .val (.ref o12), .val (.ref o13)] [])) target := by
  have hc142 : (1 : Int32) < Int32.ofNat n := (own_ltn (i := 1) (by omega) (by omega)).mpr hlt
  obtain ⟨cl_o12, Ar_o12, S_o12, H_o12⟩ := A
  have hin148 : ¬ ((1 : Int32) < 0 ∨ cl_o12.slots.size ≤ ((1 : Int32)).toNatClampNeg) := owa_in S_o12 (by decide) (by show 1 < n; exact hlt)
  have hat148 : cl_o12.slots[((1 : Int32)).toNatClampNeg]? = some (.int i9) := H_o12 1 hlt
  have hc151 : i9 = i9 := rfl
  refine ⟨T0, X0, e0, fun target kt => ?_⟩
  show Steps p.tables e below (T0.setTop (mkF m 139 #[.val (.int i0), .val (.int i1), .val (.int i2), .val (.int i3), .val (.int i4), .val (.int i5), .val (.int (Int32.ofNat sz)), .val (.int (Int32.ofNat n)), .val (.int i8), .val (.int i9), .val (.int i10), .val (.int i11), .val (.ref o12), .val (.ref o13)] [])) _
  refine XS.iload X0.here hx rfl (hb hby at_139) rfl ?_
  show Steps p.tables e below (T0.setTop (mkF m 141 #[.val (.int i0), .val (.int i1), .val (.int i2), .val (.int i3), .val (.int i4), .val (.int i5), .val (.int (Int32.ofNat sz)), .val (.int (Int32.ofNat n)), .val (.int i8), .val (.int i9), .val (.int i10), .val (.int i11), .val (.ref o12), .val (.ref o13)] [(.int (Int32.ofNat n))])) _
  refine XS.iconst X0.here hx rfl (hb hby at_141) ?_
  show Steps p.tables e below (T0.setTop (mkF m 142 #[.val (.int i0), .val (.int i1), .val (.int i2), .val (.int i3), .val (.int i4), .val (.int i5), .val (.int (Int32.ofNat sz)), .val (.int (Int32.ofNat n)), .val (.int i8), .val (.int i9), .val (.int i10), .val (.int i11), .val (.ref o12), .val (.ref o13)] [(.int (1 : Int32)), (.int (Int32.ofNat n))])) _
  refine XS.icmpNo X0.here hx rfl (hb hby at_142) rfl (tlt hc142).2.2.2 ?_
  show Steps p.tables e below (T0.setTop (mkF m 145 #[.val (.int i0), .val (.int i1), .val (.int i2), .val (.int i3), .val (.int i4), .val (.int i5), .val (.int (Int32.ofNat sz)), .val (.int (Int32.ofNat n)), .val (.int i8), .val (.int i9), .val (.int i10), .val (.int i11), .val (.ref o12), .val (.ref o13)] [])) _
  refine XS.aload X0.here hx rfl (hb hby at_145) rfl rfl ?_
  show Steps p.tables e below (T0.setTop (mkF m 147 #[.val (.int i0), .val (.int i1), .val (.int i2), .val (.int i3), .val (.int i4), .val (.int i5), .val (.int (Int32.ofNat sz)), .val (.int (Int32.ofNat n)), .val (.int i8), .val (.int i9), .val (.int i10), .val (.int i11), .val (.ref o12), .val (.ref o13)] [(.ref o12)])) _
  refine XS.iconst X0.here hx rfl (hb hby at_147) ?_
  show Steps p.tables e below (T0.setTop (mkF m 148 #[.val (.int i0), .val (.int i1), .val (.int i2), .val (.int i3), .val (.int i4), .val (.int i5), .val (.int (Int32.ofNat sz)), .val (.int (Int32.ofNat n)), .val (.int i8), .val (.int i9), .val (.int i10), .val (.int i11), .val (.ref o12), .val (.ref o13)] [(.int (1 : Int32)), (.ref o12)])) _
  refine X0.iaload hx (j := (1 : Int32)) (v := (.int i9)) (by rw [e0]; exact Ar_o12.1) (State.isArrayOf_alike hZ.alike Ar_o12.2.1) Ar_o12.2.2 hin148 hat148 (g := (mkF m 148 #[.val (.int i0), .val (.int i1), .val (.int i2), .val (.int i3), .val (.int i4), .val (.int i5), .val (.int (Int32.ofNat sz)), .val (.int (Int32.ofNat n)), .val (.int i8), .val (.int i9), .val (.int i10), .val (.int i11), .val (.ref o12), .val (.ref o13)] [(.int (1 : Int32)), (.ref o12)])) rfl rfl (hb hby at_148) _ ?_
  show Steps p.tables e below (T0.setTop (mkF m 149 #[.val (.int i0), .val (.int i1), .val (.int i2), .val (.int i3), .val (.int i4), .val (.int i5), .val (.int (Int32.ofNat sz)), .val (.int (Int32.ofNat n)), .val (.int i8), .val (.int i9), .val (.int i10), .val (.int i11), .val (.ref o12), .val (.ref o13)] [(.int i9)])) _
  refine XS.iload X0.here hx rfl (hb hby at_149) rfl ?_
  show Steps p.tables e below (T0.setTop (mkF m 151 #[.val (.int i0), .val (.int i1), .val (.int i2), .val (.int i3), .val (.int i4), .val (.int i5), .val (.int (Int32.ofNat sz)), .val (.int (Int32.ofNat n)), .val (.int i8), .val (.int i9), .val (.int i10), .val (.int i11), .val (.ref o12), .val (.ref o13)] [(.int i9), (.int i9)])) _
  refine XS.icmpNo X0.here hx rfl (hb hby at_151) rfl (teq hc151).2 ?_
  exact kt
set_option maxRecDepth 65536 in
set_option maxHeartbeats 40000000 in
theorem pcR1t {p : Program} {l : Launch} {e : Env} {s : State} {m : MethodId} {args : Array Value} {below : List Frame} {meth : Method} {c : Code} {T0 : State} {locs : List Loc} {Z : State} {a0 : Array Value} {h0 : Heap} {R : Room} {cells slots : Nat} (i0 i1 i2 i3 i4 i5 : Int32) (sz n : Nat) (hn : n ≤ 4) (i8 i9 i10 i11 : Int32) (o12 : Addr) (o13 : Addr)
    (X0 : Stand p l e R s m args below meth c T0 locs cells slots) (hx : p.tables.exec = Jvm.exec) (hZ : Z.Warmed39 s.vm) (hw : ∀ d ∈ tables_1, d.before a0 Z = true) (hby : c.code = code) (hml : c.maxLocals = 14) (hown : s.vm.findClass "com/example/fairjoin/fairjoin/operator/KeyIndexCountsPinLaw" = some m.cls) (e0 : T0.heap = h0) (A : OwA Z h0 o12 .int n (fun j => .int (own_x i8 i9 i10 i11 j))) (hlt : ¬ 1 < n) :
    ∃ (T' : State), Stand p l e R s m args below meth c T' locs cells slots ∧ T'.heap = h0 ∧
      ∀ target, Steps p.tables e below (T'.setTop (mkF m 154 #[.val (.int i0), .val (.int i1), .val (.int i2), .val (.int i3), .val (.int i4), .val (.int i5), .val (.int (Int32.ofNat sz)), .val (.int (Int32.ofNat n)), .val (.int i8), .val (.int i9), .val (.int i10), .val (.int i11), .val (.ref o12), .val (.ref o13)] [])) target → Steps p.tables e below (T0.setTop (mkF m 139 #[.val (.int i0), .val (.int i1), .val (.int i2), .val (.int i3), .val (.int i4), .val (.int i5), .val (.int (Int32.ofNat sz)), .val (.int (Int32.ofNat n)), .val (.int i8), .val (.int i9), .val (.int i10), .val (.int i11), .val (.ref o12), .val (.ref o13)] [])) target := by
  have hc142 : ¬ ((1 : Int32) < Int32.ofNat n) := fun q => hlt ((own_ltn (i := 1) (by omega) (by omega)).mp q)
  refine ⟨T0, X0, e0, fun target kt => ?_⟩
  show Steps p.tables e below (T0.setTop (mkF m 139 #[.val (.int i0), .val (.int i1), .val (.int i2), .val (.int i3), .val (.int i4), .val (.int i5), .val (.int (Int32.ofNat sz)), .val (.int (Int32.ofNat n)), .val (.int i8), .val (.int i9), .val (.int i10), .val (.int i11), .val (.ref o12), .val (.ref o13)] [])) _
  refine XS.iload X0.here hx rfl (hb hby at_139) rfl ?_
  show Steps p.tables e below (T0.setTop (mkF m 141 #[.val (.int i0), .val (.int i1), .val (.int i2), .val (.int i3), .val (.int i4), .val (.int i5), .val (.int (Int32.ofNat sz)), .val (.int (Int32.ofNat n)), .val (.int i8), .val (.int i9), .val (.int i10), .val (.int i11), .val (.ref o12), .val (.ref o13)] [(.int (Int32.ofNat n))])) _
  refine XS.iconst X0.here hx rfl (hb hby at_141) ?_
  show Steps p.tables e below (T0.setTop (mkF m 142 #[.val (.int i0), .val (.int i1), .val (.int i2), .val (.int i3), .val (.int i4), .val (.int i5), .val (.int (Int32.ofNat sz)), .val (.int (Int32.ofNat n)), .val (.int i8), .val (.int i9), .val (.int i10), .val (.int i11), .val (.ref o12), .val (.ref o13)] [(.int (1 : Int32)), (.int (Int32.ofNat n))])) _
  refine XS.icmpYes X0.here hx rfl (pc0 := 142) (pc' := 154) rfl (hb hby at_142) rfl (flt hc142).2.2.2 (by decide) (by decide) ?_
  exact kt
set_option maxRecDepth 65536 in
set_option maxHeartbeats 40000000 in
theorem pcR1 {p : Program} {l : Launch} {e : Env} {s : State} {m : MethodId} {args : Array Value} {below : List Frame} {meth : Method} {c : Code} {T0 : State} {locs : List Loc} {Z : State} {a0 : Array Value} {h0 : Heap} {R : Room} {cells slots : Nat} (i0 i1 i2 i3 i4 i5 : Int32) (sz n : Nat) (hn : n ≤ 4) (i8 i9 i10 i11 : Int32) (o12 : Addr) (o13 : Addr)
    (X0 : Stand p l e R s m args below meth c T0 locs cells slots) (hx : p.tables.exec = Jvm.exec) (hZ : Z.Warmed39 s.vm) (hw : ∀ d ∈ tables_1, d.before a0 Z = true) (hby : c.code = code) (hml : c.maxLocals = 14) (hown : s.vm.findClass "com/example/fairjoin/fairjoin/operator/KeyIndexCountsPinLaw" = some m.cls) (e0 : T0.heap = h0) (A : OwA Z h0 o12 .int n (fun j => .int (own_x i8 i9 i10 i11 j))) :
    ∃ (T' : State), Stand p l e R s m args below meth c T' locs cells slots ∧ T'.heap = h0 ∧
      ∀ target, Steps p.tables e below (T'.setTop (mkF m 154 #[.val (.int i0), .val (.int i1), .val (.int i2), .val (.int i3), .val (.int i4), .val (.int i5), .val (.int (Int32.ofNat sz)), .val (.int (Int32.ofNat n)), .val (.int i8), .val (.int i9), .val (.int i10), .val (.int i11), .val (.ref o12), .val (.ref o13)] [])) target → Steps p.tables e below (T0.setTop (mkF m 139 #[.val (.int i0), .val (.int i1), .val (.int i2), .val (.int i3), .val (.int i4), .val (.int i5), .val (.int (Int32.ofNat sz)), .val (.int (Int32.ofNat n)), .val (.int i8), .val (.int i9), .val (.int i10), .val (.int i11), .val (.ref o12), .val (.ref o13)] [])) target := by
  by_cases hlt : 1 < n
  · exact pcR1f i0 i1 i2 i3 i4 i5 sz n hn i8 i9 i10 i11 o12 o13 X0 hx hZ hw hby hml hown e0 A hlt
  · exact pcR1t i0 i1 i2 i3 i4 i5 sz n hn i8 i9 i10 i11 o12 o13 X0 hx hZ hw hby hml hown e0 A hlt
set_option maxRecDepth 65536 in
set_option maxHeartbeats 40000000 in
theorem pcR2f {p : Program} {l : Launch} {e : Env} {s : State} {m : MethodId} {args : Array Value} {below : List Frame} {meth : Method} {c : Code} {T0 : State} {locs : List Loc} {Z : State} {a0 : Array Value} {h0 : Heap} {R : Room} {cells slots : Nat} (i0 i1 i2 i3 i4 i5 : Int32) (sz n : Nat) (hn : n ≤ 4) (i8 i9 i10 i11 : Int32) (o12 : Addr) (o13 : Addr)
    (X0 : Stand p l e R s m args below meth c T0 locs cells slots) (hx : p.tables.exec = Jvm.exec) (hZ : Z.Warmed39 s.vm) (hw : ∀ d ∈ tables_1, d.before a0 Z = true) (hby : c.code = code) (hml : c.maxLocals = 14) (hown : s.vm.findClass "com/example/fairjoin/fairjoin/operator/KeyIndexCountsPinLaw" = some m.cls) (e0 : T0.heap = h0) (A : OwA Z h0 o12 .int n (fun j => .int (own_x i8 i9 i10 i11 j))) (hlt : 2 < n) :
    ∃ (T' : State), Stand p l e R s m args below meth c T' locs cells slots ∧ T'.heap = h0 ∧
      ∀ target, Steps p.tables e below (T'.setTop (mkF m 169 #[.val (.int i0), .val (.int i1), .val (.int i2), .val (.int i3), .val (.int i4), .val (.int i5), .val (.int (Int32.ofNat sz)), .val (.int (Int32.ofNat n)), .val (.int i8), .val (.int i9), .val (.int i10), .val (.int i11), .val (.ref o12), .val (.ref o13)] [])) target → Steps p.tables e below (T0.setTop (mkF m 154 #[.val (.int i0), .val (.int i1), .val (.int i2), .val (.int i3), .val (.int i4), .val (.int i5), .val (.int (Int32.ofNat sz)), .val (.int (Int32.ofNat n)), .val (.int i8), .val (.int i9), .val (.int i10), .val (.int i11), .val (.ref o12), .val (.ref o13)] [])) target := by
  have hc157 : (2 : Int32) < Int32.ofNat n := (own_ltn (i := 2) (by omega) (by omega)).mpr hlt
  obtain ⟨cl_o12, Ar_o12, S_o12, H_o12⟩ := A
  have hin163 : ¬ ((2 : Int32) < 0 ∨ cl_o12.slots.size ≤ ((2 : Int32)).toNatClampNeg) := owa_in S_o12 (by decide) (by show 2 < n; exact hlt)
  have hat163 : cl_o12.slots[((2 : Int32)).toNatClampNeg]? = some (.int i10) := H_o12 2 hlt
  have hc166 : i10 = i10 := rfl
  refine ⟨T0, X0, e0, fun target kt => ?_⟩
  show Steps p.tables e below (T0.setTop (mkF m 154 #[.val (.int i0), .val (.int i1), .val (.int i2), .val (.int i3), .val (.int i4), .val (.int i5), .val (.int (Int32.ofNat sz)), .val (.int (Int32.ofNat n)), .val (.int i8), .val (.int i9), .val (.int i10), .val (.int i11), .val (.ref o12), .val (.ref o13)] [])) _
  refine XS.iload X0.here hx rfl (hb hby at_154) rfl ?_
  show Steps p.tables e below (T0.setTop (mkF m 156 #[.val (.int i0), .val (.int i1), .val (.int i2), .val (.int i3), .val (.int i4), .val (.int i5), .val (.int (Int32.ofNat sz)), .val (.int (Int32.ofNat n)), .val (.int i8), .val (.int i9), .val (.int i10), .val (.int i11), .val (.ref o12), .val (.ref o13)] [(.int (Int32.ofNat n))])) _
  refine XS.iconst X0.here hx rfl (hb hby at_156) ?_
  show Steps p.tables e below (T0.setTop (mkF m 157 #[.val (.int i0), .val (.int i1), .val (.int i2), .val (.int i3), .val (.int i4), .val (.int i5), .val (.int (Int32.ofNat sz)), .val (.int (Int32.ofNat n)), .val (.int i8), .val (.int i9), .val (.int i10), .val (.int i11), .val (.ref o12), .val (.ref o13)] [(.int (2 : Int32)), (.int (Int32.ofNat n))])) _
  refine XS.icmpNo X0.here hx rfl (hb hby at_157) rfl (tlt hc157).2.2.2 ?_
  show Steps p.tables e below (T0.setTop (mkF m 160 #[.val (.int i0), .val (.int i1), .val (.int i2), .val (.int i3), .val (.int i4), .val (.int i5), .val (.int (Int32.ofNat sz)), .val (.int (Int32.ofNat n)), .val (.int i8), .val (.int i9), .val (.int i10), .val (.int i11), .val (.ref o12), .val (.ref o13)] [])) _
  refine XS.aload X0.here hx rfl (hb hby at_160) rfl rfl ?_
  show Steps p.tables e below (T0.setTop (mkF m 162 #[.val (.int i0), .val (.int i1), .val (.int i2), .val (.int i3), .val (.int i4), .val (.int i5), .val (.int (Int32.ofNat sz)), .val (.int (Int32.ofNat n)), .val (.int i8), .val (.int i9), .val (.int i10), .val (.int i11), .val (.ref o12), .val (.ref o13)] [(.ref o12)])) _
  refine XS.iconst X0.here hx rfl (hb hby at_162) ?_
  show Steps p.tables e below (T0.setTop (mkF m 163 #[.val (.int i0), .val (.int i1), .val (.int i2), .val (.int i3), .val (.int i4), .val (.int i5), .val (.int (Int32.ofNat sz)), .val (.int (Int32.ofNat n)), .val (.int i8), .val (.int i9), .val (.int i10), .val (.int i11), .val (.ref o12), .val (.ref o13)] [(.int (2 : Int32)), (.ref o12)])) _
  refine X0.iaload hx (j := (2 : Int32)) (v := (.int i10)) (by rw [e0]; exact Ar_o12.1) (State.isArrayOf_alike hZ.alike Ar_o12.2.1) Ar_o12.2.2 hin163 hat163 (g := (mkF m 163 #[.val (.int i0), .val (.int i1), .val (.int i2), .val (.int i3), .val (.int i4), .val (.int i5), .val (.int (Int32.ofNat sz)), .val (.int (Int32.ofNat n)), .val (.int i8), .val (.int i9), .val (.int i10), .val (.int i11), .val (.ref o12), .val (.ref o13)] [(.int (2 : Int32)), (.ref o12)])) rfl rfl (hb hby at_163) _ ?_
  show Steps p.tables e below (T0.setTop (mkF m 164 #[.val (.int i0), .val (.int i1), .val (.int i2), .val (.int i3), .val (.int i4), .val (.int i5), .val (.int (Int32.ofNat sz)), .val (.int (Int32.ofNat n)), .val (.int i8), .val (.int i9), .val (.int i10), .val (.int i11), .val (.ref o12), .val (.ref o13)] [(.int i10)])) _
  refine XS.iload X0.here hx rfl (hb hby at_164) rfl ?_
  show Steps p.tables e below (T0.setTop (mkF m 166 #[.val (.int i0), .val (.int i1), .val (.int i2), .val (.int i3), .val (.int i4), .val (.int i5), .val (.int (Int32.ofNat sz)), .val (.int (Int32.ofNat n)), .val (.int i8), .val (.int i9), .val (.int i10), .val (.int i11), .val (.ref o12), .val (.ref o13)] [(.int i10), (.int i10)])) _
  refine XS.icmpNo X0.here hx rfl (hb hby at_166) rfl (teq hc166).2 ?_
  exact kt
set_option maxRecDepth 65536 in
set_option maxHeartbeats 40000000 in
theorem pcR2t {p : Program} {l : Launch} {e : Env} {s : State} {m : MethodId} {args : Array Value} {below : List Frame} {meth : Method} {c : Code} {T0 : State} {locs : List Loc} {Z : State} {a0 : Array Value} {h0 : Heap} {R : Room} {cells slots : Nat} (i0 i1 i2 i3 i4 i5 : Int32) (sz n : Nat) (hn : n ≤ 4) (i8 i9 i10 i11 : Int32) (o12 : Addr) (o13 : Addr)
    (X0 : Stand p l e R s m args below meth c T0 locs cells slots) (hx : p.tables.exec = Jvm.exec) (hZ : Z.Warmed39 s.vm) (hw : ∀ d ∈ tables_1, d.before a0 Z = true) (hby : c.code = code) (hml : c.maxLocals = 14) (hown : s.vm.findClass "com/example/fairjoin/fairjoin/operator/KeyIndexCountsPinLaw" = some m.cls) (e0 : T0.heap = h0) (A : OwA Z h0 o12 .int n (fun j => .int (own_x i8 i9 i10 i11 j))) (hlt : ¬ 2 < n) :
    ∃ (T' : State), Stand p l e R s m args below meth c T' locs cells slots ∧ T'.heap = h0 ∧
      ∀ target, Steps p.tables e below (T'.setTop (mkF m 169 #[.val (.int i0), .val (.int i1), .val (.int i2), .val (.int i3), .val (.int i4), .val (.int i5), .val (.int (Int32.ofNat sz)), .val (.int (Int32.ofNat n)), .val (.int i8), .val (.int i9), .val (.int i10), .val (.int i11), .val (.ref o12), .val (.ref o13)] [])) target → Steps p.tables e below (T0.setTop (mkF m 154 #[.val (.int i0), .val (.int i1), .val (.int i2), .val (.int i3), .val (.int i4), .val (.int i5), .val (.int (Int32.ofNat sz)), .val (.int (Int32.ofNat n)), .val (.int i8), .val (.int i9), .val (.int i10), .val (.int i11), .val (.ref o12), .val (.ref o13)] [])) target := by
  have hc157 : ¬ ((2 : Int32) < Int32.ofNat n) := fun q => hlt ((own_ltn (i := 2) (by omega) (by omega)).mp q)
  refine ⟨T0, X0, e0, fun target kt => ?_⟩
  show Steps p.tables e below (T0.setTop (mkF m 154 #[.val (.int i0), .val (.int i1), .val (.int i2), .val (.int i3), .val (.int i4), .val (.int i5), .val (.int (Int32.ofNat sz)), .val (.int (Int32.ofNat n)), .val (.int i8), .val (.int i9), .val (.int i10), .val (.int i11), .val (.ref o12), .val (.ref o13)] [])) _
  refine XS.iload X0.here hx rfl (hb hby at_154) rfl ?_
  show Steps p.tables e below (T0.setTop (mkF m 156 #[.val (.int i0), .val (.int i1), .val (.int i2), .val (.int i3), .val (.int i4), .val (.int i5), .val (.int (Int32.ofNat sz)), .val (.int (Int32.ofNat n)), .val (.int i8), .val (.int i9), .val (.int i10), .val (.int i11), .val (.ref o12), .val (.ref o13)] [(.int (Int32.ofNat n))])) _
  refine XS.iconst X0.here hx rfl (hb hby at_156) ?_
  show Steps p.tables e below (T0.setTop (mkF m 157 #[.val (.int i0), .val (.int i1), .val (.int i2), .val (.int i3), .val (.int i4), .val (.int i5), .val (.int (Int32.ofNat sz)), .val (.int (Int32.ofNat n)), .val (.int i8), .val (.int i9), .val (.int i10), .val (.int i11), .val (.ref o12), .val (.ref o13)] [(.int (2 : Int32)), (.int (Int32.ofNat n))])) _
  refine XS.icmpYes X0.here hx rfl (pc0 := 157) (pc' := 169) rfl (hb hby at_157) rfl (flt hc157).2.2.2 (by decide) (by decide) ?_
  exact kt
set_option maxRecDepth 65536 in
set_option maxHeartbeats 40000000 in
theorem pcR2 {p : Program} {l : Launch} {e : Env} {s : State} {m : MethodId} {args : Array Value} {below : List Frame} {meth : Method} {c : Code} {T0 : State} {locs : List Loc} {Z : State} {a0 : Array Value} {h0 : Heap} {R : Room} {cells slots : Nat} (i0 i1 i2 i3 i4 i5 : Int32) (sz n : Nat) (hn : n ≤ 4) (i8 i9 i10 i11 : Int32) (o12 : Addr) (o13 : Addr)
    (X0 : Stand p l e R s m args below meth c T0 locs cells slots) (hx : p.tables.exec = Jvm.exec) (hZ : Z.Warmed39 s.vm) (hw : ∀ d ∈ tables_1, d.before a0 Z = true) (hby : c.code = code) (hml : c.maxLocals = 14) (hown : s.vm.findClass "com/example/fairjoin/fairjoin/operator/KeyIndexCountsPinLaw" = some m.cls) (e0 : T0.heap = h0) (A : OwA Z h0 o12 .int n (fun j => .int (own_x i8 i9 i10 i11 j))) :
    ∃ (T' : State), Stand p l e R s m args below meth c T' locs cells slots ∧ T'.heap = h0 ∧
      ∀ target, Steps p.tables e below (T'.setTop (mkF m 169 #[.val (.int i0), .val (.int i1), .val (.int i2), .val (.int i3), .val (.int i4), .val (.int i5), .val (.int (Int32.ofNat sz)), .val (.int (Int32.ofNat n)), .val (.int i8), .val (.int i9), .val (.int i10), .val (.int i11), .val (.ref o12), .val (.ref o13)] [])) target → Steps p.tables e below (T0.setTop (mkF m 154 #[.val (.int i0), .val (.int i1), .val (.int i2), .val (.int i3), .val (.int i4), .val (.int i5), .val (.int (Int32.ofNat sz)), .val (.int (Int32.ofNat n)), .val (.int i8), .val (.int i9), .val (.int i10), .val (.int i11), .val (.ref o12), .val (.ref o13)] [])) target := by
  by_cases hlt : 2 < n
  · exact pcR2f i0 i1 i2 i3 i4 i5 sz n hn i8 i9 i10 i11 o12 o13 X0 hx hZ hw hby hml hown e0 A hlt
  · exact pcR2t i0 i1 i2 i3 i4 i5 sz n hn i8 i9 i10 i11 o12 o13 X0 hx hZ hw hby hml hown e0 A hlt
set_option maxRecDepth 65536 in
set_option maxHeartbeats 40000000 in
theorem pcR3f {p : Program} {l : Launch} {e : Env} {s : State} {m : MethodId} {args : Array Value} {below : List Frame} {meth : Method} {c : Code} {T0 : State} {locs : List Loc} {Z : State} {a0 : Array Value} {h0 : Heap} {R : Room} {cells slots : Nat} (i0 i1 i2 i3 i4 i5 : Int32) (sz n : Nat) (hn : n ≤ 4) (i8 i9 i10 i11 : Int32) (o12 : Addr) (o13 : Addr)
    (X0 : Stand p l e R s m args below meth c T0 locs cells slots) (hx : p.tables.exec = Jvm.exec) (hZ : Z.Warmed39 s.vm) (hw : ∀ d ∈ tables_1, d.before a0 Z = true) (hby : c.code = code) (hml : c.maxLocals = 14) (hown : s.vm.findClass "com/example/fairjoin/fairjoin/operator/KeyIndexCountsPinLaw" = some m.cls) (e0 : T0.heap = h0) (A : OwA Z h0 o12 .int n (fun j => .int (own_x i8 i9 i10 i11 j))) (hlt : 3 < n) :
    ∃ (T' : State), Stand p l e R s m args below meth c T' locs cells slots ∧ T'.heap = h0 ∧
      ∀ target, Steps p.tables e below (T'.setTop (mkF m 186 #[.val (.int i0), .val (.int i1), .val (.int i2), .val (.int i3), .val (.int i4), .val (.int i5), .val (.int (Int32.ofNat sz)), .val (.int (Int32.ofNat n)), .val (.int i8), .val (.int i9), .val (.int i10), .val (.int i11), .val (.ref o12), .val (.ref o13)] [])) target → Steps p.tables e below (T0.setTop (mkF m 169 #[.val (.int i0), .val (.int i1), .val (.int i2), .val (.int i3), .val (.int i4), .val (.int i5), .val (.int (Int32.ofNat sz)), .val (.int (Int32.ofNat n)), .val (.int i8), .val (.int i9), .val (.int i10), .val (.int i11), .val (.ref o12), .val (.ref o13)] [])) target := by
  have hc172 : (3 : Int32) < Int32.ofNat n := (own_ltn (i := 3) (by omega) (by omega)).mpr hlt
  obtain ⟨cl_o12, Ar_o12, S_o12, H_o12⟩ := A
  have hin178 : ¬ ((3 : Int32) < 0 ∨ cl_o12.slots.size ≤ ((3 : Int32)).toNatClampNeg) := owa_in S_o12 (by decide) (by show 3 < n; exact hlt)
  have hat178 : cl_o12.slots[((3 : Int32)).toNatClampNeg]? = some (.int i11) := H_o12 3 hlt
  have hc181 : i11 = i11 := rfl
  refine ⟨T0, X0, e0, fun target kt => ?_⟩
  show Steps p.tables e below (T0.setTop (mkF m 169 #[.val (.int i0), .val (.int i1), .val (.int i2), .val (.int i3), .val (.int i4), .val (.int i5), .val (.int (Int32.ofNat sz)), .val (.int (Int32.ofNat n)), .val (.int i8), .val (.int i9), .val (.int i10), .val (.int i11), .val (.ref o12), .val (.ref o13)] [])) _
  refine XS.iload X0.here hx rfl (hb hby at_169) rfl ?_
  show Steps p.tables e below (T0.setTop (mkF m 171 #[.val (.int i0), .val (.int i1), .val (.int i2), .val (.int i3), .val (.int i4), .val (.int i5), .val (.int (Int32.ofNat sz)), .val (.int (Int32.ofNat n)), .val (.int i8), .val (.int i9), .val (.int i10), .val (.int i11), .val (.ref o12), .val (.ref o13)] [(.int (Int32.ofNat n))])) _
  refine XS.iconst X0.here hx rfl (hb hby at_171) ?_
  show Steps p.tables e below (T0.setTop (mkF m 172 #[.val (.int i0), .val (.int i1), .val (.int i2), .val (.int i3), .val (.int i4), .val (.int i5), .val (.int (Int32.ofNat sz)), .val (.int (Int32.ofNat n)), .val (.int i8), .val (.int i9), .val (.int i10), .val (.int i11), .val (.ref o12), .val (.ref o13)] [(.int (3 : Int32)), (.int (Int32.ofNat n))])) _
  refine XS.icmpNo X0.here hx rfl (hb hby at_172) rfl (tlt hc172).2.2.2 ?_
  show Steps p.tables e below (T0.setTop (mkF m 175 #[.val (.int i0), .val (.int i1), .val (.int i2), .val (.int i3), .val (.int i4), .val (.int i5), .val (.int (Int32.ofNat sz)), .val (.int (Int32.ofNat n)), .val (.int i8), .val (.int i9), .val (.int i10), .val (.int i11), .val (.ref o12), .val (.ref o13)] [])) _
  refine XS.aload X0.here hx rfl (hb hby at_175) rfl rfl ?_
  show Steps p.tables e below (T0.setTop (mkF m 177 #[.val (.int i0), .val (.int i1), .val (.int i2), .val (.int i3), .val (.int i4), .val (.int i5), .val (.int (Int32.ofNat sz)), .val (.int (Int32.ofNat n)), .val (.int i8), .val (.int i9), .val (.int i10), .val (.int i11), .val (.ref o12), .val (.ref o13)] [(.ref o12)])) _
  refine XS.iconst X0.here hx rfl (hb hby at_177) ?_
  show Steps p.tables e below (T0.setTop (mkF m 178 #[.val (.int i0), .val (.int i1), .val (.int i2), .val (.int i3), .val (.int i4), .val (.int i5), .val (.int (Int32.ofNat sz)), .val (.int (Int32.ofNat n)), .val (.int i8), .val (.int i9), .val (.int i10), .val (.int i11), .val (.ref o12), .val (.ref o13)] [(.int (3 : Int32)), (.ref o12)])) _
  refine X0.iaload hx (j := (3 : Int32)) (v := (.int i11)) (by rw [e0]; exact Ar_o12.1) (State.isArrayOf_alike hZ.alike Ar_o12.2.1) Ar_o12.2.2 hin178 hat178 (g := (mkF m 178 #[.val (.int i0), .val (.int i1), .val (.int i2), .val (.int i3), .val (.int i4), .val (.int i5), .val (.int (Int32.ofNat sz)), .val (.int (Int32.ofNat n)), .val (.int i8), .val (.int i9), .val (.int i10), .val (.int i11), .val (.ref o12), .val (.ref o13)] [(.int (3 : Int32)), (.ref o12)])) rfl rfl (hb hby at_178) _ ?_
  show Steps p.tables e below (T0.setTop (mkF m 179 #[.val (.int i0), .val (.int i1), .val (.int i2), .val (.int i3), .val (.int i4), .val (.int i5), .val (.int (Int32.ofNat sz)), .val (.int (Int32.ofNat n)), .val (.int i8), .val (.int i9), .val (.int i10), .val (.int i11), .val (.ref o12), .val (.ref o13)] [(.int i11)])) _
  refine XS.iload X0.here hx rfl (hb hby at_179) rfl ?_
  show Steps p.tables e below (T0.setTop (mkF m 181 #[.val (.int i0), .val (.int i1), .val (.int i2), .val (.int i3), .val (.int i4), .val (.int i5), .val (.int (Int32.ofNat sz)), .val (.int (Int32.ofNat n)), .val (.int i8), .val (.int i9), .val (.int i10), .val (.int i11), .val (.ref o12), .val (.ref o13)] [(.int i11), (.int i11)])) _
  refine XS.icmpYes X0.here hx rfl (pc0 := 181) (pc' := 186) rfl (hb hby at_181) rfl (teq hc181).1 (by decide) (by decide) ?_
  exact kt
set_option maxRecDepth 65536 in
set_option maxHeartbeats 40000000 in
theorem pcR3t {p : Program} {l : Launch} {e : Env} {s : State} {m : MethodId} {args : Array Value} {below : List Frame} {meth : Method} {c : Code} {T0 : State} {locs : List Loc} {Z : State} {a0 : Array Value} {h0 : Heap} {R : Room} {cells slots : Nat} (i0 i1 i2 i3 i4 i5 : Int32) (sz n : Nat) (hn : n ≤ 4) (i8 i9 i10 i11 : Int32) (o12 : Addr) (o13 : Addr)
    (X0 : Stand p l e R s m args below meth c T0 locs cells slots) (hx : p.tables.exec = Jvm.exec) (hZ : Z.Warmed39 s.vm) (hw : ∀ d ∈ tables_1, d.before a0 Z = true) (hby : c.code = code) (hml : c.maxLocals = 14) (hown : s.vm.findClass "com/example/fairjoin/fairjoin/operator/KeyIndexCountsPinLaw" = some m.cls) (e0 : T0.heap = h0) (A : OwA Z h0 o12 .int n (fun j => .int (own_x i8 i9 i10 i11 j))) (hlt : ¬ 3 < n) :
    ∃ (T' : State), Stand p l e R s m args below meth c T' locs cells slots ∧ T'.heap = h0 ∧
      ∀ target, Steps p.tables e below (T'.setTop (mkF m 186 #[.val (.int i0), .val (.int i1), .val (.int i2), .val (.int i3), .val (.int i4), .val (.int i5), .val (.int (Int32.ofNat sz)), .val (.int (Int32.ofNat n)), .val (.int i8), .val (.int i9), .val (.int i10), .val (.int i11), .val (.ref o12), .val (.ref o13)] [])) target → Steps p.tables e below (T0.setTop (mkF m 169 #[.val (.int i0), .val (.int i1), .val (.int i2), .val (.int i3), .val (.int i4), .val (.int i5), .val (.int (Int32.ofNat sz)), .val (.int (Int32.ofNat n)), .val (.int i8), .val (.int i9), .val (.int i10), .val (.int i11), .val (.ref o12), .val (.ref o13)] [])) target := by
  have hc172 : ¬ ((3 : Int32) < Int32.ofNat n) := fun q => hlt ((own_ltn (i := 3) (by omega) (by omega)).mp q)
  refine ⟨T0, X0, e0, fun target kt => ?_⟩
  show Steps p.tables e below (T0.setTop (mkF m 169 #[.val (.int i0), .val (.int i1), .val (.int i2), .val (.int i3), .val (.int i4), .val (.int i5), .val (.int (Int32.ofNat sz)), .val (.int (Int32.ofNat n)), .val (.int i8), .val (.int i9), .val (.int i10), .val (.int i11), .val (.ref o12), .val (.ref o13)] [])) _
  refine XS.iload X0.here hx rfl (hb hby at_169) rfl ?_
  show Steps p.tables e below (T0.setTop (mkF m 171 #[.val (.int i0), .val (.int i1), .val (.int i2), .val (.int i3), .val (.int i4), .val (.int i5), .val (.int (Int32.ofNat sz)), .val (.int (Int32.ofNat n)), .val (.int i8), .val (.int i9), .val (.int i10), .val (.int i11), .val (.ref o12), .val (.ref o13)] [(.int (Int32.ofNat n))])) _
  refine XS.iconst X0.here hx rfl (hb hby at_171) ?_
  show Steps p.tables e below (T0.setTop (mkF m 172 #[.val (.int i0), .val (.int i1), .val (.int i2), .val (.int i3), .val (.int i4), .val (.int i5), .val (.int (Int32.ofNat sz)), .val (.int (Int32.ofNat n)), .val (.int i8), .val (.int i9), .val (.int i10), .val (.int i11), .val (.ref o12), .val (.ref o13)] [(.int (3 : Int32)), (.int (Int32.ofNat n))])) _
  refine XS.icmpYes X0.here hx rfl (pc0 := 172) (pc' := 186) rfl (hb hby at_172) rfl (flt hc172).2.2.2 (by decide) (by decide) ?_
  exact kt
set_option maxRecDepth 65536 in
set_option maxHeartbeats 40000000 in
theorem pcR3 {p : Program} {l : Launch} {e : Env} {s : State} {m : MethodId} {args : Array Value} {below : List Frame} {meth : Method} {c : Code} {T0 : State} {locs : List Loc} {Z : State} {a0 : Array Value} {h0 : Heap} {R : Room} {cells slots : Nat} (i0 i1 i2 i3 i4 i5 : Int32) (sz n : Nat) (hn : n ≤ 4) (i8 i9 i10 i11 : Int32) (o12 : Addr) (o13 : Addr)
    (X0 : Stand p l e R s m args below meth c T0 locs cells slots) (hx : p.tables.exec = Jvm.exec) (hZ : Z.Warmed39 s.vm) (hw : ∀ d ∈ tables_1, d.before a0 Z = true) (hby : c.code = code) (hml : c.maxLocals = 14) (hown : s.vm.findClass "com/example/fairjoin/fairjoin/operator/KeyIndexCountsPinLaw" = some m.cls) (e0 : T0.heap = h0) (A : OwA Z h0 o12 .int n (fun j => .int (own_x i8 i9 i10 i11 j))) :
    ∃ (T' : State), Stand p l e R s m args below meth c T' locs cells slots ∧ T'.heap = h0 ∧
      ∀ target, Steps p.tables e below (T'.setTop (mkF m 186 #[.val (.int i0), .val (.int i1), .val (.int i2), .val (.int i3), .val (.int i4), .val (.int i5), .val (.int (Int32.ofNat sz)), .val (.int (Int32.ofNat n)), .val (.int i8), .val (.int i9), .val (.int i10), .val (.int i11), .val (.ref o12), .val (.ref o13)] [])) target → Steps p.tables e below (T0.setTop (mkF m 169 #[.val (.int i0), .val (.int i1), .val (.int i2), .val (.int i3), .val (.int i4), .val (.int i5), .val (.int (Int32.ofNat sz)), .val (.int (Int32.ofNat n)), .val (.int i8), .val (.int i9), .val (.int i10), .val (.int i11), .val (.ref o12), .val (.ref o13)] [])) target := by
  by_cases hlt : 3 < n
  · exact pcR3f i0 i1 i2 i3 i4 i5 sz n hn i8 i9 i10 i11 o12 o13 X0 hx hZ hw hby hml hown e0 A hlt
  · exact pcR3t i0 i1 i2 i3 i4 i5 sz n hn i8 i9 i10 i11 o12 o13 X0 hx hZ hw hby hml hown e0 A hlt
def Q0 (Z : State) (p1 p2 p3 p4 p5 p6 : Int32)  (h0 : Heap) (n0 : Nat) (v : Option Value) (h : Heap) (L : List Loc) : Prop := v = some (.int (1 : Int32)) ∧ Fr n0 L
set_option maxRecDepth 65536 in
set_option maxHeartbeats 40000000 in
theorem rm0n (l : Launch) (Z : State) (a0 : Array Value) (hw : ∀ d ∈ tables_1, d.before a0 Z = true) (ws : List Jvm.Cond) (p1 : Int32) (p2 : Int32) (p3 : Int32) (p4 : Int32) (p5 : Int32) (p6 : Int32) (h0 : Heap) (n0 : Nat) (Z0 : n0 ≤ h0.size) (n sz : Nat) (hn : n ≤ 4) (hsz : sz ≤ 7) (en : ((p1 &&& (2147483647 : Int32)) % (5 : Int32)) = Int32.ofNat n) (es : (p2 &&& (7 : Int32)) = Int32.ofNat sz) :
    MetFree l x (head1 (Jvm.Cond.code x code maxLocals ret :: ws) room_1) (fun a U => a = #[(.int p1), (.int p2), (.int p3), (.int p4), (.int p5), (.int p6)] ∧ Z.Warmed39 U.vm ∧ U.heap = h0) (fun _ _ _ _ _ => True) (fun _ U o U' => ∃ v L, o = .returned v ∧ Q0 Z p1 p2 p3 p4 p5 p6 h0 n0 v U'.heap L ∧ FrameEnd U o U' L room_1.cells room_1.slots) := by
  refine MetFree.of_bodySF (plainFor_of_name pn_0) hisR ?_
  intro p e s m args below meth c s₁ Bd hml0 hP hK
  obtain ⟨rfl, hZ, hh⟩ := hP
  have hx := Bd.exec
  have hby := Bd.bytes
  have hml : c.maxLocals = 14 := hml0
  have hown : s.vm.findClass "com/example/fairjoin/fairjoin/operator/KeyIndexCountsPinLaw" = some m.cls := findClass_of_methodNamed Bd.named
  have hnm := (name_of_methodNamed Bd.named Bd.method).1
  have X0 : Stand p l e room_1 s m #[(.int p1), (.int p2), (.int p3), (.int p4), (.int p5), (.int p6)] below meth c s₁ [] 0 0 := Stand.of_body Bd
  have e0 : s₁.heap = h0 := by rw [← hh, Bd.state]; rfl
  have N0 := Fr.nil n0
  have pre0 : ∀ t, Steps p.tables e below (s₁.setTop (mkF m 0 #[.val (.int p1), .val (.int p2), .val (.int p3), .val (.int p4), .val (.int p5), .val (.int p6), .unset, .unset, .unset, .unset, .unset, .unset, .unset, .unset] [])) t → Steps p.tables e below (s₁.setTop (entryFrame m #[(.int p1), (.int p2), (.int p3), (.int p4), (.int p5), (.int p6)] maxLocals)) t := fun t ktt => castTop (ef_0 m p1 p2 p3 p4 p5 p6) ktt
  obtain ⟨_, _, ⟨T7, L7, k7, n7⟩, -, X7, ⟨Lc7, hQ7, l7, y7, z7⟩, st7⟩ := Jvm.LawKit.callS X0 hx (y := (⟨"com/example/fairjoin/fairjoin/operator/KeyIndexCountsPinLaw", "draw", "(II)I"⟩ : MethodName)) hown (mvT hZ (hw _ (List.mem_of_getElem? (i := 1) rfl))) (mvT hZ (hw _ (List.mem_of_getElem? (i := 2) rfl))) (mvT hZ (hw _ (List.mem_of_getElem? (i := 3) rfl))) (mvT hZ (hw _ (List.mem_of_getElem? (i := 4) rfl))) (by decide) (backOf (W := 0) (rm1 l Z a0 hw [] p3 (Int32.ofNat sz) h0 n0 Z0 (own_s1z sz hsz)) hZ (hw _ (List.mem_of_getElem? (i := 4) rfl)) (hw _ (List.mem_of_getElem? (i := 3) rfl)) (by decide) (by decide)) (g := (mkF m 17 #[.val (.int p1), .val (.int p2), .val (.int p3), .val (.int p4), .val (.int p5), .val (.int p6), .val (.int (Int32.ofNat sz)), .val (.int (Int32.ofNat n)), .unset, .unset, .unset, .unset, .unset, .unset] [(.int (Int32.ofNat sz)), (.int p3)])) rfl (by rw [hml]; rfl) (argsL := [(.int p3), (.int (Int32.ofNat sz))]) (rest := []) (lenOf pd_0_0 rfl) rfl (by show 2 * 0 + _ ≤ _; exact Nat.le_of_eq rfl) (hb hby at_17) (fun _ _ => ⟨rfl, e0, (by decide : 0 + 0 ≤ _), (by decide : 0 + 0 ≤ _)⟩)
  dsimp only [Pt.U, Pt.locs, Pt.cells, Pt.slots] at X7 l7 y7 z7 st7 hQ7
  subst l7 y7 z7
  obtain ⟨rfl, N7q, e7⟩ := hQ7
  have Z7 : n0 ≤ T7.heap.size := by rw [e7]; exact Z0
  have N7 := Fr.app N0 N7q
  obtain ⟨_, _, ⟨T8, L8, k8, n8⟩, -, X8, ⟨Lc8, hQ8, l8, y8, z8⟩, st8⟩ := Jvm.LawKit.callS X7 hx (y := (⟨"com/example/fairjoin/fairjoin/operator/KeyIndexCountsPinLaw", "draw", "(II)I"⟩ : MethodName)) hown (mvT hZ (hw _ (List.mem_of_getElem? (i := 1) rfl))) (mvT hZ (hw _ (List.mem_of_getElem? (i := 2) rfl))) (mvT hZ (hw _ (List.mem_of_getElem? (i := 3) rfl))) (mvT hZ (hw _ (List.mem_of_getElem? (i := 4) rfl))) (by decide) (backOf (W := 0) (rm1 l Z a0 hw [] p4 (Int32.ofNat sz) T7.heap n0 Z7 (own_s1z sz hsz)) hZ (hw _ (List.mem_of_getElem? (i := 4) rfl)) (hw _ (List.mem_of_getElem? (i := 3) rfl)) (by decide) (by decide)) (g := (mkF m 25 #[.val (.int p1), .val (.int p2), .val (.int p3), .val (.int p4), .val (.int p5), .val (.int p6), .val (.int (Int32.ofNat sz)), .val (.int (Int32.ofNat n)), .val (.int (own_draw p3 (Int32.ofNat sz))), .unset, .unset, .unset, .unset, .unset] [(.int (Int32.ofNat sz)), (.int p4)])) rfl (by rw [hml]; rfl) (argsL := [(.int p4), (.int (Int32.ofNat sz))]) (rest := []) (lenOf pd_0_0 rfl) rfl (by show 2 * 0 + _ ≤ _; exact Nat.le_of_eq rfl) (hb hby at_25) (fun _ _ => ⟨rfl, rfl, (by decide : 0 + 0 ≤ _), (by decide : 0 + 0 ≤ _)⟩)
  dsimp only [Pt.U, Pt.locs, Pt.cells, Pt.slots] at X8 l8 y8 z8 st8 hQ8
  subst l8 y8 z8
  obtain ⟨rfl, N8q, e8⟩ := hQ8
  have Z8 : n0 ≤ T8.heap.size := by rw [e8]; exact Z7
  have N8 := Fr.app N7 N8q
  obtain ⟨_, _, ⟨T9, L9, k9, n9⟩, -, X9, ⟨Lc9, hQ9, l9, y9, z9⟩, st9⟩ := Jvm.LawKit.callS X8 hx (y := (⟨"com/example/fairjoin/fairjoin/operator/KeyIndexCountsPinLaw", "draw", "(II)I"⟩ : MethodName)) hown (mvT hZ (hw _ (List.mem_of_getElem? (i := 1) rfl))) (mvT hZ (hw _ (List.mem_of_getElem? (i := 2) rfl))) (mvT hZ (hw _ (List.mem_of_getElem? (i := 3) rfl))) (mvT hZ (hw _ (List.mem_of_getElem? (i := 4) rfl))) (by decide) (backOf (W := 0) (rm1 l Z a0 hw [] p5 (Int32.ofNat sz) T8.heap n0 Z8 (own_s1z sz hsz)) hZ (hw _ (List.mem_of_getElem? (i := 4) rfl)) (hw _ (List.mem_of_getElem? (i := 3) rfl)) (by decide) (by decide)) (g := (mkF m 34 #[.val (.int p1), .val (.int p2), .val (.int p3), .val (.int p4), .val (.int p5), .val (.int p6), .val (.int (Int32.ofNat sz)), .val (.int (Int32.ofNat n)), .val (.int (own_draw p3 (Int32.ofNat sz))), .val (.int (own_draw p4 (Int32.ofNat sz))), .unset, .unset, .unset, .unset] [(.int (Int32.ofNat sz)), (.int p5)])) rfl (by rw [hml]; rfl) (argsL := [(.int p5), (.int (Int32.ofNat sz))]) (rest := []) (lenOf pd_0_0 rfl) rfl (by show 2 * 0 + _ ≤ _; exact Nat.le_of_eq rfl) (hb hby at_34) (fun _ _ => ⟨rfl, rfl, (by decide : 0 + 0 ≤ _), (by decide : 0 + 0 ≤ _)⟩)
  dsimp only [Pt.U, Pt.locs, Pt.cells, Pt.slots] at X9 l9 y9 z9 st9 hQ9
  subst l9 y9 z9
  obtain ⟨rfl, N9q, e9⟩ := hQ9
  have Z9 : n0 ≤ T9.heap.size := by rw [e9]; exact Z8
  have N9 := Fr.app N8 N9q
  obtain ⟨_, _, ⟨T10, L10, k10, n10⟩, -, X10, ⟨Lc10, hQ10, l10, y10, z10⟩, st10⟩ := Jvm.LawKit.callS X9 hx (y := (⟨"com/example/fairjoin/fairjoin/operator/KeyIndexCountsPinLaw", "draw", "(II)I"⟩ : MethodName)) hown (mvT hZ (hw _ (List.mem_of_getElem? (i := 1) rfl))) (mvT hZ (hw _ (List.mem_of_getElem? (i := 2) rfl))) (mvT hZ (hw _ (List.mem_of_getElem? (i := 3) rfl))) (mvT hZ (hw _ (List.mem_of_getElem? (i := 4) rfl))) (by decide) (backOf (W := 0) (rm1 l Z a0 hw [] p6 (Int32.ofNat sz) T9.heap n0 Z9 (own_s1z sz hsz)) hZ (hw _ (List.mem_of_getElem? (i := 4) rfl)) (hw _ (List.mem_of_getElem? (i := 3) rfl)) (by decide) (by decide)) (g := (mkF m 43 #[.val (.int p1), .val (.int p2), .val (.int p3), .val (.int p4), .val (.int p5), .val (.int p6), .val (.int (Int32.ofNat sz)), .val (.int (Int32.ofNat n)), .val (.int (own_draw p3 (Int32.ofNat sz))), .val (.int (own_draw p4 (Int32.ofNat sz))), .val (.int (own_draw p5 (Int32.ofNat sz))), .unset, .unset, .unset] [(.int (Int32.ofNat sz)), (.int p6)])) rfl (by rw [hml]; rfl) (argsL := [(.int p6), (.int (Int32.ofNat sz))]) (rest := []) (lenOf pd_0_0 rfl) rfl (by show 2 * 0 + _ ≤ _; exact Nat.le_of_eq rfl) (hb hby at_43) (fun _ _ => ⟨rfl, rfl, (by decide : 0 + 0 ≤ _), (by decide : 0 + 0 ≤ _)⟩)
  dsimp only [Pt.U, Pt.locs, Pt.cells, Pt.slots] at X10 l10 y10 z10 st10 hQ10
  subst l10 y10 z10
  obtain ⟨rfl, N10q, e10⟩ := hQ10
  have Z10 : n0 ≤ T10.heap.size := by rw [e10]; exact Z9
  have N10 := Fr.app N9 N10q
  obtain ⟨T11, h11, k11, X11, e11, E11, A11, st11⟩ := newP X10 hx hZ (hw _ (List.mem_of_getElem? (i := 5) rfl)) rfl (g := (mkF m 50 #[.val (.int p1), .val (.int p2), .val (.int p3), .val (.int p4), .val (.int p5), .val (.int p6), .val (.int (Int32.ofNat sz)), .val (.int (Int32.ofNat n)), .val (.int (own_draw p3 (Int32.ofNat sz))), .val (.int (own_draw p4 (Int32.ofNat sz))), .val (.int (own_draw p5 (Int32.ofNat sz))), .val (.int (own_draw p6 (Int32.ofNat sz))), .unset, .unset] [(.int (Int32.ofNat n))])) rfl (hb hby at_50) rfl (own_pos (by omega)) (cap := 4) (by rw [own_clamp (by omega)]; exact hn) (by decide) (by decide) (by decide)
  obtain ⟨b11, g11⟩ : ∃ z, z = T10.heap.size := ⟨_, rfl⟩
  rw [← g11] at A11 st11
  have g_b11 : n0 ≤ b11 := Nat.le_trans Z10 (Nat.le_of_eq g11.symm)
  have Z11 : n0 ≤ h11.size := Nat.le_trans Z10 E11.1
  have B11 : OwA Z h11 b11 .int n (own_nv (own_draw p3 (Int32.ofNat sz)) (own_draw p4 (Int32.ofNat sz)) (own_draw p5 (Int32.ofNat sz)) (own_draw p6 (Int32.ofNat sz)) 0) := owa_congr (owa_new A11 (own_clamp (by omega))) (fun j hj => rfl)
  obtain ⟨UA, hUA, LUA, XUA, eUA, NUA, zUA, BUA, stUA⟩ := pcS0 p1 p2 p3 p4 p5 p6 sz n hn (own_draw p3 (Int32.ofNat sz)) (own_draw p4 (Int32.ofNat sz)) (own_draw p5 (Int32.ofNat sz)) (own_draw p6 (Int32.ofNat sz)) b11 n0 X11 hx hZ hw hby hml hown e11 N10 g_b11 B11
  obtain ⟨UB, hUB, LUB, XUB, eUB, NUB, zUB, BUB, stUB⟩ := pcS1 p1 p2 p3 p4 p5 p6 sz n hn (own_draw p3 (Int32.ofNat sz)) (own_draw p4 (Int32.ofNat sz)) (own_draw p5 (Int32.ofNat sz)) (own_draw p6 (Int32.ofNat sz)) b11 n0 XUA hx hZ hw hby hml hown eUA NUA g_b11 BUA
  obtain ⟨UC, hUC, LUC, XUC, eUC, NUC, zUC, BUC, stUC⟩ := pcS2 p1 p2 p3 p4 p5 p6 sz n hn (own_draw p3 (Int32.ofNat sz)) (own_draw p4 (Int32.ofNat sz)) (own_draw p5 (Int32.ofNat sz)) (own_draw p6 (Int32.ofNat sz)) b11 n0 XUB hx hZ hw hby hml hown eUB NUB g_b11 BUB
  obtain ⟨UD, hUD, LUD, XUD, eUD, NUD, zUD, BUD, stUD⟩ := pcS3 p1 p2 p3 p4 p5 p6 sz n hn (own_draw p3 (Int32.ofNat sz)) (own_draw p4 (Int32.ofNat sz)) (own_draw p5 (Int32.ofNat sz)) (own_draw p6 (Int32.ofNat sz)) b11 n0 XUC hx hZ hw hby hml hown eUC NUC g_b11 BUC
  have ZUD : n0 ≤ hUD.size := Nat.le_trans (Nat.le_trans (Nat.le_trans (Nat.le_trans Z11 zUA) zUB) zUC) zUD
  have BV : OwA Z hUD b11 .int n (fun j => .int ((own_x (own_draw p3 (Int32.ofNat sz)) (own_draw p4 (Int32.ofNat sz)) (own_draw p5 (Int32.ofNat sz)) (own_draw p6 (Int32.ofNat sz))) j)) := owa_congr BUD (fun j hj => own_nend _ _ _ _ j n hj hn)
  have hok : ∀ j, j < n → own_ok ((own_x (own_draw p3 (Int32.ofNat sz)) (own_draw p4 (Int32.ofNat sz)) (own_draw p5 (Int32.ofNat sz)) (own_draw p6 (Int32.ofNat sz))) j) sz := fun j hj => by
    have hc : j = 0 ∨ j = 1 ∨ j = 2 ∨ j = 3 := by omega
    rcases hc with rfl | rfl | rfl | rfl <;> exact own_draw_ok _ sz hsz
  obtain ⟨_, _, ⟨T12, L12, k12, n12⟩, -, X12, ⟨Lc12, hQ12, l12, y12, z12⟩, st12⟩ := Jvm.LawKit.callS XUD hx (y := (⟨"com/example/fairjoin/fairjoin/operator/KeyIndex", "counts", "([II)[I"⟩ : MethodName)) hown (mvT hZ (hw _ (List.mem_of_getElem? (i := 6) rfl))) (mvT hZ (hw _ (List.mem_of_getElem? (i := 7) rfl))) (mvT hZ (hw _ (List.mem_of_getElem? (i := 8) rfl))) (mvT hZ (hw _ (List.mem_of_getElem? (i := 9) rfl))) (by decide) (backOf (W := 0) (rm2 l Z a0 hw [] b11 n sz (own_x (own_draw p3 (Int32.ofNat sz)) (own_draw p4 (Int32.ofNat sz)) (own_draw p5 (Int32.ofNat sz)) (own_draw p6 (Int32.ofNat sz))) hUD n0 ZUD hn hsz hok BV) hZ (hw _ (List.mem_of_getElem? (i := 9) rfl)) (hw _ (List.mem_of_getElem? (i := 8) rfl)) (by decide) (by decide)) (g := (mkF m 105 #[.val (.int p1), .val (.int p2), .val (.int p3), .val (.int p4), .val (.int p5), .val (.int p6), .val (.int (Int32.ofNat sz)), .val (.int (Int32.ofNat n)), .val (.int (own_draw p3 (Int32.ofNat sz))), .val (.int (own_draw p4 (Int32.ofNat sz))), .val (.int (own_draw p5 (Int32.ofNat sz))), .val (.int (own_draw p6 (Int32.ofNat sz))), .val (.ref b11), .unset] [(.int (Int32.ofNat sz)), (.ref b11)])) rfl (by rw [hml]; rfl) (argsL := [(.ref b11), (.int (Int32.ofNat sz))]) (rest := []) (lenOf pd_0_1 rfl) rfl (by show 2 * 0 + _ ≤ _; exact Nat.le_of_eq rfl) (hb hby at_105) (fun _ _ => ⟨rfl, eUD, (by decide : 1 + 1 ≤ _), (by decide : 4 + 7 ≤ _)⟩)
  dsimp only [Pt.U, Pt.locs, Pt.cells, Pt.slots] at X12 l12 y12 z12 st12 hQ12
  subst l12 y12 z12
  obtain ⟨r12, rfl, N12q, K12q, R12, f12⟩ := hQ12
  have N12 := Fr.app NUD N12q
  have Z12 : n0 ≤ T12.heap.size := Nat.le_trans ZUD K12q.1
  have V12 : OwA Z T12.heap b11 .int n (fun j => .int ((own_x (own_draw p3 (Int32.ofNat sz)) (own_draw p4 (Int32.ofNat sz)) (own_draw p5 (Int32.ofNat sz)) (own_draw p6 (Int32.ofNat sz))) j)) := owa_keep BV K12q (by simp)
  have R12' := R12
  obtain ⟨cl_r12, Ar_r12, Sn_r12, H_r12⟩ := R12'
  have S_r12 : cl_r12.slots.size = (Int32.ofNat sz).toNatClampNeg := by rw [own_clamp (by omega)]; exact Sn_r12
  have N_r12 : ¬ Int32.ofNat sz < 0 := own_pos (by omega)
  obtain ⟨TA, XA, eA, stA⟩ := pcR0 p1 p2 p3 p4 p5 p6 sz n hn (own_draw p3 (Int32.ofNat sz)) (own_draw p4 (Int32.ofNat sz)) (own_draw p5 (Int32.ofNat sz)) (own_draw p6 (Int32.ofNat sz)) b11 r12 X12 hx hZ hw hby hml hown rfl V12
  obtain ⟨TB, XB, eB, stB⟩ := pcR1 p1 p2 p3 p4 p5 p6 sz n hn (own_draw p3 (Int32.ofNat sz)) (own_draw p4 (Int32.ofNat sz)) (own_draw p5 (Int32.ofNat sz)) (own_draw p6 (Int32.ofNat sz)) b11 r12 XA hx hZ hw hby hml hown eA V12
  obtain ⟨TC, XC, eC, stC⟩ := pcR2 p1 p2 p3 p4 p5 p6 sz n hn (own_draw p3 (Int32.ofNat sz)) (own_draw p4 (Int32.ofNat sz)) (own_draw p5 (Int32.ofNat sz)) (own_draw p6 (Int32.ofNat sz)) b11 r12 XB hx hZ hw hby hml hown eB V12
  obtain ⟨TD, XD, eD, stD⟩ := pcR3 p1 p2 p3 p4 p5 p6 sz n hn (own_draw p3 (Int32.ofNat sz)) (own_draw p4 (Int32.ofNat sz)) (own_draw p5 (Int32.ofNat sz)) (own_draw p6 (Int32.ofNat sz)) b11 r12 XC hx hZ hw hby hml hown eC V12
  have hE : ∀ k : Nat, own_cnt (own_x (own_draw p3 (Int32.ofNat sz)) (own_draw p4 (Int32.ofNat sz)) (own_draw p5 (Int32.ofNat sz)) (own_draw p6 (Int32.ofNat sz))) n k = ((own_hit (0 : Int32) (Int32.ofNat n) (own_draw p3 (Int32.ofNat sz)) (Int32.ofNat k) + own_hit (1 : Int32) (Int32.ofNat n) (own_draw p4 (Int32.ofNat sz)) (Int32.ofNat k)) + own_hit (2 : Int32) (Int32.ofNat n) (own_draw p5 (Int32.ofNat sz)) (Int32.ofNat k)) + own_hit (3 : Int32) (Int32.ofNat n) (own_draw p6 (Int32.ofNat sz)) (Int32.ofNat k) := fun k => own_hits _ _ _ _ n k hn
  obtain ⟨_, _, ⟨T13, L13, k13, n13⟩, -, X13, ⟨Lc13, hQ13, l13, y13, z13⟩, st13⟩ := Jvm.LawKit.callS XD hx (y := (⟨"com/example/fairjoin/fairjoin/operator/KeyIndexCountsPinLaw", "at", "([IIIIIII)Z"⟩ : MethodName)) hown (mvT hZ (hw _ (List.mem_of_getElem? (i := 10) rfl))) (mvT hZ (hw _ (List.mem_of_getElem? (i := 11) rfl))) (mvT hZ (hw _ (List.mem_of_getElem? (i := 3) rfl))) (mvT hZ (hw _ (List.mem_of_getElem? (i := 12) rfl))) (by decide) (backOf (W := 0) (rm3 l Z a0 hw [] r12 0 (Int32.ofNat n) (own_draw p3 (Int32.ofNat sz)) (own_draw p4 (Int32.ofNat sz)) (own_draw p5 (Int32.ofNat sz)) (own_draw p6 (Int32.ofNat sz)) sz (own_cnt (own_x (own_draw p3 (Int32.ofNat sz)) (own_draw p4 (Int32.ofNat sz)) (own_draw p5 (Int32.ofNat sz)) (own_draw p6 (Int32.ofNat sz))) n) T12.heap n0 Z12 (by decide) hsz R12 (hE 0)) hZ (hw _ (List.mem_of_getElem? (i := 12) rfl)) (hw _ (List.mem_of_getElem? (i := 3) rfl)) (by decide) (by decide)) (g := (mkF m 199 #[.val (.int p1), .val (.int p2), .val (.int p3), .val (.int p4), .val (.int p5), .val (.int p6), .val (.int (Int32.ofNat sz)), .val (.int (Int32.ofNat n)), .val (.int (own_draw p3 (Int32.ofNat sz))), .val (.int (own_draw p4 (Int32.ofNat sz))), .val (.int (own_draw p5 (Int32.ofNat sz))), .val (.int (own_draw p6 (Int32.ofNat sz))), .val (.ref b11), .val (.ref r12)] [(.int (own_draw p6 (Int32.ofNat sz))), (.int (own_draw p5 (Int32.ofNat sz))), (.int (own_draw p4 (Int32.ofNat sz))), (.int (own_draw p3 (Int32.ofNat sz))), (.int (Int32.ofNat n)), (.int (0 : Int32)), (.ref r12)])) rfl (by rw [hml]; rfl) (argsL := [(.ref r12), (.int (0 : Int32)), (.int (Int32.ofNat n)), (.int (own_draw p3 (Int32.ofNat sz))), (.int (own_draw p4 (Int32.ofNat sz))), (.int (own_draw p5 (Int32.ofNat sz))), (.int (own_draw p6 (Int32.ofNat sz)))]) (rest := []) (lenOf pd_0_2 rfl) rfl (by show 2 * 0 + _ ≤ _; exact Nat.le_of_eq rfl) (hb hby at_199) (fun _ _ => ⟨rfl, eD, (by decide : 2 + 0 ≤ _), (by decide : 11 + 0 ≤ _)⟩)
  dsimp only [Pt.U, Pt.locs, Pt.cells, Pt.slots] at X13 l13 y13 z13 st13 hQ13
  subst l13 y13 z13
  obtain ⟨rfl, N13q, e13⟩ := hQ13
  have Z13 : n0 ≤ T13.heap.size := by rw [e13]; exact Z12
  have R13 := owa_heap R12 e13
  have N13 := Fr.app N12 N13q
  obtain ⟨_, _, ⟨T14, L14, k14, n14⟩, -, X14, ⟨Lc14, hQ14, l14, y14, z14⟩, st14⟩ := Jvm.LawKit.callS X13 hx (y := (⟨"com/example/fairjoin/fairjoin/operator/KeyIndexCountsPinLaw", "at", "([IIIIIII)Z"⟩ : MethodName)) hown (mvT hZ (hw _ (List.mem_of_getElem? (i := 10) rfl))) (mvT hZ (hw _ (List.mem_of_getElem? (i := 11) rfl))) (mvT hZ (hw _ (List.mem_of_getElem? (i := 3) rfl))) (mvT hZ (hw _ (List.mem_of_getElem? (i := 12) rfl))) (by decide) (backOf (W := 0) (rm3 l Z a0 hw [] r12 1 (Int32.ofNat n) (own_draw p3 (Int32.ofNat sz)) (own_draw p4 (Int32.ofNat sz)) (own_draw p5 (Int32.ofNat sz)) (own_draw p6 (Int32.ofNat sz)) sz (own_cnt (own_x (own_draw p3 (Int32.ofNat sz)) (own_draw p4 (Int32.ofNat sz)) (own_draw p5 (Int32.ofNat sz)) (own_draw p6 (Int32.ofNat sz))) n) T13.heap n0 Z13 (by decide) hsz R13 (hE 1)) hZ (hw _ (List.mem_of_getElem? (i := 12) rfl)) (hw _ (List.mem_of_getElem? (i := 3) rfl)) (by decide) (by decide)) (g := (mkF m 218 #[.val (.int p1), .val (.int p2), .val (.int p3), .val (.int p4), .val (.int p5), .val (.int p6), .val (.int (Int32.ofNat sz)), .val (.int (Int32.ofNat n)), .val (.int (own_draw p3 (Int32.ofNat sz))), .val (.int (own_draw p4 (Int32.ofNat sz))), .val (.int (own_draw p5 (Int32.ofNat sz))), .val (.int (own_draw p6 (Int32.ofNat sz))), .val (.ref b11), .val (.ref r12)] [(.int (own_draw p6 (Int32.ofNat sz))), (.int (own_draw p5 (Int32.ofNat sz))), (.int (own_draw p4 (Int32.ofNat sz))), (.int (own_draw p3 (Int32.ofNat sz))), (.int (Int32.ofNat n)), (.int (1 : Int32)), (.ref r12)])) rfl (by rw [hml]; rfl) (argsL := [(.ref r12), (.int (1 : Int32)), (.int (Int32.ofNat n)), (.int (own_draw p3 (Int32.ofNat sz))), (.int (own_draw p4 (Int32.ofNat sz))), (.int (own_draw p5 (Int32.ofNat sz))), (.int (own_draw p6 (Int32.ofNat sz)))]) (rest := []) (lenOf pd_0_2 rfl) rfl (by show 2 * 0 + _ ≤ _; exact Nat.le_of_eq rfl) (hb hby at_218) (fun _ _ => ⟨rfl, rfl, (by decide : 2 + 0 ≤ _), (by decide : 11 + 0 ≤ _)⟩)
  dsimp only [Pt.U, Pt.locs, Pt.cells, Pt.slots] at X14 l14 y14 z14 st14 hQ14
  subst l14 y14 z14
  obtain ⟨rfl, N14q, e14⟩ := hQ14
  have Z14 : n0 ≤ T14.heap.size := by rw [e14]; exact Z13
  have R14 := owa_heap R13 e14
  have N14 := Fr.app N13 N14q
  obtain ⟨_, _, ⟨T15, L15, k15, n15⟩, -, X15, ⟨Lc15, hQ15, l15, y15, z15⟩, st15⟩ := Jvm.LawKit.callS X14 hx (y := (⟨"com/example/fairjoin/fairjoin/operator/KeyIndexCountsPinLaw", "at", "([IIIIIII)Z"⟩ : MethodName)) hown (mvT hZ (hw _ (List.mem_of_getElem? (i := 10) rfl))) (mvT hZ (hw _ (List.mem_of_getElem? (i := 11) rfl))) (mvT hZ (hw _ (List.mem_of_getElem? (i := 3) rfl))) (mvT hZ (hw _ (List.mem_of_getElem? (i := 12) rfl))) (by decide) (backOf (W := 0) (rm3 l Z a0 hw [] r12 2 (Int32.ofNat n) (own_draw p3 (Int32.ofNat sz)) (own_draw p4 (Int32.ofNat sz)) (own_draw p5 (Int32.ofNat sz)) (own_draw p6 (Int32.ofNat sz)) sz (own_cnt (own_x (own_draw p3 (Int32.ofNat sz)) (own_draw p4 (Int32.ofNat sz)) (own_draw p5 (Int32.ofNat sz)) (own_draw p6 (Int32.ofNat sz))) n) T14.heap n0 Z14 (by decide) hsz R14 (hE 2)) hZ (hw _ (List.mem_of_getElem? (i := 12) rfl)) (hw _ (List.mem_of_getElem? (i := 3) rfl)) (by decide) (by decide)) (g := (mkF m 237 #[.val (.int p1), .val (.int p2), .val (.int p3), .val (.int p4), .val (.int p5), .val (.int p6), .val (.int (Int32.ofNat sz)), .val (.int (Int32.ofNat n)), .val (.int (own_draw p3 (Int32.ofNat sz))), .val (.int (own_draw p4 (Int32.ofNat sz))), .val (.int (own_draw p5 (Int32.ofNat sz))), .val (.int (own_draw p6 (Int32.ofNat sz))), .val (.ref b11), .val (.ref r12)] [(.int (own_draw p6 (Int32.ofNat sz))), (.int (own_draw p5 (Int32.ofNat sz))), (.int (own_draw p4 (Int32.ofNat sz))), (.int (own_draw p3 (Int32.ofNat sz))), (.int (Int32.ofNat n)), (.int (2 : Int32)), (.ref r12)])) rfl (by rw [hml]; rfl) (argsL := [(.ref r12), (.int (2 : Int32)), (.int (Int32.ofNat n)), (.int (own_draw p3 (Int32.ofNat sz))), (.int (own_draw p4 (Int32.ofNat sz))), (.int (own_draw p5 (Int32.ofNat sz))), (.int (own_draw p6 (Int32.ofNat sz)))]) (rest := []) (lenOf pd_0_2 rfl) rfl (by show 2 * 0 + _ ≤ _; exact Nat.le_of_eq rfl) (hb hby at_237) (fun _ _ => ⟨rfl, rfl, (by decide : 2 + 0 ≤ _), (by decide : 11 + 0 ≤ _)⟩)
  dsimp only [Pt.U, Pt.locs, Pt.cells, Pt.slots] at X15 l15 y15 z15 st15 hQ15
  subst l15 y15 z15
  obtain ⟨rfl, N15q, e15⟩ := hQ15
  have Z15 : n0 ≤ T15.heap.size := by rw [e15]; exact Z14
  have R15 := owa_heap R14 e15
  have N15 := Fr.app N14 N15q
  obtain ⟨_, _, ⟨T16, L16, k16, n16⟩, -, X16, ⟨Lc16, hQ16, l16, y16, z16⟩, st16⟩ := Jvm.LawKit.callS X15 hx (y := (⟨"com/example/fairjoin/fairjoin/operator/KeyIndexCountsPinLaw", "at", "([IIIIIII)Z"⟩ : MethodName)) hown (mvT hZ (hw _ (List.mem_of_getElem? (i := 10) rfl))) (mvT hZ (hw _ (List.mem_of_getElem? (i := 11) rfl))) (mvT hZ (hw _ (List.mem_of_getElem? (i := 3) rfl))) (mvT hZ (hw _ (List.mem_of_getElem? (i := 12) rfl))) (by decide) (backOf (W := 0) (rm3 l Z a0 hw [] r12 3 (Int32.ofNat n) (own_draw p3 (Int32.ofNat sz)) (own_draw p4 (Int32.ofNat sz)) (own_draw p5 (Int32.ofNat sz)) (own_draw p6 (Int32.ofNat sz)) sz (own_cnt (own_x (own_draw p3 (Int32.ofNat sz)) (own_draw p4 (Int32.ofNat sz)) (own_draw p5 (Int32.ofNat sz)) (own_draw p6 (Int32.ofNat sz))) n) T15.heap n0 Z15 (by decide) hsz R15 (hE 3)) hZ (hw _ (List.mem_of_getElem? (i := 12) rfl)) (hw _ (List.mem_of_getElem? (i := 3) rfl)) (by decide) (by decide)) (g := (mkF m 256 #[.val (.int p1), .val (.int p2), .val (.int p3), .val (.int p4), .val (.int p5), .val (.int p6), .val (.int (Int32.ofNat sz)), .val (.int (Int32.ofNat n)), .val (.int (own_draw p3 (Int32.ofNat sz))), .val (.int (own_draw p4 (Int32.ofNat sz))), .val (.int (own_draw p5 (Int32.ofNat sz))), .val (.int (own_draw p6 (Int32.ofNat sz))), .val (.ref b11), .val (.ref r12)] [(.int (own_draw p6 (Int32.ofNat sz))), (.int (own_draw p5 (Int32.ofNat sz))), (.int (own_draw p4 (Int32.ofNat sz))), (.int (own_draw p3 (Int32.ofNat sz))), (.int (Int32.ofNat n)), (.int (3 : Int32)), (.ref r12)])) rfl (by rw [hml]; rfl) (argsL := [(.ref r12), (.int (3 : Int32)), (.int (Int32.ofNat n)), (.int (own_draw p3 (Int32.ofNat sz))), (.int (own_draw p4 (Int32.ofNat sz))), (.int (own_draw p5 (Int32.ofNat sz))), (.int (own_draw p6 (Int32.ofNat sz)))]) (rest := []) (lenOf pd_0_2 rfl) rfl (by show 2 * 0 + _ ≤ _; exact Nat.le_of_eq rfl) (hb hby at_256) (fun _ _ => ⟨rfl, rfl, (by decide : 2 + 0 ≤ _), (by decide : 11 + 0 ≤ _)⟩)
  dsimp only [Pt.U, Pt.locs, Pt.cells, Pt.slots] at X16 l16 y16 z16 st16 hQ16
  subst l16 y16 z16
  obtain ⟨rfl, N16q, e16⟩ := hQ16
  have Z16 : n0 ≤ T16.heap.size := by rw [e16]; exact Z15
  have R16 := owa_heap R15 e16
  have N16 := Fr.app N15 N16q
  obtain ⟨_, _, ⟨T17, L17, k17, n17⟩, -, X17, ⟨Lc17, hQ17, l17, y17, z17⟩, st17⟩ := Jvm.LawKit.callS X16 hx (y := (⟨"com/example/fairjoin/fairjoin/operator/KeyIndexCountsPinLaw", "at", "([IIIIIII)Z"⟩ : MethodName)) hown (mvT hZ (hw _ (List.mem_of_getElem? (i := 10) rfl))) (mvT hZ (hw _ (List.mem_of_getElem? (i := 11) rfl))) (mvT hZ (hw _ (List.mem_of_getElem? (i := 3) rfl))) (mvT hZ (hw _ (List.mem_of_getElem? (i := 12) rfl))) (by decide) (backOf (W := 0) (rm3 l Z a0 hw [] r12 4 (Int32.ofNat n) (own_draw p3 (Int32.ofNat sz)) (own_draw p4 (Int32.ofNat sz)) (own_draw p5 (Int32.ofNat sz)) (own_draw p6 (Int32.ofNat sz)) sz (own_cnt (own_x (own_draw p3 (Int32.ofNat sz)) (own_draw p4 (Int32.ofNat sz)) (own_draw p5 (Int32.ofNat sz)) (own_draw p6 (Int32.ofNat sz))) n) T16.heap n0 Z16 (by decide) hsz R16 (hE 4)) hZ (hw _ (List.mem_of_getElem? (i := 12) rfl)) (hw _ (List.mem_of_getElem? (i := 3) rfl)) (by decide) (by decide)) (g := (mkF m 275 #[.val (.int p1), .val (.int p2), .val (.int p3), .val (.int p4), .val (.int p5), .val (.int p6), .val (.int (Int32.ofNat sz)), .val (.int (Int32.ofNat n)), .val (.int (own_draw p3 (Int32.ofNat sz))), .val (.int (own_draw p4 (Int32.ofNat sz))), .val (.int (own_draw p5 (Int32.ofNat sz))), .val (.int (own_draw p6 (Int32.ofNat sz))), .val (.ref b11), .val (.ref r12)] [(.int (own_draw p6 (Int32.ofNat sz))), (.int (own_draw p5 (Int32.ofNat sz))), (.int (own_draw p4 (Int32.ofNat sz))), (.int (own_draw p3 (Int32.ofNat sz))), (.int (Int32.ofNat n)), (.int (4 : Int32)), (.ref r12)])) rfl (by rw [hml]; rfl) (argsL := [(.ref r12), (.int (4 : Int32)), (.int (Int32.ofNat n)), (.int (own_draw p3 (Int32.ofNat sz))), (.int (own_draw p4 (Int32.ofNat sz))), (.int (own_draw p5 (Int32.ofNat sz))), (.int (own_draw p6 (Int32.ofNat sz)))]) (rest := []) (lenOf pd_0_2 rfl) rfl (by show 2 * 0 + _ ≤ _; exact Nat.le_of_eq rfl) (hb hby at_275) (fun _ _ => ⟨rfl, rfl, (by decide : 2 + 0 ≤ _), (by decide : 11 + 0 ≤ _)⟩)
  dsimp only [Pt.U, Pt.locs, Pt.cells, Pt.slots] at X17 l17 y17 z17 st17 hQ17
  subst l17 y17 z17
  obtain ⟨rfl, N17q, e17⟩ := hQ17
  have Z17 : n0 ≤ T17.heap.size := by rw [e17]; exact Z16
  have R17 := owa_heap R16 e17
  have N17 := Fr.app N16 N17q
  obtain ⟨_, _, ⟨T18, L18, k18, n18⟩, -, X18, ⟨Lc18, hQ18, l18, y18, z18⟩, st18⟩ := Jvm.LawKit.callS X17 hx (y := (⟨"com/example/fairjoin/fairjoin/operator/KeyIndexCountsPinLaw", "at", "([IIIIIII)Z"⟩ : MethodName)) hown (mvT hZ (hw _ (List.mem_of_getElem? (i := 10) rfl))) (mvT hZ (hw _ (List.mem_of_getElem? (i := 11) rfl))) (mvT hZ (hw _ (List.mem_of_getElem? (i := 3) rfl))) (mvT hZ (hw _ (List.mem_of_getElem? (i := 12) rfl))) (by decide) (backOf (W := 0) (rm3 l Z a0 hw [] r12 5 (Int32.ofNat n) (own_draw p3 (Int32.ofNat sz)) (own_draw p4 (Int32.ofNat sz)) (own_draw p5 (Int32.ofNat sz)) (own_draw p6 (Int32.ofNat sz)) sz (own_cnt (own_x (own_draw p3 (Int32.ofNat sz)) (own_draw p4 (Int32.ofNat sz)) (own_draw p5 (Int32.ofNat sz)) (own_draw p6 (Int32.ofNat sz))) n) T17.heap n0 Z17 (by decide) hsz R17 (hE 5)) hZ (hw _ (List.mem_of_getElem? (i := 12) rfl)) (hw _ (List.mem_of_getElem? (i := 3) rfl)) (by decide) (by decide)) (g := (mkF m 294 #[.val (.int p1), .val (.int p2), .val (.int p3), .val (.int p4), .val (.int p5), .val (.int p6), .val (.int (Int32.ofNat sz)), .val (.int (Int32.ofNat n)), .val (.int (own_draw p3 (Int32.ofNat sz))), .val (.int (own_draw p4 (Int32.ofNat sz))), .val (.int (own_draw p5 (Int32.ofNat sz))), .val (.int (own_draw p6 (Int32.ofNat sz))), .val (.ref b11), .val (.ref r12)] [(.int (own_draw p6 (Int32.ofNat sz))), (.int (own_draw p5 (Int32.ofNat sz))), (.int (own_draw p4 (Int32.ofNat sz))), (.int (own_draw p3 (Int32.ofNat sz))), (.int (Int32.ofNat n)), (.int (5 : Int32)), (.ref r12)])) rfl (by rw [hml]; rfl) (argsL := [(.ref r12), (.int (5 : Int32)), (.int (Int32.ofNat n)), (.int (own_draw p3 (Int32.ofNat sz))), (.int (own_draw p4 (Int32.ofNat sz))), (.int (own_draw p5 (Int32.ofNat sz))), (.int (own_draw p6 (Int32.ofNat sz)))]) (rest := []) (lenOf pd_0_2 rfl) rfl (by show 2 * 0 + _ ≤ _; exact Nat.le_of_eq rfl) (hb hby at_294) (fun _ _ => ⟨rfl, rfl, (by decide : 2 + 0 ≤ _), (by decide : 11 + 0 ≤ _)⟩)
  dsimp only [Pt.U, Pt.locs, Pt.cells, Pt.slots] at X18 l18 y18 z18 st18 hQ18
  subst l18 y18 z18
  obtain ⟨rfl, N18q, e18⟩ := hQ18
  have Z18 : n0 ≤ T18.heap.size := by rw [e18]; exact Z17
  have R18 := owa_heap R17 e18
  have N18 := Fr.app N17 N18q
  obtain ⟨_, _, ⟨T19, L19, k19, n19⟩, -, X19, ⟨Lc19, hQ19, l19, y19, z19⟩, st19⟩ := Jvm.LawKit.callS X18 hx (y := (⟨"com/example/fairjoin/fairjoin/operator/KeyIndexCountsPinLaw", "at", "([IIIIIII)Z"⟩ : MethodName)) hown (mvT hZ (hw _ (List.mem_of_getElem? (i := 10) rfl))) (mvT hZ (hw _ (List.mem_of_getElem? (i := 11) rfl))) (mvT hZ (hw _ (List.mem_of_getElem? (i := 3) rfl))) (mvT hZ (hw _ (List.mem_of_getElem? (i := 12) rfl))) (by decide) (backOf (W := 0) (rm3 l Z a0 hw [] r12 6 (Int32.ofNat n) (own_draw p3 (Int32.ofNat sz)) (own_draw p4 (Int32.ofNat sz)) (own_draw p5 (Int32.ofNat sz)) (own_draw p6 (Int32.ofNat sz)) sz (own_cnt (own_x (own_draw p3 (Int32.ofNat sz)) (own_draw p4 (Int32.ofNat sz)) (own_draw p5 (Int32.ofNat sz)) (own_draw p6 (Int32.ofNat sz))) n) T18.heap n0 Z18 (by decide) hsz R18 (hE 6)) hZ (hw _ (List.mem_of_getElem? (i := 12) rfl)) (hw _ (List.mem_of_getElem? (i := 3) rfl)) (by decide) (by decide)) (g := (mkF m 314 #[.val (.int p1), .val (.int p2), .val (.int p3), .val (.int p4), .val (.int p5), .val (.int p6), .val (.int (Int32.ofNat sz)), .val (.int (Int32.ofNat n)), .val (.int (own_draw p3 (Int32.ofNat sz))), .val (.int (own_draw p4 (Int32.ofNat sz))), .val (.int (own_draw p5 (Int32.ofNat sz))), .val (.int (own_draw p6 (Int32.ofNat sz))), .val (.ref b11), .val (.ref r12)] [(.int (own_draw p6 (Int32.ofNat sz))), (.int (own_draw p5 (Int32.ofNat sz))), (.int (own_draw p4 (Int32.ofNat sz))), (.int (own_draw p3 (Int32.ofNat sz))), (.int (Int32.ofNat n)), (.int (6 : Int32)), (.ref r12)])) rfl (by rw [hml]; rfl) (argsL := [(.ref r12), (.int (6 : Int32)), (.int (Int32.ofNat n)), (.int (own_draw p3 (Int32.ofNat sz))), (.int (own_draw p4 (Int32.ofNat sz))), (.int (own_draw p5 (Int32.ofNat sz))), (.int (own_draw p6 (Int32.ofNat sz)))]) (rest := []) (lenOf pd_0_2 rfl) rfl (by show 2 * 0 + _ ≤ _; exact Nat.le_of_eq rfl) (hb hby at_314) (fun _ _ => ⟨rfl, rfl, (by decide : 2 + 0 ≤ _), (by decide : 11 + 0 ≤ _)⟩)
  dsimp only [Pt.U, Pt.locs, Pt.cells, Pt.slots] at X19 l19 y19 z19 st19 hQ19
  subst l19 y19 z19
  obtain ⟨rfl, N19q, e19⟩ := hQ19
  have Z19 : n0 ≤ T19.heap.size := by rw [e19]; exact Z18
  have R19 := owa_heap R18 e19
  have N19 := Fr.app N18 N19q
  obtain ⟨_, _, ⟨T20, L20, k20, n20⟩, -, X20, ⟨Lc20, hQ20, l20, y20, z20⟩, st20⟩ := Jvm.LawKit.callS X19 hx (y := (⟨"com/example/fairjoin/fairjoin/operator/KeyIndexCountsPinLaw", "at", "([IIIIIII)Z"⟩ : MethodName)) hown (mvT hZ (hw _ (List.mem_of_getElem? (i := 10) rfl))) (mvT hZ (hw _ (List.mem_of_getElem? (i := 11) rfl))) (mvT hZ (hw _ (List.mem_of_getElem? (i := 3) rfl))) (mvT hZ (hw _ (List.mem_of_getElem? (i := 12) rfl))) (by decide) (backOf (W := 0) (rm3 l Z a0 hw [] r12 7 (Int32.ofNat n) (own_draw p3 (Int32.ofNat sz)) (own_draw p4 (Int32.ofNat sz)) (own_draw p5 (Int32.ofNat sz)) (own_draw p6 (Int32.ofNat sz)) sz (own_cnt (own_x (own_draw p3 (Int32.ofNat sz)) (own_draw p4 (Int32.ofNat sz)) (own_draw p5 (Int32.ofNat sz)) (own_draw p6 (Int32.ofNat sz))) n) T19.heap n0 Z19 (by decide) hsz R19 (hE 7)) hZ (hw _ (List.mem_of_getElem? (i := 12) rfl)) (hw _ (List.mem_of_getElem? (i := 3) rfl)) (by decide) (by decide)) (g := (mkF m 334 #[.val (.int p1), .val (.int p2), .val (.int p3), .val (.int p4), .val (.int p5), .val (.int p6), .val (.int (Int32.ofNat sz)), .val (.int (Int32.ofNat n)), .val (.int (own_draw p3 (Int32.ofNat sz))), .val (.int (own_draw p4 (Int32.ofNat sz))), .val (.int (own_draw p5 (Int32.ofNat sz))), .val (.int (own_draw p6 (Int32.ofNat sz))), .val (.ref b11), .val (.ref r12)] [(.int (own_draw p6 (Int32.ofNat sz))), (.int (own_draw p5 (Int32.ofNat sz))), (.int (own_draw p4 (Int32.ofNat sz))), (.int (own_draw p3 (Int32.ofNat sz))), (.int (Int32.ofNat n)), (.int (7 : Int32)), (.ref r12)])) rfl (by rw [hml]; rfl) (argsL := [(.ref r12), (.int (7 : Int32)), (.int (Int32.ofNat n)), (.int (own_draw p3 (Int32.ofNat sz))), (.int (own_draw p4 (Int32.ofNat sz))), (.int (own_draw p5 (Int32.ofNat sz))), (.int (own_draw p6 (Int32.ofNat sz)))]) (rest := []) (lenOf pd_0_2 rfl) rfl (by show 2 * 0 + _ ≤ _; exact Nat.le_of_eq rfl) (hb hby at_334) (fun _ _ => ⟨rfl, rfl, (by decide : 2 + 0 ≤ _), (by decide : 11 + 0 ≤ _)⟩)
  dsimp only [Pt.U, Pt.locs, Pt.cells, Pt.slots] at X20 l20 y20 z20 st20 hQ20
  subst l20 y20 z20
  obtain ⟨rfl, N20q, e20⟩ := hQ20
  have Z20 : n0 ≤ T20.heap.size := by rw [e20]; exact Z19
  have R20 := owa_heap R19 e20
  have N20 := Fr.app N19 N20q
  obtain ⟨fs, hr, hrun, hended, hW, hsame⟩ := X20.leave (v := some (.int (1 : Int32))) (fun h => by rw [Bd.returns] at h; cases h)
  refine ⟨_, _, pre0 _ ?_, hrun, hended, _, _, rfl, ?_, ⟨_, rfl⟩, hW, hsame.mono (by decide) (by decide)⟩
  · show Steps p.tables e below (s₁.setTop (mkF m 0 #[.val (.int p1), .val (.int p2), .val (.int p3), .val (.int p4), .val (.int p5), .val (.int p6), .unset, .unset, .unset, .unset, .unset, .unset, .unset, .unset] [])) _
    refine XS.iloadN X0.here hx rfl (hb hby at_0) rfl ?_
    show Steps p.tables e below (s₁.setTop (mkF m 1 #[.val (.int p1), .val (.int p2), .val (.int p3), .val (.int p4), .val (.int p5), .val (.int p6), .unset, .unset, .unset, .unset, .unset, .unset, .unset, .unset] [(.int p2)])) _
    refine XS.bipush X0.here hx rfl (hb hby at_1) ?_
    show Steps p.tables e below (s₁.setTop (mkF m 3 #[.val (.int p1), .val (.int p2), .val (.int p3), .val (.int p4), .val (.int p5), .val (.int p6), .unset, .unset, .unset, .unset, .unset, .unset, .unset, .unset] [(.int (7 : Int32)), (.int p2)])) _
    refine XS.iand X0.here hx rfl (hb hby at_3) rfl ?_
    rw [es]
    show Steps p.tables e below (s₁.setTop (mkF m 4 #[.val (.int p1), .val (.int p2), .val (.int p3), .val (.int p4), .val (.int p5), .val (.int p6), .unset, .unset, .unset, .unset, .unset, .unset, .unset, .unset] [(.int (Int32.ofNat sz))])) _
    refine XS.istore X0.here hx rfl (hb hby at_4) rfl (l' := #[.val (.int p1), .val (.int p2), .val (.int p3), .val (.int p4), .val (.int p5), .val (.int p6), .val (.int (Int32.ofNat sz)), .unset, .unset, .unset, .unset, .unset, .unset, .unset]) rfl ?_
    show Steps p.tables e below (s₁.setTop (mkF m 6 #[.val (.int p1), .val (.int p2), .val (.int p3), .val (.int p4), .val (.int p5), .val (.int p6), .val (.int (Int32.ofNat sz)), .unset, .unset, .unset, .unset, .unset, .unset, .unset] [])) _
    refine XS.iloadN X0.here hx rfl (hb hby at_6) rfl ?_
    show Steps p.tables e below (s₁.setTop (mkF m 7 #[.val (.int p1), .val (.int p2), .val (.int p3), .val (.int p4), .val (.int p5), .val (.int p6), .val (.int (Int32.ofNat sz)), .unset, .unset, .unset, .unset, .unset, .unset, .unset] [(.int p1)])) _
    refine X0.ldcInt hx hown (mvT hZ (hw _ (List.mem_of_getElem? (i := 0) rfl))) (g := (mkF m 7 #[.val (.int p1), .val (.int p2), .val (.int p3), .val (.int p4), .val (.int p5), .val (.int p6), .val (.int (Int32.ofNat sz)), .unset, .unset, .unset, .unset, .unset, .unset, .unset] [(.int p1)])) rfl (hb hby at_7) _ ?_
    show Steps p.tables e below (s₁.setTop (mkF m 9 #[.val (.int p1), .val (.int p2), .val (.int p3), .val (.int p4), .val (.int p5), .val (.int p6), .val (.int (Int32.ofNat sz)), .unset, .unset, .unset, .unset, .unset, .unset, .unset] [(.int (2147483647 : Int32)), (.int p1)])) _
    refine XS.iand X0.here hx rfl (hb hby at_9) rfl ?_
    show Steps p.tables e below (s₁.setTop (mkF m 10 #[.val (.int p1), .val (.int p2), .val (.int p3), .val (.int p4), .val (.int p5), .val (.int p6), .val (.int (Int32.ofNat sz)), .unset, .unset, .unset, .unset, .unset, .unset, .unset] [(.int (p1 &&& (2147483647 : Int32)))])) _
    refine XS.iconst X0.here hx rfl (hb hby at_10) ?_
    show Steps p.tables e below (s₁.setTop (mkF m 11 #[.val (.int p1), .val (.int p2), .val (.int p3), .val (.int p4), .val (.int p5), .val (.int p6), .val (.int (Int32.ofNat sz)), .unset, .unset, .unset, .unset, .unset, .unset, .unset] [(.int (5 : Int32)), (.int (p1 &&& (2147483647 : Int32)))])) _
    refine iremM X0 hx rfl (hb hby at_11) rfl (by decide) ?_
    rw [en]
    show Steps p.tables e below (s₁.setTop (mkF m 12 #[.val (.int p1), .val (.int p2), .val (.int p3), .val (.int p4), .val (.int p5), .val (.int p6), .val (.int (Int32.ofNat sz)), .unset, .unset, .unset, .unset, .unset, .unset, .unset] [(.int (Int32.ofNat n))])) _
    refine XS.istore X0.here hx rfl (hb hby at_12) rfl (l' := #[.val (.int p1), .val (.int p2), .val (.int p3), .val (.int p4), .val (.int p5), .val (.int p6), .val (.int (Int32.ofNat sz)), .val (.int (Int32.ofNat n)), .unset, .unset, .unset, .unset, .unset, .unset]) rfl ?_
    show Steps p.tables e below (s₁.setTop (mkF m 14 #[.val (.int p1), .val (.int p2), .val (.int p3), .val (.int p4), .val (.int p5), .val (.int p6), .val (.int (Int32.ofNat sz)), .val (.int (Int32.ofNat n)), .unset, .unset, .unset, .unset, .unset, .unset] [])) _
    refine XS.iloadN X0.here hx rfl (hb hby at_14) rfl ?_
    show Steps p.tables e below (s₁.setTop (mkF m 15 #[.val (.int p1), .val (.int p2), .val (.int p3), .val (.int p4), .val (.int p5), .val (.int p6), .val (.int (Int32.ofNat sz)), .val (.int (Int32.ofNat n)), .unset, .unset, .unset, .unset, .unset, .unset] [(.int p3)])) _
    refine XS.iload X0.here hx rfl (hb hby at_15) rfl ?_
    show Steps p.tables e below (s₁.setTop (mkF m 17 #[.val (.int p1), .val (.int p2), .val (.int p3), .val (.int p4), .val (.int p5), .val (.int p6), .val (.int (Int32.ofNat sz)), .val (.int (Int32.ofNat n)), .unset, .unset, .unset, .unset, .unset, .unset] [(.int (Int32.ofNat sz)), (.int p3)])) _
    refine st7 _ ?_
    show Steps p.tables e below (T7.setTop (mkF m 20 #[.val (.int p1), .val (.int p2), .val (.int p3), .val (.int p4), .val (.int p5), .val (.int p6), .val (.int (Int32.ofNat sz)), .val (.int (Int32.ofNat n)), .unset, .unset, .unset, .unset, .unset, .unset] [(.int (own_draw p3 (Int32.ofNat sz)))])) _
    refine XS.istore X7.here hx rfl (hb hby at_20) rfl (l' := #[.val (.int p1), .val (.int p2), .val (.int p3), .val (.int p4), .val (.int p5), .val (.int p6), .val (.int (Int32.ofNat sz)), .val (.int (Int32.ofNat n)), .val (.int (own_draw p3 (Int32.ofNat sz))), .unset, .unset, .unset, .unset, .unset]) rfl ?_
    show Steps p.tables e below (T7.setTop (mkF m 22 #[.val (.int p1), .val (.int p2), .val (.int p3), .val (.int p4), .val (.int p5), .val (.int p6), .val (.int (Int32.ofNat sz)), .val (.int (Int32.ofNat n)), .val (.int (own_draw p3 (Int32.ofNat sz))), .unset, .unset, .unset, .unset, .unset] [])) _
    refine XS.iloadN X7.here hx rfl (hb hby at_22) rfl ?_
    show Steps p.tables e below (T7.setTop (mkF m 23 #[.val (.int p1), .val (.int p2), .val (.int p3), .val (.int p4), .val (.int p5), .val (.int p6), .val (.int (Int32.ofNat sz)), .val (.int (Int32.ofNat n)), .val (.int (own_draw p3 (Int32.ofNat sz))), .unset, .unset, .unset, .unset, .unset] [(.int p4)])) _
    refine XS.iload X7.here hx rfl (hb hby at_23) rfl ?_
    show Steps p.tables e below (T7.setTop (mkF m 25 #[.val (.int p1), .val (.int p2), .val (.int p3), .val (.int p4), .val (.int p5), .val (.int p6), .val (.int (Int32.ofNat sz)), .val (.int (Int32.ofNat n)), .val (.int (own_draw p3 (Int32.ofNat sz))), .unset, .unset, .unset, .unset, .unset] [(.int (Int32.ofNat sz)), (.int p4)])) _
    refine st8 _ ?_
    show Steps p.tables e below (T8.setTop (mkF m 28 #[.val (.int p1), .val (.int p2), .val (.int p3), .val (.int p4), .val (.int p5), .val (.int p6), .val (.int (Int32.ofNat sz)), .val (.int (Int32.ofNat n)), .val (.int (own_draw p3 (Int32.ofNat sz))), .unset, .unset, .unset, .unset, .unset] [(.int (own_draw p4 (Int32.ofNat sz)))])) _
    refine XS.istore X8.here hx rfl (hb hby at_28) rfl (l' := #[.val (.int p1), .val (.int p2), .val (.int p3), .val (.int p4), .val (.int p5), .val (.int p6), .val (.int (Int32.ofNat sz)), .val (.int (Int32.ofNat n)), .val (.int (own_draw p3 (Int32.ofNat sz))), .val (.int (own_draw p4 (Int32.ofNat sz))), .unset, .unset, .unset, .unset]) rfl ?_
    show Steps p.tables e below (T8.setTop (mkF m 30 #[.val (.int p1), .val (.int p2), .val (.int p3), .val (.int p4), .val (.int p5), .val (.int p6), .val (.int (Int32.ofNat sz)), .val (.int (Int32.ofNat n)), .val (.int (own_draw p3 (Int32.ofNat sz))), .val (.int (own_draw p4 (Int32.ofNat sz))), .unset, .unset, .unset, .unset] [])) _
    refine XS.iload X8.here hx rfl (hb hby at_30) rfl ?_
    show Steps p.tables e below (T8.setTop (mkF m 32 #[.val (.int p1), .val (.int p2), .val (.int p3), .val (.int p4), .val (.int p5), .val (.int p6), .val (.int (Int32.ofNat sz)), .val (.int (Int32.ofNat n)), .val (.int (own_draw p3 (Int32.ofNat sz))), .val (.int (own_draw p4 (Int32.ofNat sz))), .unset, .unset, .unset, .unset] [(.int p5)])) _
    refine XS.iload X8.here hx rfl (hb hby at_32) rfl ?_
    show Steps p.tables e below (T8.setTop (mkF m 34 #[.val (.int p1), .val (.int p2), .val (.int p3), .val (.int p4), .val (.int p5), .val (.int p6), .val (.int (Int32.ofNat sz)), .val (.int (Int32.ofNat n)), .val (.int (own_draw p3 (Int32.ofNat sz))), .val (.int (own_draw p4 (Int32.ofNat sz))), .unset, .unset, .unset, .unset] [(.int (Int32.ofNat sz)), (.int p5)])) _
    refine st9 _ ?_
    show Steps p.tables e below (T9.setTop (mkF m 37 #[.val (.int p1), .val (.int p2), .val (.int p3), .val (.int p4), .val (.int p5), .val (.int p6), .val (.int (Int32.ofNat sz)), .val (.int (Int32.ofNat n)), .val (.int (own_draw p3 (Int32.ofNat sz))), .val (.int (own_draw p4 (Int32.ofNat sz))), .unset, .unset, .unset, .unset] [(.int (own_draw p5 (Int32.ofNat sz)))])) _
    refine XS.istore X9.here hx rfl (hb hby at_37) rfl (l' := #[.val (.int p1), .val (.int p2), .val (.int p3), .val (.int p4), .val (.int p5), .val (.int p6), .val (.int (Int32.ofNat sz)), .val (.int (Int32.ofNat n)), .val (.int (own_draw p3 (Int32.ofNat sz))), .val (.int (own_draw p4 (Int32.ofNat sz))), .val (.int (own_draw p5 (Int32.ofNat sz))), .unset, .unset, .unset]) rfl ?_
    show Steps p.tables e below (T9.setTop (mkF m 39 #[.val (.int p1), .val (.int p2), .val (.int p3), .val (.int p4), .val (.int p5), .val (.int p6), .val (.int (Int32.ofNat sz)), .val (.int (Int32.ofNat n)), .val (.int (own_draw p3 (Int32.ofNat sz))), .val (.int (own_draw p4 (Int32.ofNat sz))), .val (.int (own_draw p5 (Int32.ofNat sz))), .unset, .unset, .unset] [])) _
    refine XS.iload X9.here hx rfl (hb hby at_39) rfl ?_
    show Steps p.tables e below (T9.setTop (mkF m 41 #[.val (.int p1), .val (.int p2), .val (.int p3), .val (.int p4), .val (.int p5), .val (.int p6), .val (.int (Int32.ofNat sz)), .val (.int (Int32.ofNat n)), .val (.int (own_draw p3 (Int32.ofNat sz))), .val (.int (own_draw p4 (Int32.ofNat sz))), .val (.int (own_draw p5 (Int32.ofNat sz))), .unset, .unset, .unset] [(.int p6)])) _
    refine XS.iload X9.here hx rfl (hb hby at_41) rfl ?_
    show Steps p.tables e below (T9.setTop (mkF m 43 #[.val (.int p1), .val (.int p2), .val (.int p3), .val (.int p4), .val (.int p5), .val (.int p6), .val (.int (Int32.ofNat sz)), .val (.int (Int32.ofNat n)), .val (.int (own_draw p3 (Int32.ofNat sz))), .val (.int (own_draw p4 (Int32.ofNat sz))), .val (.int (own_draw p5 (Int32.ofNat sz))), .unset, .unset, .unset] [(.int (Int32.ofNat sz)), (.int p6)])) _
    refine st10 _ ?_
    show Steps p.tables e below (T10.setTop (mkF m 46 #[.val (.int p1), .val (.int p2), .val (.int p3), .val (.int p4), .val (.int p5), .val (.int p6), .val (.int (Int32.ofNat sz)), .val (.int (Int32.ofNat n)), .val (.int (own_draw p3 (Int32.ofNat sz))), .val (.int (own_draw p4 (Int32.ofNat sz))), .val (.int (own_draw p5 (Int32.ofNat sz))), .unset, .unset, .unset] [(.int (own_draw p6 (Int32.ofNat sz)))])) _
    refine XS.istore X10.here hx rfl (hb hby at_46) rfl (l' := #[.val (.int p1), .val (.int p2), .val (.int p3), .val (.int p4), .val (.int p5), .val (.int p6), .val (.int (Int32.ofNat sz)), .val (.int (Int32.ofNat n)), .val (.int (own_draw p3 (Int32.ofNat sz))), .val (.int (own_draw p4 (Int32.ofNat sz))), .val (.int (own_draw p5 (Int32.ofNat sz))), .val (.int (own_draw p6 (Int32.ofNat sz))), .unset, .unset]) rfl ?_
    show Steps p.tables e below (T10.setTop (mkF m 48 #[.val (.int p1), .val (.int p2), .val (.int p3), .val (.int p4), .val (.int p5), .val (.int p6), .val (.int (Int32.ofNat sz)), .val (.int (Int32.ofNat n)), .val (.int (own_draw p3 (Int32.ofNat sz))), .val (.int (own_draw p4 (Int32.ofNat sz))), .val (.int (own_draw p5 (Int32.ofNat sz))), .val (.int (own_draw p6 (Int32.ofNat sz))), .unset, .unset] [])) _
    refine XS.iload X10.here hx rfl (hb hby at_48) rfl ?_
    show Steps p.tables e below (T10.setTop (mkF m 50 #[.val (.int p1), .val (.int p2), .val (.int p3), .val (.int p4), .val (.int p5), .val (.int p6), .val (.int (Int32.ofNat sz)), .val (.int (Int32.ofNat n)), .val (.int (own_draw p3 (Int32.ofNat sz))), .val (.int (own_draw p4 (Int32.ofNat sz))), .val (.int (own_draw p5 (Int32.ofNat sz))), .val (.int (own_draw p6 (Int32.ofNat sz))), .unset, .unset] [(.int (Int32.ofNat n))])) _
    refine st11 _ ?_
    show Steps p.tables e below (T11.setTop (mkF m 52 #[.val (.int p1), .val (.int p2), .val (.int p3), .val (.int p4), .val (.int p5), .val (.int p6), .val (.int (Int32.ofNat sz)), .val (.int (Int32.ofNat n)), .val (.int (own_draw p3 (Int32.ofNat sz))), .val (.int (own_draw p4 (Int32.ofNat sz))), .val (.int (own_draw p5 (Int32.ofNat sz))), .val (.int (own_draw p6 (Int32.ofNat sz))), .unset, .unset] [(.ref b11)])) _
    refine XS.astore X11.here hx rfl (hb hby at_52) rfl rfl (l' := #[.val (.int p1), .val (.int p2), .val (.int p3), .val (.int p4), .val (.int p5), .val (.int p6), .val (.int (Int32.ofNat sz)), .val (.int (Int32.ofNat n)), .val (.int (own_draw p3 (Int32.ofNat sz))), .val (.int (own_draw p4 (Int32.ofNat sz))), .val (.int (own_draw p5 (Int32.ofNat sz))), .val (.int (own_draw p6 (Int32.ofNat sz))), .val (.ref b11), .unset]) rfl ?_
    show Steps p.tables e below (T11.setTop (mkF m 54 #[.val (.int p1), .val (.int p2), .val (.int p3), .val (.int p4), .val (.int p5), .val (.int p6), .val (.int (Int32.ofNat sz)), .val (.int (Int32.ofNat n)), .val (.int (own_draw p3 (Int32.ofNat sz))), .val (.int (own_draw p4 (Int32.ofNat sz))), .val (.int (own_draw p5 (Int32.ofNat sz))), .val (.int (own_draw p6 (Int32.ofNat sz))), .val (.ref b11), .unset] [])) _
    refine stUA _ ?_
    refine stUB _ ?_
    refine stUC _ ?_
    refine stUD _ ?_
    show Steps p.tables e below (UD.setTop (mkF m 101 #[.val (.int p1), .val (.int p2), .val (.int p3), .val (.int p4), .val (.int p5), .val (.int p6), .val (.int (Int32.ofNat sz)), .val (.int (Int32.ofNat n)), .val (.int (own_draw p3 (Int32.ofNat sz))), .val (.int (own_draw p4 (Int32.ofNat sz))), .val (.int (own_draw p5 (Int32.ofNat sz))), .val (.int (own_draw p6 (Int32.ofNat sz))), .val (.ref b11), .unset] [])) _
    refine XS.aload XUD.here hx rfl (hb hby at_101) rfl rfl ?_
    show Steps p.tables e below (UD.setTop (mkF m 103 #[.val (.int p1), .val (.int p2), .val (.int p3), .val (.int p4), .val (.int p5), .val (.int p6), .val (.int (Int32.ofNat sz)), .val (.int (Int32.ofNat n)), .val (.int (own_draw p3 (Int32.ofNat sz))), .val (.int (own_draw p4 (Int32.ofNat sz))), .val (.int (own_draw p5 (Int32.ofNat sz))), .val (.int (own_draw p6 (Int32.ofNat sz))), .val (.ref b11), .unset] [(.ref b11)])) _
    refine XS.iload XUD.here hx rfl (hb hby at_103) rfl ?_
    show Steps p.tables e below (UD.setTop (mkF m 105 #[.val (.int p1), .val (.int p2), .val (.int p3), .val (.int p4), .val (.int p5), .val (.int p6), .val (.int (Int32.ofNat sz)), .val (.int (Int32.ofNat n)), .val (.int (own_draw p3 (Int32.ofNat sz))), .val (.int (own_draw p4 (Int32.ofNat sz))), .val (.int (own_draw p5 (Int32.ofNat sz))), .val (.int (own_draw p6 (Int32.ofNat sz))), .val (.ref b11), .unset] [(.int (Int32.ofNat sz)), (.ref b11)])) _
    refine st12 _ ?_
    show Steps p.tables e below (T12.setTop (mkF m 108 #[.val (.int p1), .val (.int p2), .val (.int p3), .val (.int p4), .val (.int p5), .val (.int p6), .val (.int (Int32.ofNat sz)), .val (.int (Int32.ofNat n)), .val (.int (own_draw p3 (Int32.ofNat sz))), .val (.int (own_draw p4 (Int32.ofNat sz))), .val (.int (own_draw p5 (Int32.ofNat sz))), .val (.int (own_draw p6 (Int32.ofNat sz))), .val (.ref b11), .unset] [(.ref r12)])) _
    refine XS.astore X12.here hx rfl (hb hby at_108) rfl rfl (l' := #[.val (.int p1), .val (.int p2), .val (.int p3), .val (.int p4), .val (.int p5), .val (.int p6), .val (.int (Int32.ofNat sz)), .val (.int (Int32.ofNat n)), .val (.int (own_draw p3 (Int32.ofNat sz))), .val (.int (own_draw p4 (Int32.ofNat sz))), .val (.int (own_draw p5 (Int32.ofNat sz))), .val (.int (own_draw p6 (Int32.ofNat sz))), .val (.ref b11), .val (.ref r12)]) rfl ?_
    show Steps p.tables e below (T12.setTop (mkF m 110 #[.val (.int p1), .val (.int p2), .val (.int p3), .val (.int p4), .val (.int p5), .val (.int p6), .val (.int (Int32.ofNat sz)), .val (.int (Int32.ofNat n)), .val (.int (own_draw p3 (Int32.ofNat sz))), .val (.int (own_draw p4 (Int32.ofNat sz))), .val (.int (own_draw p5 (Int32.ofNat sz))), .val (.int (own_draw p6 (Int32.ofNat sz))), .val (.ref b11), .val (.ref r12)] [])) _
    refine XS.aload X12.here hx rfl (hb hby at_110) rfl rfl ?_
    show Steps p.tables e below (T12.setTop (mkF m 112 #[.val (.int p1), .val (.int p2), .val (.int p3), .val (.int p4), .val (.int p5), .val (.int p6), .val (.int (Int32.ofNat sz)), .val (.int (Int32.ofNat n)), .val (.int (own_draw p3 (Int32.ofNat sz))), .val (.int (own_draw p4 (Int32.ofNat sz))), .val (.int (own_draw p5 (Int32.ofNat sz))), .val (.int (own_draw p6 (Int32.ofNat sz))), .val (.ref b11), .val (.ref r12)] [(.ref r12)])) _
    refine XS.ifnullNo X12.here hx rfl (hb hby at_112) rfl ?_
    show Steps p.tables e below (T12.setTop (mkF m 115 #[.val (.int p1), .val (.int p2), .val (.int p3), .val (.int p4), .val (.int p5), .val (.int p6), .val (.int (Int32.ofNat sz)), .val (.int (Int32.ofNat n)), .val (.int (own_draw p3 (Int32.ofNat sz))), .val (.int (own_draw p4 (Int32.ofNat sz))), .val (.int (own_draw p5 (Int32.ofNat sz))), .val (.int (own_draw p6 (Int32.ofNat sz))), .val (.ref b11), .val (.ref r12)] [])) _
    refine XS.aload X12.here hx rfl (hb hby at_115) rfl rfl ?_
    show Steps p.tables e below (T12.setTop (mkF m 117 #[.val (.int p1), .val (.int p2), .val (.int p3), .val (.int p4), .val (.int p5), .val (.int p6), .val (.int (Int32.ofNat sz)), .val (.int (Int32.ofNat n)), .val (.int (own_draw p3 (Int32.ofNat sz))), .val (.int (own_draw p4 (Int32.ofNat sz))), .val (.int (own_draw p5 (Int32.ofNat sz))), .val (.int (own_draw p6 (Int32.ofNat sz))), .val (.ref b11), .val (.ref r12)] [(.ref r12)])) _
    refine X12.arraylength hx (by exact Ar_r12.1) (State.isArrayOf_alike hZ.alike Ar_r12.2.1) (g := (mkF m 117 #[.val (.int p1), .val (.int p2), .val (.int p3), .val (.int p4), .val (.int p5), .val (.int p6), .val (.int (Int32.ofNat sz)), .val (.int (Int32.ofNat n)), .val (.int (own_draw p3 (Int32.ofNat sz))), .val (.int (own_draw p4 (Int32.ofNat sz))), .val (.int (own_draw p5 (Int32.ofNat sz))), .val (.int (own_draw p6 (Int32.ofNat sz))), .val (.ref b11), .val (.ref r12)] [(.ref r12)])) rfl rfl (hb hby at_117) _ ?_
    rw [len_of S_r12 N_r12]
    show Steps p.tables e below (T12.setTop (mkF m 118 #[.val (.int p1), .val (.int p2), .val (.int p3), .val (.int p4), .val (.int p5), .val (.int p6), .val (.int (Int32.ofNat sz)), .val (.int (Int32.ofNat n)), .val (.int (own_draw p3 (Int32.ofNat sz))), .val (.int (own_draw p4 (Int32.ofNat sz))), .val (.int (own_draw p5 (Int32.ofNat sz))), .val (.int (own_draw p6 (Int32.ofNat sz))), .val (.ref b11), .val (.ref r12)] [(.int (Int32.ofNat sz))])) _
    refine XS.iload X12.here hx rfl (hb hby at_118) rfl ?_
    show Steps p.tables e below (T12.setTop (mkF m 120 #[.val (.int p1), .val (.int p2), .val (.int p3), .val (.int p4), .val (.int p5), .val (.int p6), .val (.int (Int32.ofNat sz)), .val (.int (Int32.ofNat n)), .val (.int (own_draw p3 (Int32.ofNat sz))), .val (.int (own_draw p4 (Int32.ofNat sz))), .val (.int (own_draw p5 (Int32.ofNat sz))), .val (.int (own_draw p6 (Int32.ofNat sz))), .val (.ref b11), .val (.ref r12)] [(.int (Int32.ofNat sz)), (.int (Int32.ofNat sz))])) _
    refine XS.icmpYes X12.here hx rfl (pc0 := 120) (pc' := 125) rfl (hb hby at_120) rfl (teq (rfl : (Int32.ofNat sz) = (Int32.ofNat sz))).1 (by decide) (by decide) ?_
    show Steps p.tables e below (T12.setTop (mkF m 125 #[.val (.int p1), .val (.int p2), .val (.int p3), .val (.int p4), .val (.int p5), .val (.int p6), .val (.int (Int32.ofNat sz)), .val (.int (Int32.ofNat n)), .val (.int (own_draw p3 (Int32.ofNat sz))), .val (.int (own_draw p4 (Int32.ofNat sz))), .val (.int (own_draw p5 (Int32.ofNat sz))), .val (.int (own_draw p6 (Int32.ofNat sz))), .val (.ref b11), .val (.ref r12)] [])) _
    refine stA _ ?_
    refine stB _ ?_
    refine stC _ ?_
    refine stD _ ?_
    show Steps p.tables e below (TD.setTop (mkF m 186 #[.val (.int p1), .val (.int p2), .val (.int p3), .val (.int p4), .val (.int p5), .val (.int p6), .val (.int (Int32.ofNat sz)), .val (.int (Int32.ofNat n)), .val (.int (own_draw p3 (Int32.ofNat sz))), .val (.int (own_draw p4 (Int32.ofNat sz))), .val (.int (own_draw p5 (Int32.ofNat sz))), .val (.int (own_draw p6 (Int32.ofNat sz))), .val (.ref b11), .val (.ref r12)] [])) _
    refine XS.aload XD.here hx rfl (hb hby at_186) rfl rfl ?_
    show Steps p.tables e below (TD.setTop (mkF m 188 #[.val (.int p1), .val (.int p2), .val (.int p3), .val (.int p4), .val (.int p5), .val (.int p6), .val (.int (Int32.ofNat sz)), .val (.int (Int32.ofNat n)), .val (.int (own_draw p3 (Int32.ofNat sz))), .val (.int (own_draw p4 (Int32.ofNat sz))), .val (.int (own_draw p5 (Int32.ofNat sz))), .val (.int (own_draw p6 (Int32.ofNat sz))), .val (.ref b11), .val (.ref r12)] [(.ref r12)])) _
    refine XS.iconst XD.here hx rfl (hb hby at_188) ?_
    show Steps p.tables e below (TD.setTop (mkF m 189 #[.val (.int p1), .val (.int p2), .val (.int p3), .val (.int p4), .val (.int p5), .val (.int p6), .val (.int (Int32.ofNat sz)), .val (.int (Int32.ofNat n)), .val (.int (own_draw p3 (Int32.ofNat sz))), .val (.int (own_draw p4 (Int32.ofNat sz))), .val (.int (own_draw p5 (Int32.ofNat sz))), .val (.int (own_draw p6 (Int32.ofNat sz))), .val (.ref b11), .val (.ref r12)] [(.int (0 : Int32)), (.ref r12)])) _
    refine XS.iload XD.here hx rfl (hb hby at_189) rfl ?_
    show Steps p.tables e below (TD.setTop (mkF m 191 #[.val (.int p1), .val (.int p2), .val (.int p3), .val (.int p4), .val (.int p5), .val (.int p6), .val (.int (Int32.ofNat sz)), .val (.int (Int32.ofNat n)), .val (.int (own_draw p3 (Int32.ofNat sz))), .val (.int (own_draw p4 (Int32.ofNat sz))), .val (.int (own_draw p5 (Int32.ofNat sz))), .val (.int (own_draw p6 (Int32.ofNat sz))), .val (.ref b11), .val (.ref r12)] [(.int (Int32.ofNat n)), (.int (0 : Int32)), (.ref r12)])) _
    refine XS.iload XD.here hx rfl (hb hby at_191) rfl ?_
    show Steps p.tables e below (TD.setTop (mkF m 193 #[.val (.int p1), .val (.int p2), .val (.int p3), .val (.int p4), .val (.int p5), .val (.int p6), .val (.int (Int32.ofNat sz)), .val (.int (Int32.ofNat n)), .val (.int (own_draw p3 (Int32.ofNat sz))), .val (.int (own_draw p4 (Int32.ofNat sz))), .val (.int (own_draw p5 (Int32.ofNat sz))), .val (.int (own_draw p6 (Int32.ofNat sz))), .val (.ref b11), .val (.ref r12)] [(.int (own_draw p3 (Int32.ofNat sz))), (.int (Int32.ofNat n)), (.int (0 : Int32)), (.ref r12)])) _
    refine XS.iload XD.here hx rfl (hb hby at_193) rfl ?_
    show Steps p.tables e below (TD.setTop (mkF m 195 #[.val (.int p1), .val (.int p2), .val (.int p3), .val (.int p4), .val (.int p5), .val (.int p6), .val (.int (Int32.ofNat sz)), .val (.int (Int32.ofNat n)), .val (.int (own_draw p3 (Int32.ofNat sz))), .val (.int (own_draw p4 (Int32.ofNat sz))), .val (.int (own_draw p5 (Int32.ofNat sz))), .val (.int (own_draw p6 (Int32.ofNat sz))), .val (.ref b11), .val (.ref r12)] [(.int (own_draw p4 (Int32.ofNat sz))), (.int (own_draw p3 (Int32.ofNat sz))), (.int (Int32.ofNat n)), (.int (0 : Int32)), (.ref r12)])) _
    refine XS.iload XD.here hx rfl (hb hby at_195) rfl ?_
    show Steps p.tables e below (TD.setTop (mkF m 197 #[.val (.int p1), .val (.int p2), .val (.int p3), .val (.int p4), .val (.int p5), .val (.int p6), .val (.int (Int32.ofNat sz)), .val (.int (Int32.ofNat n)), .val (.int (own_draw p3 (Int32.ofNat sz))), .val (.int (own_draw p4 (Int32.ofNat sz))), .val (.int (own_draw p5 (Int32.ofNat sz))), .val (.int (own_draw p6 (Int32.ofNat sz))), .val (.ref b11), .val (.ref r12)] [(.int (own_draw p5 (Int32.ofNat sz))), (.int (own_draw p4 (Int32.ofNat sz))), (.int (own_draw p3 (Int32.ofNat sz))), (.int (Int32.ofNat n)), (.int (0 : Int32)), (.ref r12)])) _
    refine XS.iload XD.here hx rfl (hb hby at_197) rfl ?_
    show Steps p.tables e below (TD.setTop (mkF m 199 #[.val (.int p1), .val (.int p2), .val (.int p3), .val (.int p4), .val (.int p5), .val (.int p6), .val (.int (Int32.ofNat sz)), .val (.int (Int32.ofNat n)), .val (.int (own_draw p3 (Int32.ofNat sz))), .val (.int (own_draw p4 (Int32.ofNat sz))), .val (.int (own_draw p5 (Int32.ofNat sz))), .val (.int (own_draw p6 (Int32.ofNat sz))), .val (.ref b11), .val (.ref r12)] [(.int (own_draw p6 (Int32.ofNat sz))), (.int (own_draw p5 (Int32.ofNat sz))), (.int (own_draw p4 (Int32.ofNat sz))), (.int (own_draw p3 (Int32.ofNat sz))), (.int (Int32.ofNat n)), (.int (0 : Int32)), (.ref r12)])) _
    refine st13 _ ?_
    show Steps p.tables e below (T13.setTop (mkF m 202 #[.val (.int p1), .val (.int p2), .val (.int p3), .val (.int p4), .val (.int p5), .val (.int p6), .val (.int (Int32.ofNat sz)), .val (.int (Int32.ofNat n)), .val (.int (own_draw p3 (Int32.ofNat sz))), .val (.int (own_draw p4 (Int32.ofNat sz))), .val (.int (own_draw p5 (Int32.ofNat sz))), .val (.int (own_draw p6 (Int32.ofNat sz))), .val (.ref b11), .val (.ref r12)] [(.int (1 : Int32))])) _
    refine XS.ifNo X13.here hx rfl (hb hby at_202) rfl ((if0 _ _).trans (feq (by decide : ¬ ((1 : Int32) = (0 : Int32)))).1) ?_
    show Steps p.tables e below (T13.setTop (mkF m 205 #[.val (.int p1), .val (.int p2), .val (.int p3), .val (.int p4), .val (.int p5), .val (.int p6), .val (.int (Int32.ofNat sz)), .val (.int (Int32.ofNat n)), .val (.int (own_draw p3 (Int32.ofNat sz))), .val (.int (own_draw p4 (Int32.ofNat sz))), .val (.int (own_draw p5 (Int32.ofNat sz))), .val (.int (own_draw p6 (Int32.ofNat sz))), .val (.ref b11), .val (.ref r12)] [])) _
    refine XS.aload X13.here hx rfl (hb hby at_205) rfl rfl ?_
    show Steps p.tables e below (T13.setTop (mkF m 207 #[.val (.int p1), .val (.int p2), .val (.int p3), .val (.int p4), .val (.int p5), .val (.int p6), .val (.int (Int32.ofNat sz)), .val (.int (Int32.ofNat n)), .val (.int (own_draw p3 (Int32.ofNat sz))), .val (.int (own_draw p4 (Int32.ofNat sz))), .val (.int (own_draw p5 (Int32.ofNat sz))), .val (.int (own_draw p6 (Int32.ofNat sz))), .val (.ref b11), .val (.ref r12)] [(.ref r12)])) _
    refine XS.iconst X13.here hx rfl (hb hby at_207) ?_
    show Steps p.tables e below (T13.setTop (mkF m 208 #[.val (.int p1), .val (.int p2), .val (.int p3), .val (.int p4), .val (.int p5), .val (.int p6), .val (.int (Int32.ofNat sz)), .val (.int (Int32.ofNat n)), .val (.int (own_draw p3 (Int32.ofNat sz))), .val (.int (own_draw p4 (Int32.ofNat sz))), .val (.int (own_draw p5 (Int32.ofNat sz))), .val (.int (own_draw p6 (Int32.ofNat sz))), .val (.ref b11), .val (.ref r12)] [(.int (1 : Int32)), (.ref r12)])) _
    refine XS.iload X13.here hx rfl (hb hby at_208) rfl ?_
    show Steps p.tables e below (T13.setTop (mkF m 210 #[.val (.int p1), .val (.int p2), .val (.int p3), .val (.int p4), .val (.int p5), .val (.int p6), .val (.int (Int32.ofNat sz)), .val (.int (Int32.ofNat n)), .val (.int (own_draw p3 (Int32.ofNat sz))), .val (.int (own_draw p4 (Int32.ofNat sz))), .val (.int (own_draw p5 (Int32.ofNat sz))), .val (.int (own_draw p6 (Int32.ofNat sz))), .val (.ref b11), .val (.ref r12)] [(.int (Int32.ofNat n)), (.int (1 : Int32)), (.ref r12)])) _
    refine XS.iload X13.here hx rfl (hb hby at_210) rfl ?_
    show Steps p.tables e below (T13.setTop (mkF m 212 #[.val (.int p1), .val (.int p2), .val (.int p3), .val (.int p4), .val (.int p5), .val (.int p6), .val (.int (Int32.ofNat sz)), .val (.int (Int32.ofNat n)), .val (.int (own_draw p3 (Int32.ofNat sz))), .val (.int (own_draw p4 (Int32.ofNat sz))), .val (.int (own_draw p5 (Int32.ofNat sz))), .val (.int (own_draw p6 (Int32.ofNat sz))), .val (.ref b11), .val (.ref r12)] [(.int (own_draw p3 (Int32.ofNat sz))), (.int (Int32.ofNat n)), (.int (1 : Int32)), (.ref r12)])) _
    refine XS.iload X13.here hx rfl (hb hby at_212) rfl ?_
    show Steps p.tables e below (T13.setTop (mkF m 214 #[.val (.int p1), .val (.int p2), .val (.int p3), .val (.int p4), .val (.int p5), .val (.int p6), .val (.int (Int32.ofNat sz)), .val (.int (Int32.ofNat n)), .val (.int (own_draw p3 (Int32.ofNat sz))), .val (.int (own_draw p4 (Int32.ofNat sz))), .val (.int (own_draw p5 (Int32.ofNat sz))), .val (.int (own_draw p6 (Int32.ofNat sz))), .val (.ref b11), .val (.ref r12)] [(.int (own_draw p4 (Int32.ofNat sz))), (.int (own_draw p3 (Int32.ofNat sz))), (.int (Int32.ofNat n)), (.int (1 : Int32)), (.ref r12)])) _
    refine XS.iload X13.here hx rfl (hb hby at_214) rfl ?_
    show Steps p.tables e below (T13.setTop (mkF m 216 #[.val (.int p1), .val (.int p2), .val (.int p3), .val (.int p4), .val (.int p5), .val (.int p6), .val (.int (Int32.ofNat sz)), .val (.int (Int32.ofNat n)), .val (.int (own_draw p3 (Int32.ofNat sz))), .val (.int (own_draw p4 (Int32.ofNat sz))), .val (.int (own_draw p5 (Int32.ofNat sz))), .val (.int (own_draw p6 (Int32.ofNat sz))), .val (.ref b11), .val (.ref r12)] [(.int (own_draw p5 (Int32.ofNat sz))), (.int (own_draw p4 (Int32.ofNat sz))), (.int (own_draw p3 (Int32.ofNat sz))), (.int (Int32.ofNat n)), (.int (1 : Int32)), (.ref r12)])) _
    refine XS.iload X13.here hx rfl (hb hby at_216) rfl ?_
    show Steps p.tables e below (T13.setTop (mkF m 218 #[.val (.int p1), .val (.int p2), .val (.int p3), .val (.int p4), .val (.int p5), .val (.int p6), .val (.int (Int32.ofNat sz)), .val (.int (Int32.ofNat n)), .val (.int (own_draw p3 (Int32.ofNat sz))), .val (.int (own_draw p4 (Int32.ofNat sz))), .val (.int (own_draw p5 (Int32.ofNat sz))), .val (.int (own_draw p6 (Int32.ofNat sz))), .val (.ref b11), .val (.ref r12)] [(.int (own_draw p6 (Int32.ofNat sz))), (.int (own_draw p5 (Int32.ofNat sz))), (.int (own_draw p4 (Int32.ofNat sz))), (.int (own_draw p3 (Int32.ofNat sz))), (.int (Int32.ofNat n)), (.int (1 : Int32)), (.ref r12)])) _
    refine st14 _ ?_
    show Steps p.tables e below (T14.setTop (mkF m 221 #[.val (.int p1), .val (.int p2), .val (.int p3), .val (.int p4), .val (.int p5), .val (.int p6), .val (.int (Int32.ofNat sz)), .val (.int (Int32.ofNat n)), .val (.int (own_draw p3 (Int32.ofNat sz))), .val (.int (own_draw p4 (Int32.ofNat sz))), .val (.int (own_draw p5 (Int32.ofNat sz))), .val (.int (own_draw p6 (Int32.ofNat sz))), .val (.ref b11), .val (.ref r12)] [(.int (1 : Int32))])) _
    refine XS.ifNo X14.here hx rfl (hb hby at_221) rfl ((if0 _ _).trans (feq (by decide : ¬ ((1 : Int32) = (0 : Int32)))).1) ?_
    show Steps p.tables e below (T14.setTop (mkF m 224 #[.val (.int p1), .val (.int p2), .val (.int p3), .val (.int p4), .val (.int p5), .val (.int p6), .val (.int (Int32.ofNat sz)), .val (.int (Int32.ofNat n)), .val (.int (own_draw p3 (Int32.ofNat sz))), .val (.int (own_draw p4 (Int32.ofNat sz))), .val (.int (own_draw p5 (Int32.ofNat sz))), .val (.int (own_draw p6 (Int32.ofNat sz))), .val (.ref b11), .val (.ref r12)] [])) _
    refine XS.aload X14.here hx rfl (hb hby at_224) rfl rfl ?_
    show Steps p.tables e below (T14.setTop (mkF m 226 #[.val (.int p1), .val (.int p2), .val (.int p3), .val (.int p4), .val (.int p5), .val (.int p6), .val (.int (Int32.ofNat sz)), .val (.int (Int32.ofNat n)), .val (.int (own_draw p3 (Int32.ofNat sz))), .val (.int (own_draw p4 (Int32.ofNat sz))), .val (.int (own_draw p5 (Int32.ofNat sz))), .val (.int (own_draw p6 (Int32.ofNat sz))), .val (.ref b11), .val (.ref r12)] [(.ref r12)])) _
    refine XS.iconst X14.here hx rfl (hb hby at_226) ?_
    show Steps p.tables e below (T14.setTop (mkF m 227 #[.val (.int p1), .val (.int p2), .val (.int p3), .val (.int p4), .val (.int p5), .val (.int p6), .val (.int (Int32.ofNat sz)), .val (.int (Int32.ofNat n)), .val (.int (own_draw p3 (Int32.ofNat sz))), .val (.int (own_draw p4 (Int32.ofNat sz))), .val (.int (own_draw p5 (Int32.ofNat sz))), .val (.int (own_draw p6 (Int32.ofNat sz))), .val (.ref b11), .val (.ref r12)] [(.int (2 : Int32)), (.ref r12)])) _
    refine XS.iload X14.here hx rfl (hb hby at_227) rfl ?_
    show Steps p.tables e below (T14.setTop (mkF m 229 #[.val (.int p1), .val (.int p2), .val (.int p3), .val (.int p4), .val (.int p5), .val (.int p6), .val (.int (Int32.ofNat sz)), .val (.int (Int32.ofNat n)), .val (.int (own_draw p3 (Int32.ofNat sz))), .val (.int (own_draw p4 (Int32.ofNat sz))), .val (.int (own_draw p5 (Int32.ofNat sz))), .val (.int (own_draw p6 (Int32.ofNat sz))), .val (.ref b11), .val (.ref r12)] [(.int (Int32.ofNat n)), (.int (2 : Int32)), (.ref r12)])) _
    refine XS.iload X14.here hx rfl (hb hby at_229) rfl ?_
    show Steps p.tables e below (T14.setTop (mkF m 231 #[.val (.int p1), .val (.int p2), .val (.int p3), .val (.int p4), .val (.int p5), .val (.int p6), .val (.int (Int32.ofNat sz)), .val (.int (Int32.ofNat n)), .val (.int (own_draw p3 (Int32.ofNat sz))), .val (.int (own_draw p4 (Int32.ofNat sz))), .val (.int (own_draw p5 (Int32.ofNat sz))), .val (.int (own_draw p6 (Int32.ofNat sz))), .val (.ref b11), .val (.ref r12)] [(.int (own_draw p3 (Int32.ofNat sz))), (.int (Int32.ofNat n)), (.int (2 : Int32)), (.ref r12)])) _
    refine XS.iload X14.here hx rfl (hb hby at_231) rfl ?_
    show Steps p.tables e below (T14.setTop (mkF m 233 #[.val (.int p1), .val (.int p2), .val (.int p3), .val (.int p4), .val (.int p5), .val (.int p6), .val (.int (Int32.ofNat sz)), .val (.int (Int32.ofNat n)), .val (.int (own_draw p3 (Int32.ofNat sz))), .val (.int (own_draw p4 (Int32.ofNat sz))), .val (.int (own_draw p5 (Int32.ofNat sz))), .val (.int (own_draw p6 (Int32.ofNat sz))), .val (.ref b11), .val (.ref r12)] [(.int (own_draw p4 (Int32.ofNat sz))), (.int (own_draw p3 (Int32.ofNat sz))), (.int (Int32.ofNat n)), (.int (2 : Int32)), (.ref r12)])) _
    refine XS.iload X14.here hx rfl (hb hby at_233) rfl ?_
    show Steps p.tables e below (T14.setTop (mkF m 235 #[.val (.int p1), .val (.int p2), .val (.int p3), .val (.int p4), .val (.int p5), .val (.int p6), .val (.int (Int32.ofNat sz)), .val (.int (Int32.ofNat n)), .val (.int (own_draw p3 (Int32.ofNat sz))), .val (.int (own_draw p4 (Int32.ofNat sz))), .val (.int (own_draw p5 (Int32.ofNat sz))), .val (.int (own_draw p6 (Int32.ofNat sz))), .val (.ref b11), .val (.ref r12)] [(.int (own_draw p5 (Int32.ofNat sz))), (.int (own_draw p4 (Int32.ofNat sz))), (.int (own_draw p3 (Int32.ofNat sz))), (.int (Int32.ofNat n)), (.int (2 : Int32)), (.ref r12)])) _
    refine XS.iload X14.here hx rfl (hb hby at_235) rfl ?_
    show Steps p.tables e below (T14.setTop (mkF m 237 #[.val (.int p1), .val (.int p2), .val (.int p3), .val (.int p4), .val (.int p5), .val (.int p6), .val (.int (Int32.ofNat sz)), .val (.int (Int32.ofNat n)), .val (.int (own_draw p3 (Int32.ofNat sz))), .val (.int (own_draw p4 (Int32.ofNat sz))), .val (.int (own_draw p5 (Int32.ofNat sz))), .val (.int (own_draw p6 (Int32.ofNat sz))), .val (.ref b11), .val (.ref r12)] [(.int (own_draw p6 (Int32.ofNat sz))), (.int (own_draw p5 (Int32.ofNat sz))), (.int (own_draw p4 (Int32.ofNat sz))), (.int (own_draw p3 (Int32.ofNat sz))), (.int (Int32.ofNat n)), (.int (2 : Int32)), (.ref r12)])) _
    refine st15 _ ?_
    show Steps p.tables e below (T15.setTop (mkF m 240 #[.val (.int p1), .val (.int p2), .val (.int p3), .val (.int p4), .val (.int p5), .val (.int p6), .val (.int (Int32.ofNat sz)), .val (.int (Int32.ofNat n)), .val (.int (own_draw p3 (Int32.ofNat sz))), .val (.int (own_draw p4 (Int32.ofNat sz))), .val (.int (own_draw p5 (Int32.ofNat sz))), .val (.int (own_draw p6 (Int32.ofNat sz))), .val (.ref b11), .val (.ref r12)] [(.int (1 : Int32))])) _
    refine XS.ifNo X15.here hx rfl (hb hby at_240) rfl ((if0 _ _).trans (feq (by decide : ¬ ((1 : Int32) = (0 : Int32)))).1) ?_
    show Steps p.tables e below (T15.setTop (mkF m 243 #[.val (.int p1), .val (.int p2), .val (.int p3), .val (.int p4), .val (.int p5), .val (.int p6), .val (.int (Int32.ofNat sz)), .val (.int (Int32.ofNat n)), .val (.int (own_draw p3 (Int32.ofNat sz))), .val (.int (own_draw p4 (Int32.ofNat sz))), .val (.int (own_draw p5 (Int32.ofNat sz))), .val (.int (own_draw p6 (Int32.ofNat sz))), .val (.ref b11), .val (.ref r12)] [])) _
    refine XS.aload X15.here hx rfl (hb hby at_243) rfl rfl ?_
    show Steps p.tables e below (T15.setTop (mkF m 245 #[.val (.int p1), .val (.int p2), .val (.int p3), .val (.int p4), .val (.int p5), .val (.int p6), .val (.int (Int32.ofNat sz)), .val (.int (Int32.ofNat n)), .val (.int (own_draw p3 (Int32.ofNat sz))), .val (.int (own_draw p4 (Int32.ofNat sz))), .val (.int (own_draw p5 (Int32.ofNat sz))), .val (.int (own_draw p6 (Int32.ofNat sz))), .val (.ref b11), .val (.ref r12)] [(.ref r12)])) _
    refine XS.iconst X15.here hx rfl (hb hby at_245) ?_
    show Steps p.tables e below (T15.setTop (mkF m 246 #[.val (.int p1), .val (.int p2), .val (.int p3), .val (.int p4), .val (.int p5), .val (.int p6), .val (.int (Int32.ofNat sz)), .val (.int (Int32.ofNat n)), .val (.int (own_draw p3 (Int32.ofNat sz))), .val (.int (own_draw p4 (Int32.ofNat sz))), .val (.int (own_draw p5 (Int32.ofNat sz))), .val (.int (own_draw p6 (Int32.ofNat sz))), .val (.ref b11), .val (.ref r12)] [(.int (3 : Int32)), (.ref r12)])) _
    refine XS.iload X15.here hx rfl (hb hby at_246) rfl ?_
    show Steps p.tables e below (T15.setTop (mkF m 248 #[.val (.int p1), .val (.int p2), .val (.int p3), .val (.int p4), .val (.int p5), .val (.int p6), .val (.int (Int32.ofNat sz)), .val (.int (Int32.ofNat n)), .val (.int (own_draw p3 (Int32.ofNat sz))), .val (.int (own_draw p4 (Int32.ofNat sz))), .val (.int (own_draw p5 (Int32.ofNat sz))), .val (.int (own_draw p6 (Int32.ofNat sz))), .val (.ref b11), .val (.ref r12)] [(.int (Int32.ofNat n)), (.int (3 : Int32)), (.ref r12)])) _
    refine XS.iload X15.here hx rfl (hb hby at_248) rfl ?_
    show Steps p.tables e below (T15.setTop (mkF m 250 #[.val (.int p1), .val (.int p2), .val (.int p3), .val (.int p4), .val (.int p5), .val (.int p6), .val (.int (Int32.ofNat sz)), .val (.int (Int32.ofNat n)), .val (.int (own_draw p3 (Int32.ofNat sz))), .val (.int (own_draw p4 (Int32.ofNat sz))), .val (.int (own_draw p5 (Int32.ofNat sz))), .val (.int (own_draw p6 (Int32.ofNat sz))), .val (.ref b11), .val (.ref r12)] [(.int (own_draw p3 (Int32.ofNat sz))), (.int (Int32.ofNat n)), (.int (3 : Int32)), (.ref r12)])) _
    refine XS.iload X15.here hx rfl (hb hby at_250) rfl ?_
    show Steps p.tables e below (T15.setTop (mkF m 252 #[.val (.int p1), .val (.int p2), .val (.int p3), .val (.int p4), .val (.int p5), .val (.int p6), .val (.int (Int32.ofNat sz)), .val (.int (Int32.ofNat n)), .val (.int (own_draw p3 (Int32.ofNat sz))), .val (.int (own_draw p4 (Int32.ofNat sz))), .val (.int (own_draw p5 (Int32.ofNat sz))), .val (.int (own_draw p6 (Int32.ofNat sz))), .val (.ref b11), .val (.ref r12)] [(.int (own_draw p4 (Int32.ofNat sz))), (.int (own_draw p3 (Int32.ofNat sz))), (.int (Int32.ofNat n)), (.int (3 : Int32)), (.ref r12)])) _
    refine XS.iload X15.here hx rfl (hb hby at_252) rfl ?_
    show Steps p.tables e below (T15.setTop (mkF m 254 #[.val (.int p1), .val (.int p2), .val (.int p3), .val (.int p4), .val (.int p5), .val (.int p6), .val (.int (Int32.ofNat sz)), .val (.int (Int32.ofNat n)), .val (.int (own_draw p3 (Int32.ofNat sz))), .val (.int (own_draw p4 (Int32.ofNat sz))), .val (.int (own_draw p5 (Int32.ofNat sz))), .val (.int (own_draw p6 (Int32.ofNat sz))), .val (.ref b11), .val (.ref r12)] [(.int (own_draw p5 (Int32.ofNat sz))), (.int (own_draw p4 (Int32.ofNat sz))), (.int (own_draw p3 (Int32.ofNat sz))), (.int (Int32.ofNat n)), (.int (3 : Int32)), (.ref r12)])) _
    refine XS.iload X15.here hx rfl (hb hby at_254) rfl ?_
    show Steps p.tables e below (T15.setTop (mkF m 256 #[.val (.int p1), .val (.int p2), .val (.int p3), .val (.int p4), .val (.int p5), .val (.int p6), .val (.int (Int32.ofNat sz)), .val (.int (Int32.ofNat n)), .val (.int (own_draw p3 (Int32.ofNat sz))), .val (.int (own_draw p4 (Int32.ofNat sz))), .val (.int (own_draw p5 (Int32.ofNat sz))), .val (.int (own_draw p6 (Int32.ofNat sz))), .val (.ref b11), .val (.ref r12)] [(.int (own_draw p6 (Int32.ofNat sz))), (.int (own_draw p5 (Int32.ofNat sz))), (.int (own_draw p4 (Int32.ofNat sz))), (.int (own_draw p3 (Int32.ofNat sz))), (.int (Int32.ofNat n)), (.int (3 : Int32)), (.ref r12)])) _
    refine st16 _ ?_
    show Steps p.tables e below (T16.setTop (mkF m 259 #[.val (.int p1), .val (.int p2), .val (.int p3), .val (.int p4), .val (.int p5), .val (.int p6), .val (.int (Int32.ofNat sz)), .val (.int (Int32.ofNat n)), .val (.int (own_draw p3 (Int32.ofNat sz))), .val (.int (own_draw p4 (Int32.ofNat sz))), .val (.int (own_draw p5 (Int32.ofNat sz))), .val (.int (own_draw p6 (Int32.ofNat sz))), .val (.ref b11), .val (.ref r12)] [(.int (1 : Int32))])) _
    refine XS.ifNo X16.here hx rfl (hb hby at_259) rfl ((if0 _ _).trans (feq (by decide : ¬ ((1 : Int32) = (0 : Int32)))).1) ?_
    show Steps p.tables e below (T16.setTop (mkF m 262 #[.val (.int p1), .val (.int p2), .val (.int p3), .val (.int p4), .val (.int p5), .val (.int p6), .val (.int (Int32.ofNat sz)), .val (.int (Int32.ofNat n)), .val (.int (own_draw p3 (Int32.ofNat sz))), .val (.int (own_draw p4 (Int32.ofNat sz))), .val (.int (own_draw p5 (Int32.ofNat sz))), .val (.int (own_draw p6 (Int32.ofNat sz))), .val (.ref b11), .val (.ref r12)] [])) _
    refine XS.aload X16.here hx rfl (hb hby at_262) rfl rfl ?_
    show Steps p.tables e below (T16.setTop (mkF m 264 #[.val (.int p1), .val (.int p2), .val (.int p3), .val (.int p4), .val (.int p5), .val (.int p6), .val (.int (Int32.ofNat sz)), .val (.int (Int32.ofNat n)), .val (.int (own_draw p3 (Int32.ofNat sz))), .val (.int (own_draw p4 (Int32.ofNat sz))), .val (.int (own_draw p5 (Int32.ofNat sz))), .val (.int (own_draw p6 (Int32.ofNat sz))), .val (.ref b11), .val (.ref r12)] [(.ref r12)])) _
    refine XS.iconst X16.here hx rfl (hb hby at_264) ?_
    show Steps p.tables e below (T16.setTop (mkF m 265 #[.val (.int p1), .val (.int p2), .val (.int p3), .val (.int p4), .val (.int p5), .val (.int p6), .val (.int (Int32.ofNat sz)), .val (.int (Int32.ofNat n)), .val (.int (own_draw p3 (Int32.ofNat sz))), .val (.int (own_draw p4 (Int32.ofNat sz))), .val (.int (own_draw p5 (Int32.ofNat sz))), .val (.int (own_draw p6 (Int32.ofNat sz))), .val (.ref b11), .val (.ref r12)] [(.int (4 : Int32)), (.ref r12)])) _
    refine XS.iload X16.here hx rfl (hb hby at_265) rfl ?_
    show Steps p.tables e below (T16.setTop (mkF m 267 #[.val (.int p1), .val (.int p2), .val (.int p3), .val (.int p4), .val (.int p5), .val (.int p6), .val (.int (Int32.ofNat sz)), .val (.int (Int32.ofNat n)), .val (.int (own_draw p3 (Int32.ofNat sz))), .val (.int (own_draw p4 (Int32.ofNat sz))), .val (.int (own_draw p5 (Int32.ofNat sz))), .val (.int (own_draw p6 (Int32.ofNat sz))), .val (.ref b11), .val (.ref r12)] [(.int (Int32.ofNat n)), (.int (4 : Int32)), (.ref r12)])) _
    refine XS.iload X16.here hx rfl (hb hby at_267) rfl ?_
    show Steps p.tables e below (T16.setTop (mkF m 269 #[.val (.int p1), .val (.int p2), .val (.int p3), .val (.int p4), .val (.int p5), .val (.int p6), .val (.int (Int32.ofNat sz)), .val (.int (Int32.ofNat n)), .val (.int (own_draw p3 (Int32.ofNat sz))), .val (.int (own_draw p4 (Int32.ofNat sz))), .val (.int (own_draw p5 (Int32.ofNat sz))), .val (.int (own_draw p6 (Int32.ofNat sz))), .val (.ref b11), .val (.ref r12)] [(.int (own_draw p3 (Int32.ofNat sz))), (.int (Int32.ofNat n)), (.int (4 : Int32)), (.ref r12)])) _
    refine XS.iload X16.here hx rfl (hb hby at_269) rfl ?_
    show Steps p.tables e below (T16.setTop (mkF m 271 #[.val (.int p1), .val (.int p2), .val (.int p3), .val (.int p4), .val (.int p5), .val (.int p6), .val (.int (Int32.ofNat sz)), .val (.int (Int32.ofNat n)), .val (.int (own_draw p3 (Int32.ofNat sz))), .val (.int (own_draw p4 (Int32.ofNat sz))), .val (.int (own_draw p5 (Int32.ofNat sz))), .val (.int (own_draw p6 (Int32.ofNat sz))), .val (.ref b11), .val (.ref r12)] [(.int (own_draw p4 (Int32.ofNat sz))), (.int (own_draw p3 (Int32.ofNat sz))), (.int (Int32.ofNat n)), (.int (4 : Int32)), (.ref r12)])) _
    refine XS.iload X16.here hx rfl (hb hby at_271) rfl ?_
    show Steps p.tables e below (T16.setTop (mkF m 273 #[.val (.int p1), .val (.int p2), .val (.int p3), .val (.int p4), .val (.int p5), .val (.int p6), .val (.int (Int32.ofNat sz)), .val (.int (Int32.ofNat n)), .val (.int (own_draw p3 (Int32.ofNat sz))), .val (.int (own_draw p4 (Int32.ofNat sz))), .val (.int (own_draw p5 (Int32.ofNat sz))), .val (.int (own_draw p6 (Int32.ofNat sz))), .val (.ref b11), .val (.ref r12)] [(.int (own_draw p5 (Int32.ofNat sz))), (.int (own_draw p4 (Int32.ofNat sz))), (.int (own_draw p3 (Int32.ofNat sz))), (.int (Int32.ofNat n)), (.int (4 : Int32)), (.ref r12)])) _
    refine XS.iload X16.here hx rfl (hb hby at_273) rfl ?_
    show Steps p.tables e below (T16.setTop (mkF m 275 #[.val (.int p1), .val (.int p2), .val (.int p3), .val (.int p4), .val (.int p5), .val (.int p6), .val (.int (Int32.ofNat sz)), .val (.int (Int32.ofNat n)), .val (.int (own_draw p3 (Int32.ofNat sz))), .val (.int (own_draw p4 (Int32.ofNat sz))), .val (.int (own_draw p5 (Int32.ofNat sz))), .val (.int (own_draw p6 (Int32.ofNat sz))), .val (.ref b11), .val (.ref r12)] [(.int (own_draw p6 (Int32.ofNat sz))), (.int (own_draw p5 (Int32.ofNat sz))), (.int (own_draw p4 (Int32.ofNat sz))), (.int (own_draw p3 (Int32.ofNat sz))), (.int (Int32.ofNat n)), (.int (4 : Int32)), (.ref r12)])) _
    refine st17 _ ?_
    show Steps p.tables e below (T17.setTop (mkF m 278 #[.val (.int p1), .val (.int p2), .val (.int p3), .val (.int p4), .val (.int p5), .val (.int p6), .val (.int (Int32.ofNat sz)), .val (.int (Int32.ofNat n)), .val (.int (own_draw p3 (Int32.ofNat sz))), .val (.int (own_draw p4 (Int32.ofNat sz))), .val (.int (own_draw p5 (Int32.ofNat sz))), .val (.int (own_draw p6 (Int32.ofNat sz))), .val (.ref b11), .val (.ref r12)] [(.int (1 : Int32))])) _
    refine XS.ifNo X17.here hx rfl (hb hby at_278) rfl ((if0 _ _).trans (feq (by decide : ¬ ((1 : Int32) = (0 : Int32)))).1) ?_
    show Steps p.tables e below (T17.setTop (mkF m 281 #[.val (.int p1), .val (.int p2), .val (.int p3), .val (.int p4), .val (.int p5), .val (.int p6), .val (.int (Int32.ofNat sz)), .val (.int (Int32.ofNat n)), .val (.int (own_draw p3 (Int32.ofNat sz))), .val (.int (own_draw p4 (Int32.ofNat sz))), .val (.int (own_draw p5 (Int32.ofNat sz))), .val (.int (own_draw p6 (Int32.ofNat sz))), .val (.ref b11), .val (.ref r12)] [])) _
    refine XS.aload X17.here hx rfl (hb hby at_281) rfl rfl ?_
    show Steps p.tables e below (T17.setTop (mkF m 283 #[.val (.int p1), .val (.int p2), .val (.int p3), .val (.int p4), .val (.int p5), .val (.int p6), .val (.int (Int32.ofNat sz)), .val (.int (Int32.ofNat n)), .val (.int (own_draw p3 (Int32.ofNat sz))), .val (.int (own_draw p4 (Int32.ofNat sz))), .val (.int (own_draw p5 (Int32.ofNat sz))), .val (.int (own_draw p6 (Int32.ofNat sz))), .val (.ref b11), .val (.ref r12)] [(.ref r12)])) _
    refine XS.iconst X17.here hx rfl (hb hby at_283) ?_
    show Steps p.tables e below (T17.setTop (mkF m 284 #[.val (.int p1), .val (.int p2), .val (.int p3), .val (.int p4), .val (.int p5), .val (.int p6), .val (.int (Int32.ofNat sz)), .val (.int (Int32.ofNat n)), .val (.int (own_draw p3 (Int32.ofNat sz))), .val (.int (own_draw p4 (Int32.ofNat sz))), .val (.int (own_draw p5 (Int32.ofNat sz))), .val (.int (own_draw p6 (Int32.ofNat sz))), .val (.ref b11), .val (.ref r12)] [(.int (5 : Int32)), (.ref r12)])) _
    refine XS.iload X17.here hx rfl (hb hby at_284) rfl ?_
    show Steps p.tables e below (T17.setTop (mkF m 286 #[.val (.int p1), .val (.int p2), .val (.int p3), .val (.int p4), .val (.int p5), .val (.int p6), .val (.int (Int32.ofNat sz)), .val (.int (Int32.ofNat n)), .val (.int (own_draw p3 (Int32.ofNat sz))), .val (.int (own_draw p4 (Int32.ofNat sz))), .val (.int (own_draw p5 (Int32.ofNat sz))), .val (.int (own_draw p6 (Int32.ofNat sz))), .val (.ref b11), .val (.ref r12)] [(.int (Int32.ofNat n)), (.int (5 : Int32)), (.ref r12)])) _
    refine XS.iload X17.here hx rfl (hb hby at_286) rfl ?_
    show Steps p.tables e below (T17.setTop (mkF m 288 #[.val (.int p1), .val (.int p2), .val (.int p3), .val (.int p4), .val (.int p5), .val (.int p6), .val (.int (Int32.ofNat sz)), .val (.int (Int32.ofNat n)), .val (.int (own_draw p3 (Int32.ofNat sz))), .val (.int (own_draw p4 (Int32.ofNat sz))), .val (.int (own_draw p5 (Int32.ofNat sz))), .val (.int (own_draw p6 (Int32.ofNat sz))), .val (.ref b11), .val (.ref r12)] [(.int (own_draw p3 (Int32.ofNat sz))), (.int (Int32.ofNat n)), (.int (5 : Int32)), (.ref r12)])) _
    refine XS.iload X17.here hx rfl (hb hby at_288) rfl ?_
    show Steps p.tables e below (T17.setTop (mkF m 290 #[.val (.int p1), .val (.int p2), .val (.int p3), .val (.int p4), .val (.int p5), .val (.int p6), .val (.int (Int32.ofNat sz)), .val (.int (Int32.ofNat n)), .val (.int (own_draw p3 (Int32.ofNat sz))), .val (.int (own_draw p4 (Int32.ofNat sz))), .val (.int (own_draw p5 (Int32.ofNat sz))), .val (.int (own_draw p6 (Int32.ofNat sz))), .val (.ref b11), .val (.ref r12)] [(.int (own_draw p4 (Int32.ofNat sz))), (.int (own_draw p3 (Int32.ofNat sz))), (.int (Int32.ofNat n)), (.int (5 : Int32)), (.ref r12)])) _
    refine XS.iload X17.here hx rfl (hb hby at_290) rfl ?_
    show Steps p.tables e below (T17.setTop (mkF m 292 #[.val (.int p1), .val (.int p2), .val (.int p3), .val (.int p4), .val (.int p5), .val (.int p6), .val (.int (Int32.ofNat sz)), .val (.int (Int32.ofNat n)), .val (.int (own_draw p3 (Int32.ofNat sz))), .val (.int (own_draw p4 (Int32.ofNat sz))), .val (.int (own_draw p5 (Int32.ofNat sz))), .val (.int (own_draw p6 (Int32.ofNat sz))), .val (.ref b11), .val (.ref r12)] [(.int (own_draw p5 (Int32.ofNat sz))), (.int (own_draw p4 (Int32.ofNat sz))), (.int (own_draw p3 (Int32.ofNat sz))), (.int (Int32.ofNat n)), (.int (5 : Int32)), (.ref r12)])) _
    refine XS.iload X17.here hx rfl (hb hby at_292) rfl ?_
    show Steps p.tables e below (T17.setTop (mkF m 294 #[.val (.int p1), .val (.int p2), .val (.int p3), .val (.int p4), .val (.int p5), .val (.int p6), .val (.int (Int32.ofNat sz)), .val (.int (Int32.ofNat n)), .val (.int (own_draw p3 (Int32.ofNat sz))), .val (.int (own_draw p4 (Int32.ofNat sz))), .val (.int (own_draw p5 (Int32.ofNat sz))), .val (.int (own_draw p6 (Int32.ofNat sz))), .val (.ref b11), .val (.ref r12)] [(.int (own_draw p6 (Int32.ofNat sz))), (.int (own_draw p5 (Int32.ofNat sz))), (.int (own_draw p4 (Int32.ofNat sz))), (.int (own_draw p3 (Int32.ofNat sz))), (.int (Int32.ofNat n)), (.int (5 : Int32)), (.ref r12)])) _
    refine st18 _ ?_
    show Steps p.tables e below (T18.setTop (mkF m 297 #[.val (.int p1), .val (.int p2), .val (.int p3), .val (.int p4), .val (.int p5), .val (.int p6), .val (.int (Int32.ofNat sz)), .val (.int (Int32.ofNat n)), .val (.int (own_draw p3 (Int32.ofNat sz))), .val (.int (own_draw p4 (Int32.ofNat sz))), .val (.int (own_draw p5 (Int32.ofNat sz))), .val (.int (own_draw p6 (Int32.ofNat sz))), .val (.ref b11), .val (.ref r12)] [(.int (1 : Int32))])) _
    refine XS.ifNo X18.here hx rfl (hb hby at_297) rfl ((if0 _ _).trans (feq (by decide : ¬ ((1 : Int32) = (0 : Int32)))).1) ?_
    show Steps p.tables e below (T18.setTop (mkF m 300 #[.val (.int p1), .val (.int p2), .val (.int p3), .val (.int p4), .val (.int p5), .val (.int p6), .val (.int (Int32.ofNat sz)), .val (.int (Int32.ofNat n)), .val (.int (own_draw p3 (Int32.ofNat sz))), .val (.int (own_draw p4 (Int32.ofNat sz))), .val (.int (own_draw p5 (Int32.ofNat sz))), .val (.int (own_draw p6 (Int32.ofNat sz))), .val (.ref b11), .val (.ref r12)] [])) _
    refine XS.aload X18.here hx rfl (hb hby at_300) rfl rfl ?_
    show Steps p.tables e below (T18.setTop (mkF m 302 #[.val (.int p1), .val (.int p2), .val (.int p3), .val (.int p4), .val (.int p5), .val (.int p6), .val (.int (Int32.ofNat sz)), .val (.int (Int32.ofNat n)), .val (.int (own_draw p3 (Int32.ofNat sz))), .val (.int (own_draw p4 (Int32.ofNat sz))), .val (.int (own_draw p5 (Int32.ofNat sz))), .val (.int (own_draw p6 (Int32.ofNat sz))), .val (.ref b11), .val (.ref r12)] [(.ref r12)])) _
    refine XS.bipush X18.here hx rfl (hb hby at_302) ?_
    show Steps p.tables e below (T18.setTop (mkF m 304 #[.val (.int p1), .val (.int p2), .val (.int p3), .val (.int p4), .val (.int p5), .val (.int p6), .val (.int (Int32.ofNat sz)), .val (.int (Int32.ofNat n)), .val (.int (own_draw p3 (Int32.ofNat sz))), .val (.int (own_draw p4 (Int32.ofNat sz))), .val (.int (own_draw p5 (Int32.ofNat sz))), .val (.int (own_draw p6 (Int32.ofNat sz))), .val (.ref b11), .val (.ref r12)] [(.int (6 : Int32)), (.ref r12)])) _
    refine XS.iload X18.here hx rfl (hb hby at_304) rfl ?_
    show Steps p.tables e below (T18.setTop (mkF m 306 #[.val (.int p1), .val (.int p2), .val (.int p3), .val (.int p4), .val (.int p5), .val (.int p6), .val (.int (Int32.ofNat sz)), .val (.int (Int32.ofNat n)), .val (.int (own_draw p3 (Int32.ofNat sz))), .val (.int (own_draw p4 (Int32.ofNat sz))), .val (.int (own_draw p5 (Int32.ofNat sz))), .val (.int (own_draw p6 (Int32.ofNat sz))), .val (.ref b11), .val (.ref r12)] [(.int (Int32.ofNat n)), (.int (6 : Int32)), (.ref r12)])) _
    refine XS.iload X18.here hx rfl (hb hby at_306) rfl ?_
    show Steps p.tables e below (T18.setTop (mkF m 308 #[.val (.int p1), .val (.int p2), .val (.int p3), .val (.int p4), .val (.int p5), .val (.int p6), .val (.int (Int32.ofNat sz)), .val (.int (Int32.ofNat n)), .val (.int (own_draw p3 (Int32.ofNat sz))), .val (.int (own_draw p4 (Int32.ofNat sz))), .val (.int (own_draw p5 (Int32.ofNat sz))), .val (.int (own_draw p6 (Int32.ofNat sz))), .val (.ref b11), .val (.ref r12)] [(.int (own_draw p3 (Int32.ofNat sz))), (.int (Int32.ofNat n)), (.int (6 : Int32)), (.ref r12)])) _
    refine XS.iload X18.here hx rfl (hb hby at_308) rfl ?_
    show Steps p.tables e below (T18.setTop (mkF m 310 #[.val (.int p1), .val (.int p2), .val (.int p3), .val (.int p4), .val (.int p5), .val (.int p6), .val (.int (Int32.ofNat sz)), .val (.int (Int32.ofNat n)), .val (.int (own_draw p3 (Int32.ofNat sz))), .val (.int (own_draw p4 (Int32.ofNat sz))), .val (.int (own_draw p5 (Int32.ofNat sz))), .val (.int (own_draw p6 (Int32.ofNat sz))), .val (.ref b11), .val (.ref r12)] [(.int (own_draw p4 (Int32.ofNat sz))), (.int (own_draw p3 (Int32.ofNat sz))), (.int (Int32.ofNat n)), (.int (6 : Int32)), (.ref r12)])) _
    refine XS.iload X18.here hx rfl (hb hby at_310) rfl ?_
    show Steps p.tables e below (T18.setTop (mkF m 312 #[.val (.int p1), .val (.int p2), .val (.int p3), .val (.int p4), .val (.int p5), .val (.int p6), .val (.int (Int32.ofNat sz)), .val (.int (Int32.ofNat n)), .val (.int (own_draw p3 (Int32.ofNat sz))), .val (.int (own_draw p4 (Int32.ofNat sz))), .val (.int (own_draw p5 (Int32.ofNat sz))), .val (.int (own_draw p6 (Int32.ofNat sz))), .val (.ref b11), .val (.ref r12)] [(.int (own_draw p5 (Int32.ofNat sz))), (.int (own_draw p4 (Int32.ofNat sz))), (.int (own_draw p3 (Int32.ofNat sz))), (.int (Int32.ofNat n)), (.int (6 : Int32)), (.ref r12)])) _
    refine XS.iload X18.here hx rfl (hb hby at_312) rfl ?_
    show Steps p.tables e below (T18.setTop (mkF m 314 #[.val (.int p1), .val (.int p2), .val (.int p3), .val (.int p4), .val (.int p5), .val (.int p6), .val (.int (Int32.ofNat sz)), .val (.int (Int32.ofNat n)), .val (.int (own_draw p3 (Int32.ofNat sz))), .val (.int (own_draw p4 (Int32.ofNat sz))), .val (.int (own_draw p5 (Int32.ofNat sz))), .val (.int (own_draw p6 (Int32.ofNat sz))), .val (.ref b11), .val (.ref r12)] [(.int (own_draw p6 (Int32.ofNat sz))), (.int (own_draw p5 (Int32.ofNat sz))), (.int (own_draw p4 (Int32.ofNat sz))), (.int (own_draw p3 (Int32.ofNat sz))), (.int (Int32.ofNat n)), (.int (6 : Int32)), (.ref r12)])) _
    refine st19 _ ?_
    show Steps p.tables e below (T19.setTop (mkF m 317 #[.val (.int p1), .val (.int p2), .val (.int p3), .val (.int p4), .val (.int p5), .val (.int p6), .val (.int (Int32.ofNat sz)), .val (.int (Int32.ofNat n)), .val (.int (own_draw p3 (Int32.ofNat sz))), .val (.int (own_draw p4 (Int32.ofNat sz))), .val (.int (own_draw p5 (Int32.ofNat sz))), .val (.int (own_draw p6 (Int32.ofNat sz))), .val (.ref b11), .val (.ref r12)] [(.int (1 : Int32))])) _
    refine XS.ifNo X19.here hx rfl (hb hby at_317) rfl ((if0 _ _).trans (feq (by decide : ¬ ((1 : Int32) = (0 : Int32)))).1) ?_
    show Steps p.tables e below (T19.setTop (mkF m 320 #[.val (.int p1), .val (.int p2), .val (.int p3), .val (.int p4), .val (.int p5), .val (.int p6), .val (.int (Int32.ofNat sz)), .val (.int (Int32.ofNat n)), .val (.int (own_draw p3 (Int32.ofNat sz))), .val (.int (own_draw p4 (Int32.ofNat sz))), .val (.int (own_draw p5 (Int32.ofNat sz))), .val (.int (own_draw p6 (Int32.ofNat sz))), .val (.ref b11), .val (.ref r12)] [])) _
    refine XS.aload X19.here hx rfl (hb hby at_320) rfl rfl ?_
    show Steps p.tables e below (T19.setTop (mkF m 322 #[.val (.int p1), .val (.int p2), .val (.int p3), .val (.int p4), .val (.int p5), .val (.int p6), .val (.int (Int32.ofNat sz)), .val (.int (Int32.ofNat n)), .val (.int (own_draw p3 (Int32.ofNat sz))), .val (.int (own_draw p4 (Int32.ofNat sz))), .val (.int (own_draw p5 (Int32.ofNat sz))), .val (.int (own_draw p6 (Int32.ofNat sz))), .val (.ref b11), .val (.ref r12)] [(.ref r12)])) _
    refine XS.bipush X19.here hx rfl (hb hby at_322) ?_
    show Steps p.tables e below (T19.setTop (mkF m 324 #[.val (.int p1), .val (.int p2), .val (.int p3), .val (.int p4), .val (.int p5), .val (.int p6), .val (.int (Int32.ofNat sz)), .val (.int (Int32.ofNat n)), .val (.int (own_draw p3 (Int32.ofNat sz))), .val (.int (own_draw p4 (Int32.ofNat sz))), .val (.int (own_draw p5 (Int32.ofNat sz))), .val (.int (own_draw p6 (Int32.ofNat sz))), .val (.ref b11), .val (.ref r12)] [(.int (7 : Int32)), (.ref r12)])) _
    refine XS.iload X19.here hx rfl (hb hby at_324) rfl ?_
    show Steps p.tables e below (T19.setTop (mkF m 326 #[.val (.int p1), .val (.int p2), .val (.int p3), .val (.int p4), .val (.int p5), .val (.int p6), .val (.int (Int32.ofNat sz)), .val (.int (Int32.ofNat n)), .val (.int (own_draw p3 (Int32.ofNat sz))), .val (.int (own_draw p4 (Int32.ofNat sz))), .val (.int (own_draw p5 (Int32.ofNat sz))), .val (.int (own_draw p6 (Int32.ofNat sz))), .val (.ref b11), .val (.ref r12)] [(.int (Int32.ofNat n)), (.int (7 : Int32)), (.ref r12)])) _
    refine XS.iload X19.here hx rfl (hb hby at_326) rfl ?_
    show Steps p.tables e below (T19.setTop (mkF m 328 #[.val (.int p1), .val (.int p2), .val (.int p3), .val (.int p4), .val (.int p5), .val (.int p6), .val (.int (Int32.ofNat sz)), .val (.int (Int32.ofNat n)), .val (.int (own_draw p3 (Int32.ofNat sz))), .val (.int (own_draw p4 (Int32.ofNat sz))), .val (.int (own_draw p5 (Int32.ofNat sz))), .val (.int (own_draw p6 (Int32.ofNat sz))), .val (.ref b11), .val (.ref r12)] [(.int (own_draw p3 (Int32.ofNat sz))), (.int (Int32.ofNat n)), (.int (7 : Int32)), (.ref r12)])) _
    refine XS.iload X19.here hx rfl (hb hby at_328) rfl ?_
    show Steps p.tables e below (T19.setTop (mkF m 330 #[.val (.int p1), .val (.int p2), .val (.int p3), .val (.int p4), .val (.int p5), .val (.int p6), .val (.int (Int32.ofNat sz)), .val (.int (Int32.ofNat n)), .val (.int (own_draw p3 (Int32.ofNat sz))), .val (.int (own_draw p4 (Int32.ofNat sz))), .val (.int (own_draw p5 (Int32.ofNat sz))), .val (.int (own_draw p6 (Int32.ofNat sz))), .val (.ref b11), .val (.ref r12)] [(.int (own_draw p4 (Int32.ofNat sz))), (.int (own_draw p3 (Int32.ofNat sz))), (.int (Int32.ofNat n)), (.int (7 : Int32)), (.ref r12)])) _
    refine XS.iload X19.here hx rfl (hb hby at_330) rfl ?_
    show Steps p.tables e below (T19.setTop (mkF m 332 #[.val (.int p1), .val (.int p2), .val (.int p3), .val (.int p4), .val (.int p5), .val (.int p6), .val (.int (Int32.ofNat sz)), .val (.int (Int32.ofNat n)), .val (.int (own_draw p3 (Int32.ofNat sz))), .val (.int (own_draw p4 (Int32.ofNat sz))), .val (.int (own_draw p5 (Int32.ofNat sz))), .val (.int (own_draw p6 (Int32.ofNat sz))), .val (.ref b11), .val (.ref r12)] [(.int (own_draw p5 (Int32.ofNat sz))), (.int (own_draw p4 (Int32.ofNat sz))), (.int (own_draw p3 (Int32.ofNat sz))), (.int (Int32.ofNat n)), (.int (7 : Int32)), (.ref r12)])) _
    refine XS.iload X19.here hx rfl (hb hby at_332) rfl ?_
    show Steps p.tables e below (T19.setTop (mkF m 334 #[.val (.int p1), .val (.int p2), .val (.int p3), .val (.int p4), .val (.int p5), .val (.int p6), .val (.int (Int32.ofNat sz)), .val (.int (Int32.ofNat n)), .val (.int (own_draw p3 (Int32.ofNat sz))), .val (.int (own_draw p4 (Int32.ofNat sz))), .val (.int (own_draw p5 (Int32.ofNat sz))), .val (.int (own_draw p6 (Int32.ofNat sz))), .val (.ref b11), .val (.ref r12)] [(.int (own_draw p6 (Int32.ofNat sz))), (.int (own_draw p5 (Int32.ofNat sz))), (.int (own_draw p4 (Int32.ofNat sz))), (.int (own_draw p3 (Int32.ofNat sz))), (.int (Int32.ofNat n)), (.int (7 : Int32)), (.ref r12)])) _
    refine st20 _ ?_
    show Steps p.tables e below (T20.setTop (mkF m 337 #[.val (.int p1), .val (.int p2), .val (.int p3), .val (.int p4), .val (.int p5), .val (.int p6), .val (.int (Int32.ofNat sz)), .val (.int (Int32.ofNat n)), .val (.int (own_draw p3 (Int32.ofNat sz))), .val (.int (own_draw p4 (Int32.ofNat sz))), .val (.int (own_draw p5 (Int32.ofNat sz))), .val (.int (own_draw p6 (Int32.ofNat sz))), .val (.ref b11), .val (.ref r12)] [(.int (1 : Int32))])) _
    refine XS.ifNo X20.here hx rfl (hb hby at_337) rfl ((if0 _ _).trans (feq (by decide : ¬ ((1 : Int32) = (0 : Int32)))).1) ?_
    show Steps p.tables e below (T20.setTop (mkF m 340 #[.val (.int p1), .val (.int p2), .val (.int p3), .val (.int p4), .val (.int p5), .val (.int p6), .val (.int (Int32.ofNat sz)), .val (.int (Int32.ofNat n)), .val (.int (own_draw p3 (Int32.ofNat sz))), .val (.int (own_draw p4 (Int32.ofNat sz))), .val (.int (own_draw p5 (Int32.ofNat sz))), .val (.int (own_draw p6 (Int32.ofNat sz))), .val (.ref b11), .val (.ref r12)] [])) _
    refine XS.iconst X20.here hx rfl (hb hby at_340) ?_
    show Steps p.tables e below (T20.setTop (mkF m 341 #[.val (.int p1), .val (.int p2), .val (.int p3), .val (.int p4), .val (.int p5), .val (.int p6), .val (.int (Int32.ofNat sz)), .val (.int (Int32.ofNat n)), .val (.int (own_draw p3 (Int32.ofNat sz))), .val (.int (own_draw p4 (Int32.ofNat sz))), .val (.int (own_draw p5 (Int32.ofNat sz))), .val (.int (own_draw p6 (Int32.ofNat sz))), .val (.ref b11), .val (.ref r12)] [(.int (1 : Int32))])) _
    refine XS.goto X20.here hx rfl (pc0 := 341) (pc' := 345) rfl (hb hby at_341) (by decide) (by decide) ?_
    show Steps p.tables e below (T20.setTop (mkF m 345 #[.val (.int p1), .val (.int p2), .val (.int p3), .val (.int p4), .val (.int p5), .val (.int p6), .val (.int (Int32.ofNat sz)), .val (.int (Int32.ofNat n)), .val (.int (own_draw p3 (Int32.ofNat sz))), .val (.int (own_draw p4 (Int32.ofNat sz))), .val (.int (own_draw p5 (Int32.ofNat sz))), .val (.int (own_draw p6 (Int32.ofNat sz))), .val (.ref b11), .val (.ref r12)] [(.int (1 : Int32))])) _
    exact retN X20 hx (t := .boolean) Bd.returns (by simp) (hb hby at_345) hr
  · show Q0 Z p1 p2 p3 p4 p5 p6 h0 n0 _ T20.heap _
    exact ⟨rfl, N20⟩
set_option maxRecDepth 65536 in
set_option maxHeartbeats 40000000 in
theorem rm0 (l : Launch) (Z : State) (a0 : Array Value) (hw : ∀ d ∈ tables_1, d.before a0 Z = true) (ws : List Jvm.Cond) (p1 : Int32) (p2 : Int32) (p3 : Int32) (p4 : Int32) (p5 : Int32) (p6 : Int32) (h0 : Heap) (n0 : Nat) (Z0 : n0 ≤ h0.size) :
    MetFree l x (head1 (Jvm.Cond.code x code maxLocals ret :: ws) room_1) (fun a U => a = #[(.int p1), (.int p2), (.int p3), (.int p4), (.int p5), (.int p6)] ∧ Z.Warmed39 U.vm ∧ U.heap = h0) (fun _ _ _ _ _ => True) (fun _ U o U' => ∃ v L, o = .returned v ∧ Q0 Z p1 p2 p3 p4 p5 p6 h0 n0 v U'.heap L ∧ FrameEnd U o U' L room_1.cells room_1.slots) := by
  obtain ⟨n, hn, en⟩ := own_len p1
  obtain ⟨sz, hsz, es⟩ := own_size p2
  exact rm0n l Z a0 hw ws p1 p2 p3 p4 p5 p6 h0 n0 Z0 n sz hn hsz en es
set_option maxRecDepth 65536 in
set_option maxHeartbeats 40000000 in
theorem comes_1 {Post : Tables → Env → Array Value → State → Outcome → State → Prop} (hpost : ∀ tb e args s v u, (limb_1_1.after args s (.returned v) u = true ∧ limb_1_2.after args s (.returned v) u = true ∧ True) → FrameEnd s (.returned v) u (Jvm.fieldLocs frame_1_writes args s ++ Jvm.arrayLocs frame_1_arrays args s ++ Jvm.staticLocs frame_1_statics s) 16 128 → Post tb e args s (.returned v) u) :
    ArmFor flags0 classFile x code maxLocals ret World_1 tables_1 room_1 Calls_1 rest_1 Pre_1 Post := by
  intro l hfl _ _ p e ha hc hk s m args below hf hA hF happ hP
  obtain ⟨hcalls, hrest, hpre⟩ := hP
  obtain ⟨-, -, -, hnamed, -, -, -, hat⟩ := (Spec.applies_iff hf).mp happ
  obtain ⟨hg, hn⟩ := and_e (Cond.before_iff.mp (show (Jvm.Cond.and given_1 narrow_1).before args s = true from hpre))
  obtain ⟨g21, g22⟩ := and_e hg
  obtain ⟨g23, g24⟩ := and_e g22
  obtain ⟨g25, g26⟩ := and_e g24
  obtain ⟨g27, g28⟩ := and_e g26
  obtain ⟨g29, g30⟩ := and_e g28
  obtain ⟨g31, g32⟩ := and_e g30
  obtain ⟨w0, w1, w2, w3, w4, w5, rfl⟩ : ∃ w0 w1 w2 w3 w4 w5 : Value, args = #[w0, w1, w2, w3, w4, w5] := by
    have hs : args.size = 6 := by simpa [Cond.value, given_1] using g21
    obtain ⟨L⟩ := args
    match L, hs with
    | [w0, w1, w2, w3, w4, w5], _ => exact ⟨w0, w1, w2, w3, w4, w5, rfl⟩
  have hw := fun d (hd : d ∈ tables_1) => atoms_spec (ws := Jvm.Cond.code x code maxLocals ret :: tables_1) hat d (List.mem_cons_of_mem _ hd)
  have hfit : Fit s := fun {y c} hc i hi => by
    obtain ⟨ha, rfl⟩ := Array.getElem?_eq_some_iff.mp hc
    have q := List.all_eq_true.mp ((Array.all_eq_true_iff_forall_mem.mp hF) _ (Array.getElem_mem ha)) i (List.mem_range.mpr hi)
    simpa [Array.getElem?_eq_getElem hi] using q
  obtain ⟨i0, ei0⟩ := is_v g23
  obtain rfl : w0 = (.int i0) := Option.some.inj ei0
  obtain ⟨i1, ei1⟩ := is_v g25
  obtain rfl : w1 = (.int i1) := Option.some.inj ei1
  obtain ⟨i2, ei2⟩ := is_v g27
  obtain rfl : w2 = (.int i2) := Option.some.inj ei2
  obtain ⟨i3, ei3⟩ := is_v g29
  obtain rfl : w3 = (.int i3) := Option.some.inj ei3
  obtain ⟨i4, ei4⟩ := is_v g31
  obtain rfl : w4 = (.int i4) := Option.some.inj ei4
  obtain ⟨i5, ei5⟩ := is_v g32
  obtain rfl : w5 = (.int i5) := Option.some.inj ei5
  obtain ⟨n, o, h1, h2, h3, _, L, rfl, ⟨rfl, N⟩, hq⟩ := rm0 l s _ hw tables_1 i0 i1 i2 i3 i4 i5 s.heap s.heap.size (Nat.le_refl _) p e ha hc hk s m _ below hf ((Spec.applies_iff_loose hf).mp happ).1 ⟨rfl, State.Warmed39.refl s, rfl⟩ trivial
  refine ⟨n, _, h1, h2, h3, hpost _ _ _ _ _ _ ⟨Cond.after_iff.mpr rfl, Cond.after_iff.mpr (eq_i res_at (Term.int_eval (1)) rfl), trivial⟩ ⟨hq.1, hq.2.1, (hq.2.2.sift fun y hy => Or.inr (N y hy)).mono (by decide) (by decide)⟩⟩
theorem main_1_1 : Claimed_1_1 := comes_1 fun _ _ _ _ _ _ h hF => ⟨h.1, hF⟩
theorem main_1_2 : Claimed_1_2 := comes_1 fun _ _ _ _ _ _ h hF => ⟨h.2.1, hF⟩
end Jvm.Pilot.@@N@@
namespace Jvm.Pilot.@@N@@
open Jvm Jvm.ClassFile Sem Op Lib Jvm.Free Jvm.Stand Jvm.Pilot.@@N@@.Jvm.D
/-! MADE BY PROGRAM (witnessworld.py) out of the Statement's table words and the real class files: 9 classes; the members and pool entries that the words name. The judged class is class 1, her method 1. -/
namespace start1
open Jvm.ClassFile
def u (s : String) : CpInfo := .utf8 (stringToUtf16 s)
/-- a pool by its gaps: so many unusable entries, then the entry; so many at the end -/
def gap : Nat → List CpInfo → List CpInfo
  | 0, r => r
  | n + 1, r => .unusable :: gap n r
def poolList (es : List (Nat × CpInfo)) (last : Nat) : List CpInfo := es.foldr (fun e r => gap e.1 (e.2 :: r)) (gap last [])
def pool (es : List (Nat × CpInfo)) (last : Nat) : Array CpInfo := ⟨poolList es last⟩
def fileOf (pool : Array CpInfo) (this : Nat) (attrs : Array Attribute := #[]) (ms : Array MethodInfo := #[]) (fl : Nat := 33) (sup : Nat := 0) (ifs : Array Nat := #[]) (fds : Array FieldInfo := #[]) : ClassFile where
  minorVersion := 0
  majorVersion := 65
  constantPool := pool
  accessFlags := fl
  thisClass := this
  superClass := sup
  interfaces := ifs
  fields := fds
  methods := ms
  attributes := attrs
def plain (name : String) (sup : Option ClassId) : Class where
  name := name
  kind := .ordinary
  loader := none
  accessFlags := 33
  super := sup
  interfaces := #[]
  cf := none
  fields := #[]
  methods := #[]
  instanceTypes := #[]
  staticTypes := #[]
  resolved := #[]
  callSites := []
  init := .initialized
  statics := none
  mirror := none

def pool0 : Array CpInfo := pool [(5, u "<init>"), (0, u "()V"), (1, .class_ 10), (1, u "java/lang/Object")] 113

def k0m0 : Method := { name := "<init>", desc := "()V", sig := { parameters := [], returnType := none }, accessFlags := 1, code := none }
/-- java/lang/Object -/
def k0 : Class := { plain "java/lang/Object" none with
  accessFlags := 33
  interfaces := #[]
  cf := some (fileOf pool0 8 #[] #[{ accessFlags := 1, nameIndex := 5, descriptorIndex := 6, attributes := #[] }] 33 0 #[] #[])
  fields := #[]
  methods := #[k0m0]
  instanceTypes := #[]
  staticTypes := #[]
  resolved := Array.replicate 124 none
  statics := none }

def pool1 : Array CpInfo := pool [(2, .class_ 4), (1, u "java/lang/Object"), (0, u "<init>"), (0, u "()V"), (0, .integer 2147483647), (0, .methodref 9 10), (0, .class_ 11), (0, .nameAndType 12 13), (0, u "com/example/fairjoin/fairjoin/operator/KeyIndexCountsPinLaw"), (0, u "draw"), (0, u "(II)I"), (0, .methodref 15 16), (0, .class_ 17), (0, .nameAndType 18 19), (0, u "com/example/fairjoin/fairjoin/operator/KeyIndex"), (0, u "counts"), (0, u "([II)[I"), (0, .methodref 9 21), (0, .nameAndType 22 23), (0, u "at"), (0, u "([IIIIIII)Z"), (0, .methodref 9 25), (0, .nameAndType 26 27), (0, u "hit"), (0, u "(IIII)I"), (2, u "law"), (0, u "(IIIIII)Z")] 5

def k1m0 : Method := { name := "<init>", desc := "()V", sig := { parameters := [], returnType := none }, accessFlags := 1, code := none }
def k1c1 : Code := { maxStack := 7, maxLocals := 14, code := code, exceptionTable := #[], attributes := #[] }
def k1m1 : Method := { name := "law", desc := "(IIIIII)Z", sig := { parameters := [.int, .int, .int, .int, .int, .int], returnType := some .boolean }, accessFlags := 9, code := some k1c1 }
def k1c2 : Code := { maxStack := 3, maxLocals := 2, code := method_3_code, exceptionTable := #[], attributes := #[] }
def k1m2 : Method := { name := "draw", desc := "(II)I", sig := { parameters := [.int, .int], returnType := some .int }, accessFlags := 10, code := some k1c2 }
def k1c3 : Code := { maxStack := 2, maxLocals := 4, code := method_4_code, exceptionTable := #[], attributes := #[] }
def k1m3 : Method := { name := "hit", desc := "(IIII)I", sig := { parameters := [.int, .int, .int, .int], returnType := some .int }, accessFlags := 10, code := some k1c3 }
def k1c4 : Code := { maxStack := 5, maxLocals := 8, code := method_5_code, exceptionTable := #[], attributes := #[] }
def k1m4 : Method := { name := "at", desc := "([IIIIIII)Z", sig := { parameters := [(.array .int), .int, .int, .int, .int, .int, .int], returnType := some .boolean }, accessFlags := 10, code := some k1c4 }
/-- com/example/fairjoin/fairjoin/operator/KeyIndexCountsPinLaw -/
def k1 : Class := { plain "com/example/fairjoin/fairjoin/operator/KeyIndexCountsPinLaw" (some 0) with
  accessFlags := 49
  interfaces := #[]
  cf := some (fileOf pool1 9 #[] #[{ accessFlags := 1, nameIndex := 5, descriptorIndex := 6, attributes := #[] }, { accessFlags := 9, nameIndex := 30, descriptorIndex := 31, attributes := #[] }, { accessFlags := 10, nameIndex := 12, descriptorIndex := 13, attributes := #[] }, { accessFlags := 10, nameIndex := 26, descriptorIndex := 27, attributes := #[] }, { accessFlags := 10, nameIndex := 22, descriptorIndex := 23, attributes := #[] }] 49 2 #[] #[])
  fields := #[]
  methods := #[k1m0, k1m1, k1m2, k1m3, k1m4]
  instanceTypes := #[]
  staticTypes := #[]
  resolved := Array.replicate 37 none
  statics := none }

def pool2 : Array CpInfo := pool [(2, .class_ 4), (1, u "java/lang/Object"), (6, .class_ 13), (1, u "com/example/fairjoin/fairjoin/operator/KeyIndex"), (0, u "otherNumbers"), (0, u "Ljava/util/Map;"), (1, u "[[J"), (2, u "gathering"), (2, u "width"), (0, u "I"), (7, u "values"), (0, u "Lcom/example/fairjoin/fairjoin/operator/KeyValues;"), (7, u "longKeys"), (0, u "Lcom/example/fairjoin/fairjoin/operator/LongKeys;"), (271, u "counts"), (0, u "([II)[I")] 72

def k2c0 : Code := { maxStack := 4, maxLocals := 7, code := prog_160_method_3_code, exceptionTable := #[], attributes := #[] }
def k2m0 : Method := { name := "counts", desc := "([II)[I", sig := { parameters := [(.array .int), .int], returnType := some (.array .int) }, accessFlags := 9, code := some k2c0 }
/-- com/example/fairjoin/fairjoin/operator/KeyIndex -/
def k2 : Class := { plain "com/example/fairjoin/fairjoin/operator/KeyIndex" (some 0) with
  accessFlags := 49
  interfaces := #[]
  cf := some (fileOf pool2 11 #[] #[{ accessFlags := 9, nameIndex := 314, descriptorIndex := 315, attributes := #[] }] 49 2 #[] #[{ accessFlags := 18, nameIndex := 23, descriptorIndex := 24, attributes := #[] }, { accessFlags := 18, nameIndex := 32, descriptorIndex := 33, attributes := #[] }, { accessFlags := 18, nameIndex := 41, descriptorIndex := 42, attributes := #[] }, { accessFlags := 18, nameIndex := 14, descriptorIndex := 15, attributes := #[] }, { accessFlags := 18, nameIndex := 20, descriptorIndex := 17, attributes := #[] }])
  fields := #[{ name := "width", type := .int, accessFlags := 18, slot := 0, constantValue := 0 }, { name := "values", type := (.object "com/example/fairjoin/fairjoin/operator/KeyValues"), accessFlags := 18, slot := 1, constantValue := 0 }, { name := "longKeys", type := (.object "com/example/fairjoin/fairjoin/operator/LongKeys"), accessFlags := 18, slot := 2, constantValue := 0 }, { name := "otherNumbers", type := (.object "java/util/Map"), accessFlags := 18, slot := 3, constantValue := 0 }, { name := "gathering", type := (.array (.array .long)), accessFlags := 18, slot := 4, constantValue := 0 }]
  methods := #[k2m0]
  instanceTypes := #[.int, (.object "com/example/fairjoin/fairjoin/operator/KeyValues"), (.object "com/example/fairjoin/fairjoin/operator/LongKeys"), (.object "java/util/Map"), (.array (.array .long))]
  staticTypes := #[]
  resolved := Array.replicate 388 none
  statics := none }

def pool3 : Array CpInfo := pool [(1, u "java/lang/Cloneable"), (0, .class_ 1), (0, u "java/lang/Object"), (0, .class_ 3)] 3

/-- java/lang/Cloneable -/
def k3 : Class := { plain "java/lang/Cloneable" (some 0) with
  accessFlags := 1537
  interfaces := #[]
  cf := some (fileOf pool3 2 #[] #[] 1537 4 #[] #[])
  fields := #[]
  methods := #[]
  instanceTypes := #[]
  staticTypes := #[]
  resolved := Array.replicate 8 none
  statics := none }

def pool4 : Array CpInfo := pool [(1, u "java/io/Serializable"), (0, .class_ 1), (0, u "java/lang/Object"), (0, .class_ 3)] 3

/-- java/io/Serializable -/
def k4 : Class := { plain "java/io/Serializable" (some 0) with
  accessFlags := 1537
  interfaces := #[]
  cf := some (fileOf pool4 2 #[] #[] 1537 4 #[] #[])
  fields := #[]
  methods := #[]
  instanceTypes := #[]
  staticTypes := #[]
  resolved := Array.replicate 8 none
  statics := none }

/-- the primitive byte -/
def k5 : Class := { plain "byte" none with kind := .primitive 'B', accessFlags := 0x411 }
/-- [B -/
def k6 : Class := { plain "[B" (some 0) with kind := .array 5 .byte, interfaces := #[3, 4], accessFlags := 1041 }

/-- the primitive int -/
def k7 : Class := { plain "int" none with kind := .primitive 'I', accessFlags := 0x411 }
/-- [I -/
def k8 : Class := { plain "[I" (some 0) with kind := .array 7 .int, interfaces := #[3, 4], accessFlags := 1041 }

def heap : Heap := #[]
def classes : Array Class := #[k0, k1, k2, k3, k4, k5, k6, k7, k8]
def interned : List (Array UInt16 × Addr) := []
def slotsUsed : Nat := 0
def theMethod : MethodId := ⟨1, 1⟩
def args0 : Array Value := #[.int 3, .int 5, .int 1, .int 2, .int 3, .int 4]
def aboutOver (below : List Frame) : State where
  vm := { classes := classes, interned := interned.toArray }
  heap := heap
  slotsUsed := slotsUsed
  threads := #[{ frames := .invoking theMethod args0 :: below }]
def below0 : List Frame := [.native { method := ⟨0, 0⟩, args := #[] }]
def about1 : State := aboutOver below0
def p0 : Program := .bare "" "" ""
def e0 : Env := launch0.env 0 0 0
theorem w_frames : about1.frames = Frame.invoking theMethod args0 :: below0 := rfl
set_option maxRecDepth 65536 in
theorem w_args : argsFit about1.vm theMethod args0 = true := by decide +kernel
set_option maxRecDepth 65536 in
theorem w_heap : heapFits about1 = true := by decide +kernel
set_option maxRecDepth 65536 in
theorem w_runnable : about1.curStatus? = some .runnable := by decide +kernel
set_option maxRecDepth 65536 in
theorem w_alone : about1.alone = true := by decide +kernel
set_option maxRecDepth 65536 in
theorem w_named : about1.methodNamed? x = some theMethod := by decide +kernel
set_option maxRecDepth 65536 in
theorem w_hears : about1.hears theMethod below0 = true := by decide +kernel
set_option maxRecDepth 65536 in
theorem w_ripe : about1.ripe theMethod args0 below0 = true := by decide +kernel
theorem w_running : about1.status = .running := rfl
set_option maxRecDepth 65536 in
theorem w_room : about1.hasRoom e0.platform room_1 = true :=
  launch0.hasRoom_least _ room_1 (by decide +kernel) (by decide +kernel) (by decide +kernel) (by decide +kernel) (by decide +kernel) (by decide +kernel)
theorem allAtoms_all (ts : List Jvm.Cond) (a : Array Jvm.Value) (st : Jvm.State) : (allAtoms ts).before a st = ts.all (fun c => c.before a st) := by
  induction ts with
  | nil => rfl
  | cons c t ih =>
    show (Jvm.Cond.and c (allAtoms t)).before a st = _
    rw [Jvm.Cond.before_and, ih, List.all_cons]
def words1 : List Jvm.Cond := Jvm.Cond.code x code maxLocals ret :: tables_1
/-- a 'code' word, met by the world's own term for the bytes: nothing is compared byte by byte -/
theorem code_word {y : MethodName} {bytes : ByteArray} {mx : Nat} {rt : Option FieldType} {a : Array Value} {s : State} {m : MethodId} {meth : Method} {c : Code} (h1 : s.methodNamed? y = some m) (h2 : s.vm.method? m = some meth) (h3 : meth.code = some c) (h4 : c.code = bytes)
    (h5 : (c.maxLocals == mx && c.exceptionTable.isEmpty && decide (c.maxStack ≤ mostOperands) && decide (meth.sig.returnType = rt) && !meth.locks && decide (parseMethodDescriptor y.desc = some meth.sig)) = true) : (Jvm.Cond.code y bytes mx rt).before a s = true := by
  simp only [Bool.and_eq_true, beq_iff_eq, Bool.not_eq_true', decide_eq_true_eq] at h5
  obtain ⟨⟨⟨⟨⟨g1, g2⟩, g3⟩, g4⟩, g5⟩, g6⟩ := h5
  simp [Cond.before, Cond.holds, Cond.value, h1, h2, h3, h4, g1, g2, g3, g4, g5, g6]
def isCode : Jvm.Cond → Bool
  | .code _ _ _ _ => true
  | _ => false
theorem all_split {L : List Jvm.Cond} {P : Jvm.Cond → Bool} (h1 : L.all (fun c => isCode c || P c) = true) (h2 : ∀ c ∈ L.filter isCode, P c = true) : L.all P = true := by
  refine List.all_eq_true.mpr fun c hc => ?_
  have h := List.all_eq_true.mp h1 c hc
  rcases Bool.eq_false_or_eq_true (isCode c) with hi | hi
  · exact h2 c (List.mem_filter.mpr ⟨hc, hi⟩)
  · simpa [hi] using h
set_option maxRecDepth 65536 in
theorem w_c0 : (Jvm.Cond.code x code maxLocals ret).before args0 about1 = true := code_word (m := ⟨1, 1⟩) (meth := k1m1) (c := k1c1) (by decide +kernel) rfl rfl rfl (by decide +kernel)
set_option maxRecDepth 65536 in
theorem w_c1 : (Jvm.Cond.code ({ cls := "com/example/fairjoin/fairjoin/operator/KeyIndexCountsPinLaw", name := "draw", desc := "(II)I" } : Jvm.MethodName) method_3_code (2 : Nat) (Option.some Jvm.ClassFile.FieldType.int)).before args0 about1 = true := code_word (m := ⟨1, 2⟩) (meth := k1m2) (c := k1c2) (by decide +kernel) rfl rfl rfl (by decide +kernel)
set_option maxRecDepth 65536 in
theorem w_c2 : (Jvm.Cond.code ({ cls := "com/example/fairjoin/fairjoin/operator/KeyIndex", name := "counts", desc := "([II)[I" } : Jvm.MethodName) prog_160_method_3_code (7 : Nat) (Option.some (Jvm.ClassFile.FieldType.array Jvm.ClassFile.FieldType.int))).before args0 about1 = true := code_word (m := ⟨2, 0⟩) (meth := k2m0) (c := k2c0) (by decide +kernel) rfl rfl rfl (by decide +kernel)
set_option maxRecDepth 65536 in
theorem w_c3 : (Jvm.Cond.code ({ cls := "com/example/fairjoin/fairjoin/operator/KeyIndexCountsPinLaw", name := "at", desc := "([IIIIIII)Z" } : Jvm.MethodName) method_5_code (8 : Nat) (Option.some Jvm.ClassFile.FieldType.boolean)).before args0 about1 = true := code_word (m := ⟨1, 4⟩) (meth := k1m4) (c := k1c4) (by decide +kernel) rfl rfl rfl (by decide +kernel)
set_option maxRecDepth 65536 in
theorem w_c4 : (Jvm.Cond.code ({ cls := "com/example/fairjoin/fairjoin/operator/KeyIndexCountsPinLaw", name := "hit", desc := "(IIII)I" } : Jvm.MethodName) method_4_code (4 : Nat) (Option.some Jvm.ClassFile.FieldType.int)).before args0 about1 = true := code_word (m := ⟨1, 3⟩) (meth := k1m3) (c := k1c3) (by decide +kernel) rfl rfl rfl (by decide +kernel)
def codes1 : List Jvm.Cond := [Jvm.Cond.code x code maxLocals ret, Jvm.Cond.code ({ cls := "com/example/fairjoin/fairjoin/operator/KeyIndexCountsPinLaw", name := "draw", desc := "(II)I" } : Jvm.MethodName) method_3_code (2 : Nat) (Option.some Jvm.ClassFile.FieldType.int), Jvm.Cond.code ({ cls := "com/example/fairjoin/fairjoin/operator/KeyIndex", name := "counts", desc := "([II)[I" } : Jvm.MethodName) prog_160_method_3_code (7 : Nat) (Option.some (Jvm.ClassFile.FieldType.array Jvm.ClassFile.FieldType.int)), Jvm.Cond.code ({ cls := "com/example/fairjoin/fairjoin/operator/KeyIndexCountsPinLaw", name := "at", desc := "([IIIIIII)Z" } : Jvm.MethodName) method_5_code (8 : Nat) (Option.some Jvm.ClassFile.FieldType.boolean), Jvm.Cond.code ({ cls := "com/example/fairjoin/fairjoin/operator/KeyIndexCountsPinLaw", name := "hit", desc := "(IIII)I" } : Jvm.MethodName) method_4_code (4 : Nat) (Option.some Jvm.ClassFile.FieldType.int)]
set_option maxRecDepth 65536 in
theorem codes_eq : words1.filter isCode = codes1 := rfl
theorem w_codes : ∀ c ∈ words1.filter isCode, c.before args0 about1 = true := by
  rw [codes_eq]
  intro c hc
  simp only [codes1, List.mem_cons, List.not_mem_nil, or_false] at hc
  rcases hc with rfl | rfl | rfl | rfl | rfl
  · exact w_c0
  · exact w_c1
  · exact w_c2
  · exact w_c3
  · exact w_c4
set_option maxRecDepth 65536 in
theorem w_t1 : words1.all (fun c => isCode c || c.before args0 about1) = true := by decide +kernel
theorem w_tables : (allAtoms (Jvm.Cond.code x code maxLocals ret :: tables_1)).before args0 about1 = true := by
  rw [allAtoms_all]
  show words1.all (fun c => c.before args0 about1) = true
  refine all_split ?_ w_codes
  rw [w_t1]
set_option maxRecDepth 65536 in
theorem w_case : (Jvm.Cond.and given_1 narrow_1).before args0 about1 = true := by decide +kernel
theorem w_applies : (headSpec (Jvm.Cond.code x code maxLocals ret :: tables_1) room_1).applies x e0.platform about1 = true :=
  (Spec.applies_iff w_frames).mpr ⟨w_running, w_runnable, w_alone, w_named, w_hears, w_ripe, w_room, w_tables⟩
theorem atStart : AtStart classFile x code maxLocals ret World_1 tables_1 room_1 Calls_1 rest_1 Pre_1 launch0 p0 e0 about1 theMethod args0 below0 :=
  ⟨lists_1, trivial, launch0.admits_env _ _ _, launch0.least_env, fairChoices_fair.cas, fairChoices_fair.clock, w_frames, w_args, w_heap, w_applies, trivial, trivial, w_case⟩
end start1
theorem witness_1 : WitnessClaimed_1 := ⟨start1.p0, start1.e0, start1.about1, start1.theMethod, start1.args0, start1.below0, start1.atStart⟩
end Jvm.Pilot.@@N@@
