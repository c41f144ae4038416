import JvmDerived
import JvmDerived.Pilot.@@N@@Statement
import JvmDerived.Pilot.@@N@@Code
set_option linter.unusedVariables false
set_option linter.unusedSimpArgs false
@@BLOCK:NumsL.lean.txt@@
@@BLOCK:Masks.lean.txt@@
namespace Jvm.RoadKit
open Sem ClassFile Op Lib Jvm.Stand Jvm.Free Jvm.LawKit
section New
variable {p : Program} {l : Launch} {e : Env} {R : Room} {s : State} {m : MethodId} {args : Array Value} {below : List Frame} {meth : Method} {c : Code} {T : State} {locs : List Loc} {cells slots : Nat}
theorem retI (X : Stand p l e R s m args below meth c T locs cells slots) (hx : p.tables.exec = Jvm.exec) {pc : Nat} {Ls : Array Slot} {z : Int32} {rest : List Value} (hret : meth.sig.returnType = some .int) (hd : decode c.code pc = .ok (.ireturn, 1)) {fs : List Frame}
    (hl : ∀ (f : JFrame) (acts : List Action), f.method = m → f.locked = none → f.entered = [] → (doReturn e (T.setTop f) acts (some (.int z))).1 = T.setFrames fs) : Steps p.tables e below (T.setTop (mkF m pc Ls (.int z :: rest))) (T.setFrames fs) := by
  have hm' : T.vm.method? m = some meth := X.method'
  have hn : narrow .int (.int z) = .int z := rfl
  show Steps p.tables e below (T.setTop { method := m, pc := pc, locals := Ls, stack := _ :: rest, locked := none }) _
  jvm_step X.here [X.here.top, hx, hd, hm', hret, hn]
  first | (intro acts; rw [hl _ acts rfl rfl rfl]) | rw [hl _ _ rfl rfl rfl]
  exact Steps.refl _
end New
end Jvm.RoadKit
namespace Jvm.Pilot.@@N@@
open Jvm Jvm.ClassFile Sem Op Lib Jvm.Free Jvm.Stand Jvm.LawKit Jvm.RoadKit Bundle Jvm.Pilot.@@N@@.Jvm.D
def OwA (Z : State) (h : Heap) (a : Addr) (ty : FieldType) (n : Nat) (f : Nat → Value) : Prop := ∃ c : Cell, Arr Z h a c ty ∧ c.slots.size = n ∧ ∀ j, j < n → c.slots[j]? = some (f j)
theorem owa_lt {Z : State} {h : Heap} {a : Addr} {ty : FieldType} {n : Nat} {f : Nat → Value} (F : OwA Z h a ty n f) : a < h.size := by obtain ⟨c, A, -⟩ := F; exact A.lt
theorem owa_ext {Z : State} {h h' : Heap} {a : Addr} {ty : FieldType} {n : Nat} {f : Nat → Value} (F : OwA Z h a ty n f) (E : Ext h h') : OwA Z h' a ty n f := by obtain ⟨c, A, r⟩ := F; exact ⟨c, A.ext E, r⟩
theorem owa_other {Z : State} {h h' : Heap} {a b : Addr} {ty : FieldType} {n sl : Nat} {v : Value} {f : Nat → Value} (F : OwA Z h b ty n f) (W : Wr h h' a sl v) (q : b ≠ a) : OwA Z h' b ty n f := by obtain ⟨c, A, r⟩ := F; exact ⟨c, A.other W q, r⟩
theorem owa_keep {Z : State} {h h' : Heap} {a : Addr} {ty : FieldType} {n : Nat} {f : Nat → Value} {ws : List Addr} (F : OwA Z h a ty n f) (K : Keep h h' ws) (q : a ∉ ws) : OwA Z h' a ty n f := by obtain ⟨c, A, r⟩ := F; exact ⟨c, ⟨K.2.1 a c A.1 q, A.2⟩, r⟩
theorem owa_heap {Z : State} {h h' : Heap} {a : Addr} {ty : FieldType} {n : Nat} {f : Nat → Value} (F : OwA Z h a ty n f) (q : h' = h) : OwA Z h' a ty n f := by rw [q]; exact F
theorem owa_congr {Z : State} {h : Heap} {a : Addr} {ty : FieldType} {n : Nat} {f g : Nat → Value} (F : OwA Z h a ty n f) (q : ∀ j, j < n → f j = g j) : OwA Z h a ty n g := by
  obtain ⟨c, A, S, H⟩ := F; exact ⟨c, A, S, fun j hj => by rw [← q j hj]; exact H j hj⟩
theorem owa_set {Z : State} {h h' : Heap} {a : Addr} {ty : FieldType} {n sl : Nat} {v : Value} {f : Nat → Value} (F : OwA Z h a ty n f) (W : Wr h h' a sl v) : OwA Z h' a ty n (fun j => if j = sl then v else f j) := by
  obtain ⟨c, A, S, H⟩ := F
  refine ⟨_, A.same W, by rw [sz_set]; exact S, fun j hj => ?_⟩
  by_cases u : sl = j
  · subst u
    have hj' : sl < c.slots.size := by rw [S]; exact hj
    simp [Cell.setSlot, hj']
  · have hu : ¬ j = sl := fun q => u q.symm
    have := H j hj
    simp only [Cell.setSlot, hu, if_false] at this ⊢
    rw [Array.getElem?_setIfInBounds_ne u]; exact this
theorem owa_new {Z : State} {h : Heap} {a : Addr} {ty : FieldType} {k : ClassId} {z : Int32} {n : Nat} (A : Arr Z h a (newA k ty z) ty) (hn : z.toNatClampNeg = n) : OwA Z h a ty n (fun _ => defaultValue ty) :=
  ⟨_, A, by rw [sz_new]; exact hn, fun j hj => by
    have : j < z.toNatClampNeg := by rw [hn]; exact hj
    simp [newA, this]⟩
theorem owa_in {c : Cell} {n : Nat} {j : Int32} (S : c.slots.size = n) (h0 : ¬ j < 0) (h1 : j.toNatClampNeg < n) : ¬ (j < 0 ∨ c.slots.size ≤ j.toNatClampNeg) := by
  rintro (q | q)
  · exact h0 q
  · rw [S] at q; omega
theorem own_nat {i : Nat} (h : i < 2147483648) : (Int32.ofNat i).toInt = (i : Int) := Int32.toInt_ofNat_of_lt (by omega)
theorem own_clamp {i : Nat} (h : i < 2147483648) : (Int32.ofNat i).toNatClampNeg = i := by
  rw [Int32.toNatClampNeg, own_nat h]; omega
theorem own_pos {i : Nat} (h : i < 2147483648) : ¬ Int32.ofNat i < 0 := by
  rw [Int32.lt_iff_toInt_lt, own_nat h, Int32.toInt_zero]; omega
theorem own_ltn {i n : Nat} (hi : i < 2147483648) (hn : n < 2147483648) : Int32.ofNat i < Int32.ofNat n ↔ i < n := by
  rw [Int32.lt_iff_toInt_lt, own_nat hi, own_nat hn]; omega
theorem own_up1 (i : Nat) : Int32.ofNat i + (1 : Int32) = Int32.ofNat (i + 1) := (Int32.ofNat_add i 1).symm
def own_mn (x y : Int64) : Int64 := if (0 : Int32) < lcmpW x y then y else x
def own_mx (x y : Int64) : Int64 := if lcmpW x y < (0 : Int32) then y else x
def own_cmp (x y : Int64) : Int32 := if lcmpW x y < (0 : Int32) then -1 else if lcmpW x y = (0 : Int32) then 0 else 1
def own_cu (x y : Int64) : Int32 := own_cmp (x + (-9223372036854775808 : Int64)) (y + (-9223372036854775808 : Int64))
theorem own_sub (x y : Int64) : (x + y) - x = y := by
  rw [Int64.add_comm, Int64.add_sub_cancel]
theorem own_close (x y : Int64) (d : Nat) (hd : d ≤ 3) (eg : y = x + (Int32.ofNat d).toInt64) : own_cu (y - x) (own_mn (((1 : Int32).toInt64) * (4 : Int64)) (2147483639 : Int64)) < (0 : Int32) := by
  subst eg
  rw [own_sub]
  have hc : d = 0 ∨ d = 1 ∨ d = 2 ∨ d = 3 := by omega
  rcases hc with rfl | rfl | rfl | rfl <;> decide +kernel
theorem own_one64 (x y : Int64) (d : Nat) (hd : d ≤ 3) (eg : y = x + (Int32.ofNat d).toInt64) : ((((y - x) + (64 : Int64)) / (64 : Int64)).toInt32) = (1 : Int32) := by
  subst eg
  rw [own_sub]
  have hc : d = 0 ∨ d = 1 ∨ d = 2 ∨ d = 3 := by omega
  rcases hc with rfl | rfl | rfl | rfl <;> decide +kernel
theorem own_span (x y : Int64) (d : Nat) (hd : d ≤ 3) (eg : y = x + (Int32.ofNat d).toInt64) : (((y - x) + (1 : Int64)).toInt32) = Int32.ofNat (d + 1) := by
  subst eg
  rw [own_sub]
  have hc : d = 0 ∨ d = 1 ∨ d = 2 ∨ d = 3 := by omega
  rcases hc with rfl | rfl | rfl | rfl <;> decide +kernel
theorem own_span64 (x y : Int64) (d : Nat) (hd : d ≤ 3) (eg : y = x + (Int32.ofNat d).toInt64) : ((y - x) + (1 : Int64)) = (Int32.ofNat (d + 1)).toInt64 := by
  subst eg
  rw [own_sub]
  have hc : d = 0 ∨ d = 1 ∨ d = 2 ∨ d = 3 := by omega
  rcases hc with rfl | rfl | rfl | rfl <;> decide +kernel
theorem own_cu16 (x y : Int64) (d : Nat) (hd : d ≤ 3) (eg : y = x + (Int32.ofNat d).toInt64) : own_cu (y - x) (own_mn ((16 : Int64) * (4 : Int64)) (2147483639 : Int64)) < (0 : Int32) := by
  subst eg
  rw [own_sub]
  have hc : d = 0 ∨ d = 1 ∨ d = 2 ∨ d = 3 := by omega
  rcases hc with rfl | rfl | rfl | rfl <;> decide +kernel
theorem own_prod (d e : Nat) (hd : d ≤ 3) (he : e ≤ 3) : (((Int32.ofNat (d + 1)).toInt64 * (Int32.ofNat (e + 1)).toInt64).toInt32) = Int32.ofNat ((d + 1) * (e + 1)) := by
  have hc : d = 0 ∨ d = 1 ∨ d = 2 ∨ d = 3 := by omega
  have hc' : e = 0 ∨ e = 1 ∨ e = 2 ∨ e = 3 := by omega
  rcases hc with rfl | rfl | rfl | rfl <;> rcases hc' with rfl | rfl | rfl | rfl <;> decide +kernel
theorem own_le16 (d e : Nat) (hd : d ≤ 3) (he : e ≤ 3) : ¬ ((0 : Int32) < (lcmpW ((Int32.ofNat (d + 1)).toInt64 * (Int32.ofNat (e + 1)).toInt64) (own_mn ((16 : Int64) * (4 : Int64)) (2147483639 : Int64)))) := by
  have hc : d = 0 ∨ d = 1 ∨ d = 2 ∨ d = 3 := by omega
  have hc' : e = 0 ∨ e = 1 ∨ e = 2 ∨ e = 3 := by omega
  rcases hc with rfl | rfl | rfl | rfl <;> rcases hc' with rfl | rfl | rfl | rfl <;> decide +kernel
def own_slotD (fb fs sb ss f s : Int64) : Int32 := if (lcmpW (f - fb) (0 : Int64)) < (0 : Int32) then (-1 : Int32) else if (lcmpW (f - fb) fs) < (0 : Int32) then (if (lcmpW (s - sb) (0 : Int64)) < (0 : Int32) then (-1 : Int32) else if (lcmpW (s - sb) ss) < (0 : Int32) then (((f - fb) * ss) + (s - sb)).toInt32 else (-1 : Int32)) else (-1 : Int32)
theorem own_l16 (d e : Nat) (hd : d ≤ 3) (he : e ≤ 3) : (d + 1) * (e + 1) ≤ 16 := by
  have hc : d = 0 ∨ d = 1 ∨ d = 2 ∨ d = 3 := by omega
  rcases hc with rfl | rfl | rfl | rfl <;> omega
def DK (Z : State) (h : Heap) (a : Addr) (wi : Int32) (lf gf ls gs fb fs sb ss : Int64) (nu : Value) (bf : Int32) (se : Value) : Prop := Exa Z h a "com/example/fairjoin/fairjoin/operator/DirectKeys" ∧ Fld Z h a "com/example/fairjoin/fairjoin/operator/DirectKeys" "width" "I" (.int wi) ∧ Fld Z h a "com/example/fairjoin/fairjoin/operator/DirectKeys" "leastFirst" "J" (.long lf) ∧ Fld Z h a "com/example/fairjoin/fairjoin/operator/DirectKeys" "greatestFirst" "J" (.long gf) ∧ Fld Z h a "com/example/fairjoin/fairjoin/operator/DirectKeys" "leastSecond" "J" (.long ls) ∧ Fld Z h a "com/example/fairjoin/fairjoin/operator/DirectKeys" "greatestSecond" "J" (.long gs) ∧ Fld Z h a "com/example/fairjoin/fairjoin/operator/DirectKeys" "firstBase" "J" (.long fb) ∧ Fld Z h a "com/example/fairjoin/fairjoin/operator/DirectKeys" "firstSpan" "J" (.long fs) ∧ Fld Z h a "com/example/fairjoin/fairjoin/operator/DirectKeys" "secondBase" "J" (.long sb) ∧ Fld Z h a "com/example/fairjoin/fairjoin/operator/DirectKeys" "secondSpan" "J" (.long ss) ∧ Fld Z h a "com/example/fairjoin/fairjoin/operator/DirectKeys" "numbers" "[I" nu ∧ Fld Z h a "com/example/fairjoin/fairjoin/operator/DirectKeys" "byFirst" "Z" (.int bf) ∧ Fld Z h a "com/example/fairjoin/fairjoin/operator/DirectKeys" "seconds" "[J" se
theorem dk_wi {Z : State} {h : Heap} {a : Addr} {wi : Int32} {lf gf ls gs fb fs sb ss : Int64} {nu : Value} {bf : Int32} {se : Value} (D : DK Z h a wi lf gf ls gs fb fs sb ss nu bf se) : Fld Z h a "com/example/fairjoin/fairjoin/operator/DirectKeys" "width" "I" (.int wi) := D.2.1
theorem dk_lf {Z : State} {h : Heap} {a : Addr} {wi : Int32} {lf gf ls gs fb fs sb ss : Int64} {nu : Value} {bf : Int32} {se : Value} (D : DK Z h a wi lf gf ls gs fb fs sb ss nu bf se) : Fld Z h a "com/example/fairjoin/fairjoin/operator/DirectKeys" "leastFirst" "J" (.long lf) := D.2.2.1
theorem dk_gf {Z : State} {h : Heap} {a : Addr} {wi : Int32} {lf gf ls gs fb fs sb ss : Int64} {nu : Value} {bf : Int32} {se : Value} (D : DK Z h a wi lf gf ls gs fb fs sb ss nu bf se) : Fld Z h a "com/example/fairjoin/fairjoin/operator/DirectKeys" "greatestFirst" "J" (.long gf) := D.2.2.2.1
theorem dk_ls {Z : State} {h : Heap} {a : Addr} {wi : Int32} {lf gf ls gs fb fs sb ss : Int64} {nu : Value} {bf : Int32} {se : Value} (D : DK Z h a wi lf gf ls gs fb fs sb ss nu bf se) : Fld Z h a "com/example/fairjoin/fairjoin/operator/DirectKeys" "leastSecond" "J" (.long ls) := D.2.2.2.2.1
theorem dk_gs {Z : State} {h : Heap} {a : Addr} {wi : Int32} {lf gf ls gs fb fs sb ss : Int64} {nu : Value} {bf : Int32} {se : Value} (D : DK Z h a wi lf gf ls gs fb fs sb ss nu bf se) : Fld Z h a "com/example/fairjoin/fairjoin/operator/DirectKeys" "greatestSecond" "J" (.long gs) := D.2.2.2.2.2.1
theorem dk_fb {Z : State} {h : Heap} {a : Addr} {wi : Int32} {lf gf ls gs fb fs sb ss : Int64} {nu : Value} {bf : Int32} {se : Value} (D : DK Z h a wi lf gf ls gs fb fs sb ss nu bf se) : Fld Z h a "com/example/fairjoin/fairjoin/operator/DirectKeys" "firstBase" "J" (.long fb) := D.2.2.2.2.2.2.1
theorem dk_fs {Z : State} {h : Heap} {a : Addr} {wi : Int32} {lf gf ls gs fb fs sb ss : Int64} {nu : Value} {bf : Int32} {se : Value} (D : DK Z h a wi lf gf ls gs fb fs sb ss nu bf se) : Fld Z h a "com/example/fairjoin/fairjoin/operator/DirectKeys" "firstSpan" "J" (.long fs) := D.2.2.2.2.2.2.2.1
theorem dk_sb {Z : State} {h : Heap} {a : Addr} {wi : Int32} {lf gf ls gs fb fs sb ss : Int64} {nu : Value} {bf : Int32} {se : Value} (D : DK Z h a wi lf gf ls gs fb fs sb ss nu bf se) : Fld Z h a "com/example/fairjoin/fairjoin/operator/DirectKeys" "secondBase" "J" (.long sb) := D.2.2.2.2.2.2.2.2.1
theorem dk_ss {Z : State} {h : Heap} {a : Addr} {wi : Int32} {lf gf ls gs fb fs sb ss : Int64} {nu : Value} {bf : Int32} {se : Value} (D : DK Z h a wi lf gf ls gs fb fs sb ss nu bf se) : Fld Z h a "com/example/fairjoin/fairjoin/operator/DirectKeys" "secondSpan" "J" (.long ss) := D.2.2.2.2.2.2.2.2.2.1
theorem dk_nu {Z : State} {h : Heap} {a : Addr} {wi : Int32} {lf gf ls gs fb fs sb ss : Int64} {nu : Value} {bf : Int32} {se : Value} (D : DK Z h a wi lf gf ls gs fb fs sb ss nu bf se) : Fld Z h a "com/example/fairjoin/fairjoin/operator/DirectKeys" "numbers" "[I" nu := D.2.2.2.2.2.2.2.2.2.2.1
theorem dk_bf {Z : State} {h : Heap} {a : Addr} {wi : Int32} {lf gf ls gs fb fs sb ss : Int64} {nu : Value} {bf : Int32} {se : Value} (D : DK Z h a wi lf gf ls gs fb fs sb ss nu bf se) : Fld Z h a "com/example/fairjoin/fairjoin/operator/DirectKeys" "byFirst" "Z" (.int bf) := D.2.2.2.2.2.2.2.2.2.2.2.1
theorem dk_se {Z : State} {h : Heap} {a : Addr} {wi : Int32} {lf gf ls gs fb fs sb ss : Int64} {nu : Value} {bf : Int32} {se : Value} (D : DK Z h a wi lf gf ls gs fb fs sb ss nu bf se) : Fld Z h a "com/example/fairjoin/fairjoin/operator/DirectKeys" "seconds" "[J" se := D.2.2.2.2.2.2.2.2.2.2.2.2
theorem dk_ext {Z : State} {h h' : Heap} {a : Addr} {wi : Int32} {lf gf ls gs fb fs sb ss : Int64} {nu : Value} {bf : Int32} {se : Value} (D : DK Z h a wi lf gf ls gs fb fs sb ss nu bf se) (E : Ext h h') : DK Z h' a wi lf gf ls gs fb fs sb ss nu bf se := ⟨D.1.ext E, (dk_wi D).ext E, (dk_lf D).ext E, (dk_gf D).ext E, (dk_ls D).ext E, (dk_gs D).ext E, (dk_fb D).ext E, (dk_fs D).ext E, (dk_sb D).ext E, (dk_ss D).ext E, (dk_nu D).ext E, (dk_bf D).ext E, (dk_se D).ext E⟩
theorem dk_heap {Z : State} {h h' : Heap} {a : Addr} {wi : Int32} {lf gf ls gs fb fs sb ss : Int64} {nu : Value} {bf : Int32} {se : Value} (D : DK Z h a wi lf gf ls gs fb fs sb ss nu bf se) (q : h' = h) : DK Z h' a wi lf gf ls gs fb fs sb ss nu bf se := by rw [q]; exact D
theorem dk_keep {Z : State} {h h' : Heap} {a : Addr} {ws : List Addr} {wi : Int32} {lf gf ls gs fb fs sb ss : Int64} {nu : Value} {bf : Int32} {se : Value} (D : DK Z h a wi lf gf ls gs fb fs sb ss nu bf se) (K : Keep h h' ws) (q : a ∉ ws) : DK Z h' a wi lf gf ls gs fb fs sb ss nu bf se := ⟨D.1.keep K, (dk_wi D).keep K q, (dk_lf D).keep K q, (dk_gf D).keep K q, (dk_ls D).keep K q, (dk_gs D).keep K q, (dk_fb D).keep K q, (dk_fs D).keep K q, (dk_sb D).keep K q, (dk_ss D).keep K q, (dk_nu D).keep K q, (dk_bf D).keep K q, (dk_se D).keep K q⟩
theorem dk_other {Z : State} {h h' : Heap} {a b : Addr} {sl : Nat} {v : Value} {wi : Int32} {lf gf ls gs fb fs sb ss : Int64} {nu : Value} {bf : Int32} {se : Value} (D : DK Z h a wi lf gf ls gs fb fs sb ss nu bf se) (W : Wr h h' b sl v) (q : a ≠ b) : DK Z h' a wi lf gf ls gs fb fs sb ss nu bf se := ⟨D.1.wr W, (dk_wi D).other W (Or.inl q), (dk_lf D).other W (Or.inl q), (dk_gf D).other W (Or.inl q), (dk_ls D).other W (Or.inl q), (dk_gs D).other W (Or.inl q), (dk_fb D).other W (Or.inl q), (dk_fs D).other W (Or.inl q), (dk_sb D).other W (Or.inl q), (dk_ss D).other W (Or.inl q), (dk_nu D).other W (Or.inl q), (dk_bf D).other W (Or.inl q), (dk_se D).other W (Or.inl q)⟩
set_option maxRecDepth 65536 in
theorem dks_wi {Z : State} {a0 : Array Value} (hw : ∀ d ∈ tables_1, d.before a0 Z = true) {h h' : Heap} {a : Addr} {wi : Int32} {lf gf ls gs fb fs sb ss : Int64} {nu : Value} {bf : Int32} {se : Value} {x : Int32} (D : DK Z h a wi lf gf ls gs fb fs sb ss nu bf se) (W : Wr h h' a (Jvm.RoadKit.slotOf Z "com/example/fairjoin/fairjoin/operator/DirectKeys" "width" "I") (.int x)) : DK Z h' a x lf gf ls gs fb fs sb ss nu bf se :=
  ⟨D.1.wr W,
   (dk_wi D).same W,
   (dk_lf D).other W (Or.inr (slot_ne (Or.inl (hw _ (List.mem_of_getElem? (i := 13) rfl))) (Or.inr (hw _ (List.mem_of_getElem? (i := 27) rfl))) (by decide) (t := .long) (t' := .int) (by decide) (by decide))),
   (dk_gf D).other W (Or.inr (slot_ne (Or.inl (hw _ (List.mem_of_getElem? (i := 16) rfl))) (Or.inr (hw _ (List.mem_of_getElem? (i := 27) rfl))) (by decide) (t := .long) (t' := .int) (by decide) (by decide))),
   (dk_ls D).other W (Or.inr (slot_ne (Or.inl (hw _ (List.mem_of_getElem? (i := 18) rfl))) (Or.inr (hw _ (List.mem_of_getElem? (i := 27) rfl))) (by decide) (t := .long) (t' := .int) (by decide) (by decide))),
   (dk_gs D).other W (Or.inr (slot_ne (Or.inl (hw _ (List.mem_of_getElem? (i := 20) rfl))) (Or.inr (hw _ (List.mem_of_getElem? (i := 27) rfl))) (by decide) (t := .long) (t' := .int) (by decide) (by decide))),
   (dk_fb D).other W (Or.inr (slot_ne (Or.inl (hw _ (List.mem_of_getElem? (i := 70) rfl))) (Or.inr (hw _ (List.mem_of_getElem? (i := 27) rfl))) (by decide) (t := .long) (t' := .int) (by decide) (by decide))),
   (dk_fs D).other W (Or.inr (slot_ne (Or.inl (hw _ (List.mem_of_getElem? (i := 72) rfl))) (Or.inr (hw _ (List.mem_of_getElem? (i := 27) rfl))) (by decide) (t := .long) (t' := .int) (by decide) (by decide))),
   (dk_sb D).other W (Or.inr (slot_ne (Or.inl (hw _ (List.mem_of_getElem? (i := 74) rfl))) (Or.inr (hw _ (List.mem_of_getElem? (i := 27) rfl))) (by decide) (t := .long) (t' := .int) (by decide) (by decide))),
   (dk_ss D).other W (Or.inr (slot_ne (Or.inl (hw _ (List.mem_of_getElem? (i := 22) rfl))) (Or.inr (hw _ (List.mem_of_getElem? (i := 27) rfl))) (by decide) (t := .long) (t' := .int) (by decide) (by decide))),
   (dk_nu D).other W (Or.inr (slot_ne (Or.inl (hw _ (List.mem_of_getElem? (i := 25) rfl))) (Or.inr (hw _ (List.mem_of_getElem? (i := 27) rfl))) (by decide) (t := (.array .int)) (t' := .int) (by decide) (by decide))),
   (dk_bf D).other W (Or.inr (slot_ne (Or.inl (hw _ (List.mem_of_getElem? (i := 68) rfl))) (Or.inr (hw _ (List.mem_of_getElem? (i := 27) rfl))) (by decide) (t := .boolean) (t' := .int) (by decide) (by decide))),
   (dk_se D).other W (Or.inr (slot_ne (Or.inl (hw _ (List.mem_of_getElem? (i := 76) rfl))) (Or.inr (hw _ (List.mem_of_getElem? (i := 27) rfl))) (by decide) (t := (.array .long)) (t' := .int) (by decide) (by decide)))⟩
set_option maxRecDepth 65536 in
theorem dks_lf {Z : State} {a0 : Array Value} (hw : ∀ d ∈ tables_1, d.before a0 Z = true) {h h' : Heap} {a : Addr} {wi : Int32} {lf gf ls gs fb fs sb ss : Int64} {nu : Value} {bf : Int32} {se : Value} {x : Int64} (D : DK Z h a wi lf gf ls gs fb fs sb ss nu bf se) (W : Wr h h' a (Jvm.RoadKit.slotOf Z "com/example/fairjoin/fairjoin/operator/DirectKeys" "leastFirst" "J") (.long x)) : DK Z h' a wi x gf ls gs fb fs sb ss nu bf se :=
  ⟨D.1.wr W,
   (dk_wi D).other W (Or.inr (slot_ne (Or.inr (hw _ (List.mem_of_getElem? (i := 27) rfl))) (Or.inl (hw _ (List.mem_of_getElem? (i := 13) rfl))) (by decide) (t := .int) (t' := .long) (by decide) (by decide))),
   (dk_lf D).same W,
   (dk_gf D).other W (Or.inr (slot_ne (Or.inl (hw _ (List.mem_of_getElem? (i := 16) rfl))) (Or.inl (hw _ (List.mem_of_getElem? (i := 13) rfl))) (by decide) (t := .long) (t' := .long) (by decide) (by decide))),
   (dk_ls D).other W (Or.inr (slot_ne (Or.inl (hw _ (List.mem_of_getElem? (i := 18) rfl))) (Or.inl (hw _ (List.mem_of_getElem? (i := 13) rfl))) (by decide) (t := .long) (t' := .long) (by decide) (by decide))),
   (dk_gs D).other W (Or.inr (slot_ne (Or.inl (hw _ (List.mem_of_getElem? (i := 20) rfl))) (Or.inl (hw _ (List.mem_of_getElem? (i := 13) rfl))) (by decide) (t := .long) (t' := .long) (by decide) (by decide))),
   (dk_fb D).other W (Or.inr (slot_ne (Or.inl (hw _ (List.mem_of_getElem? (i := 70) rfl))) (Or.inl (hw _ (List.mem_of_getElem? (i := 13) rfl))) (by decide) (t := .long) (t' := .long) (by decide) (by decide))),
   (dk_fs D).other W (Or.inr (slot_ne (Or.inl (hw _ (List.mem_of_getElem? (i := 72) rfl))) (Or.inl (hw _ (List.mem_of_getElem? (i := 13) rfl))) (by decide) (t := .long) (t' := .long) (by decide) (by decide))),
   (dk_sb D).other W (Or.inr (slot_ne (Or.inl (hw _ (List.mem_of_getElem? (i := 74) rfl))) (Or.inl (hw _ (List.mem_of_getElem? (i := 13) rfl))) (by decide) (t := .long) (t' := .long) (by decide) (by decide))),
   (dk_ss D).other W (Or.inr (slot_ne (Or.inl (hw _ (List.mem_of_getElem? (i := 22) rfl))) (Or.inl (hw _ (List.mem_of_getElem? (i := 13) rfl))) (by decide) (t := .long) (t' := .long) (by decide) (by decide))),
   (dk_nu D).other W (Or.inr (slot_ne (Or.inl (hw _ (List.mem_of_getElem? (i := 25) rfl))) (Or.inl (hw _ (List.mem_of_getElem? (i := 13) rfl))) (by decide) (t := (.array .int)) (t' := .long) (by decide) (by decide))),
   (dk_bf D).other W (Or.inr (slot_ne (Or.inl (hw _ (List.mem_of_getElem? (i := 68) rfl))) (Or.inl (hw _ (List.mem_of_getElem? (i := 13) rfl))) (by decide) (t := .boolean) (t' := .long) (by decide) (by decide))),
   (dk_se D).other W (Or.inr (slot_ne (Or.inl (hw _ (List.mem_of_getElem? (i := 76) rfl))) (Or.inl (hw _ (List.mem_of_getElem? (i := 13) rfl))) (by decide) (t := (.array .long)) (t' := .long) (by decide) (by decide)))⟩
set_option maxRecDepth 65536 in
theorem dks_gf {Z : State} {a0 : Array Value} (hw : ∀ d ∈ tables_1, d.before a0 Z = true) {h h' : Heap} {a : Addr} {wi : Int32} {lf gf ls gs fb fs sb ss : Int64} {nu : Value} {bf : Int32} {se : Value} {x : Int64} (D : DK Z h a wi lf gf ls gs fb fs sb ss nu bf se) (W : Wr h h' a (Jvm.RoadKit.slotOf Z "com/example/fairjoin/fairjoin/operator/DirectKeys" "greatestFirst" "J") (.long x)) : DK Z h' a wi lf x ls gs fb fs sb ss nu bf se :=
  ⟨D.1.wr W,
   (dk_wi D).other W (Or.inr (slot_ne (Or.inr (hw _ (List.mem_of_getElem? (i := 27) rfl))) (Or.inl (hw _ (List.mem_of_getElem? (i := 16) rfl))) (by decide) (t := .int) (t' := .long) (by decide) (by decide))),
   (dk_lf D).other W (Or.inr (slot_ne (Or.inl (hw _ (List.mem_of_getElem? (i := 13) rfl))) (Or.inl (hw _ (List.mem_of_getElem? (i := 16) rfl))) (by decide) (t := .long) (t' := .long) (by decide) (by decide))),
   (dk_gf D).same W,
   (dk_ls D).other W (Or.inr (slot_ne (Or.inl (hw _ (List.mem_of_getElem? (i := 18) rfl))) (Or.inl (hw _ (List.mem_of_getElem? (i := 16) rfl))) (by decide) (t := .long) (t' := .long) (by decide) (by decide))),
   (dk_gs D).other W (Or.inr (slot_ne (Or.inl (hw _ (List.mem_of_getElem? (i := 20) rfl))) (Or.inl (hw _ (List.mem_of_getElem? (i := 16) rfl))) (by decide) (t := .long) (t' := .long) (by decide) (by decide))),
   (dk_fb D).other W (Or.inr (slot_ne (Or.inl (hw _ (List.mem_of_getElem? (i := 70) rfl))) (Or.inl (hw _ (List.mem_of_getElem? (i := 16) rfl))) (by decide) (t := .long) (t' := .long) (by decide) (by decide))),
   (dk_fs D).other W (Or.inr (slot_ne (Or.inl (hw _ (List.mem_of_getElem? (i := 72) rfl))) (Or.inl (hw _ (List.mem_of_getElem? (i := 16) rfl))) (by decide) (t := .long) (t' := .long) (by decide) (by decide))),
   (dk_sb D).other W (Or.inr (slot_ne (Or.inl (hw _ (List.mem_of_getElem? (i := 74) rfl))) (Or.inl (hw _ (List.mem_of_getElem? (i := 16) rfl))) (by decide) (t := .long) (t' := .long) (by decide) (by decide))),
   (dk_ss D).other W (Or.inr (slot_ne (Or.inl (hw _ (List.mem_of_getElem? (i := 22) rfl))) (Or.inl (hw _ (List.mem_of_getElem? (i := 16) rfl))) (by decide) (t := .long) (t' := .long) (by decide) (by decide))),
   (dk_nu D).other W (Or.inr (slot_ne (Or.inl (hw _ (List.mem_of_getElem? (i := 25) rfl))) (Or.inl (hw _ (List.mem_of_getElem? (i := 16) rfl))) (by decide) (t := (.array .int)) (t' := .long) (by decide) (by decide))),
   (dk_bf D).other W (Or.inr (slot_ne (Or.inl (hw _ (List.mem_of_getElem? (i := 68) rfl))) (Or.inl (hw _ (List.mem_of_getElem? (i := 16) rfl))) (by decide) (t := .boolean) (t' := .long) (by decide) (by decide))),
   (dk_se D).other W (Or.inr (slot_ne (Or.inl (hw _ (List.mem_of_getElem? (i := 76) rfl))) (Or.inl (hw _ (List.mem_of_getElem? (i := 16) rfl))) (by decide) (t := (.array .long)) (t' := .long) (by decide) (by decide)))⟩
set_option maxRecDepth 65536 in
theorem dks_ls {Z : State} {a0 : Array Value} (hw : ∀ d ∈ tables_1, d.before a0 Z = true) {h h' : Heap} {a : Addr} {wi : Int32} {lf gf ls gs fb fs sb ss : Int64} {nu : Value} {bf : Int32} {se : Value} {x : Int64} (D : DK Z h a wi lf gf ls gs fb fs sb ss nu bf se) (W : Wr h h' a (Jvm.RoadKit.slotOf Z "com/example/fairjoin/fairjoin/operator/DirectKeys" "leastSecond" "J") (.long x)) : DK Z h' a wi lf gf x gs fb fs sb ss nu bf se :=
  ⟨D.1.wr W,
   (dk_wi D).other W (Or.inr (slot_ne (Or.inr (hw _ (List.mem_of_getElem? (i := 27) rfl))) (Or.inl (hw _ (List.mem_of_getElem? (i := 18) rfl))) (by decide) (t := .int) (t' := .long) (by decide) (by decide))),
   (dk_lf D).other W (Or.inr (slot_ne (Or.inl (hw _ (List.mem_of_getElem? (i := 13) rfl))) (Or.inl (hw _ (List.mem_of_getElem? (i := 18) rfl))) (by decide) (t := .long) (t' := .long) (by decide) (by decide))),
   (dk_gf D).other W (Or.inr (slot_ne (Or.inl (hw _ (List.mem_of_getElem? (i := 16) rfl))) (Or.inl (hw _ (List.mem_of_getElem? (i := 18) rfl))) (by decide) (t := .long) (t' := .long) (by decide) (by decide))),
   (dk_ls D).same W,
   (dk_gs D).other W (Or.inr (slot_ne (Or.inl (hw _ (List.mem_of_getElem? (i := 20) rfl))) (Or.inl (hw _ (List.mem_of_getElem? (i := 18) rfl))) (by decide) (t := .long) (t' := .long) (by decide) (by decide))),
   (dk_fb D).other W (Or.inr (slot_ne (Or.inl (hw _ (List.mem_of_getElem? (i := 70) rfl))) (Or.inl (hw _ (List.mem_of_getElem? (i := 18) rfl))) (by decide) (t := .long) (t' := .long) (by decide) (by decide))),
   (dk_fs D).other W (Or.inr (slot_ne (Or.inl (hw _ (List.mem_of_getElem? (i := 72) rfl))) (Or.inl (hw _ (List.mem_of_getElem? (i := 18) rfl))) (by decide) (t := .long) (t' := .long) (by decide) (by decide))),
   (dk_sb D).other W (Or.inr (slot_ne (Or.inl (hw _ (List.mem_of_getElem? (i := 74) rfl))) (Or.inl (hw _ (List.mem_of_getElem? (i := 18) rfl))) (by decide) (t := .long) (t' := .long) (by decide) (by decide))),
   (dk_ss D).other W (Or.inr (slot_ne (Or.inl (hw _ (List.mem_of_getElem? (i := 22) rfl))) (Or.inl (hw _ (List.mem_of_getElem? (i := 18) rfl))) (by decide) (t := .long) (t' := .long) (by decide) (by decide))),
   (dk_nu D).other W (Or.inr (slot_ne (Or.inl (hw _ (List.mem_of_getElem? (i := 25) rfl))) (Or.inl (hw _ (List.mem_of_getElem? (i := 18) rfl))) (by decide) (t := (.array .int)) (t' := .long) (by decide) (by decide))),
   (dk_bf D).other W (Or.inr (slot_ne (Or.inl (hw _ (List.mem_of_getElem? (i := 68) rfl))) (Or.inl (hw _ (List.mem_of_getElem? (i := 18) rfl))) (by decide) (t := .boolean) (t' := .long) (by decide) (by decide))),
   (dk_se D).other W (Or.inr (slot_ne (Or.inl (hw _ (List.mem_of_getElem? (i := 76) rfl))) (Or.inl (hw _ (List.mem_of_getElem? (i := 18) rfl))) (by decide) (t := (.array .long)) (t' := .long) (by decide) (by decide)))⟩
set_option maxRecDepth 65536 in
theorem dks_gs {Z : State} {a0 : Array Value} (hw : ∀ d ∈ tables_1, d.before a0 Z = true) {h h' : Heap} {a : Addr} {wi : Int32} {lf gf ls gs fb fs sb ss : Int64} {nu : Value} {bf : Int32} {se : Value} {x : Int64} (D : DK Z h a wi lf gf ls gs fb fs sb ss nu bf se) (W : Wr h h' a (Jvm.RoadKit.slotOf Z "com/example/fairjoin/fairjoin/operator/DirectKeys" "greatestSecond" "J") (.long x)) : DK Z h' a wi lf gf ls x fb fs sb ss nu bf se :=
  ⟨D.1.wr W,
   (dk_wi D).other W (Or.inr (slot_ne (Or.inr (hw _ (List.mem_of_getElem? (i := 27) rfl))) (Or.inl (hw _ (List.mem_of_getElem? (i := 20) rfl))) (by decide) (t := .int) (t' := .long) (by decide) (by decide))),
   (dk_lf D).other W (Or.inr (slot_ne (Or.inl (hw _ (List.mem_of_getElem? (i := 13) rfl))) (Or.inl (hw _ (List.mem_of_getElem? (i := 20) rfl))) (by decide) (t := .long) (t' := .long) (by decide) (by decide))),
   (dk_gf D).other W (Or.inr (slot_ne (Or.inl (hw _ (List.mem_of_getElem? (i := 16) rfl))) (Or.inl (hw _ (List.mem_of_getElem? (i := 20) rfl))) (by decide) (t := .long) (t' := .long) (by decide) (by decide))),
   (dk_ls D).other W (Or.inr (slot_ne (Or.inl (hw _ (List.mem_of_getElem? (i := 18) rfl))) (Or.inl (hw _ (List.mem_of_getElem? (i := 20) rfl))) (by decide) (t := .long) (t' := .long) (by decide) (by decide))),
   (dk_gs D).same W,
   (dk_fb D).other W (Or.inr (slot_ne (Or.inl (hw _ (List.mem_of_getElem? (i := 70) rfl))) (Or.inl (hw _ (List.mem_of_getElem? (i := 20) rfl))) (by decide) (t := .long) (t' := .long) (by decide) (by decide))),
   (dk_fs D).other W (Or.inr (slot_ne (Or.inl (hw _ (List.mem_of_getElem? (i := 72) rfl))) (Or.inl (hw _ (List.mem_of_getElem? (i := 20) rfl))) (by decide) (t := .long) (t' := .long) (by decide) (by decide))),
   (dk_sb D).other W (Or.inr (slot_ne (Or.inl (hw _ (List.mem_of_getElem? (i := 74) rfl))) (Or.inl (hw _ (List.mem_of_getElem? (i := 20) rfl))) (by decide) (t := .long) (t' := .long) (by decide) (by decide))),
   (dk_ss D).other W (Or.inr (slot_ne (Or.inl (hw _ (List.mem_of_getElem? (i := 22) rfl))) (Or.inl (hw _ (List.mem_of_getElem? (i := 20) rfl))) (by decide) (t := .long) (t' := .long) (by decide) (by decide))),
   (dk_nu D).other W (Or.inr (slot_ne (Or.inl (hw _ (List.mem_of_getElem? (i := 25) rfl))) (Or.inl (hw _ (List.mem_of_getElem? (i := 20) rfl))) (by decide) (t := (.array .int)) (t' := .long) (by decide) (by decide))),
   (dk_bf D).other W (Or.inr (slot_ne (Or.inl (hw _ (List.mem_of_getElem? (i := 68) rfl))) (Or.inl (hw _ (List.mem_of_getElem? (i := 20) rfl))) (by decide) (t := .boolean) (t' := .long) (by decide) (by decide))),
   (dk_se D).other W (Or.inr (slot_ne (Or.inl (hw _ (List.mem_of_getElem? (i := 76) rfl))) (Or.inl (hw _ (List.mem_of_getElem? (i := 20) rfl))) (by decide) (t := (.array .long)) (t' := .long) (by decide) (by decide)))⟩
set_option maxRecDepth 65536 in
theorem dks_fb {Z : State} {a0 : Array Value} (hw : ∀ d ∈ tables_1, d.before a0 Z = true) {h h' : Heap} {a : Addr} {wi : Int32} {lf gf ls gs fb fs sb ss : Int64} {nu : Value} {bf : Int32} {se : Value} {x : Int64} (D : DK Z h a wi lf gf ls gs fb fs sb ss nu bf se) (W : Wr h h' a (Jvm.RoadKit.slotOf Z "com/example/fairjoin/fairjoin/operator/DirectKeys" "firstBase" "J") (.long x)) : DK Z h' a wi lf gf ls gs x fs sb ss nu bf se :=
  ⟨D.1.wr W,
   (dk_wi D).other W (Or.inr (slot_ne (Or.inr (hw _ (List.mem_of_getElem? (i := 27) rfl))) (Or.inl (hw _ (List.mem_of_getElem? (i := 70) rfl))) (by decide) (t := .int) (t' := .long) (by decide) (by decide))),
   (dk_lf D).other W (Or.inr (slot_ne (Or.inl (hw _ (List.mem_of_getElem? (i := 13) rfl))) (Or.inl (hw _ (List.mem_of_getElem? (i := 70) rfl))) (by decide) (t := .long) (t' := .long) (by decide) (by decide))),
   (dk_gf D).other W (Or.inr (slot_ne (Or.inl (hw _ (List.mem_of_getElem? (i := 16) rfl))) (Or.inl (hw _ (List.mem_of_getElem? (i := 70) rfl))) (by decide) (t := .long) (t' := .long) (by decide) (by decide))),
   (dk_ls D).other W (Or.inr (slot_ne (Or.inl (hw _ (List.mem_of_getElem? (i := 18) rfl))) (Or.inl (hw _ (List.mem_of_getElem? (i := 70) rfl))) (by decide) (t := .long) (t' := .long) (by decide) (by decide))),
   (dk_gs D).other W (Or.inr (slot_ne (Or.inl (hw _ (List.mem_of_getElem? (i := 20) rfl))) (Or.inl (hw _ (List.mem_of_getElem? (i := 70) rfl))) (by decide) (t := .long) (t' := .long) (by decide) (by decide))),
   (dk_fb D).same W,
   (dk_fs D).other W (Or.inr (slot_ne (Or.inl (hw _ (List.mem_of_getElem? (i := 72) rfl))) (Or.inl (hw _ (List.mem_of_getElem? (i := 70) rfl))) (by decide) (t := .long) (t' := .long) (by decide) (by decide))),
   (dk_sb D).other W (Or.inr (slot_ne (Or.inl (hw _ (List.mem_of_getElem? (i := 74) rfl))) (Or.inl (hw _ (List.mem_of_getElem? (i := 70) rfl))) (by decide) (t := .long) (t' := .long) (by decide) (by decide))),
   (dk_ss D).other W (Or.inr (slot_ne (Or.inl (hw _ (List.mem_of_getElem? (i := 22) rfl))) (Or.inl (hw _ (List.mem_of_getElem? (i := 70) rfl))) (by decide) (t := .long) (t' := .long) (by decide) (by decide))),
   (dk_nu D).other W (Or.inr (slot_ne (Or.inl (hw _ (List.mem_of_getElem? (i := 25) rfl))) (Or.inl (hw _ (List.mem_of_getElem? (i := 70) rfl))) (by decide) (t := (.array .int)) (t' := .long) (by decide) (by decide))),
   (dk_bf D).other W (Or.inr (slot_ne (Or.inl (hw _ (List.mem_of_getElem? (i := 68) rfl))) (Or.inl (hw _ (List.mem_of_getElem? (i := 70) rfl))) (by decide) (t := .boolean) (t' := .long) (by decide) (by decide))),
   (dk_se D).other W (Or.inr (slot_ne (Or.inl (hw _ (List.mem_of_getElem? (i := 76) rfl))) (Or.inl (hw _ (List.mem_of_getElem? (i := 70) rfl))) (by decide) (t := (.array .long)) (t' := .long) (by decide) (by decide)))⟩
set_option maxRecDepth 65536 in
theorem dks_fs {Z : State} {a0 : Array Value} (hw : ∀ d ∈ tables_1, d.before a0 Z = true) {h h' : Heap} {a : Addr} {wi : Int32} {lf gf ls gs fb fs sb ss : Int64} {nu : Value} {bf : Int32} {se : Value} {x : Int64} (D : DK Z h a wi lf gf ls gs fb fs sb ss nu bf se) (W : Wr h h' a (Jvm.RoadKit.slotOf Z "com/example/fairjoin/fairjoin/operator/DirectKeys" "firstSpan" "J") (.long x)) : DK Z h' a wi lf gf ls gs fb x sb ss nu bf se :=
  ⟨D.1.wr W,
   (dk_wi D).other W (Or.inr (slot_ne (Or.inr (hw _ (List.mem_of_getElem? (i := 27) rfl))) (Or.inl (hw _ (List.mem_of_getElem? (i := 72) rfl))) (by decide) (t := .int) (t' := .long) (by decide) (by decide))),
   (dk_lf D).other W (Or.inr (slot_ne (Or.inl (hw _ (List.mem_of_getElem? (i := 13) rfl))) (Or.inl (hw _ (List.mem_of_getElem? (i := 72) rfl))) (by decide) (t := .long) (t' := .long) (by decide) (by decide))),
   (dk_gf D).other W (Or.inr (slot_ne (Or.inl (hw _ (List.mem_of_getElem? (i := 16) rfl))) (Or.inl (hw _ (List.mem_of_getElem? (i := 72) rfl))) (by decide) (t := .long) (t' := .long) (by decide) (by decide))),
   (dk_ls D).other W (Or.inr (slot_ne (Or.inl (hw _ (List.mem_of_getElem? (i := 18) rfl))) (Or.inl (hw _ (List.mem_of_getElem? (i := 72) rfl))) (by decide) (t := .long) (t' := .long) (by decide) (by decide))),
   (dk_gs D).other W (Or.inr (slot_ne (Or.inl (hw _ (List.mem_of_getElem? (i := 20) rfl))) (Or.inl (hw _ (List.mem_of_getElem? (i := 72) rfl))) (by decide) (t := .long) (t' := .long) (by decide) (by decide))),
   (dk_fb D).other W (Or.inr (slot_ne (Or.inl (hw _ (List.mem_of_getElem? (i := 70) rfl))) (Or.inl (hw _ (List.mem_of_getElem? (i := 72) rfl))) (by decide) (t := .long) (t' := .long) (by decide) (by decide))),
   (dk_fs D).same W,
   (dk_sb D).other W (Or.inr (slot_ne (Or.inl (hw _ (List.mem_of_getElem? (i := 74) rfl))) (Or.inl (hw _ (List.mem_of_getElem? (i := 72) rfl))) (by decide) (t := .long) (t' := .long) (by decide) (by decide))),
   (dk_ss D).other W (Or.inr (slot_ne (Or.inl (hw _ (List.mem_of_getElem? (i := 22) rfl))) (Or.inl (hw _ (List.mem_of_getElem? (i := 72) rfl))) (by decide) (t := .long) (t' := .long) (by decide) (by decide))),
   (dk_nu D).other W (Or.inr (slot_ne (Or.inl (hw _ (List.mem_of_getElem? (i := 25) rfl))) (Or.inl (hw _ (List.mem_of_getElem? (i := 72) rfl))) (by decide) (t := (.array .int)) (t' := .long) (by decide) (by decide))),
   (dk_bf D).other W (Or.inr (slot_ne (Or.inl (hw _ (List.mem_of_getElem? (i := 68) rfl))) (Or.inl (hw _ (List.mem_of_getElem? (i := 72) rfl))) (by decide) (t := .boolean) (t' := .long) (by decide) (by decide))),
   (dk_se D).other W (Or.inr (slot_ne (Or.inl (hw _ (List.mem_of_getElem? (i := 76) rfl))) (Or.inl (hw _ (List.mem_of_getElem? (i := 72) rfl))) (by decide) (t := (.array .long)) (t' := .long) (by decide) (by decide)))⟩
set_option maxRecDepth 65536 in
theorem dks_sb {Z : State} {a0 : Array Value} (hw : ∀ d ∈ tables_1, d.before a0 Z = true) {h h' : Heap} {a : Addr} {wi : Int32} {lf gf ls gs fb fs sb ss : Int64} {nu : Value} {bf : Int32} {se : Value} {x : Int64} (D : DK Z h a wi lf gf ls gs fb fs sb ss nu bf se) (W : Wr h h' a (Jvm.RoadKit.slotOf Z "com/example/fairjoin/fairjoin/operator/DirectKeys" "secondBase" "J") (.long x)) : DK Z h' a wi lf gf ls gs fb fs x ss nu bf se :=
  ⟨D.1.wr W,
   (dk_wi D).other W (Or.inr (slot_ne (Or.inr (hw _ (List.mem_of_getElem? (i := 27) rfl))) (Or.inl (hw _ (List.mem_of_getElem? (i := 74) rfl))) (by decide) (t := .int) (t' := .long) (by decide) (by decide))),
   (dk_lf D).other W (Or.inr (slot_ne (Or.inl (hw _ (List.mem_of_getElem? (i := 13) rfl))) (Or.inl (hw _ (List.mem_of_getElem? (i := 74) rfl))) (by decide) (t := .long) (t' := .long) (by decide) (by decide))),
   (dk_gf D).other W (Or.inr (slot_ne (Or.inl (hw _ (List.mem_of_getElem? (i := 16) rfl))) (Or.inl (hw _ (List.mem_of_getElem? (i := 74) rfl))) (by decide) (t := .long) (t' := .long) (by decide) (by decide))),
   (dk_ls D).other W (Or.inr (slot_ne (Or.inl (hw _ (List.mem_of_getElem? (i := 18) rfl))) (Or.inl (hw _ (List.mem_of_getElem? (i := 74) rfl))) (by decide) (t := .long) (t' := .long) (by decide) (by decide))),
   (dk_gs D).other W (Or.inr (slot_ne (Or.inl (hw _ (List.mem_of_getElem? (i := 20) rfl))) (Or.inl (hw _ (List.mem_of_getElem? (i := 74) rfl))) (by decide) (t := .long) (t' := .long) (by decide) (by decide))),
   (dk_fb D).other W (Or.inr (slot_ne (Or.inl (hw _ (List.mem_of_getElem? (i := 70) rfl))) (Or.inl (hw _ (List.mem_of_getElem? (i := 74) rfl))) (by decide) (t := .long) (t' := .long) (by decide) (by decide))),
   (dk_fs D).other W (Or.inr (slot_ne (Or.inl (hw _ (List.mem_of_getElem? (i := 72) rfl))) (Or.inl (hw _ (List.mem_of_getElem? (i := 74) rfl))) (by decide) (t := .long) (t' := .long) (by decide) (by decide))),
   (dk_sb D).same W,
   (dk_ss D).other W (Or.inr (slot_ne (Or.inl (hw _ (List.mem_of_getElem? (i := 22) rfl))) (Or.inl (hw _ (List.mem_of_getElem? (i := 74) rfl))) (by decide) (t := .long) (t' := .long) (by decide) (by decide))),
   (dk_nu D).other W (Or.inr (slot_ne (Or.inl (hw _ (List.mem_of_getElem? (i := 25) rfl))) (Or.inl (hw _ (List.mem_of_getElem? (i := 74) rfl))) (by decide) (t := (.array .int)) (t' := .long) (by decide) (by decide))),
   (dk_bf D).other W (Or.inr (slot_ne (Or.inl (hw _ (List.mem_of_getElem? (i := 68) rfl))) (Or.inl (hw _ (List.mem_of_getElem? (i := 74) rfl))) (by decide) (t := .boolean) (t' := .long) (by decide) (by decide))),
   (dk_se D).other W (Or.inr (slot_ne (Or.inl (hw _ (List.mem_of_getElem? (i := 76) rfl))) (Or.inl (hw _ (List.mem_of_getElem? (i := 74) rfl))) (by decide) (t := (.array .long)) (t' := .long) (by decide) (by decide)))⟩
set_option maxRecDepth 65536 in
theorem dks_ss {Z : State} {a0 : Array Value} (hw : ∀ d ∈ tables_1, d.before a0 Z = true) {h h' : Heap} {a : Addr} {wi : Int32} {lf gf ls gs fb fs sb ss : Int64} {nu : Value} {bf : Int32} {se : Value} {x : Int64} (D : DK Z h a wi lf gf ls gs fb fs sb ss nu bf se) (W : Wr h h' a (Jvm.RoadKit.slotOf Z "com/example/fairjoin/fairjoin/operator/DirectKeys" "secondSpan" "J") (.long x)) : DK Z h' a wi lf gf ls gs fb fs sb x nu bf se :=
  ⟨D.1.wr W,
   (dk_wi D).other W (Or.inr (slot_ne (Or.inr (hw _ (List.mem_of_getElem? (i := 27) rfl))) (Or.inl (hw _ (List.mem_of_getElem? (i := 22) rfl))) (by decide) (t := .int) (t' := .long) (by decide) (by decide))),
   (dk_lf D).other W (Or.inr (slot_ne (Or.inl (hw _ (List.mem_of_getElem? (i := 13) rfl))) (Or.inl (hw _ (List.mem_of_getElem? (i := 22) rfl))) (by decide) (t := .long) (t' := .long) (by decide) (by decide))),
   (dk_gf D).other W (Or.inr (slot_ne (Or.inl (hw _ (List.mem_of_getElem? (i := 16) rfl))) (Or.inl (hw _ (List.mem_of_getElem? (i := 22) rfl))) (by decide) (t := .long) (t' := .long) (by decide) (by decide))),
   (dk_ls D).other W (Or.inr (slot_ne (Or.inl (hw _ (List.mem_of_getElem? (i := 18) rfl))) (Or.inl (hw _ (List.mem_of_getElem? (i := 22) rfl))) (by decide) (t := .long) (t' := .long) (by decide) (by decide))),
   (dk_gs D).other W (Or.inr (slot_ne (Or.inl (hw _ (List.mem_of_getElem? (i := 20) rfl))) (Or.inl (hw _ (List.mem_of_getElem? (i := 22) rfl))) (by decide) (t := .long) (t' := .long) (by decide) (by decide))),
   (dk_fb D).other W (Or.inr (slot_ne (Or.inl (hw _ (List.mem_of_getElem? (i := 70) rfl))) (Or.inl (hw _ (List.mem_of_getElem? (i := 22) rfl))) (by decide) (t := .long) (t' := .long) (by decide) (by decide))),
   (dk_fs D).other W (Or.inr (slot_ne (Or.inl (hw _ (List.mem_of_getElem? (i := 72) rfl))) (Or.inl (hw _ (List.mem_of_getElem? (i := 22) rfl))) (by decide) (t := .long) (t' := .long) (by decide) (by decide))),
   (dk_sb D).other W (Or.inr (slot_ne (Or.inl (hw _ (List.mem_of_getElem? (i := 74) rfl))) (Or.inl (hw _ (List.mem_of_getElem? (i := 22) rfl))) (by decide) (t := .long) (t' := .long) (by decide) (by decide))),
   (dk_ss D).same W,
   (dk_nu D).other W (Or.inr (slot_ne (Or.inl (hw _ (List.mem_of_getElem? (i := 25) rfl))) (Or.inl (hw _ (List.mem_of_getElem? (i := 22) rfl))) (by decide) (t := (.array .int)) (t' := .long) (by decide) (by decide))),
   (dk_bf D).other W (Or.inr (slot_ne (Or.inl (hw _ (List.mem_of_getElem? (i := 68) rfl))) (Or.inl (hw _ (List.mem_of_getElem? (i := 22) rfl))) (by decide) (t := .boolean) (t' := .long) (by decide) (by decide))),
   (dk_se D).other W (Or.inr (slot_ne (Or.inl (hw _ (List.mem_of_getElem? (i := 76) rfl))) (Or.inl (hw _ (List.mem_of_getElem? (i := 22) rfl))) (by decide) (t := (.array .long)) (t' := .long) (by decide) (by decide)))⟩
set_option maxRecDepth 65536 in
theorem dks_nu {Z : State} {a0 : Array Value} (hw : ∀ d ∈ tables_1, d.before a0 Z = true) {h h' : Heap} {a : Addr} {wi : Int32} {lf gf ls gs fb fs sb ss : Int64} {nu : Value} {bf : Int32} {se : Value} {x : Value} (D : DK Z h a wi lf gf ls gs fb fs sb ss nu bf se) (W : Wr h h' a (Jvm.RoadKit.slotOf Z "com/example/fairjoin/fairjoin/operator/DirectKeys" "numbers" "[I") x) : DK Z h' a wi lf gf ls gs fb fs sb ss x bf se :=
  ⟨D.1.wr W,
   (dk_wi D).other W (Or.inr (slot_ne (Or.inr (hw _ (List.mem_of_getElem? (i := 27) rfl))) (Or.inl (hw _ (List.mem_of_getElem? (i := 25) rfl))) (by decide) (t := .int) (t' := (.array .int)) (by decide) (by decide))),
   (dk_lf D).other W (Or.inr (slot_ne (Or.inl (hw _ (List.mem_of_getElem? (i := 13) rfl))) (Or.inl (hw _ (List.mem_of_getElem? (i := 25) rfl))) (by decide) (t := .long) (t' := (.array .int)) (by decide) (by decide))),
   (dk_gf D).other W (Or.inr (slot_ne (Or.inl (hw _ (List.mem_of_getElem? (i := 16) rfl))) (Or.inl (hw _ (List.mem_of_getElem? (i := 25) rfl))) (by decide) (t := .long) (t' := (.array .int)) (by decide) (by decide))),
   (dk_ls D).other W (Or.inr (slot_ne (Or.inl (hw _ (List.mem_of_getElem? (i := 18) rfl))) (Or.inl (hw _ (List.mem_of_getElem? (i := 25) rfl))) (by decide) (t := .long) (t' := (.array .int)) (by decide) (by decide))),
   (dk_gs D).other W (Or.inr (slot_ne (Or.inl (hw _ (List.mem_of_getElem? (i := 20) rfl))) (Or.inl (hw _ (List.mem_of_getElem? (i := 25) rfl))) (by decide) (t := .long) (t' := (.array .int)) (by decide) (by decide))),
   (dk_fb D).other W (Or.inr (slot_ne (Or.inl (hw _ (List.mem_of_getElem? (i := 70) rfl))) (Or.inl (hw _ (List.mem_of_getElem? (i := 25) rfl))) (by decide) (t := .long) (t' := (.array .int)) (by decide) (by decide))),
   (dk_fs D).other W (Or.inr (slot_ne (Or.inl (hw _ (List.mem_of_getElem? (i := 72) rfl))) (Or.inl (hw _ (List.mem_of_getElem? (i := 25) rfl))) (by decide) (t := .long) (t' := (.array .int)) (by decide) (by decide))),
   (dk_sb D).other W (Or.inr (slot_ne (Or.inl (hw _ (List.mem_of_getElem? (i := 74) rfl))) (Or.inl (hw _ (List.mem_of_getElem? (i := 25) rfl))) (by decide) (t := .long) (t' := (.array .int)) (by decide) (by decide))),
   (dk_ss D).other W (Or.inr (slot_ne (Or.inl (hw _ (List.mem_of_getElem? (i := 22) rfl))) (Or.inl (hw _ (List.mem_of_getElem? (i := 25) rfl))) (by decide) (t := .long) (t' := (.array .int)) (by decide) (by decide))),
   (dk_nu D).same W,
   (dk_bf D).other W (Or.inr (slot_ne (Or.inl (hw _ (List.mem_of_getElem? (i := 68) rfl))) (Or.inl (hw _ (List.mem_of_getElem? (i := 25) rfl))) (by decide) (t := .boolean) (t' := (.array .int)) (by decide) (by decide))),
   (dk_se D).other W (Or.inr (slot_ne (Or.inl (hw _ (List.mem_of_getElem? (i := 76) rfl))) (Or.inl (hw _ (List.mem_of_getElem? (i := 25) rfl))) (by decide) (t := (.array .long)) (t' := (.array .int)) (by decide) (by decide)))⟩
set_option maxRecDepth 65536 in
theorem dks_bf {Z : State} {a0 : Array Value} (hw : ∀ d ∈ tables_1, d.before a0 Z = true) {h h' : Heap} {a : Addr} {wi : Int32} {lf gf ls gs fb fs sb ss : Int64} {nu : Value} {bf : Int32} {se : Value} {x : Int32} (D : DK Z h a wi lf gf ls gs fb fs sb ss nu bf se) (W : Wr h h' a (Jvm.RoadKit.slotOf Z "com/example/fairjoin/fairjoin/operator/DirectKeys" "byFirst" "Z") (.int x)) : DK Z h' a wi lf gf ls gs fb fs sb ss nu x se :=
  ⟨D.1.wr W,
   (dk_wi D).other W (Or.inr (slot_ne (Or.inr (hw _ (List.mem_of_getElem? (i := 27) rfl))) (Or.inl (hw _ (List.mem_of_getElem? (i := 68) rfl))) (by decide) (t := .int) (t' := .boolean) (by decide) (by decide))),
   (dk_lf D).other W (Or.inr (slot_ne (Or.inl (hw _ (List.mem_of_getElem? (i := 13) rfl))) (Or.inl (hw _ (List.mem_of_getElem? (i := 68) rfl))) (by decide) (t := .long) (t' := .boolean) (by decide) (by decide))),
   (dk_gf D).other W (Or.inr (slot_ne (Or.inl (hw _ (List.mem_of_getElem? (i := 16) rfl))) (Or.inl (hw _ (List.mem_of_getElem? (i := 68) rfl))) (by decide) (t := .long) (t' := .boolean) (by decide) (by decide))),
   (dk_ls D).other W (Or.inr (slot_ne (Or.inl (hw _ (List.mem_of_getElem? (i := 18) rfl))) (Or.inl (hw _ (List.mem_of_getElem? (i := 68) rfl))) (by decide) (t := .long) (t' := .boolean) (by decide) (by decide))),
   (dk_gs D).other W (Or.inr (slot_ne (Or.inl (hw _ (List.mem_of_getElem? (i := 20) rfl))) (Or.inl (hw _ (List.mem_of_getElem? (i := 68) rfl))) (by decide) (t := .long) (t' := .boolean) (by decide) (by decide))),
   (dk_fb D).other W (Or.inr (slot_ne (Or.inl (hw _ (List.mem_of_getElem? (i := 70) rfl))) (Or.inl (hw _ (List.mem_of_getElem? (i := 68) rfl))) (by decide) (t := .long) (t' := .boolean) (by decide) (by decide))),
   (dk_fs D).other W (Or.inr (slot_ne (Or.inl (hw _ (List.mem_of_getElem? (i := 72) rfl))) (Or.inl (hw _ (List.mem_of_getElem? (i := 68) rfl))) (by decide) (t := .long) (t' := .boolean) (by decide) (by decide))),
   (dk_sb D).other W (Or.inr (slot_ne (Or.inl (hw _ (List.mem_of_getElem? (i := 74) rfl))) (Or.inl (hw _ (List.mem_of_getElem? (i := 68) rfl))) (by decide) (t := .long) (t' := .boolean) (by decide) (by decide))),
   (dk_ss D).other W (Or.inr (slot_ne (Or.inl (hw _ (List.mem_of_getElem? (i := 22) rfl))) (Or.inl (hw _ (List.mem_of_getElem? (i := 68) rfl))) (by decide) (t := .long) (t' := .boolean) (by decide) (by decide))),
   (dk_nu D).other W (Or.inr (slot_ne (Or.inl (hw _ (List.mem_of_getElem? (i := 25) rfl))) (Or.inl (hw _ (List.mem_of_getElem? (i := 68) rfl))) (by decide) (t := (.array .int)) (t' := .boolean) (by decide) (by decide))),
   (dk_bf D).same W,
   (dk_se D).other W (Or.inr (slot_ne (Or.inl (hw _ (List.mem_of_getElem? (i := 76) rfl))) (Or.inl (hw _ (List.mem_of_getElem? (i := 68) rfl))) (by decide) (t := (.array .long)) (t' := .boolean) (by decide) (by decide)))⟩
set_option maxRecDepth 65536 in
theorem dks_se {Z : State} {a0 : Array Value} (hw : ∀ d ∈ tables_1, d.before a0 Z = true) {h h' : Heap} {a : Addr} {wi : Int32} {lf gf ls gs fb fs sb ss : Int64} {nu : Value} {bf : Int32} {se : Value} {x : Value} (D : DK Z h a wi lf gf ls gs fb fs sb ss nu bf se) (W : Wr h h' a (Jvm.RoadKit.slotOf Z "com/example/fairjoin/fairjoin/operator/DirectKeys" "seconds" "[J") x) : DK Z h' a wi lf gf ls gs fb fs sb ss nu bf x :=
  ⟨D.1.wr W,
   (dk_wi D).other W (Or.inr (slot_ne (Or.inr (hw _ (List.mem_of_getElem? (i := 27) rfl))) (Or.inl (hw _ (List.mem_of_getElem? (i := 76) rfl))) (by decide) (t := .int) (t' := (.array .long)) (by decide) (by decide))),
   (dk_lf D).other W (Or.inr (slot_ne (Or.inl (hw _ (List.mem_of_getElem? (i := 13) rfl))) (Or.inl (hw _ (List.mem_of_getElem? (i := 76) rfl))) (by decide) (t := .long) (t' := (.array .long)) (by decide) (by decide))),
   (dk_gf D).other W (Or.inr (slot_ne (Or.inl (hw _ (List.mem_of_getElem? (i := 16) rfl))) (Or.inl (hw _ (List.mem_of_getElem? (i := 76) rfl))) (by decide) (t := .long) (t' := (.array .long)) (by decide) (by decide))),
   (dk_ls D).other W (Or.inr (slot_ne (Or.inl (hw _ (List.mem_of_getElem? (i := 18) rfl))) (Or.inl (hw _ (List.mem_of_getElem? (i := 76) rfl))) (by decide) (t := .long) (t' := (.array .long)) (by decide) (by decide))),
   (dk_gs D).other W (Or.inr (slot_ne (Or.inl (hw _ (List.mem_of_getElem? (i := 20) rfl))) (Or.inl (hw _ (List.mem_of_getElem? (i := 76) rfl))) (by decide) (t := .long) (t' := (.array .long)) (by decide) (by decide))),
   (dk_fb D).other W (Or.inr (slot_ne (Or.inl (hw _ (List.mem_of_getElem? (i := 70) rfl))) (Or.inl (hw _ (List.mem_of_getElem? (i := 76) rfl))) (by decide) (t := .long) (t' := (.array .long)) (by decide) (by decide))),
   (dk_fs D).other W (Or.inr (slot_ne (Or.inl (hw _ (List.mem_of_getElem? (i := 72) rfl))) (Or.inl (hw _ (List.mem_of_getElem? (i := 76) rfl))) (by decide) (t := .long) (t' := (.array .long)) (by decide) (by decide))),
   (dk_sb D).other W (Or.inr (slot_ne (Or.inl (hw _ (List.mem_of_getElem? (i := 74) rfl))) (Or.inl (hw _ (List.mem_of_getElem? (i := 76) rfl))) (by decide) (t := .long) (t' := (.array .long)) (by decide) (by decide))),
   (dk_ss D).other W (Or.inr (slot_ne (Or.inl (hw _ (List.mem_of_getElem? (i := 22) rfl))) (Or.inl (hw _ (List.mem_of_getElem? (i := 76) rfl))) (by decide) (t := .long) (t' := (.array .long)) (by decide) (by decide))),
   (dk_nu D).other W (Or.inr (slot_ne (Or.inl (hw _ (List.mem_of_getElem? (i := 25) rfl))) (Or.inl (hw _ (List.mem_of_getElem? (i := 76) rfl))) (by decide) (t := (.array .int)) (t' := (.array .long)) (by decide) (by decide))),
   (dk_bf D).other W (Or.inr (slot_ne (Or.inl (hw _ (List.mem_of_getElem? (i := 68) rfl))) (Or.inl (hw _ (List.mem_of_getElem? (i := 76) rfl))) (by decide) (t := .boolean) (t' := (.array .long)) (by decide) (by decide))),
   (dk_se D).same W⟩
theorem d5_0 : decode jdk_29_method_70_code 0 = .ok (.lload_n 0, 1) := by decide +kernel
theorem d5_1 : decode jdk_29_method_70_code 1 = .ok (.lload_n 2, 1) := by decide +kernel
theorem d5_2 : decode jdk_29_method_70_code 2 = .ok (.lcmp, 1) := by decide +kernel
theorem d5_3 : decode jdk_29_method_70_code 3 = .ok (.ifCond .gt 7, 3) := by decide +kernel
theorem d5_10 : decode jdk_29_method_70_code 10 = .ok (.lload_n 2, 1) := by decide +kernel
theorem d5_11 : decode jdk_29_method_70_code 11 = .ok (.lreturn, 1) := by decide +kernel
theorem ef_5 (m : MethodId) (x0 : Int64) (x1 : Int64) : entryFrame m #[(.long x0), (.long x1)] 4 = mkF m 0 #[.val (.long x0), .second, .val (.long x1), .second] [] := by first | (simp [entryFrame, mkF, argsToLocals, Value.category]; done) | rfl
theorem d5_6 : decode jdk_29_method_70_code 6 = .ok (.lload_n 0, 1) := by decide +kernel
theorem d5_7 : decode jdk_29_method_70_code 7 = .ok (.goto 4, 3) := by decide +kernel
theorem d6_0 : decode jdk_29_method_66_code 0 = .ok (.lload_n 0, 1) := by decide +kernel
theorem d6_1 : decode jdk_29_method_66_code 1 = .ok (.lload_n 2, 1) := by decide +kernel
theorem d6_2 : decode jdk_29_method_66_code 2 = .ok (.lcmp, 1) := by decide +kernel
theorem d6_3 : decode jdk_29_method_66_code 3 = .ok (.ifCond .lt 7, 3) := by decide +kernel
theorem d6_10 : decode jdk_29_method_66_code 10 = .ok (.lload_n 2, 1) := by decide +kernel
theorem d6_11 : decode jdk_29_method_66_code 11 = .ok (.lreturn, 1) := by decide +kernel
theorem ef_6 (m : MethodId) (x0 : Int64) (x1 : Int64) : entryFrame m #[(.long x0), (.long x1)] 4 = mkF m 0 #[.val (.long x0), .second, .val (.long x1), .second] [] := by first | (simp [entryFrame, mkF, argsToLocals, Value.category]; done) | rfl
theorem d6_6 : decode jdk_29_method_66_code 6 = .ok (.lload_n 0, 1) := by decide +kernel
theorem d6_7 : decode jdk_29_method_66_code 7 = .ok (.goto 4, 3) := by decide +kernel
theorem d11_0 : decode jdk_35_method_42_code 0 = .ok (.lload_n 0, 1) := by decide +kernel
theorem d11_1 : decode jdk_35_method_42_code 1 = .ok (.lload_n 2, 1) := by decide +kernel
theorem d11_2 : decode jdk_35_method_42_code 2 = .ok (.lcmp, 1) := by decide +kernel
theorem d11_3 : decode jdk_35_method_42_code 3 = .ok (.ifCond .ge 7, 3) := by decide +kernel
theorem d11_6 : decode jdk_35_method_42_code 6 = .ok (.iconst (-1), 1) := by decide +kernel
theorem d11_7 : decode jdk_35_method_42_code 7 = .ok (.goto 14, 3) := by decide +kernel
theorem d11_21 : decode jdk_35_method_42_code 21 = .ok (.ireturn, 1) := by decide +kernel
theorem pn_11 : plainName "java/lang/Long" = true := by first | (simp [plainName, overriddenIn]; done) | decide +kernel
theorem ef_11 (m : MethodId) (x0 : Int64) (x1 : Int64) : entryFrame m #[(.long x0), (.long x1)] 4 = mkF m 0 #[.val (.long x0), .second, .val (.long x1), .second] [] := by first | (simp [entryFrame, mkF, argsToLocals, Value.category]; done) | rfl
theorem d11_10 : decode jdk_35_method_42_code 10 = .ok (.lload_n 0, 1) := by decide +kernel
theorem d11_11 : decode jdk_35_method_42_code 11 = .ok (.lload_n 2, 1) := by decide +kernel
theorem d11_12 : decode jdk_35_method_42_code 12 = .ok (.lcmp, 1) := by decide +kernel
theorem d11_13 : decode jdk_35_method_42_code 13 = .ok (.ifCond .ne 7, 3) := by decide +kernel
theorem d11_16 : decode jdk_35_method_42_code 16 = .ok (.iconst 0, 1) := by decide +kernel
theorem d11_17 : decode jdk_35_method_42_code 17 = .ok (.goto 4, 3) := by decide +kernel
theorem d11_20 : decode jdk_35_method_42_code 20 = .ok (.iconst 1, 1) := by decide +kernel
theorem d10_0 : decode jdk_35_method_43_code 0 = .ok (.lload_n 0, 1) := by decide +kernel
theorem d10_1 : decode jdk_35_method_43_code 1 = .ok (.ldc2_w 168, 3) := by decide +kernel
theorem d10_4 : decode jdk_35_method_43_code 4 = .ok (.ladd, 1) := by decide +kernel
theorem d10_5 : decode jdk_35_method_43_code 5 = .ok (.lload_n 2, 1) := by decide +kernel
theorem d10_6 : decode jdk_35_method_43_code 6 = .ok (.ldc2_w 168, 3) := by decide +kernel
theorem d10_9 : decode jdk_35_method_43_code 9 = .ok (.ladd, 1) := by decide +kernel
theorem d10_10 : decode jdk_35_method_43_code 10 = .ok (.invokestatic 302, 3) := by decide +kernel
theorem d10_13 : decode jdk_35_method_43_code 13 = .ok (.ireturn, 1) := by decide +kernel
theorem pn_10 : plainName "java/lang/Long" = true := by first | (simp [plainName, overriddenIn]; done) | decide +kernel
theorem pd_10_8 : parseMethodDescriptor "(JJ)I" = some ⟨[.long, .long], some .int⟩ := by decide +kernel
theorem ef_10 (m : MethodId) (x0 : Int64) (x1 : Int64) : entryFrame m #[(.long x0), (.long x1)] 4 = mkF m 0 #[.val (.long x0), .second, .val (.long x1), .second] [] := by first | (simp [entryFrame, mkF, argsToLocals, Value.category]; done) | rfl
theorem d9_0 : decode prog_151_method_9_code 0 = .ok (.lload_n 2, 1) := by decide +kernel
theorem d9_1 : decode prog_151_method_9_code 1 = .ok (.lload_n 0, 1) := by decide +kernel
theorem d9_2 : decode prog_151_method_9_code 2 = .ok (.lsub, 1) := by decide +kernel
theorem d9_3 : decode prog_151_method_9_code 3 = .ok (.lload 4, 2) := by decide +kernel
theorem d9_5 : decode prog_151_method_9_code 5 = .ok (.ldc2_w 66, 3) := by decide +kernel
theorem d9_8 : decode prog_151_method_9_code 8 = .ok (.lmul, 1) := by decide +kernel
theorem d9_9 : decode prog_151_method_9_code 9 = .ok (.ldc2_w 68, 3) := by decide +kernel
theorem d9_12 : decode prog_151_method_9_code 12 = .ok (.invokestatic 70, 3) := by decide +kernel
theorem d9_15 : decode prog_151_method_9_code 15 = .ok (.invokestatic 76, 3) := by decide +kernel
theorem d9_18 : decode prog_151_method_9_code 18 = .ok (.ifCond .ge 7, 3) := by decide +kernel
theorem d9_21 : decode prog_151_method_9_code 21 = .ok (.iconst 1, 1) := by decide +kernel
theorem d9_22 : decode prog_151_method_9_code 22 = .ok (.goto 4, 3) := by decide +kernel
theorem d9_26 : decode prog_151_method_9_code 26 = .ok (.ireturn, 1) := by decide +kernel
theorem pn_9 : plainName "com/example/fairjoin/fairjoin/operator/DirectKeys" = true := by first | (simp [plainName, overriddenIn]; done) | decide +kernel
theorem pd_9_4 : parseMethodDescriptor "(JJ)J" = some ⟨[.long, .long], some .long⟩ := by decide +kernel
theorem pd_9_8 : parseMethodDescriptor "(JJ)I" = some ⟨[.long, .long], some .int⟩ := by decide +kernel
theorem ef_9 (m : MethodId) (x0 : Int64) (x1 : Int64) (x2 : Int64) : entryFrame m #[(.long x0), (.long x1), (.long x2)] 6 = mkF m 0 #[.val (.long x0), .second, .val (.long x1), .second, .val (.long x2), .second] [] := by first | (simp [entryFrame, mkF, argsToLocals, Value.category]; done) | rfl
theorem d4_0 : decode prog_151_method_11_code 0 = .ok (.aload_n 0, 1) := by decide +kernel
theorem d4_1 : decode prog_151_method_11_code 1 = .ok (.aload_n 0, 1) := by decide +kernel
theorem d4_2 : decode prog_151_method_11_code 2 = .ok (.getfield 13, 3) := by decide +kernel
theorem d4_5 : decode prog_151_method_11_code 5 = .ok (.lload_n 1, 1) := by decide +kernel
theorem d4_6 : decode prog_151_method_11_code 6 = .ok (.invokestatic 70, 3) := by decide +kernel
theorem d4_9 : decode prog_151_method_11_code 9 = .ok (.putfield 13, 3) := by decide +kernel
theorem d4_12 : decode prog_151_method_11_code 12 = .ok (.aload_n 0, 1) := by decide +kernel
theorem d4_13 : decode prog_151_method_11_code 13 = .ok (.aload_n 0, 1) := by decide +kernel
theorem d4_14 : decode prog_151_method_11_code 14 = .ok (.getfield 21, 3) := by decide +kernel
theorem d4_17 : decode prog_151_method_11_code 17 = .ok (.lload_n 1, 1) := by decide +kernel
theorem d4_18 : decode prog_151_method_11_code 18 = .ok (.invokestatic 79, 3) := by decide +kernel
theorem d4_21 : decode prog_151_method_11_code 21 = .ok (.putfield 21, 3) := by decide +kernel
theorem d4_24 : decode prog_151_method_11_code 24 = .ok (.return_, 1) := by decide +kernel
theorem pn_4 : plainName "com/example/fairjoin/fairjoin/operator/DirectKeys" = true := by first | (simp [plainName, overriddenIn]; done) | decide +kernel
theorem pd_4_4 : parseMethodDescriptor "(JJ)J" = some ⟨[.long, .long], some .long⟩ := by decide +kernel
theorem ef_4 (m : MethodId) (x0 : Addr) (x1 : Int64) : entryFrame m #[(.ref x0), (.long x1)] 3 = mkF m 0 #[.val (.ref x0), .val (.long x1), .second] [] := by first | (simp [entryFrame, mkF, argsToLocals, Value.category]; done) | rfl
theorem d3_0 : decode prog_151_method_12_code 0 = .ok (.aload_n 0, 1) := by decide +kernel
theorem d3_1 : decode prog_151_method_12_code 1 = .ok (.lload_n 1, 1) := by decide +kernel
theorem d3_2 : decode prog_151_method_12_code 2 = .ok (.invokevirtual 82, 3) := by decide +kernel
theorem d3_5 : decode prog_151_method_12_code 5 = .ok (.aload_n 0, 1) := by decide +kernel
theorem d3_6 : decode prog_151_method_12_code 6 = .ok (.aload_n 0, 1) := by decide +kernel
theorem d3_7 : decode prog_151_method_12_code 7 = .ok (.getfield 24, 3) := by decide +kernel
theorem d3_10 : decode prog_151_method_12_code 10 = .ok (.lload_n 3, 1) := by decide +kernel
theorem d3_11 : decode prog_151_method_12_code 11 = .ok (.invokestatic 70, 3) := by decide +kernel
theorem d3_14 : decode prog_151_method_12_code 14 = .ok (.putfield 24, 3) := by decide +kernel
theorem d3_17 : decode prog_151_method_12_code 17 = .ok (.aload_n 0, 1) := by decide +kernel
theorem d3_18 : decode prog_151_method_12_code 18 = .ok (.aload_n 0, 1) := by decide +kernel
theorem d3_19 : decode prog_151_method_12_code 19 = .ok (.getfield 27, 3) := by decide +kernel
theorem d3_22 : decode prog_151_method_12_code 22 = .ok (.lload_n 3, 1) := by decide +kernel
theorem d3_23 : decode prog_151_method_12_code 23 = .ok (.invokestatic 79, 3) := by decide +kernel
theorem d3_26 : decode prog_151_method_12_code 26 = .ok (.putfield 27, 3) := by decide +kernel
theorem d3_29 : decode prog_151_method_12_code 29 = .ok (.return_, 1) := by decide +kernel
theorem pn_3 : plainName "com/example/fairjoin/fairjoin/operator/DirectKeys" = true := by first | (simp [plainName, overriddenIn]; done) | decide +kernel
theorem pd_3_3 : parseMethodDescriptor "(J)V" = some ⟨[.long], none⟩ := by decide +kernel
theorem pd_3_4 : parseMethodDescriptor "(JJ)J" = some ⟨[.long, .long], some .long⟩ := by decide +kernel
theorem ef_3 (m : MethodId) (x0 : Addr) (x1 : Int64) (x2 : Int64) : entryFrame m #[(.ref x0), (.long x1), (.long x2)] 5 = mkF m 0 #[.val (.ref x0), .val (.long x1), .second, .val (.long x2), .second] [] := by first | (simp [entryFrame, mkF, argsToLocals, Value.category]; done) | rfl
theorem d1_0 : decode prog_151_method_1_code 0 = .ok (.aload_n 0, 1) := by decide +kernel
theorem d1_1 : decode prog_151_method_1_code 1 = .ok (.invokespecial 3, 3) := by decide +kernel
theorem d1_4 : decode prog_151_method_1_code 4 = .ok (.aload_n 0, 1) := by decide +kernel
theorem d1_5 : decode prog_151_method_1_code 5 = .ok (.ldc2_w 11, 3) := by decide +kernel
theorem d1_8 : decode prog_151_method_1_code 8 = .ok (.putfield 13, 3) := by decide +kernel
theorem d1_11 : decode prog_151_method_1_code 11 = .ok (.aload_n 0, 1) := by decide +kernel
theorem d1_12 : decode prog_151_method_1_code 12 = .ok (.ldc2_w 19, 3) := by decide +kernel
theorem d1_15 : decode prog_151_method_1_code 15 = .ok (.putfield 21, 3) := by decide +kernel
theorem d1_18 : decode prog_151_method_1_code 18 = .ok (.aload_n 0, 1) := by decide +kernel
theorem d1_19 : decode prog_151_method_1_code 19 = .ok (.ldc2_w 11, 3) := by decide +kernel
theorem d1_22 : decode prog_151_method_1_code 22 = .ok (.putfield 24, 3) := by decide +kernel
theorem d1_25 : decode prog_151_method_1_code 25 = .ok (.aload_n 0, 1) := by decide +kernel
theorem d1_26 : decode prog_151_method_1_code 26 = .ok (.ldc2_w 19, 3) := by decide +kernel
theorem d1_29 : decode prog_151_method_1_code 29 = .ok (.putfield 27, 3) := by decide +kernel
theorem d1_32 : decode prog_151_method_1_code 32 = .ok (.aload_n 0, 1) := by decide +kernel
theorem d1_33 : decode prog_151_method_1_code 33 = .ok (.lconst 1, 1) := by decide +kernel
theorem d1_34 : decode prog_151_method_1_code 34 = .ok (.putfield 30, 3) := by decide +kernel
theorem d1_37 : decode prog_151_method_1_code 37 = .ok (.aload_n 0, 1) := by decide +kernel
theorem d1_38 : decode prog_151_method_1_code 38 = .ok (.iconst 0, 1) := by decide +kernel
theorem d1_39 : decode prog_151_method_1_code 39 = .ok (.newarray .int, 2) := by decide +kernel
theorem d1_41 : decode prog_151_method_1_code 41 = .ok (.putfield 33, 3) := by decide +kernel
theorem d1_44 : decode prog_151_method_1_code 44 = .ok (.aload_n 0, 1) := by decide +kernel
theorem d1_45 : decode prog_151_method_1_code 45 = .ok (.iload_n 1, 1) := by decide +kernel
theorem d1_46 : decode prog_151_method_1_code 46 = .ok (.putfield 37, 3) := by decide +kernel
theorem d1_49 : decode prog_151_method_1_code 49 = .ok (.return_, 1) := by decide +kernel
theorem pn_1 : plainName "com/example/fairjoin/fairjoin/operator/DirectKeys" = true := by first | (simp [plainName, overriddenIn]; done) | decide +kernel
theorem ef_1 (m : MethodId) (x0 : Addr) (x1 : Int32) : entryFrame m #[(.ref x0), (.int x1)] 2 = mkF m 0 #[.val (.ref x0), .val (.int x1)] [] := by first | (simp [entryFrame, mkF, argsToLocals, Value.category]; done) | rfl
theorem d8_0 : decode prog_151_method_18_code 0 = .ok (.lload_n 2, 1) := by decide +kernel
theorem d8_1 : decode prog_151_method_18_code 1 = .ok (.lload 4, 2) := by decide +kernel
theorem d8_3 : decode prog_151_method_18_code 3 = .ok (.iload_n 1, 1) := by decide +kernel
theorem d8_4 : decode prog_151_method_18_code 4 = .ok (.i2l, 1) := by decide +kernel
theorem d8_5 : decode prog_151_method_18_code 5 = .ok (.invokestatic 62, 3) := by decide +kernel
theorem d8_8 : decode prog_151_method_18_code 8 = .ok (.ifCond .ne 5, 3) := by decide +kernel
theorem d8_13 : decode prog_151_method_18_code 13 = .ok (.lload 4, 2) := by decide +kernel
theorem d8_15 : decode prog_151_method_18_code 15 = .ok (.lload_n 2, 1) := by decide +kernel
theorem d8_16 : decode prog_151_method_18_code 16 = .ok (.lsub, 1) := by decide +kernel
theorem d8_17 : decode prog_151_method_18_code 17 = .ok (.ldc2_w 98, 3) := by decide +kernel
theorem d8_20 : decode prog_151_method_18_code 20 = .ok (.ladd, 1) := by decide +kernel
theorem d8_21 : decode prog_151_method_18_code 21 = .ok (.ldc2_w 98, 3) := by decide +kernel
theorem d8_24 : decode prog_151_method_18_code 24 = .ok (.ldiv, 1) := by decide +kernel
theorem d8_25 : decode prog_151_method_18_code 25 = .ok (.l2i, 1) := by decide +kernel
theorem d8_26 : decode prog_151_method_18_code 26 = .ok (.newarray .long, 2) := by decide +kernel
theorem d8_28 : decode prog_151_method_18_code 28 = .ok (.astore 6, 2) := by decide +kernel
theorem d8_30 : decode prog_151_method_18_code 30 = .ok (.iconst 0, 1) := by decide +kernel
theorem d8_31 : decode prog_151_method_18_code 31 = .ok (.istore 7, 2) := by decide +kernel
theorem d8_33 : decode prog_151_method_18_code 33 = .ok (.iload 7, 2) := by decide +kernel
theorem d8_35 : decode prog_151_method_18_code 35 = .ok (.iload_n 1, 1) := by decide +kernel
theorem d8_36 : decode prog_151_method_18_code 36 = .ok (.if_icmp .ge 53, 3) := by decide +kernel
theorem d8_39 : decode prog_151_method_18_code 39 = .ok (.aload_n 0, 1) := by decide +kernel
theorem d8_40 : decode prog_151_method_18_code 40 = .ok (.iload 7, 2) := by decide +kernel
theorem d8_42 : decode prog_151_method_18_code 42 = .ok (.laload, 1) := by decide +kernel
theorem d8_43 : decode prog_151_method_18_code 43 = .ok (.lload_n 2, 1) := by decide +kernel
theorem d8_44 : decode prog_151_method_18_code 44 = .ok (.lsub, 1) := by decide +kernel
theorem d8_45 : decode prog_151_method_18_code 45 = .ok (.l2i, 1) := by decide +kernel
theorem d8_46 : decode prog_151_method_18_code 46 = .ok (.istore 8, 2) := by decide +kernel
theorem d8_48 : decode prog_151_method_18_code 48 = .ok (.aload 6, 2) := by decide +kernel
theorem d8_50 : decode prog_151_method_18_code 50 = .ok (.iload 8, 2) := by decide +kernel
theorem d8_52 : decode prog_151_method_18_code 52 = .ok (.bipush 6, 2) := by decide +kernel
theorem d8_54 : decode prog_151_method_18_code 54 = .ok (.iushr, 1) := by decide +kernel
theorem d8_55 : decode prog_151_method_18_code 55 = .ok (.laload, 1) := by decide +kernel
theorem d8_56 : decode prog_151_method_18_code 56 = .ok (.lconst 1, 1) := by decide +kernel
theorem d8_57 : decode prog_151_method_18_code 57 = .ok (.iload 8, 2) := by decide +kernel
theorem d8_59 : decode prog_151_method_18_code 59 = .ok (.lshl, 1) := by decide +kernel
theorem d8_60 : decode prog_151_method_18_code 60 = .ok (.land, 1) := by decide +kernel
theorem d8_61 : decode prog_151_method_18_code 61 = .ok (.lconst 0, 1) := by decide +kernel
theorem d8_62 : decode prog_151_method_18_code 62 = .ok (.lcmp, 1) := by decide +kernel
theorem d8_63 : decode prog_151_method_18_code 63 = .ok (.ifCond .eq 5, 3) := by decide +kernel
theorem d8_68 : decode prog_151_method_18_code 68 = .ok (.aload 6, 2) := by decide +kernel
theorem d8_70 : decode prog_151_method_18_code 70 = .ok (.iload 8, 2) := by decide +kernel
theorem d8_72 : decode prog_151_method_18_code 72 = .ok (.bipush 6, 2) := by decide +kernel
theorem d8_74 : decode prog_151_method_18_code 74 = .ok (.iushr, 1) := by decide +kernel
theorem d8_75 : decode prog_151_method_18_code 75 = .ok (.dup2, 1) := by decide +kernel
theorem d8_76 : decode prog_151_method_18_code 76 = .ok (.laload, 1) := by decide +kernel
theorem d8_77 : decode prog_151_method_18_code 77 = .ok (.lconst 1, 1) := by decide +kernel
theorem d8_78 : decode prog_151_method_18_code 78 = .ok (.iload 8, 2) := by decide +kernel
theorem d8_80 : decode prog_151_method_18_code 80 = .ok (.lshl, 1) := by decide +kernel
theorem d8_81 : decode prog_151_method_18_code 81 = .ok (.lor, 1) := by decide +kernel
theorem d8_82 : decode prog_151_method_18_code 82 = .ok (.lastore, 1) := by decide +kernel
theorem d8_83 : decode prog_151_method_18_code 83 = .ok (.iinc 7 1, 3) := by decide +kernel
theorem d8_86 : decode prog_151_method_18_code 86 = .ok (.goto (-53), 3) := by decide +kernel
theorem d8_89 : decode prog_151_method_18_code 89 = .ok (.iconst 1, 1) := by decide +kernel
theorem d8_90 : decode prog_151_method_18_code 90 = .ok (.ireturn, 1) := by decide +kernel
theorem pn_8 : plainName "com/example/fairjoin/fairjoin/operator/DirectKeys" = true := by first | (simp [plainName, overriddenIn]; done) | decide +kernel
theorem pd_8_7 : parseMethodDescriptor "(JJJ)Z" = some ⟨[.long, .long, .long], some .boolean⟩ := by decide +kernel
theorem ef_8 (m : MethodId) (x0 : Addr) (x1 : Int32) (x2 : Int64) (x3 : Int64) : entryFrame m #[(.ref x0), (.int x1), (.long x2), (.long x3)] 9 = mkF m 0 #[.val (.ref x0), .val (.int x1), .val (.long x2), .second, .val (.long x3), .second, .unset, .unset, .unset] [] := by first | (simp [entryFrame, mkF, argsToLocals, Value.category]; done) | rfl
theorem d7_0 : decode prog_151_method_17_code 0 = .ok (.aload_n 0, 1) := by decide +kernel
theorem d7_1 : decode prog_151_method_17_code 1 = .ok (.getfield 37, 3) := by decide +kernel
theorem d7_4 : decode prog_151_method_17_code 4 = .ok (.iconst 2, 1) := by decide +kernel
theorem d7_5 : decode prog_151_method_17_code 5 = .ok (.if_icmp .ne 31, 3) := by decide +kernel
theorem d7_8 : decode prog_151_method_17_code 8 = .ok (.aload_n 0, 1) := by decide +kernel
theorem d7_9 : decode prog_151_method_17_code 9 = .ok (.getfield 13, 3) := by decide +kernel
theorem d7_12 : decode prog_151_method_17_code 12 = .ok (.aload_n 0, 1) := by decide +kernel
theorem d7_13 : decode prog_151_method_17_code 13 = .ok (.getfield 21, 3) := by decide +kernel
theorem d7_16 : decode prog_151_method_17_code 16 = .ok (.lcmp, 1) := by decide +kernel
theorem d7_17 : decode prog_151_method_17_code 17 = .ok (.ifCond .gt 19, 3) := by decide +kernel
theorem d7_20 : decode prog_151_method_17_code 20 = .ok (.aload_n 1, 1) := by decide +kernel
theorem d7_21 : decode prog_151_method_17_code 21 = .ok (.iload_n 2, 1) := by decide +kernel
theorem d7_22 : decode prog_151_method_17_code 22 = .ok (.aload_n 0, 1) := by decide +kernel
theorem d7_23 : decode prog_151_method_17_code 23 = .ok (.getfield 13, 3) := by decide +kernel
theorem d7_26 : decode prog_151_method_17_code 26 = .ok (.aload_n 0, 1) := by decide +kernel
theorem d7_27 : decode prog_151_method_17_code 27 = .ok (.getfield 21, 3) := by decide +kernel
theorem d7_30 : decode prog_151_method_17_code 30 = .ok (.invokestatic 94, 3) := by decide +kernel
theorem d7_33 : decode prog_151_method_17_code 33 = .ok (.ifCond .ne 5, 3) := by decide +kernel
theorem d7_38 : decode prog_151_method_17_code 38 = .ok (.aload_n 0, 1) := by decide +kernel
theorem d7_39 : decode prog_151_method_17_code 39 = .ok (.getfield 21, 3) := by decide +kernel
theorem d7_42 : decode prog_151_method_17_code 42 = .ok (.aload_n 0, 1) := by decide +kernel
theorem d7_43 : decode prog_151_method_17_code 43 = .ok (.getfield 13, 3) := by decide +kernel
theorem d7_46 : decode prog_151_method_17_code 46 = .ok (.lsub, 1) := by decide +kernel
theorem d7_47 : decode prog_151_method_17_code 47 = .ok (.lconst 1, 1) := by decide +kernel
theorem d7_48 : decode prog_151_method_17_code 48 = .ok (.ladd, 1) := by decide +kernel
theorem d7_49 : decode prog_151_method_17_code 49 = .ok (.l2i, 1) := by decide +kernel
theorem d7_50 : decode prog_151_method_17_code 50 = .ok (.istore_n 3, 1) := by decide +kernel
theorem d7_51 : decode prog_151_method_17_code 51 = .ok (.aload_n 0, 1) := by decide +kernel
theorem d7_52 : decode prog_151_method_17_code 52 = .ok (.iconst 1, 1) := by decide +kernel
theorem d7_53 : decode prog_151_method_17_code 53 = .ok (.putfield 47, 3) := by decide +kernel
theorem d7_56 : decode prog_151_method_17_code 56 = .ok (.aload_n 0, 1) := by decide +kernel
theorem d7_57 : decode prog_151_method_17_code 57 = .ok (.aload_n 0, 1) := by decide +kernel
theorem d7_58 : decode prog_151_method_17_code 58 = .ok (.getfield 13, 3) := by decide +kernel
theorem d7_61 : decode prog_151_method_17_code 61 = .ok (.putfield 41, 3) := by decide +kernel
theorem d7_64 : decode prog_151_method_17_code 64 = .ok (.aload_n 0, 1) := by decide +kernel
theorem d7_65 : decode prog_151_method_17_code 65 = .ok (.iload_n 3, 1) := by decide +kernel
theorem d7_66 : decode prog_151_method_17_code 66 = .ok (.i2l, 1) := by decide +kernel
theorem d7_67 : decode prog_151_method_17_code 67 = .ok (.putfield 44, 3) := by decide +kernel
theorem d7_70 : decode prog_151_method_17_code 70 = .ok (.aload_n 0, 1) := by decide +kernel
theorem d7_71 : decode prog_151_method_17_code 71 = .ok (.lconst 0, 1) := by decide +kernel
theorem d7_72 : decode prog_151_method_17_code 72 = .ok (.putfield 55, 3) := by decide +kernel
theorem d7_75 : decode prog_151_method_17_code 75 = .ok (.aload_n 0, 1) := by decide +kernel
theorem d7_76 : decode prog_151_method_17_code 76 = .ok (.lconst 1, 1) := by decide +kernel
theorem d7_77 : decode prog_151_method_17_code 77 = .ok (.putfield 30, 3) := by decide +kernel
theorem d7_80 : decode prog_151_method_17_code 80 = .ok (.aload_n 0, 1) := by decide +kernel
theorem d7_81 : decode prog_151_method_17_code 81 = .ok (.iload_n 3, 1) := by decide +kernel
theorem d7_82 : decode prog_151_method_17_code 82 = .ok (.newarray .int, 2) := by decide +kernel
theorem d7_84 : decode prog_151_method_17_code 84 = .ok (.putfield 33, 3) := by decide +kernel
theorem d7_87 : decode prog_151_method_17_code 87 = .ok (.aload_n 0, 1) := by decide +kernel
theorem d7_88 : decode prog_151_method_17_code 88 = .ok (.iload_n 3, 1) := by decide +kernel
theorem d7_89 : decode prog_151_method_17_code 89 = .ok (.newarray .long, 2) := by decide +kernel
theorem d7_91 : decode prog_151_method_17_code 91 = .ok (.putfield 51, 3) := by decide +kernel
theorem d7_94 : decode prog_151_method_17_code 94 = .ok (.iconst 1, 1) := by decide +kernel
theorem d7_95 : decode prog_151_method_17_code 95 = .ok (.ireturn, 1) := by decide +kernel
theorem pn_7 : plainName "com/example/fairjoin/fairjoin/operator/DirectKeys" = true := by first | (simp [plainName, overriddenIn]; done) | decide +kernel
theorem pd_7_6 : parseMethodDescriptor "([JIJJ)Z" = some ⟨[(.array .long), .int, .long, .long], some .boolean⟩ := by decide +kernel
theorem ef_7 (m : MethodId) (x0 : Addr) (x1 : Addr) (x2 : Int32) : entryFrame m #[(.ref x0), (.ref x1), (.int x2)] 4 = mkF m 0 #[.val (.ref x0), .val (.ref x1), .val (.int x2), .unset] [] := by first | (simp [entryFrame, mkF, argsToLocals, Value.category]; done) | rfl
theorem d13_0 : decode prog_151_method_16_code 0 = .ok (.aload_n 0, 1) := by decide +kernel
theorem d13_1 : decode prog_151_method_16_code 1 = .ok (.getfield 37, 3) := by decide +kernel
theorem d13_4 : decode prog_151_method_16_code 4 = .ok (.iconst 2, 1) := by decide +kernel
theorem d13_5 : decode prog_151_method_16_code 5 = .ok (.if_icmp .gt 15, 3) := by decide +kernel
theorem d13_8 : decode prog_151_method_16_code 8 = .ok (.aload_n 0, 1) := by decide +kernel
theorem d13_9 : decode prog_151_method_16_code 9 = .ok (.getfield 13, 3) := by decide +kernel
theorem d13_12 : decode prog_151_method_16_code 12 = .ok (.aload_n 0, 1) := by decide +kernel
theorem d13_13 : decode prog_151_method_16_code 13 = .ok (.getfield 21, 3) := by decide +kernel
theorem d13_16 : decode prog_151_method_16_code 16 = .ok (.lcmp, 1) := by decide +kernel
theorem d13_17 : decode prog_151_method_16_code 17 = .ok (.ifCond .le 5, 3) := by decide +kernel
theorem d13_22 : decode prog_151_method_16_code 22 = .ok (.lload_n 1, 1) := by decide +kernel
theorem d13_23 : decode prog_151_method_16_code 23 = .ok (.ldc2_w 66, 3) := by decide +kernel
theorem d13_26 : decode prog_151_method_16_code 26 = .ok (.lmul, 1) := by decide +kernel
theorem d13_27 : decode prog_151_method_16_code 27 = .ok (.ldc2_w 68, 3) := by decide +kernel
theorem d13_30 : decode prog_151_method_16_code 30 = .ok (.invokestatic 70, 3) := by decide +kernel
theorem d13_33 : decode prog_151_method_16_code 33 = .ok (.lstore_n 3, 1) := by decide +kernel
theorem d13_34 : decode prog_151_method_16_code 34 = .ok (.aload_n 0, 1) := by decide +kernel
theorem d13_35 : decode prog_151_method_16_code 35 = .ok (.getfield 21, 3) := by decide +kernel
theorem d13_38 : decode prog_151_method_16_code 38 = .ok (.aload_n 0, 1) := by decide +kernel
theorem d13_39 : decode prog_151_method_16_code 39 = .ok (.getfield 13, 3) := by decide +kernel
theorem d13_42 : decode prog_151_method_16_code 42 = .ok (.lsub, 1) := by decide +kernel
theorem d13_43 : decode prog_151_method_16_code 43 = .ok (.lload_n 3, 1) := by decide +kernel
theorem d13_44 : decode prog_151_method_16_code 44 = .ok (.invokestatic 76, 3) := by decide +kernel
theorem d13_47 : decode prog_151_method_16_code 47 = .ok (.ifCond .ge 27, 3) := by decide +kernel
theorem d13_50 : decode prog_151_method_16_code 50 = .ok (.aload_n 0, 1) := by decide +kernel
theorem d13_51 : decode prog_151_method_16_code 51 = .ok (.getfield 37, 3) := by decide +kernel
theorem d13_54 : decode prog_151_method_16_code 54 = .ok (.iconst 2, 1) := by decide +kernel
theorem d13_55 : decode prog_151_method_16_code 55 = .ok (.if_icmp .ne 21, 3) := by decide +kernel
theorem d13_58 : decode prog_151_method_16_code 58 = .ok (.aload_n 0, 1) := by decide +kernel
theorem d13_59 : decode prog_151_method_16_code 59 = .ok (.getfield 27, 3) := by decide +kernel
theorem d13_62 : decode prog_151_method_16_code 62 = .ok (.aload_n 0, 1) := by decide +kernel
theorem d13_63 : decode prog_151_method_16_code 63 = .ok (.getfield 24, 3) := by decide +kernel
theorem d13_66 : decode prog_151_method_16_code 66 = .ok (.lsub, 1) := by decide +kernel
theorem d13_67 : decode prog_151_method_16_code 67 = .ok (.lload_n 3, 1) := by decide +kernel
theorem d13_68 : decode prog_151_method_16_code 68 = .ok (.invokestatic 76, 3) := by decide +kernel
theorem d13_71 : decode prog_151_method_16_code 71 = .ok (.ifCond .lt 5, 3) := by decide +kernel
theorem d13_76 : decode prog_151_method_16_code 76 = .ok (.aload_n 0, 1) := by decide +kernel
theorem d13_77 : decode prog_151_method_16_code 77 = .ok (.getfield 21, 3) := by decide +kernel
theorem d13_80 : decode prog_151_method_16_code 80 = .ok (.aload_n 0, 1) := by decide +kernel
theorem d13_81 : decode prog_151_method_16_code 81 = .ok (.getfield 13, 3) := by decide +kernel
theorem d13_84 : decode prog_151_method_16_code 84 = .ok (.lsub, 1) := by decide +kernel
theorem d13_85 : decode prog_151_method_16_code 85 = .ok (.lconst 1, 1) := by decide +kernel
theorem d13_86 : decode prog_151_method_16_code 86 = .ok (.ladd, 1) := by decide +kernel
theorem d13_87 : decode prog_151_method_16_code 87 = .ok (.lstore 5, 2) := by decide +kernel
theorem d13_89 : decode prog_151_method_16_code 89 = .ok (.aload_n 0, 1) := by decide +kernel
theorem d13_90 : decode prog_151_method_16_code 90 = .ok (.getfield 37, 3) := by decide +kernel
theorem d13_93 : decode prog_151_method_16_code 93 = .ok (.iconst 2, 1) := by decide +kernel
theorem d13_94 : decode prog_151_method_16_code 94 = .ok (.if_icmp .ne 17, 3) := by decide +kernel
theorem d13_97 : decode prog_151_method_16_code 97 = .ok (.aload_n 0, 1) := by decide +kernel
theorem d13_98 : decode prog_151_method_16_code 98 = .ok (.getfield 27, 3) := by decide +kernel
theorem d13_101 : decode prog_151_method_16_code 101 = .ok (.aload_n 0, 1) := by decide +kernel
theorem d13_102 : decode prog_151_method_16_code 102 = .ok (.getfield 24, 3) := by decide +kernel
theorem d13_105 : decode prog_151_method_16_code 105 = .ok (.lsub, 1) := by decide +kernel
theorem d13_106 : decode prog_151_method_16_code 106 = .ok (.lconst 1, 1) := by decide +kernel
theorem d13_107 : decode prog_151_method_16_code 107 = .ok (.ladd, 1) := by decide +kernel
theorem d13_108 : decode prog_151_method_16_code 108 = .ok (.goto 4, 3) := by decide +kernel
theorem d13_112 : decode prog_151_method_16_code 112 = .ok (.lstore 7, 2) := by decide +kernel
theorem d13_114 : decode prog_151_method_16_code 114 = .ok (.lload 5, 2) := by decide +kernel
theorem d13_116 : decode prog_151_method_16_code 116 = .ok (.lload 7, 2) := by decide +kernel
theorem d13_118 : decode prog_151_method_16_code 118 = .ok (.lmul, 1) := by decide +kernel
theorem d13_119 : decode prog_151_method_16_code 119 = .ok (.lload_n 3, 1) := by decide +kernel
theorem d13_120 : decode prog_151_method_16_code 120 = .ok (.lcmp, 1) := by decide +kernel
theorem d13_121 : decode prog_151_method_16_code 121 = .ok (.ifCond .le 5, 3) := by decide +kernel
theorem d13_126 : decode prog_151_method_16_code 126 = .ok (.aload_n 0, 1) := by decide +kernel
theorem d13_127 : decode prog_151_method_16_code 127 = .ok (.iconst 0, 1) := by decide +kernel
theorem d13_128 : decode prog_151_method_16_code 128 = .ok (.putfield 47, 3) := by decide +kernel
theorem d13_131 : decode prog_151_method_16_code 131 = .ok (.aload_n 0, 1) := by decide +kernel
theorem d13_132 : decode prog_151_method_16_code 132 = .ok (.aconst_null, 1) := by decide +kernel
theorem d13_133 : decode prog_151_method_16_code 133 = .ok (.putfield 51, 3) := by decide +kernel
theorem d13_136 : decode prog_151_method_16_code 136 = .ok (.aload_n 0, 1) := by decide +kernel
theorem d13_137 : decode prog_151_method_16_code 137 = .ok (.aload_n 0, 1) := by decide +kernel
theorem d13_138 : decode prog_151_method_16_code 138 = .ok (.getfield 13, 3) := by decide +kernel
theorem d13_141 : decode prog_151_method_16_code 141 = .ok (.putfield 41, 3) := by decide +kernel
theorem d13_144 : decode prog_151_method_16_code 144 = .ok (.aload_n 0, 1) := by decide +kernel
theorem d13_145 : decode prog_151_method_16_code 145 = .ok (.lload 5, 2) := by decide +kernel
theorem d13_147 : decode prog_151_method_16_code 147 = .ok (.putfield 44, 3) := by decide +kernel
theorem d13_150 : decode prog_151_method_16_code 150 = .ok (.aload_n 0, 1) := by decide +kernel
theorem d13_151 : decode prog_151_method_16_code 151 = .ok (.aload_n 0, 1) := by decide +kernel
theorem d13_152 : decode prog_151_method_16_code 152 = .ok (.getfield 37, 3) := by decide +kernel
theorem d13_155 : decode prog_151_method_16_code 155 = .ok (.iconst 2, 1) := by decide +kernel
theorem d13_156 : decode prog_151_method_16_code 156 = .ok (.if_icmp .ne 10, 3) := by decide +kernel
theorem d13_159 : decode prog_151_method_16_code 159 = .ok (.aload_n 0, 1) := by decide +kernel
theorem d13_160 : decode prog_151_method_16_code 160 = .ok (.getfield 24, 3) := by decide +kernel
theorem d13_163 : decode prog_151_method_16_code 163 = .ok (.goto 4, 3) := by decide +kernel
theorem d13_167 : decode prog_151_method_16_code 167 = .ok (.putfield 55, 3) := by decide +kernel
theorem d13_170 : decode prog_151_method_16_code 170 = .ok (.aload_n 0, 1) := by decide +kernel
theorem d13_171 : decode prog_151_method_16_code 171 = .ok (.lload 7, 2) := by decide +kernel
theorem d13_173 : decode prog_151_method_16_code 173 = .ok (.putfield 30, 3) := by decide +kernel
theorem d13_176 : decode prog_151_method_16_code 176 = .ok (.aload_n 0, 1) := by decide +kernel
theorem d13_177 : decode prog_151_method_16_code 177 = .ok (.lload 5, 2) := by decide +kernel
theorem d13_179 : decode prog_151_method_16_code 179 = .ok (.lload 7, 2) := by decide +kernel
theorem d13_181 : decode prog_151_method_16_code 181 = .ok (.lmul, 1) := by decide +kernel
theorem d13_182 : decode prog_151_method_16_code 182 = .ok (.l2i, 1) := by decide +kernel
theorem d13_183 : decode prog_151_method_16_code 183 = .ok (.newarray .int, 2) := by decide +kernel
theorem d13_185 : decode prog_151_method_16_code 185 = .ok (.putfield 33, 3) := by decide +kernel
theorem d13_188 : decode prog_151_method_16_code 188 = .ok (.iconst 1, 1) := by decide +kernel
theorem d13_189 : decode prog_151_method_16_code 189 = .ok (.ireturn, 1) := by decide +kernel
theorem pn_13 : plainName "com/example/fairjoin/fairjoin/operator/DirectKeys" = true := by first | (simp [plainName, overriddenIn]; done) | decide +kernel
theorem pd_13_4 : parseMethodDescriptor "(JJ)J" = some ⟨[.long, .long], some .long⟩ := by decide +kernel
theorem pd_13_8 : parseMethodDescriptor "(JJ)I" = some ⟨[.long, .long], some .int⟩ := by decide +kernel
theorem ef_13 (m : MethodId) (x0 : Addr) (x1 : Int64) : entryFrame m #[(.ref x0), (.long x1)] 9 = mkF m 0 #[.val (.ref x0), .val (.long x1), .second, .unset, .unset, .unset, .unset, .unset, .unset] [] := by first | (simp [entryFrame, mkF, argsToLocals, Value.category]; done) | rfl
theorem d14_0 : decode prog_151_method_7_code 0 = .ok (.aload_n 0, 1) := by decide +kernel
theorem d14_1 : decode prog_151_method_7_code 1 = .ok (.getfield 33, 3) := by decide +kernel
theorem d14_4 : decode prog_151_method_7_code 4 = .ok (.iload_n 1, 1) := by decide +kernel
theorem d14_5 : decode prog_151_method_7_code 5 = .ok (.iload_n 2, 1) := by decide +kernel
theorem d14_6 : decode prog_151_method_7_code 6 = .ok (.iconst 1, 1) := by decide +kernel
theorem d14_7 : decode prog_151_method_7_code 7 = .ok (.iadd, 1) := by decide +kernel
theorem d14_8 : decode prog_151_method_7_code 8 = .ok (.iastore, 1) := by decide +kernel
theorem d14_9 : decode prog_151_method_7_code 9 = .ok (.aload_n 0, 1) := by decide +kernel
theorem d14_10 : decode prog_151_method_7_code 10 = .ok (.getfield 47, 3) := by decide +kernel
theorem d14_13 : decode prog_151_method_7_code 13 = .ok (.ifCond .eq 10, 3) := by decide +kernel
theorem d14_23 : decode prog_151_method_7_code 23 = .ok (.return_, 1) := by decide +kernel
theorem pn_14 : plainName "com/example/fairjoin/fairjoin/operator/DirectKeys" = true := by first | (simp [plainName, overriddenIn]; done) | decide +kernel
theorem ef_14 (m : MethodId) (x0 : Addr) (x1 : Int32) (x2 : Int32) (x3 : Int64) : entryFrame m #[(.ref x0), (.int x1), (.int x2), (.long x3)] 5 = mkF m 0 #[.val (.ref x0), .val (.int x1), .val (.int x2), .val (.long x3), .second] [] := by first | (simp [entryFrame, mkF, argsToLocals, Value.category]; done) | rfl
theorem d14_16 : decode prog_151_method_7_code 16 = .ok (.aload_n 0, 1) := by decide +kernel
theorem d14_17 : decode prog_151_method_7_code 17 = .ok (.getfield 51, 3) := by decide +kernel
theorem d14_20 : decode prog_151_method_7_code 20 = .ok (.iload_n 1, 1) := by decide +kernel
theorem d14_21 : decode prog_151_method_7_code 21 = .ok (.lload_n 3, 1) := by decide +kernel
theorem d14_22 : decode prog_151_method_7_code 22 = .ok (.lastore, 1) := by decide +kernel
theorem d12_0 : decode prog_151_method_4_code 0 = .ok (.lload_n 1, 1) := by decide +kernel
theorem d12_1 : decode prog_151_method_4_code 1 = .ok (.aload_n 0, 1) := by decide +kernel
theorem d12_2 : decode prog_151_method_4_code 2 = .ok (.getfield 41, 3) := by decide +kernel
theorem d12_5 : decode prog_151_method_4_code 5 = .ok (.lsub, 1) := by decide +kernel
theorem d12_6 : decode prog_151_method_4_code 6 = .ok (.lstore 5, 2) := by decide +kernel
theorem d12_8 : decode prog_151_method_4_code 8 = .ok (.aload_n 0, 1) := by decide +kernel
theorem d12_9 : decode prog_151_method_4_code 9 = .ok (.getfield 47, 3) := by decide +kernel
theorem d12_12 : decode prog_151_method_4_code 12 = .ok (.ifCond .eq 63, 3) := by decide +kernel
theorem d12_75 : decode prog_151_method_4_code 75 = .ok (.lload_n 3, 1) := by decide +kernel
theorem d12_76 : decode prog_151_method_4_code 76 = .ok (.aload_n 0, 1) := by decide +kernel
theorem d12_77 : decode prog_151_method_4_code 77 = .ok (.getfield 55, 3) := by decide +kernel
theorem d12_80 : decode prog_151_method_4_code 80 = .ok (.lsub, 1) := by decide +kernel
theorem d12_81 : decode prog_151_method_4_code 81 = .ok (.lstore 7, 2) := by decide +kernel
theorem d12_83 : decode prog_151_method_4_code 83 = .ok (.lload 5, 2) := by decide +kernel
theorem d12_85 : decode prog_151_method_4_code 85 = .ok (.lconst 0, 1) := by decide +kernel
theorem d12_86 : decode prog_151_method_4_code 86 = .ok (.lcmp, 1) := by decide +kernel
theorem d12_87 : decode prog_151_method_4_code 87 = .ok (.ifCond .lt 44, 3) := by decide +kernel
theorem d12_131 : decode prog_151_method_4_code 131 = .ok (.iconst (-1), 1) := by decide +kernel
theorem d12_132 : decode prog_151_method_4_code 132 = .ok (.ireturn, 1) := by decide +kernel
theorem pn_12 : plainName "com/example/fairjoin/fairjoin/operator/DirectKeys" = true := by first | (simp [plainName, overriddenIn]; done) | decide +kernel
theorem ef_12 (m : MethodId) (x0 : Addr) (x1 : Int64) (x2 : Int64) : entryFrame m #[(.ref x0), (.long x1), (.long x2)] 9 = mkF m 0 #[.val (.ref x0), .val (.long x1), .second, .val (.long x2), .second, .unset, .unset, .unset, .unset] [] := by first | (simp [entryFrame, mkF, argsToLocals, Value.category]; done) | rfl
theorem d12_90 : decode prog_151_method_4_code 90 = .ok (.lload 5, 2) := by decide +kernel
theorem d12_92 : decode prog_151_method_4_code 92 = .ok (.aload_n 0, 1) := by decide +kernel
theorem d12_93 : decode prog_151_method_4_code 93 = .ok (.getfield 44, 3) := by decide +kernel
theorem d12_96 : decode prog_151_method_4_code 96 = .ok (.lcmp, 1) := by decide +kernel
theorem d12_97 : decode prog_151_method_4_code 97 = .ok (.ifCond .ge 34, 3) := by decide +kernel
theorem d12_100 : decode prog_151_method_4_code 100 = .ok (.lload 7, 2) := by decide +kernel
theorem d12_102 : decode prog_151_method_4_code 102 = .ok (.lconst 0, 1) := by decide +kernel
theorem d12_103 : decode prog_151_method_4_code 103 = .ok (.lcmp, 1) := by decide +kernel
theorem d12_104 : decode prog_151_method_4_code 104 = .ok (.ifCond .lt 27, 3) := by decide +kernel
theorem d12_107 : decode prog_151_method_4_code 107 = .ok (.lload 7, 2) := by decide +kernel
theorem d12_109 : decode prog_151_method_4_code 109 = .ok (.aload_n 0, 1) := by decide +kernel
theorem d12_110 : decode prog_151_method_4_code 110 = .ok (.getfield 30, 3) := by decide +kernel
theorem d12_113 : decode prog_151_method_4_code 113 = .ok (.lcmp, 1) := by decide +kernel
theorem d12_114 : decode prog_151_method_4_code 114 = .ok (.ifCond .ge 17, 3) := by decide +kernel
theorem d12_117 : decode prog_151_method_4_code 117 = .ok (.lload 5, 2) := by decide +kernel
theorem d12_119 : decode prog_151_method_4_code 119 = .ok (.aload_n 0, 1) := by decide +kernel
theorem d12_120 : decode prog_151_method_4_code 120 = .ok (.getfield 30, 3) := by decide +kernel
theorem d12_123 : decode prog_151_method_4_code 123 = .ok (.lmul, 1) := by decide +kernel
theorem d12_124 : decode prog_151_method_4_code 124 = .ok (.lload 7, 2) := by decide +kernel
theorem d12_126 : decode prog_151_method_4_code 126 = .ok (.ladd, 1) := by decide +kernel
theorem d12_127 : decode prog_151_method_4_code 127 = .ok (.l2i, 1) := by decide +kernel
theorem d12_128 : decode prog_151_method_4_code 128 = .ok (.goto 4, 3) := by decide +kernel
theorem d12_15 : decode prog_151_method_4_code 15 = .ok (.lload 5, 2) := by decide +kernel
theorem d12_17 : decode prog_151_method_4_code 17 = .ok (.lconst 0, 1) := by decide +kernel
theorem d12_18 : decode prog_151_method_4_code 18 = .ok (.lcmp, 1) := by decide +kernel
theorem d12_19 : decode prog_151_method_4_code 19 = .ok (.ifCond .lt 19, 3) := by decide +kernel
theorem d12_38 : decode prog_151_method_4_code 38 = .ok (.iconst (-1), 1) := by decide +kernel
theorem d12_39 : decode prog_151_method_4_code 39 = .ok (.istore 7, 2) := by decide +kernel
theorem d12_41 : decode prog_151_method_4_code 41 = .ok (.iload 7, 2) := by decide +kernel
theorem d12_43 : decode prog_151_method_4_code 43 = .ok (.ifCond .lt 30, 3) := by decide +kernel
theorem d12_73 : decode prog_151_method_4_code 73 = .ok (.iconst (-1), 1) := by decide +kernel
theorem d12_74 : decode prog_151_method_4_code 74 = .ok (.ireturn, 1) := by decide +kernel
theorem d12_22 : decode prog_151_method_4_code 22 = .ok (.lload 5, 2) := by decide +kernel
theorem d12_24 : decode prog_151_method_4_code 24 = .ok (.aload_n 0, 1) := by decide +kernel
theorem d12_25 : decode prog_151_method_4_code 25 = .ok (.getfield 44, 3) := by decide +kernel
theorem d12_28 : decode prog_151_method_4_code 28 = .ok (.lcmp, 1) := by decide +kernel
theorem d12_29 : decode prog_151_method_4_code 29 = .ok (.ifCond .ge 9, 3) := by decide +kernel
theorem d12_32 : decode prog_151_method_4_code 32 = .ok (.lload 5, 2) := by decide +kernel
theorem d12_34 : decode prog_151_method_4_code 34 = .ok (.l2i, 1) := by decide +kernel
theorem d12_35 : decode prog_151_method_4_code 35 = .ok (.goto 4, 3) := by decide +kernel
theorem d12_46 : decode prog_151_method_4_code 46 = .ok (.aload_n 0, 1) := by decide +kernel
theorem d12_47 : decode prog_151_method_4_code 47 = .ok (.getfield 33, 3) := by decide +kernel
theorem d12_50 : decode prog_151_method_4_code 50 = .ok (.iload 7, 2) := by decide +kernel
theorem d12_52 : decode prog_151_method_4_code 52 = .ok (.iaload, 1) := by decide +kernel
theorem d12_53 : decode prog_151_method_4_code 53 = .ok (.ifCond .eq 15, 3) := by decide +kernel
theorem d12_68 : decode prog_151_method_4_code 68 = .ok (.iload 7, 2) := by decide +kernel
theorem d12_70 : decode prog_151_method_4_code 70 = .ok (.goto 4, 3) := by decide +kernel
theorem d12_56 : decode prog_151_method_4_code 56 = .ok (.aload_n 0, 1) := by decide +kernel
theorem d12_57 : decode prog_151_method_4_code 57 = .ok (.getfield 51, 3) := by decide +kernel
theorem d12_60 : decode prog_151_method_4_code 60 = .ok (.iload 7, 2) := by decide +kernel
theorem d12_62 : decode prog_151_method_4_code 62 = .ok (.laload, 1) := by decide +kernel
theorem d12_63 : decode prog_151_method_4_code 63 = .ok (.lload_n 3, 1) := by decide +kernel
theorem d12_64 : decode prog_151_method_4_code 64 = .ok (.lcmp, 1) := by decide +kernel
theorem d12_65 : decode prog_151_method_4_code 65 = .ok (.ifCond .ne 8, 3) := by decide +kernel
theorem pd_0_0 : parseMethodDescriptor "(I)V" = some ⟨[.int], none⟩ := by decide +kernel
theorem pd_0_2 : parseMethodDescriptor "(JJ)V" = some ⟨[.long, .long], none⟩ := by decide +kernel
theorem pd_0_8 : parseMethodDescriptor "(JJ)I" = some ⟨[.long, .long], some .int⟩ := by decide +kernel
theorem pd_0_9 : parseMethodDescriptor "(J)Z" = some ⟨[.long], some .boolean⟩ := by decide +kernel
theorem pd_0_5 : parseMethodDescriptor "([JI)Z" = some ⟨[(.array .long), .int], some .boolean⟩ := by decide +kernel
theorem pd_0_10 : parseMethodDescriptor "(IIJ)V" = some ⟨[.int, .int, .long], none⟩ := by decide +kernel
theorem pn_0 : plainName "com/example/fairjoin/fairjoin/operator/DirectKeysSlotPinLaw" = true := by first | (simp [plainName, overriddenIn]; done) | decide +kernel
theorem ef_0 (m : MethodId) (x0 : Int64) (x1 : Int64) (x2 : Int64) (x3 : Int64) (x4 : Int32) (x5 : Int32) : entryFrame m #[(.long x0), (.long x1), (.long x2), (.long x3), (.int x4), (.int x5)] maxLocals = mkF m 0 #[.val (.long x0), .second, .val (.long x1), .second, .val (.long x2), .second, .val (.long x3), .second, .val (.int x4), .val (.int x5), .unset, .unset, .unset, .unset, .unset, .unset, .unset, .unset, .unset, .unset, .unset, .unset, .unset, .unset, .unset, .unset, .unset, .unset, .unset, .unset, .unset, .unset, .unset, .unset, .unset, .unset, .unset, .unset, .unset, .unset, .unset, .unset, .unset] [] := by first | (simp [entryFrame, mkF, argsToLocals, Value.category, maxLocals]; done) | rfl
def Q5 (Z : State) (q1 : Int64) (q2 : Int64) (h0 : Heap) (n0 : Nat) (v : Option Value) (h : Heap) (L : List Loc) : Prop := v = some (.long (own_mn q1 q2)) ∧ Fr n0 L ∧ h = h0
set_option maxRecDepth 65536 in
set_option maxHeartbeats 40000000 in
theorem rm5a (l : Launch) (Z : State) (a0 : Array Value) (hw : ∀ d ∈ tables_1, d.before a0 Z = true) (ws : List Jvm.Cond) (q1 : Int64) (q2 : Int64) (h0 : Heap) (n0 : Nat) (Z0 : n0 ≤ h0.size) (hc3 : (0 : Int32) < (lcmpW q1 q2)) :
    MetFree l (⟨"java/lang/Math", "min", "(JJ)J"⟩ : MethodName) (head1 (Jvm.Cond.code (⟨"java/lang/Math", "min", "(JJ)J"⟩ : MethodName) jdk_29_method_70_code 4 (some .long) :: ws) ({ frames := 0, cells := 0, slots := 0, locals := 0 } : Room)) (fun a U => a = #[(.long q1), (.long q2)] ∧ Z.Warmed39 U.vm ∧ U.heap = h0) (fun _ _ _ _ _ => True) (fun _ U o U' => ∃ v L, o = .returned v ∧ Q5 Z q1 q2 h0 n0 v U'.heap L ∧ FrameEnd U o U' L ({ frames := 0, cells := 0, slots := 0, locals := 0 } : Room).cells ({ frames := 0, cells := 0, slots := 0, locals := 0 } : Room).slots) := by
  refine MetFree.of_bodySF (Jvm.Free.JP.mathPlain rfl (by decide +kernel)) hisR ?_
  intro p e s m args below meth c s₁ Bd hml0 hP hK
  obtain ⟨rfl, hZ, hh⟩ := hP
  have hx := Bd.exec
  have hby := Bd.bytes
  have hml : c.maxLocals = 4 := hml0
  have hown : s.vm.findClass "java/lang/Math" = some m.cls := findClass_of_methodNamed Bd.named
  have hnm := (name_of_methodNamed Bd.named Bd.method).1
  have X0 : Stand p l e ({ frames := 0, cells := 0, slots := 0, locals := 0 } : Room) s m #[(.long q1), (.long q2)] below meth c s₁ [] 0 0 := Stand.of_body Bd
  have e0 : s₁.heap = h0 := by rw [← hh, Bd.state]; rfl
  have N0 := Fr.nil n0
  have pre0 : ∀ t, Steps p.tables e below (s₁.setTop (mkF m 0 #[.val (.long q1), .second, .val (.long q2), .second] [])) t → Steps p.tables e below (s₁.setTop (entryFrame m #[(.long q1), (.long q2)] 4)) t := fun t ktt => castTop (ef_5 m q1 q2) ktt
  obtain ⟨fsr, hr, hrun, hended, hW, hsame⟩ := X0.leave (v := some (.long q2)) (fun h => by rw [Bd.returns] at h; cases h)
  refine ⟨_, _, pre0 _ ?_, hrun, hended, _, _, rfl, ?_, ⟨_, rfl⟩, hW, hsame.mono (by decide) (by decide)⟩
  · show Steps p.tables e below (s₁.setTop (mkF m 0 #[.val (.long q1), .second, .val (.long q2), .second] [])) _
    refine XS.lloadN X0.here hx rfl (hb hby d5_0) rfl ?_
    show Steps p.tables e below (s₁.setTop (mkF m 1 #[.val (.long q1), .second, .val (.long q2), .second] [(.long q1)])) _
    refine XS.lloadN X0.here hx rfl (hb hby d5_1) rfl ?_
    show Steps p.tables e below (s₁.setTop (mkF m 2 #[.val (.long q1), .second, .val (.long q2), .second] [(.long q2), (.long q1)])) _
    refine XS.lcmp X0.here hx rfl (hb hby d5_2) rfl ?_
    show Steps p.tables e below (s₁.setTop (mkF m 3 #[.val (.long q1), .second, .val (.long q2), .second] [(.int (lcmpW q1 q2))])) _
    refine XS.ifYes X0.here hx rfl (pc0 := 3) (pc' := 10) rfl (hb hby d5_3) rfl ((if0 _ _).trans (tlt hc3).2.2.1) (by decide) (by decide) ?_
    show Steps p.tables e below (s₁.setTop (mkF m 10 #[.val (.long q1), .second, .val (.long q2), .second] [])) _
    refine XS.lloadN X0.here hx rfl (hb hby d5_10) rfl ?_
    show Steps p.tables e below (s₁.setTop (mkF m 11 #[.val (.long q1), .second, .val (.long q2), .second] [(.long q2)])) _
    jvm_step X0.here [X0.here.top, hx, (hb hby d5_11), X0.method', Bd.returns, narrow]
    first | (intro acts; rw [hr _ acts rfl rfl rfl]) | rw [hr _ _ rfl rfl rfl]
    exact Steps.refl _
  · show Q5 Z q1 q2 h0 n0 _ s₁.heap _
    rw [e0]
    exact ⟨by rw [own_mn, if_pos hc3], N0, rfl⟩
set_option maxRecDepth 65536 in
set_option maxHeartbeats 40000000 in
theorem rm5b (l : Launch) (Z : State) (a0 : Array Value) (hw : ∀ d ∈ tables_1, d.before a0 Z = true) (ws : List Jvm.Cond) (q1 : Int64) (q2 : Int64) (h0 : Heap) (n0 : Nat) (Z0 : n0 ≤ h0.size) (hc3 : ¬ ((0 : Int32) < (lcmpW q1 q2))) :
    MetFree l (⟨"java/lang/Math", "min", "(JJ)J"⟩ : MethodName) (head1 (Jvm.Cond.code (⟨"java/lang/Math", "min", "(JJ)J"⟩ : MethodName) jdk_29_method_70_code 4 (some .long) :: ws) ({ frames := 0, cells := 0, slots := 0, locals := 0 } : Room)) (fun a U => a = #[(.long q1), (.long q2)] ∧ Z.Warmed39 U.vm ∧ U.heap = h0) (fun _ _ _ _ _ => True) (fun _ U o U' => ∃ v L, o = .returned v ∧ Q5 Z q1 q2 h0 n0 v U'.heap L ∧ FrameEnd U o U' L ({ frames := 0, cells := 0, slots := 0, locals := 0 } : Room).cells ({ frames := 0, cells := 0, slots := 0, locals := 0 } : Room).slots) := by
  refine MetFree.of_bodySF (Jvm.Free.JP.mathPlain rfl (by decide +kernel)) hisR ?_
  intro p e s m args below meth c s₁ Bd hml0 hP hK
  obtain ⟨rfl, hZ, hh⟩ := hP
  have hx := Bd.exec
  have hby := Bd.bytes
  have hml : c.maxLocals = 4 := hml0
  have hown : s.vm.findClass "java/lang/Math" = some m.cls := findClass_of_methodNamed Bd.named
  have hnm := (name_of_methodNamed Bd.named Bd.method).1
  have X0 : Stand p l e ({ frames := 0, cells := 0, slots := 0, locals := 0 } : Room) s m #[(.long q1), (.long q2)] below meth c s₁ [] 0 0 := Stand.of_body Bd
  have e0 : s₁.heap = h0 := by rw [← hh, Bd.state]; rfl
  have N0 := Fr.nil n0
  have pre0 : ∀ t, Steps p.tables e below (s₁.setTop (mkF m 0 #[.val (.long q1), .second, .val (.long q2), .second] [])) t → Steps p.tables e below (s₁.setTop (entryFrame m #[(.long q1), (.long q2)] 4)) t := fun t ktt => castTop (ef_5 m q1 q2) ktt
  obtain ⟨fsr, hr, hrun, hended, hW, hsame⟩ := X0.leave (v := some (.long q1)) (fun h => by rw [Bd.returns] at h; cases h)
  refine ⟨_, _, pre0 _ ?_, hrun, hended, _, _, rfl, ?_, ⟨_, rfl⟩, hW, hsame.mono (by decide) (by decide)⟩
  · show Steps p.tables e below (s₁.setTop (mkF m 0 #[.val (.long q1), .second, .val (.long q2), .second] [])) _
    refine XS.lloadN X0.here hx rfl (hb hby d5_0) rfl ?_
    show Steps p.tables e below (s₁.setTop (mkF m 1 #[.val (.long q1), .second, .val (.long q2), .second] [(.long q1)])) _
    refine XS.lloadN X0.here hx rfl (hb hby d5_1) rfl ?_
    show Steps p.tables e below (s₁.setTop (mkF m 2 #[.val (.long q1), .second, .val (.long q2), .second] [(.long q2), (.long q1)])) _
    refine XS.lcmp X0.here hx rfl (hb hby d5_2) rfl ?_
    show Steps p.tables e below (s₁.setTop (mkF m 3 #[.val (.long q1), .second, .val (.long q2), .second] [(.int (lcmpW q1 q2))])) _
    refine XS.ifNo X0.here hx rfl (hb hby d5_3) rfl ((if0 _ _).trans (flt hc3).2.2.1) ?_
    show Steps p.tables e below (s₁.setTop (mkF m 6 #[.val (.long q1), .second, .val (.long q2), .second] [])) _
    refine XS.lloadN X0.here hx rfl (hb hby d5_6) rfl ?_
    show Steps p.tables e below (s₁.setTop (mkF m 7 #[.val (.long q1), .second, .val (.long q2), .second] [(.long q1)])) _
    refine XS.goto X0.here hx rfl (pc0 := 7) (pc' := 11) rfl (hb hby d5_7) (by decide) (by decide) ?_
    show Steps p.tables e below (s₁.setTop (mkF m 11 #[.val (.long q1), .second, .val (.long q2), .second] [(.long q1)])) _
    jvm_step X0.here [X0.here.top, hx, (hb hby d5_11), X0.method', Bd.returns, narrow]
    first | (intro acts; rw [hr _ acts rfl rfl rfl]) | rw [hr _ _ rfl rfl rfl]
    exact Steps.refl _
  · show Q5 Z q1 q2 h0 n0 _ s₁.heap _
    rw [e0]
    exact ⟨by rw [own_mn, if_neg hc3], N0, rfl⟩
set_option maxRecDepth 65536 in
set_option maxHeartbeats 40000000 in
theorem rm5 (l : Launch) (Z : State) (a0 : Array Value) (hw : ∀ d ∈ tables_1, d.before a0 Z = true) (ws : List Jvm.Cond) (q1 : Int64) (q2 : Int64) (h0 : Heap) (n0 : Nat) (Z0 : n0 ≤ h0.size) :
    MetFree l (⟨"java/lang/Math", "min", "(JJ)J"⟩ : MethodName) (head1 (Jvm.Cond.code (⟨"java/lang/Math", "min", "(JJ)J"⟩ : MethodName) jdk_29_method_70_code 4 (some .long) :: ws) ({ frames := 0, cells := 0, slots := 0, locals := 0 } : Room)) (fun a U => a = #[(.long q1), (.long q2)] ∧ Z.Warmed39 U.vm ∧ U.heap = h0) (fun _ _ _ _ _ => True) (fun _ U o U' => ∃ v L, o = .returned v ∧ Q5 Z q1 q2 h0 n0 v U'.heap L ∧ FrameEnd U o U' L ({ frames := 0, cells := 0, slots := 0, locals := 0 } : Room).cells ({ frames := 0, cells := 0, slots := 0, locals := 0 } : Room).slots) := by
  by_cases hc3 : (0 : Int32) < (lcmpW q1 q2)
  · exact rm5a l Z a0 hw ws q1 q2 h0 n0 Z0 hc3
  · exact rm5b l Z a0 hw ws q1 q2 h0 n0 Z0 hc3
def Q6 (Z : State) (q1 : Int64) (q2 : Int64) (h0 : Heap) (n0 : Nat) (v : Option Value) (h : Heap) (L : List Loc) : Prop := v = some (.long (own_mx q1 q2)) ∧ Fr n0 L ∧ h = h0
set_option maxRecDepth 65536 in
set_option maxHeartbeats 40000000 in
theorem rm6a (l : Launch) (Z : State) (a0 : Array Value) (hw : ∀ d ∈ tables_1, d.before a0 Z = true) (ws : List Jvm.Cond) (q1 : Int64) (q2 : Int64) (h0 : Heap) (n0 : Nat) (Z0 : n0 ≤ h0.size) (hc3 : (lcmpW q1 q2) < (0 : Int32)) :
    MetFree l (⟨"java/lang/Math", "max", "(JJ)J"⟩ : MethodName) (head1 (Jvm.Cond.code (⟨"java/lang/Math", "max", "(JJ)J"⟩ : MethodName) jdk_29_method_66_code 4 (some .long) :: ws) ({ frames := 0, cells := 0, slots := 0, locals := 0 } : Room)) (fun a U => a = #[(.long q1), (.long q2)] ∧ Z.Warmed39 U.vm ∧ U.heap = h0) (fun _ _ _ _ _ => True) (fun _ U o U' => ∃ v L, o = .returned v ∧ Q6 Z q1 q2 h0 n0 v U'.heap L ∧ FrameEnd U o U' L ({ frames := 0, cells := 0, slots := 0, locals := 0 } : Room).cells ({ frames := 0, cells := 0, slots := 0, locals := 0 } : Room).slots) := by
  refine MetFree.of_bodySF (Jvm.Free.JP.mathPlain rfl (by decide +kernel)) hisR ?_
  intro p e s m args below meth c s₁ Bd hml0 hP hK
  obtain ⟨rfl, hZ, hh⟩ := hP
  have hx := Bd.exec
  have hby := Bd.bytes
  have hml : c.maxLocals = 4 := hml0
  have hown : s.vm.findClass "java/lang/Math" = some m.cls := findClass_of_methodNamed Bd.named
  have hnm := (name_of_methodNamed Bd.named Bd.method).1
  have X0 : Stand p l e ({ frames := 0, cells := 0, slots := 0, locals := 0 } : Room) s m #[(.long q1), (.long q2)] below meth c s₁ [] 0 0 := Stand.of_body Bd
  have e0 : s₁.heap = h0 := by rw [← hh, Bd.state]; rfl
  have N0 := Fr.nil n0
  have pre0 : ∀ t, Steps p.tables e below (s₁.setTop (mkF m 0 #[.val (.long q1), .second, .val (.long q2), .second] [])) t → Steps p.tables e below (s₁.setTop (entryFrame m #[(.long q1), (.long q2)] 4)) t := fun t ktt => castTop (ef_6 m q1 q2) ktt
  obtain ⟨fsr, hr, hrun, hended, hW, hsame⟩ := X0.leave (v := some (.long q2)) (fun h => by rw [Bd.returns] at h; cases h)
  refine ⟨_, _, pre0 _ ?_, hrun, hended, _, _, rfl, ?_, ⟨_, rfl⟩, hW, hsame.mono (by decide) (by decide)⟩
  · show Steps p.tables e below (s₁.setTop (mkF m 0 #[.val (.long q1), .second, .val (.long q2), .second] [])) _
    refine XS.lloadN X0.here hx rfl (hb hby d6_0) rfl ?_
    show Steps p.tables e below (s₁.setTop (mkF m 1 #[.val (.long q1), .second, .val (.long q2), .second] [(.long q1)])) _
    refine XS.lloadN X0.here hx rfl (hb hby d6_1) rfl ?_
    show Steps p.tables e below (s₁.setTop (mkF m 2 #[.val (.long q1), .second, .val (.long q2), .second] [(.long q2), (.long q1)])) _
    refine XS.lcmp X0.here hx rfl (hb hby d6_2) rfl ?_
    show Steps p.tables e below (s₁.setTop (mkF m 3 #[.val (.long q1), .second, .val (.long q2), .second] [(.int (lcmpW q1 q2))])) _
    refine XS.ifYes X0.here hx rfl (pc0 := 3) (pc' := 10) rfl (hb hby d6_3) rfl ((if0 _ _).trans (tlt hc3).1) (by decide) (by decide) ?_
    show Steps p.tables e below (s₁.setTop (mkF m 10 #[.val (.long q1), .second, .val (.long q2), .second] [])) _
    refine XS.lloadN X0.here hx rfl (hb hby d6_10) rfl ?_
    show Steps p.tables e below (s₁.setTop (mkF m 11 #[.val (.long q1), .second, .val (.long q2), .second] [(.long q2)])) _
    jvm_step X0.here [X0.here.top, hx, (hb hby d6_11), X0.method', Bd.returns, narrow]
    first | (intro acts; rw [hr _ acts rfl rfl rfl]) | rw [hr _ _ rfl rfl rfl]
    exact Steps.refl _
  · show Q6 Z q1 q2 h0 n0 _ s₁.heap _
    rw [e0]
    exact ⟨by rw [own_mx, if_pos hc3], N0, rfl⟩
set_option maxRecDepth 65536 in
set_option maxHeartbeats 40000000 in
theorem rm6b (l : Launch) (Z : State) (a0 : Array Value) (hw : ∀ d ∈ tables_1, d.before a0 Z = true) (ws : List Jvm.Cond) (q1 : Int64) (q2 : Int64) (h0 : Heap) (n0 : Nat) (Z0 : n0 ≤ h0.size) (hc3 : ¬ ((lcmpW q1 q2) < (0 : Int32))) :
    MetFree l (⟨"java/lang/Math", "max", "(JJ)J"⟩ : MethodName) (head1 (Jvm.Cond.code (⟨"java/lang/Math", "max", "(JJ)J"⟩ : MethodName) jdk_29_method_66_code 4 (some .long) :: ws) ({ frames := 0, cells := 0, slots := 0, locals := 0 } : Room)) (fun a U => a = #[(.long q1), (.long q2)] ∧ Z.Warmed39 U.vm ∧ U.heap = h0) (fun _ _ _ _ _ => True) (fun _ U o U' => ∃ v L, o = .returned v ∧ Q6 Z q1 q2 h0 n0 v U'.heap L ∧ FrameEnd U o U' L ({ frames := 0, cells := 0, slots := 0, locals := 0 } : Room).cells ({ frames := 0, cells := 0, slots := 0, locals := 0 } : Room).slots) := by
  refine MetFree.of_bodySF (Jvm.Free.JP.mathPlain rfl (by decide +kernel)) hisR ?_
  intro p e s m args below meth c s₁ Bd hml0 hP hK
  obtain ⟨rfl, hZ, hh⟩ := hP
  have hx := Bd.exec
  have hby := Bd.bytes
  have hml : c.maxLocals = 4 := hml0
  have hown : s.vm.findClass "java/lang/Math" = some m.cls := findClass_of_methodNamed Bd.named
  have hnm := (name_of_methodNamed Bd.named Bd.method).1
  have X0 : Stand p l e ({ frames := 0, cells := 0, slots := 0, locals := 0 } : Room) s m #[(.long q1), (.long q2)] below meth c s₁ [] 0 0 := Stand.of_body Bd
  have e0 : s₁.heap = h0 := by rw [← hh, Bd.state]; rfl
  have N0 := Fr.nil n0
  have pre0 : ∀ t, Steps p.tables e below (s₁.setTop (mkF m 0 #[.val (.long q1), .second, .val (.long q2), .second] [])) t → Steps p.tables e below (s₁.setTop (entryFrame m #[(.long q1), (.long q2)] 4)) t := fun t ktt => castTop (ef_6 m q1 q2) ktt
  obtain ⟨fsr, hr, hrun, hended, hW, hsame⟩ := X0.leave (v := some (.long q1)) (fun h => by rw [Bd.returns] at h; cases h)
  refine ⟨_, _, pre0 _ ?_, hrun, hended, _, _, rfl, ?_, ⟨_, rfl⟩, hW, hsame.mono (by decide) (by decide)⟩
  · show Steps p.tables e below (s₁.setTop (mkF m 0 #[.val (.long q1), .second, .val (.long q2), .second] [])) _
    refine XS.lloadN X0.here hx rfl (hb hby d6_0) rfl ?_
    show Steps p.tables e below (s₁.setTop (mkF m 1 #[.val (.long q1), .second, .val (.long q2), .second] [(.long q1)])) _
    refine XS.lloadN X0.here hx rfl (hb hby d6_1) rfl ?_
    show Steps p.tables e below (s₁.setTop (mkF m 2 #[.val (.long q1), .second, .val (.long q2), .second] [(.long q2), (.long q1)])) _
    refine XS.lcmp X0.here hx rfl (hb hby d6_2) rfl ?_
    show Steps p.tables e below (s₁.setTop (mkF m 3 #[.val (.long q1), .second, .val (.long q2), .second] [(.int (lcmpW q1 q2))])) _
    refine XS.ifNo X0.here hx rfl (hb hby d6_3) rfl ((if0 _ _).trans (flt hc3).1) ?_
    show Steps p.tables e below (s₁.setTop (mkF m 6 #[.val (.long q1), .second, .val (.long q2), .second] [])) _
    refine XS.lloadN X0.here hx rfl (hb hby d6_6) rfl ?_
    show Steps p.tables e below (s₁.setTop (mkF m 7 #[.val (.long q1), .second, .val (.long q2), .second] [(.long q1)])) _
    refine XS.goto X0.here hx rfl (pc0 := 7) (pc' := 11) rfl (hb hby d6_7) (by decide) (by decide) ?_
    show Steps p.tables e below (s₁.setTop (mkF m 11 #[.val (.long q1), .second, .val (.long q2), .second] [(.long q1)])) _
    jvm_step X0.here [X0.here.top, hx, (hb hby d6_11), X0.method', Bd.returns, narrow]
    first | (intro acts; rw [hr _ acts rfl rfl rfl]) | rw [hr _ _ rfl rfl rfl]
    exact Steps.refl _
  · show Q6 Z q1 q2 h0 n0 _ s₁.heap _
    rw [e0]
    exact ⟨by rw [own_mx, if_neg hc3], N0, rfl⟩
set_option maxRecDepth 65536 in
set_option maxHeartbeats 40000000 in
theorem rm6 (l : Launch) (Z : State) (a0 : Array Value) (hw : ∀ d ∈ tables_1, d.before a0 Z = true) (ws : List Jvm.Cond) (q1 : Int64) (q2 : Int64) (h0 : Heap) (n0 : Nat) (Z0 : n0 ≤ h0.size) :
    MetFree l (⟨"java/lang/Math", "max", "(JJ)J"⟩ : MethodName) (head1 (Jvm.Cond.code (⟨"java/lang/Math", "max", "(JJ)J"⟩ : MethodName) jdk_29_method_66_code 4 (some .long) :: ws) ({ frames := 0, cells := 0, slots := 0, locals := 0 } : Room)) (fun a U => a = #[(.long q1), (.long q2)] ∧ Z.Warmed39 U.vm ∧ U.heap = h0) (fun _ _ _ _ _ => True) (fun _ U o U' => ∃ v L, o = .returned v ∧ Q6 Z q1 q2 h0 n0 v U'.heap L ∧ FrameEnd U o U' L ({ frames := 0, cells := 0, slots := 0, locals := 0 } : Room).cells ({ frames := 0, cells := 0, slots := 0, locals := 0 } : Room).slots) := by
  by_cases hc3 : (lcmpW q1 q2) < (0 : Int32)
  · exact rm6a l Z a0 hw ws q1 q2 h0 n0 Z0 hc3
  · exact rm6b l Z a0 hw ws q1 q2 h0 n0 Z0 hc3
def Q11 (Z : State) (q1 : Int64) (q2 : Int64) (h0 : Heap) (n0 : Nat) (v : Option Value) (h : Heap) (L : List Loc) : Prop := v = some (.int (own_cmp q1 q2)) ∧ Fr n0 L ∧ h = h0
set_option maxRecDepth 65536 in
set_option maxHeartbeats 40000000 in
theorem rm11a (l : Launch) (Z : State) (a0 : Array Value) (hw : ∀ d ∈ tables_1, d.before a0 Z = true) (ws : List Jvm.Cond) (q1 : Int64) (q2 : Int64) (h0 : Heap) (n0 : Nat) (Z0 : n0 ≤ h0.size) (hc3 : (lcmpW q1 q2) < (0 : Int32)) :
    MetFree l (⟨"java/lang/Long", "compare", "(JJ)I"⟩ : MethodName) (head1 (Jvm.Cond.code (⟨"java/lang/Long", "compare", "(JJ)I"⟩ : MethodName) jdk_35_method_42_code 4 (some .int) :: ws) ({ frames := 0, cells := 0, slots := 0, locals := 0 } : Room)) (fun a U => a = #[(.long q1), (.long q2)] ∧ Z.Warmed39 U.vm ∧ U.heap = h0) (fun _ _ _ _ _ => True) (fun _ U o U' => ∃ v L, o = .returned v ∧ Q11 Z q1 q2 h0 n0 v U'.heap L ∧ FrameEnd U o U' L ({ frames := 0, cells := 0, slots := 0, locals := 0 } : Room).cells ({ frames := 0, cells := 0, slots := 0, locals := 0 } : Room).slots) := by
  refine MetFree.of_bodySF (plainFor_of_name pn_11) hisR ?_
  intro p e s m args below meth c s₁ Bd hml0 hP hK
  obtain ⟨rfl, hZ, hh⟩ := hP
  have hx := Bd.exec
  have hby := Bd.bytes
  have hml : c.maxLocals = 4 := hml0
  have hown : s.vm.findClass "java/lang/Long" = some m.cls := findClass_of_methodNamed Bd.named
  have hnm := (name_of_methodNamed Bd.named Bd.method).1
  have X0 : Stand p l e ({ frames := 0, cells := 0, slots := 0, locals := 0 } : Room) s m #[(.long q1), (.long q2)] below meth c s₁ [] 0 0 := Stand.of_body Bd
  have e0 : s₁.heap = h0 := by rw [← hh, Bd.state]; rfl
  have N0 := Fr.nil n0
  have pre0 : ∀ t, Steps p.tables e below (s₁.setTop (mkF m 0 #[.val (.long q1), .second, .val (.long q2), .second] [])) t → Steps p.tables e below (s₁.setTop (entryFrame m #[(.long q1), (.long q2)] 4)) t := fun t ktt => castTop (ef_11 m q1 q2) ktt
  obtain ⟨fsr, hr, hrun, hended, hW, hsame⟩ := X0.leave (v := some (.int (-1 : Int32))) (fun h => by rw [Bd.returns] at h; cases h)
  refine ⟨_, _, pre0 _ ?_, hrun, hended, _, _, rfl, ?_, ⟨_, rfl⟩, hW, hsame.mono (by decide) (by decide)⟩
  · show Steps p.tables e below (s₁.setTop (mkF m 0 #[.val (.long q1), .second, .val (.long q2), .second] [])) _
    refine XS.lloadN X0.here hx rfl (hb hby d11_0) rfl ?_
    show Steps p.tables e below (s₁.setTop (mkF m 1 #[.val (.long q1), .second, .val (.long q2), .second] [(.long q1)])) _
    refine XS.lloadN X0.here hx rfl (hb hby d11_1) rfl ?_
    show Steps p.tables e below (s₁.setTop (mkF m 2 #[.val (.long q1), .second, .val (.long q2), .second] [(.long q2), (.long q1)])) _
    refine XS.lcmp X0.here hx rfl (hb hby d11_2) rfl ?_
    show Steps p.tables e below (s₁.setTop (mkF m 3 #[.val (.long q1), .second, .val (.long q2), .second] [(.int (lcmpW q1 q2))])) _
    refine XS.ifNo X0.here hx rfl (hb hby d11_3) rfl ((if0 _ _).trans (tlt hc3).2.1) ?_
    show Steps p.tables e below (s₁.setTop (mkF m 6 #[.val (.long q1), .second, .val (.long q2), .second] [])) _
    refine XS.iconst X0.here hx rfl (hb hby d11_6) ?_
    show Steps p.tables e below (s₁.setTop (mkF m 7 #[.val (.long q1), .second, .val (.long q2), .second] [(.int (-1 : Int32))])) _
    refine XS.goto X0.here hx rfl (pc0 := 7) (pc' := 21) rfl (hb hby d11_7) (by decide) (by decide) ?_
    show Steps p.tables e below (s₁.setTop (mkF m 21 #[.val (.long q1), .second, .val (.long q2), .second] [(.int (-1 : Int32))])) _
    exact retI X0 hx Bd.returns (hb hby d11_21) hr
  · show Q11 Z q1 q2 h0 n0 _ s₁.heap _
    rw [e0]
    exact ⟨by rw [own_cmp, if_pos hc3], N0, rfl⟩
set_option maxRecDepth 65536 in
set_option maxHeartbeats 40000000 in
theorem rm11b (l : Launch) (Z : State) (a0 : Array Value) (hw : ∀ d ∈ tables_1, d.before a0 Z = true) (ws : List Jvm.Cond) (q1 : Int64) (q2 : Int64) (h0 : Heap) (n0 : Nat) (Z0 : n0 ≤ h0.size) (hc3 : ¬ ((lcmpW q1 q2) < (0 : Int32))) (hc13 : (lcmpW q1 q2) = (0 : Int32)) :
    MetFree l (⟨"java/lang/Long", "compare", "(JJ)I"⟩ : MethodName) (head1 (Jvm.Cond.code (⟨"java/lang/Long", "compare", "(JJ)I"⟩ : MethodName) jdk_35_method_42_code 4 (some .int) :: ws) ({ frames := 0, cells := 0, slots := 0, locals := 0 } : Room)) (fun a U => a = #[(.long q1), (.long q2)] ∧ Z.Warmed39 U.vm ∧ U.heap = h0) (fun _ _ _ _ _ => True) (fun _ U o U' => ∃ v L, o = .returned v ∧ Q11 Z q1 q2 h0 n0 v U'.heap L ∧ FrameEnd U o U' L ({ frames := 0, cells := 0, slots := 0, locals := 0 } : Room).cells ({ frames := 0, cells := 0, slots := 0, locals := 0 } : Room).slots) := by
  refine MetFree.of_bodySF (plainFor_of_name pn_11) hisR ?_
  intro p e s m args below meth c s₁ Bd hml0 hP hK
  obtain ⟨rfl, hZ, hh⟩ := hP
  have hx := Bd.exec
  have hby := Bd.bytes
  have hml : c.maxLocals = 4 := hml0
  have hown : s.vm.findClass "java/lang/Long" = some m.cls := findClass_of_methodNamed Bd.named
  have hnm := (name_of_methodNamed Bd.named Bd.method).1
  have X0 : Stand p l e ({ frames := 0, cells := 0, slots := 0, locals := 0 } : Room) s m #[(.long q1), (.long q2)] below meth c s₁ [] 0 0 := Stand.of_body Bd
  have e0 : s₁.heap = h0 := by rw [← hh, Bd.state]; rfl
  have N0 := Fr.nil n0
  have pre0 : ∀ t, Steps p.tables e below (s₁.setTop (mkF m 0 #[.val (.long q1), .second, .val (.long q2), .second] [])) t → Steps p.tables e below (s₁.setTop (entryFrame m #[(.long q1), (.long q2)] 4)) t := fun t ktt => castTop (ef_11 m q1 q2) ktt
  obtain ⟨fsr, hr, hrun, hended, hW, hsame⟩ := X0.leave (v := some (.int (0 : Int32))) (fun h => by rw [Bd.returns] at h; cases h)
  refine ⟨_, _, pre0 _ ?_, hrun, hended, _, _, rfl, ?_, ⟨_, rfl⟩, hW, hsame.mono (by decide) (by decide)⟩
  · show Steps p.tables e below (s₁.setTop (mkF m 0 #[.val (.long q1), .second, .val (.long q2), .second] [])) _
    refine XS.lloadN X0.here hx rfl (hb hby d11_0) rfl ?_
    show Steps p.tables e below (s₁.setTop (mkF m 1 #[.val (.long q1), .second, .val (.long q2), .second] [(.long q1)])) _
    refine XS.lloadN X0.here hx rfl (hb hby d11_1) rfl ?_
    show Steps p.tables e below (s₁.setTop (mkF m 2 #[.val (.long q1), .second, .val (.long q2), .second] [(.long q2), (.long q1)])) _
    refine XS.lcmp X0.here hx rfl (hb hby d11_2) rfl ?_
    show Steps p.tables e below (s₁.setTop (mkF m 3 #[.val (.long q1), .second, .val (.long q2), .second] [(.int (lcmpW q1 q2))])) _
    refine XS.ifYes X0.here hx rfl (pc0 := 3) (pc' := 10) rfl (hb hby d11_3) rfl ((if0 _ _).trans (flt hc3).2.1) (by decide) (by decide) ?_
    show Steps p.tables e below (s₁.setTop (mkF m 10 #[.val (.long q1), .second, .val (.long q2), .second] [])) _
    refine XS.lloadN X0.here hx rfl (hb hby d11_10) rfl ?_
    show Steps p.tables e below (s₁.setTop (mkF m 11 #[.val (.long q1), .second, .val (.long q2), .second] [(.long q1)])) _
    refine XS.lloadN X0.here hx rfl (hb hby d11_11) rfl ?_
    show Steps p.tables e below (s₁.setTop (mkF m 12 #[.val (.long q1), .second, .val (.long q2), .second] [(.long q2), (.long q1)])) _
    refine XS.lcmp X0.here hx rfl (hb hby d11_12) rfl ?_
    show Steps p.tables e below (s₁.setTop (mkF m 13 #[.val (.long q1), .second, .val (.long q2), .second] [(.int (lcmpW q1 q2))])) _
    refine XS.ifNo X0.here hx rfl (hb hby d11_13) rfl ((if0 _ _).trans (teq hc13).2) ?_
    show Steps p.tables e below (s₁.setTop (mkF m 16 #[.val (.long q1), .second, .val (.long q2), .second] [])) _
    refine XS.iconst X0.here hx rfl (hb hby d11_16) ?_
    show Steps p.tables e below (s₁.setTop (mkF m 17 #[.val (.long q1), .second, .val (.long q2), .second] [(.int (0 : Int32))])) _
    refine XS.goto X0.here hx rfl (pc0 := 17) (pc' := 21) rfl (hb hby d11_17) (by decide) (by decide) ?_
    show Steps p.tables e below (s₁.setTop (mkF m 21 #[.val (.long q1), .second, .val (.long q2), .second] [(.int (0 : Int32))])) _
    exact retI X0 hx Bd.returns (hb hby d11_21) hr
  · show Q11 Z q1 q2 h0 n0 _ s₁.heap _
    rw [e0]
    exact ⟨by rw [own_cmp, if_neg hc3, if_pos hc13], N0, rfl⟩
set_option maxRecDepth 65536 in
set_option maxHeartbeats 40000000 in
theorem rm11c (l : Launch) (Z : State) (a0 : Array Value) (hw : ∀ d ∈ tables_1, d.before a0 Z = true) (ws : List Jvm.Cond) (q1 : Int64) (q2 : Int64) (h0 : Heap) (n0 : Nat) (Z0 : n0 ≤ h0.size) (hc3 : ¬ ((lcmpW q1 q2) < (0 : Int32))) (hc13 : ¬ ((lcmpW q1 q2) = (0 : Int32))) :
    MetFree l (⟨"java/lang/Long", "compare", "(JJ)I"⟩ : MethodName) (head1 (Jvm.Cond.code (⟨"java/lang/Long", "compare", "(JJ)I"⟩ : MethodName) jdk_35_method_42_code 4 (some .int) :: ws) ({ frames := 0, cells := 0, slots := 0, locals := 0 } : Room)) (fun a U => a = #[(.long q1), (.long q2)] ∧ Z.Warmed39 U.vm ∧ U.heap = h0) (fun _ _ _ _ _ => True) (fun _ U o U' => ∃ v L, o = .returned v ∧ Q11 Z q1 q2 h0 n0 v U'.heap L ∧ FrameEnd U o U' L ({ frames := 0, cells := 0, slots := 0, locals := 0 } : Room).cells ({ frames := 0, cells := 0, slots := 0, locals := 0 } : Room).slots) := by
  refine MetFree.of_bodySF (plainFor_of_name pn_11) hisR ?_
  intro p e s m args below meth c s₁ Bd hml0 hP hK
  obtain ⟨rfl, hZ, hh⟩ := hP
  have hx := Bd.exec
  have hby := Bd.bytes
  have hml : c.maxLocals = 4 := hml0
  have hown : s.vm.findClass "java/lang/Long" = some m.cls := findClass_of_methodNamed Bd.named
  have hnm := (name_of_methodNamed Bd.named Bd.method).1
  have X0 : Stand p l e ({ frames := 0, cells := 0, slots := 0, locals := 0 } : Room) s m #[(.long q1), (.long q2)] below meth c s₁ [] 0 0 := Stand.of_body Bd
  have e0 : s₁.heap = h0 := by rw [← hh, Bd.state]; rfl
  have N0 := Fr.nil n0
  have pre0 : ∀ t, Steps p.tables e below (s₁.setTop (mkF m 0 #[.val (.long q1), .second, .val (.long q2), .second] [])) t → Steps p.tables e below (s₁.setTop (entryFrame m #[(.long q1), (.long q2)] 4)) t := fun t ktt => castTop (ef_11 m q1 q2) ktt
  obtain ⟨fsr, hr, hrun, hended, hW, hsame⟩ := X0.leave (v := some (.int (1 : Int32))) (fun h => by rw [Bd.returns] at h; cases h)
  refine ⟨_, _, pre0 _ ?_, hrun, hended, _, _, rfl, ?_, ⟨_, rfl⟩, hW, hsame.mono (by decide) (by decide)⟩
  · show Steps p.tables e below (s₁.setTop (mkF m 0 #[.val (.long q1), .second, .val (.long q2), .second] [])) _
    refine XS.lloadN X0.here hx rfl (hb hby d11_0) rfl ?_
    show Steps p.tables e below (s₁.setTop (mkF m 1 #[.val (.long q1), .second, .val (.long q2), .second] [(.long q1)])) _
    refine XS.lloadN X0.here hx rfl (hb hby d11_1) rfl ?_
    show Steps p.tables e below (s₁.setTop (mkF m 2 #[.val (.long q1), .second, .val (.long q2), .second] [(.long q2), (.long q1)])) _
    refine XS.lcmp X0.here hx rfl (hb hby d11_2) rfl ?_
    show Steps p.tables e below (s₁.setTop (mkF m 3 #[.val (.long q1), .second, .val (.long q2), .second] [(.int (lcmpW q1 q2))])) _
    refine XS.ifYes X0.here hx rfl (pc0 := 3) (pc' := 10) rfl (hb hby d11_3) rfl ((if0 _ _).trans (flt hc3).2.1) (by decide) (by decide) ?_
    show Steps p.tables e below (s₁.setTop (mkF m 10 #[.val (.long q1), .second, .val (.long q2), .second] [])) _
    refine XS.lloadN X0.here hx rfl (hb hby d11_10) rfl ?_
    show Steps p.tables e below (s₁.setTop (mkF m 11 #[.val (.long q1), .second, .val (.long q2), .second] [(.long q1)])) _
    refine XS.lloadN X0.here hx rfl (hb hby d11_11) rfl ?_
    show Steps p.tables e below (s₁.setTop (mkF m 12 #[.val (.long q1), .second, .val (.long q2), .second] [(.long q2), (.long q1)])) _
    refine XS.lcmp X0.here hx rfl (hb hby d11_12) rfl ?_
    show Steps p.tables e below (s₁.setTop (mkF m 13 #[.val (.long q1), .second, .val (.long q2), .second] [(.int (lcmpW q1 q2))])) _
    refine XS.ifYes X0.here hx rfl (pc0 := 13) (pc' := 20) rfl (hb hby d11_13) rfl ((if0 _ _).trans (feq hc13).2) (by decide) (by decide) ?_
    show Steps p.tables e below (s₁.setTop (mkF m 20 #[.val (.long q1), .second, .val (.long q2), .second] [])) _
    refine XS.iconst X0.here hx rfl (hb hby d11_20) ?_
    show Steps p.tables e below (s₁.setTop (mkF m 21 #[.val (.long q1), .second, .val (.long q2), .second] [(.int (1 : Int32))])) _
    exact retI X0 hx Bd.returns (hb hby d11_21) hr
  · show Q11 Z q1 q2 h0 n0 _ s₁.heap _
    rw [e0]
    exact ⟨by rw [own_cmp, if_neg hc3, if_neg hc13], N0, rfl⟩
set_option maxRecDepth 65536 in
set_option maxHeartbeats 40000000 in
theorem rm11 (l : Launch) (Z : State) (a0 : Array Value) (hw : ∀ d ∈ tables_1, d.before a0 Z = true) (ws : List Jvm.Cond) (q1 : Int64) (q2 : Int64) (h0 : Heap) (n0 : Nat) (Z0 : n0 ≤ h0.size) :
    MetFree l (⟨"java/lang/Long", "compare", "(JJ)I"⟩ : MethodName) (head1 (Jvm.Cond.code (⟨"java/lang/Long", "compare", "(JJ)I"⟩ : MethodName) jdk_35_method_42_code 4 (some .int) :: ws) ({ frames := 0, cells := 0, slots := 0, locals := 0 } : Room)) (fun a U => a = #[(.long q1), (.long q2)] ∧ Z.Warmed39 U.vm ∧ U.heap = h0) (fun _ _ _ _ _ => True) (fun _ U o U' => ∃ v L, o = .returned v ∧ Q11 Z q1 q2 h0 n0 v U'.heap L ∧ FrameEnd U o U' L ({ frames := 0, cells := 0, slots := 0, locals := 0 } : Room).cells ({ frames := 0, cells := 0, slots := 0, locals := 0 } : Room).slots) := by
  by_cases hc3 : (lcmpW q1 q2) < (0 : Int32)
  · exact rm11a l Z a0 hw ws q1 q2 h0 n0 Z0 hc3
  · by_cases hc13 : (lcmpW q1 q2) = (0 : Int32)
    · exact rm11b l Z a0 hw ws q1 q2 h0 n0 Z0 hc3 hc13
    · exact rm11c l Z a0 hw ws q1 q2 h0 n0 Z0 hc3 hc13
def Q10 (Z : State) (q1 : Int64) (q2 : Int64) (h0 : Heap) (n0 : Nat) (v : Option Value) (h : Heap) (L : List Loc) : Prop := v = some (.int (own_cu q1 q2)) ∧ Fr n0 L ∧ h = h0
set_option maxRecDepth 65536 in
set_option maxHeartbeats 40000000 in
theorem rm10 (l : Launch) (Z : State) (a0 : Array Value) (hw : ∀ d ∈ tables_1, d.before a0 Z = true) (ws : List Jvm.Cond) (q1 : Int64) (q2 : Int64) (h0 : Heap) (n0 : Nat) (Z0 : n0 ≤ h0.size) :
    MetFree l (⟨"java/lang/Long", "compareUnsigned", "(JJ)I"⟩ : MethodName) (head1 (Jvm.Cond.code (⟨"java/lang/Long", "compareUnsigned", "(JJ)I"⟩ : MethodName) jdk_35_method_43_code 4 (some .int) :: ws) ({ frames := 1, cells := 0, slots := 0, locals := 15 } : Room)) (fun a U => a = #[(.long q1), (.long q2)] ∧ Z.Warmed39 U.vm ∧ U.heap = h0) (fun _ _ _ _ _ => True) (fun _ U o U' => ∃ v L, o = .returned v ∧ Q10 Z q1 q2 h0 n0 v U'.heap L ∧ FrameEnd U o U' L ({ frames := 1, cells := 0, slots := 0, locals := 15 } : Room).cells ({ frames := 1, cells := 0, slots := 0, locals := 15 } : Room).slots) := by
  refine MetFree.of_bodySF (plainFor_of_name pn_10) hisR ?_
  intro p e s m args below meth c s₁ Bd hml0 hP hK
  obtain ⟨rfl, hZ, hh⟩ := hP
  have hx := Bd.exec
  have hby := Bd.bytes
  have hml : c.maxLocals = 4 := hml0
  have hown : s.vm.findClass "java/lang/Long" = some m.cls := findClass_of_methodNamed Bd.named
  have hnm := (name_of_methodNamed Bd.named Bd.method).1
  have X0 : Stand p l e ({ frames := 1, cells := 0, slots := 0, locals := 15 } : Room) s m #[(.long q1), (.long q2)] below meth c s₁ [] 0 0 := Stand.of_body Bd
  have e0 : s₁.heap = h0 := by rw [← hh, Bd.state]; rfl
  have N0 := Fr.nil n0
  have pre0 : ∀ t, Steps p.tables e below (s₁.setTop (mkF m 0 #[.val (.long q1), .second, .val (.long q2), .second] [])) t → Steps p.tables e below (s₁.setTop (entryFrame m #[(.long q1), (.long q2)] 4)) t := fun t ktt => castTop (ef_10 m q1 q2) ktt
  obtain ⟨_, _, ⟨T3, L3, k3, n3⟩, -, X3, ⟨Lc3, hQ3, l3, y3, z3⟩, st3⟩ := Jvm.LawKit.callS X0 hx (y := (⟨"java/lang/Long", "compare", "(JJ)I"⟩ : MethodName)) hown (mvT hZ (hw _ (List.mem_of_getElem? (i := 63) rfl))) (mvT hZ (hw _ (List.mem_of_getElem? (i := 64) rfl))) (mvT hZ (hw _ (List.mem_of_getElem? (i := 60) rfl))) (mvT hZ (hw _ (List.mem_of_getElem? (i := 65) rfl))) (by decide) (backOf (W := 0) (rm11 l Z a0 hw [] (q1 + (-9223372036854775808 : Int64)) (q2 + (-9223372036854775808 : Int64)) h0 n0 Z0) hZ (hw _ (List.mem_of_getElem? (i := 65) rfl)) (hw _ (List.mem_of_getElem? (i := 60) rfl)) (by decide) (by decide)) (g := (mkF m 10 #[.val (.long q1), .second, .val (.long q2), .second] [(.long (q2 + (-9223372036854775808 : Int64))), (.long (q1 + (-9223372036854775808 : Int64)))])) rfl (by rw [hml]; rfl) (argsL := [(.long (q1 + (-9223372036854775808 : Int64))), (.long (q2 + (-9223372036854775808 : Int64)))]) (rest := []) (lenOf pd_10_8 rfl) rfl (by show 2 * 0 + _ ≤ _; exact Nat.le_of_eq rfl) (hb hby d10_10) (fun _ _ => ⟨rfl, e0, (by decide : 0 + 0 ≤ _), (by decide : 0 + 0 ≤ _)⟩)
  dsimp only [Pt.U, Pt.locs, Pt.cells, Pt.slots] at X3 l3 y3 z3 st3 hQ3
  subst l3 y3 z3
  obtain ⟨rfl, N3q, e3⟩ := hQ3
  have Z3 : n0 ≤ T3.heap.size := by rw [e3]; exact Z0
  have N3 := Fr.app N0 N3q
  obtain ⟨fsr, hr, hrun, hended, hW, hsame⟩ := X3.leave (v := some (.int (own_cmp (q1 + (-9223372036854775808 : Int64)) (q2 + (-9223372036854775808 : Int64))))) (fun h => by rw [Bd.returns] at h; cases h)
  refine ⟨_, _, pre0 _ ?_, hrun, hended, _, _, rfl, ?_, ⟨_, rfl⟩, hW, hsame.mono (by decide) (by decide)⟩
  · show Steps p.tables e below (s₁.setTop (mkF m 0 #[.val (.long q1), .second, .val (.long q2), .second] [])) _
    refine XS.lloadN X0.here hx rfl (hb hby d10_0) rfl ?_
    show Steps p.tables e below (s₁.setTop (mkF m 1 #[.val (.long q1), .second, .val (.long q2), .second] [(.long q1)])) _
    refine X0.ldc2Long hx hown (mvT hZ (hw _ (List.mem_of_getElem? (i := 62) rfl))) (g := (mkF m 1 #[.val (.long q1), .second, .val (.long q2), .second] [(.long q1)])) rfl (hb hby d10_1) _ ?_
    show Steps p.tables e below (s₁.setTop (mkF m 4 #[.val (.long q1), .second, .val (.long q2), .second] [(.long (-9223372036854775808 : Int64)), (.long q1)])) _
    refine XS.ladd X0.here hx rfl (hb hby d10_4) rfl ?_
    show Steps p.tables e below (s₁.setTop (mkF m 5 #[.val (.long q1), .second, .val (.long q2), .second] [(.long (q1 + (-9223372036854775808 : Int64)))])) _
    refine XS.lloadN X0.here hx rfl (hb hby d10_5) rfl ?_
    show Steps p.tables e below (s₁.setTop (mkF m 6 #[.val (.long q1), .second, .val (.long q2), .second] [(.long q2), (.long (q1 + (-9223372036854775808 : Int64)))])) _
    refine X0.ldc2Long hx hown (mvT hZ (hw _ (List.mem_of_getElem? (i := 62) rfl))) (g := (mkF m 6 #[.val (.long q1), .second, .val (.long q2), .second] [(.long q2), (.long (q1 + (-9223372036854775808 : Int64)))])) rfl (hb hby d10_6) _ ?_
    show Steps p.tables e below (s₁.setTop (mkF m 9 #[.val (.long q1), .second, .val (.long q2), .second] [(.long (-9223372036854775808 : Int64)), (.long q2), (.long (q1 + (-9223372036854775808 : Int64)))])) _
    refine XS.ladd X0.here hx rfl (hb hby d10_9) rfl ?_
    show Steps p.tables e below (s₁.setTop (mkF m 10 #[.val (.long q1), .second, .val (.long q2), .second] [(.long (q2 + (-9223372036854775808 : Int64))), (.long (q1 + (-9223372036854775808 : Int64)))])) _
    refine st3 _ ?_
    show Steps p.tables e below (T3.setTop (mkF m 13 #[.val (.long q1), .second, .val (.long q2), .second] [(.int (own_cmp (q1 + (-9223372036854775808 : Int64)) (q2 + (-9223372036854775808 : Int64))))])) _
    exact retI X3 hx Bd.returns (hb hby d10_13) hr
  · show Q10 Z q1 q2 h0 n0 _ T3.heap _
    exact ⟨rfl, N3, e3⟩
def Q9 (Z : State) (q1 : Int64) (q2 : Int64) (q3 : Int64) (h0 : Heap) (n0 : Nat) (v : Option Value) (h : Heap) (L : List Loc) : Prop := v = some (.int (1 : Int32)) ∧ Fr n0 L ∧ h = h0
set_option maxRecDepth 65536 in
set_option maxHeartbeats 40000000 in
theorem rm9 (l : Launch) (Z : State) (a0 : Array Value) (hw : ∀ d ∈ tables_1, d.before a0 Z = true) (ws : List Jvm.Cond) (q1 : Int64) (q2 : Int64) (q3 : Int64) (h0 : Heap) (n0 : Nat) (Z0 : n0 ≤ h0.size) (hcl : Unit → own_cu (q2 - q1) (own_mn (q3 * (4 : Int64)) (2147483639 : Int64)) < (0 : Int32)) :
    MetFree l (⟨"com/example/fairjoin/fairjoin/operator/DirectKeys", "closeTogether", "(JJJ)Z"⟩ : MethodName) (head1 (Jvm.Cond.code (⟨"com/example/fairjoin/fairjoin/operator/DirectKeys", "closeTogether", "(JJJ)Z"⟩ : MethodName) prog_151_method_9_code 6 (some .boolean) :: ws) ({ frames := 2, cells := 0, slots := 0, locals := 30 } : Room)) (fun a U => a = #[(.long q1), (.long q2), (.long q3)] ∧ Z.Warmed39 U.vm ∧ U.heap = h0) (fun _ _ _ _ _ => True) (fun _ U o U' => ∃ v L, o = .returned v ∧ Q9 Z q1 q2 q3 h0 n0 v U'.heap L ∧ FrameEnd U o U' L ({ frames := 2, cells := 0, slots := 0, locals := 30 } : Room).cells ({ frames := 2, cells := 0, slots := 0, locals := 30 } : Room).slots) := by
  refine MetFree.of_bodySF (plainFor_of_name pn_9) hisR ?_
  intro p e s m args below meth c s₁ Bd hml0 hP hK
  obtain ⟨rfl, hZ, hh⟩ := hP
  have hx := Bd.exec
  have hby := Bd.bytes
  have hml : c.maxLocals = 6 := hml0
  have hown : s.vm.findClass "com/example/fairjoin/fairjoin/operator/DirectKeys" = some m.cls := findClass_of_methodNamed Bd.named
  have hnm := (name_of_methodNamed Bd.named Bd.method).1
  have X0 : Stand p l e ({ frames := 2, cells := 0, slots := 0, locals := 30 } : Room) s m #[(.long q1), (.long q2), (.long q3)] below meth c s₁ [] 0 0 := Stand.of_body Bd
  have e0 : s₁.heap = h0 := by rw [← hh, Bd.state]; rfl
  have N0 := Fr.nil n0
  have pre0 : ∀ t, Steps p.tables e below (s₁.setTop (mkF m 0 #[.val (.long q1), .second, .val (.long q2), .second, .val (.long q3), .second] [])) t → Steps p.tables e below (s₁.setTop (entryFrame m #[(.long q1), (.long q2), (.long q3)] 6)) t := fun t ktt => castTop (ef_9 m q1 q2 q3) ktt
  obtain ⟨_, _, ⟨T4, L4, k4, n4⟩, -, X4, ⟨Lc4, hQ4, l4, y4, z4⟩, st4⟩ := Jvm.LawKit.callS X0 hx (y := (⟨"java/lang/Math", "min", "(JJ)J"⟩ : MethodName)) hown (mvT hZ (hw _ (List.mem_of_getElem? (i := 38) rfl))) (mvT hZ (hw _ (List.mem_of_getElem? (i := 39) rfl))) (mvT hZ (hw _ (List.mem_of_getElem? (i := 40) rfl))) (mvT hZ (hw _ (List.mem_of_getElem? (i := 41) rfl))) (by decide) (backOf (W := 2) (rm5 l Z a0 hw [] (q3 * (4 : Int64)) (2147483639 : Int64) h0 n0 Z0) hZ (hw _ (List.mem_of_getElem? (i := 41) rfl)) (hw _ (List.mem_of_getElem? (i := 40) rfl)) (by decide) (by decide)) (g := (mkF m 12 #[.val (.long q1), .second, .val (.long q2), .second, .val (.long q3), .second] [(.long (2147483639 : Int64)), (.long (q3 * (4 : Int64))), (.long (q2 - q1))])) rfl (by rw [hml]; rfl) (argsL := [(.long (q3 * (4 : Int64))), (.long (2147483639 : Int64))]) (rest := [(.long (q2 - q1))]) (lenOf pd_9_4 rfl) rfl (by show 2 * 0 + _ ≤ _; exact Nat.le_of_eq rfl) (hb hby d9_12) (fun _ _ => ⟨rfl, e0, (by decide : 0 + 0 ≤ _), (by decide : 0 + 0 ≤ _)⟩)
  dsimp only [Pt.U, Pt.locs, Pt.cells, Pt.slots] at X4 l4 y4 z4 st4 hQ4
  subst l4 y4 z4
  obtain ⟨rfl, N4q, e4⟩ := hQ4
  have Z4 : n0 ≤ T4.heap.size := by rw [e4]; exact Z0
  have N4 := Fr.app N0 N4q
  obtain ⟨_, _, ⟨T5, L5, k5, n5⟩, -, X5, ⟨Lc5, hQ5, l5, y5, z5⟩, st5⟩ := Jvm.LawKit.callS X4 hx (y := (⟨"java/lang/Long", "compareUnsigned", "(JJ)I"⟩ : MethodName)) hown (mvT hZ (hw _ (List.mem_of_getElem? (i := 58) rfl))) (mvT hZ (hw _ (List.mem_of_getElem? (i := 59) rfl))) (mvT hZ (hw _ (List.mem_of_getElem? (i := 60) rfl))) (mvT hZ (hw _ (List.mem_of_getElem? (i := 61) rfl))) (by decide) (backOf (W := 0) (rm10 l Z a0 hw [] (q2 - q1) (own_mn (q3 * (4 : Int64)) (2147483639 : Int64)) T4.heap n0 Z4) hZ (hw _ (List.mem_of_getElem? (i := 61) rfl)) (hw _ (List.mem_of_getElem? (i := 60) rfl)) (by decide) (by decide)) (g := (mkF m 15 #[.val (.long q1), .second, .val (.long q2), .second, .val (.long q3), .second] [(.long (own_mn (q3 * (4 : Int64)) (2147483639 : Int64))), (.long (q2 - q1))])) rfl (by rw [hml]; rfl) (argsL := [(.long (q2 - q1)), (.long (own_mn (q3 * (4 : Int64)) (2147483639 : Int64)))]) (rest := []) (lenOf pd_9_8 rfl) rfl (by show 2 * 0 + _ ≤ _; exact Nat.le_of_eq rfl) (hb hby d9_15) (fun _ _ => ⟨rfl, rfl, (by decide : 0 + 0 ≤ _), (by decide : 0 + 0 ≤ _)⟩)
  dsimp only [Pt.U, Pt.locs, Pt.cells, Pt.slots] at X5 l5 y5 z5 st5 hQ5
  subst l5 y5 z5
  obtain ⟨rfl, N5q, e5⟩ := hQ5
  have Z5 : n0 ≤ T5.heap.size := by rw [e5]; exact Z4
  have N5 := Fr.app N4 N5q
  obtain ⟨fsr, hr, hrun, hended, hW, hsame⟩ := X5.leave (v := some (.int (1 : Int32))) (fun h => by rw [Bd.returns] at h; cases h)
  refine ⟨_, _, pre0 _ ?_, hrun, hended, _, _, rfl, ?_, ⟨_, rfl⟩, hW, hsame.mono (by decide) (by decide)⟩
  · show Steps p.tables e below (s₁.setTop (mkF m 0 #[.val (.long q1), .second, .val (.long q2), .second, .val (.long q3), .second] [])) _
    refine XS.lloadN X0.here hx rfl (hb hby d9_0) rfl ?_
    show Steps p.tables e below (s₁.setTop (mkF m 1 #[.val (.long q1), .second, .val (.long q2), .second, .val (.long q3), .second] [(.long q2)])) _
    refine XS.lloadN X0.here hx rfl (hb hby d9_1) rfl ?_
    show Steps p.tables e below (s₁.setTop (mkF m 2 #[.val (.long q1), .second, .val (.long q2), .second, .val (.long q3), .second] [(.long q1), (.long q2)])) _
    refine XS.lsub X0.here hx rfl (hb hby d9_2) rfl ?_
    show Steps p.tables e below (s₁.setTop (mkF m 3 #[.val (.long q1), .second, .val (.long q2), .second, .val (.long q3), .second] [(.long (q2 - q1))])) _
    refine XS.lload X0.here hx rfl (hb hby d9_3) rfl ?_
    show Steps p.tables e below (s₁.setTop (mkF m 5 #[.val (.long q1), .second, .val (.long q2), .second, .val (.long q3), .second] [(.long q3), (.long (q2 - q1))])) _
    refine X0.ldc2Long hx hown (mvT hZ (hw _ (List.mem_of_getElem? (i := 56) rfl))) (g := (mkF m 5 #[.val (.long q1), .second, .val (.long q2), .second, .val (.long q3), .second] [(.long q3), (.long (q2 - q1))])) rfl (hb hby d9_5) _ ?_
    show Steps p.tables e below (s₁.setTop (mkF m 8 #[.val (.long q1), .second, .val (.long q2), .second, .val (.long q3), .second] [(.long (4 : Int64)), (.long q3), (.long (q2 - q1))])) _
    refine XS.lmul X0.here hx rfl (hb hby d9_8) rfl ?_
    show Steps p.tables e below (s₁.setTop (mkF m 9 #[.val (.long q1), .second, .val (.long q2), .second, .val (.long q3), .second] [(.long (q3 * (4 : Int64))), (.long (q2 - q1))])) _
    refine X0.ldc2Long hx hown (mvT hZ (hw _ (List.mem_of_getElem? (i := 57) rfl))) (g := (mkF m 9 #[.val (.long q1), .second, .val (.long q2), .second, .val (.long q3), .second] [(.long (q3 * (4 : Int64))), (.long (q2 - q1))])) rfl (hb hby d9_9) _ ?_
    show Steps p.tables e below (s₁.setTop (mkF m 12 #[.val (.long q1), .second, .val (.long q2), .second, .val (.long q3), .second] [(.long (2147483639 : Int64)), (.long (q3 * (4 : Int64))), (.long (q2 - q1))])) _
    refine st4 _ ?_
    show Steps p.tables e below (T4.setTop (mkF m 15 #[.val (.long q1), .second, .val (.long q2), .second, .val (.long q3), .second] [(.long (own_mn (q3 * (4 : Int64)) (2147483639 : Int64))), (.long (q2 - q1))])) _
    refine st5 _ ?_
    show Steps p.tables e below (T5.setTop (mkF m 18 #[.val (.long q1), .second, .val (.long q2), .second, .val (.long q3), .second] [(.int (own_cu (q2 - q1) (own_mn (q3 * (4 : Int64)) (2147483639 : Int64))))])) _
    refine XS.ifNo X5.here hx rfl (hb hby d9_18) rfl ((if0 _ _).trans (tlt (hcl () : (own_cu (q2 - q1) (own_mn (q3 * (4 : Int64)) (2147483639 : Int64))) < (0 : Int32))).2.1) ?_
    show Steps p.tables e below (T5.setTop (mkF m 21 #[.val (.long q1), .second, .val (.long q2), .second, .val (.long q3), .second] [])) _
    refine XS.iconst X5.here hx rfl (hb hby d9_21) ?_
    show Steps p.tables e below (T5.setTop (mkF m 22 #[.val (.long q1), .second, .val (.long q2), .second, .val (.long q3), .second] [(.int (1 : Int32))])) _
    refine XS.goto X5.here hx rfl (pc0 := 22) (pc' := 26) rfl (hb hby d9_22) (by decide) (by decide) ?_
    show Steps p.tables e below (T5.setTop (mkF m 26 #[.val (.long q1), .second, .val (.long q2), .second, .val (.long q3), .second] [(.int (1 : Int32))])) _
    exact retN X5 hx (t := .boolean) Bd.returns (by simp) (hb hby d9_26) hr
  · show Q9 Z q1 q2 q3 h0 n0 _ T5.heap _
    exact ⟨rfl, N5, e5.trans e4⟩
def Q4 (Z : State) (a1 : Addr) (q2 : Int64) (wi : Int32) (lf gf ls gs fb fs sb ss : Int64) (nu : Value) (bf : Int32) (se : Value) (h0 : Heap) (n0 : Nat) (v : Option Value) (h : Heap) (L : List Loc) : Prop := v = none ∧ Fr n0 L ∧ Keep h0 h [a1] ∧ DK Z h a1 wi (own_mn lf q2) (own_mx gf q2) ls gs fb fs sb ss nu bf se
set_option maxRecDepth 65536 in
set_option maxHeartbeats 40000000 in
theorem rm4 (l : Launch) (Z : State) (a0 : Array Value) (hw : ∀ d ∈ tables_1, d.before a0 Z = true) (ws : List Jvm.Cond) (a1 : Addr) (q2 : Int64) (wi : Int32) (lf gf ls gs fb fs sb ss : Int64) (nu : Value) (bf : Int32) (se : Value) (h0 : Heap) (n0 : Nat) (Z0 : n0 ≤ h0.size) (g_a1 : n0 ≤ a1) (D0 : DK Z h0 a1 wi lf gf ls gs fb fs sb ss nu bf se) :
    MetFree l (⟨"com/example/fairjoin/fairjoin/operator/DirectKeys", "held", "(J)V"⟩ : MethodName) (head1 (Jvm.Cond.code (⟨"com/example/fairjoin/fairjoin/operator/DirectKeys", "held", "(J)V"⟩ : MethodName) prog_151_method_11_code 3 none :: ws) ({ frames := 1, cells := 0, slots := 0, locals := 16 } : Room)) (fun a U => a = #[(.ref a1), (.long q2)] ∧ Z.Warmed39 U.vm ∧ U.heap = h0) (fun _ _ _ _ _ => True) (fun _ U o U' => ∃ v L, o = .returned v ∧ Q4 Z a1 q2 wi lf gf ls gs fb fs sb ss nu bf se h0 n0 v U'.heap L ∧ FrameEnd U o U' L ({ frames := 1, cells := 0, slots := 0, locals := 16 } : Room).cells ({ frames := 1, cells := 0, slots := 0, locals := 16 } : Room).slots) := by
  refine MetFree.of_bodySF (plainFor_of_name pn_4) hisR ?_
  intro p e s m args below meth c s₁ Bd hml0 hP hK
  obtain ⟨rfl, hZ, hh⟩ := hP
  have hx := Bd.exec
  have hby := Bd.bytes
  have hml : c.maxLocals = 3 := hml0
  have hown : s.vm.findClass "com/example/fairjoin/fairjoin/operator/DirectKeys" = some m.cls := findClass_of_methodNamed Bd.named
  have hnm := (name_of_methodNamed Bd.named Bd.method).1
  have X0 : Stand p l e ({ frames := 1, cells := 0, slots := 0, locals := 16 } : Room) s m #[(.ref a1), (.long q2)] below meth c s₁ [] 0 0 := Stand.of_body Bd
  have e0 : s₁.heap = h0 := by rw [← hh, Bd.state]; rfl
  have N0 := Fr.nil n0
  have pre0 : ∀ t, Steps p.tables e below (s₁.setTop (mkF m 0 #[.val (.ref a1), .val (.long q2), .second] [])) t → Steps p.tables e below (s₁.setTop (entryFrame m #[(.ref a1), (.long q2)] 3)) t := fun t ktt => castTop (ef_4 m a1 q2) ktt
  obtain ⟨T4, X4, e4, st4⟩ := getF X0 hx hZ hown (host := "") (Or.inl (hw _ (List.mem_of_getElem? (i := 12) rfl))) Via.refl e0 (dk_lf D0) (g := (mkF m 2 #[.val (.ref a1), .val (.long q2), .second] [(.ref a1), (.ref a1)])) rfl rfl (hb hby d4_2)
  obtain ⟨_, _, ⟨T5, L5, k5, n5⟩, -, X5, ⟨Lc5, hQ5, l5, y5, z5⟩, st5⟩ := Jvm.LawKit.callS X4 hx (y := (⟨"java/lang/Math", "min", "(JJ)J"⟩ : MethodName)) hown (mvT hZ (hw _ (List.mem_of_getElem? (i := 38) rfl))) (mvT hZ (hw _ (List.mem_of_getElem? (i := 39) rfl))) (mvT hZ (hw _ (List.mem_of_getElem? (i := 40) rfl))) (mvT hZ (hw _ (List.mem_of_getElem? (i := 41) rfl))) (by decide) (backOf (W := 1) (rm5 l Z a0 hw [] lf q2 h0 n0 Z0) hZ (hw _ (List.mem_of_getElem? (i := 41) rfl)) (hw _ (List.mem_of_getElem? (i := 40) rfl)) (by decide) (by decide)) (g := (mkF m 6 #[.val (.ref a1), .val (.long q2), .second] [(.long q2), (.long lf), (.ref a1)])) rfl (by rw [hml]; rfl) (argsL := [(.long lf), (.long q2)]) (rest := [(.ref a1)]) (lenOf pd_4_4 rfl) rfl (by show 2 * 0 + _ ≤ _; exact Nat.le_of_eq rfl) (hb hby d4_6) (fun _ _ => ⟨rfl, e4, (by decide : 0 + 0 ≤ _), (by decide : 0 + 0 ≤ _)⟩)
  dsimp only [Pt.U, Pt.locs, Pt.cells, Pt.slots] at X5 l5 y5 z5 st5 hQ5
  subst l5 y5 z5
  obtain ⟨rfl, N5q, e5⟩ := hQ5
  have D5 := dk_heap D0 e5
  have K5 : Keep h0 T5.heap [a1] := by rw [e5]; exact (Keep.refl h0 [a1])
  have Z5 : n0 ≤ T5.heap.size := by rw [e5]; exact Z0
  have N5 := Fr.app N0 N5q
  obtain ⟨T6, h6, X6, e6, W6, st6⟩ := putF X5 hx hZ hown (host := "") (Or.inl (hw _ (List.mem_of_getElem? (i := 12) rfl))) Via.refl rfl (dk_lf D5) D5.1 (Or.inl (hw _ (List.mem_of_getElem? (i := 13) rfl))) (hw _ (List.mem_of_getElem? (i := 3) rfl)) (ty := .long) (by decide) rfl rfl (g := (mkF m 9 #[.val (.ref a1), .val (.long q2), .second] [(.long (own_mn lf q2)), (.ref a1)])) rfl rfl (hb hby d4_9)
  have D6 := dks_lf hw D5 W6
  have K6 : Keep h0 h6 [a1] := K5.wr W6 (Or.inl (List.mem_of_getElem? (i := 0) rfl))
  have Z6 : n0 ≤ h6.size := Nat.le_trans Z5 (Keep.of_wr W6).1
  have N6 := Fr.snoc X6 N5 g_a1
  obtain ⟨T8, X8, e8, st8⟩ := getF X6 hx hZ hown (host := "") (Or.inl (hw _ (List.mem_of_getElem? (i := 15) rfl))) Via.refl e6 (dk_gf D6) (g := (mkF m 14 #[.val (.ref a1), .val (.long q2), .second] [(.ref a1), (.ref a1)])) rfl rfl (hb hby d4_14)
  obtain ⟨_, _, ⟨T9, L9, k9, n9⟩, -, X9, ⟨Lc9, hQ9, l9, y9, z9⟩, st9⟩ := Jvm.LawKit.callS X8 hx (y := (⟨"java/lang/Math", "max", "(JJ)J"⟩ : MethodName)) hown (mvT hZ (hw _ (List.mem_of_getElem? (i := 42) rfl))) (mvT hZ (hw _ (List.mem_of_getElem? (i := 43) rfl))) (mvT hZ (hw _ (List.mem_of_getElem? (i := 40) rfl))) (mvT hZ (hw _ (List.mem_of_getElem? (i := 44) rfl))) (by decide) (backOf (W := 1) (rm6 l Z a0 hw [] gf q2 h6 n0 Z6) hZ (hw _ (List.mem_of_getElem? (i := 44) rfl)) (hw _ (List.mem_of_getElem? (i := 40) rfl)) (by decide) (by decide)) (g := (mkF m 18 #[.val (.ref a1), .val (.long q2), .second] [(.long q2), (.long gf), (.ref a1)])) rfl (by rw [hml]; rfl) (argsL := [(.long gf), (.long q2)]) (rest := [(.ref a1)]) (lenOf pd_4_4 rfl) rfl (by show 2 * 0 + _ ≤ _; exact Nat.le_of_eq rfl) (hb hby d4_18) (fun _ _ => ⟨rfl, e8, (by decide : 0 + 0 ≤ _), (by decide : 0 + 0 ≤ _)⟩)
  dsimp only [Pt.U, Pt.locs, Pt.cells, Pt.slots] at X9 l9 y9 z9 st9 hQ9
  subst l9 y9 z9
  obtain ⟨rfl, N9q, e9⟩ := hQ9
  have D9 := dk_heap D6 e9
  have K9 : Keep h0 T9.heap [a1] := by rw [e9]; exact K6
  have Z9 : n0 ≤ T9.heap.size := by rw [e9]; exact Z6
  have N9 := Fr.app N6 N9q
  obtain ⟨T10, h10, X10, e10, W10, st10⟩ := putF X9 hx hZ hown (host := "") (Or.inl (hw _ (List.mem_of_getElem? (i := 15) rfl))) Via.refl rfl (dk_gf D9) D9.1 (Or.inl (hw _ (List.mem_of_getElem? (i := 16) rfl))) (hw _ (List.mem_of_getElem? (i := 3) rfl)) (ty := .long) (by decide) rfl rfl (g := (mkF m 21 #[.val (.ref a1), .val (.long q2), .second] [(.long (own_mx gf q2)), (.ref a1)])) rfl rfl (hb hby d4_21)
  have D10 := dks_gf hw D9 W10
  have K10 : Keep h0 h10 [a1] := K9.wr W10 (Or.inl (List.mem_of_getElem? (i := 0) rfl))
  have Z10 : n0 ≤ h10.size := Nat.le_trans Z9 (Keep.of_wr W10).1
  have N10 := Fr.snoc X10 N9 g_a1
  obtain ⟨fsr, hr, hrun, hended, hW, hsame⟩ := X10.leave (v := none) (fun _ => rfl)
  refine ⟨_, _, pre0 _ ?_, hrun, hended, _, _, rfl, ?_, ⟨_, rfl⟩, hW, hsame.mono (by decide) (by decide)⟩
  · show Steps p.tables e below (s₁.setTop (mkF m 0 #[.val (.ref a1), .val (.long q2), .second] [])) _
    refine XS.aloadN X0.here hx rfl (hb hby d4_0) rfl rfl ?_
    show Steps p.tables e below (s₁.setTop (mkF m 1 #[.val (.ref a1), .val (.long q2), .second] [(.ref a1)])) _
    refine XS.aloadN X0.here hx rfl (hb hby d4_1) rfl rfl ?_
    show Steps p.tables e below (s₁.setTop (mkF m 2 #[.val (.ref a1), .val (.long q2), .second] [(.ref a1), (.ref a1)])) _
    refine st4 _ ?_
    show Steps p.tables e below (T4.setTop (mkF m 5 #[.val (.ref a1), .val (.long q2), .second] [(.long lf), (.ref a1)])) _
    refine XS.lloadN X4.here hx rfl (hb hby d4_5) rfl ?_
    show Steps p.tables e below (T4.setTop (mkF m 6 #[.val (.ref a1), .val (.long q2), .second] [(.long q2), (.long lf), (.ref a1)])) _
    refine st5 _ ?_
    show Steps p.tables e below (T5.setTop (mkF m 9 #[.val (.ref a1), .val (.long q2), .second] [(.long (own_mn lf q2)), (.ref a1)])) _
    refine st6 _ ?_
    show Steps p.tables e below (T6.setTop (mkF m 12 #[.val (.ref a1), .val (.long q2), .second] [])) _
    refine XS.aloadN X6.here hx rfl (hb hby d4_12) rfl rfl ?_
    show Steps p.tables e below (T6.setTop (mkF m 13 #[.val (.ref a1), .val (.long q2), .second] [(.ref a1)])) _
    refine XS.aloadN X6.here hx rfl (hb hby d4_13) rfl rfl ?_
    show Steps p.tables e below (T6.setTop (mkF m 14 #[.val (.ref a1), .val (.long q2), .second] [(.ref a1), (.ref a1)])) _
    refine st8 _ ?_
    show Steps p.tables e below (T8.setTop (mkF m 17 #[.val (.ref a1), .val (.long q2), .second] [(.long gf), (.ref a1)])) _
    refine XS.lloadN X8.here hx rfl (hb hby d4_17) rfl ?_
    show Steps p.tables e below (T8.setTop (mkF m 18 #[.val (.ref a1), .val (.long q2), .second] [(.long q2), (.long gf), (.ref a1)])) _
    refine st9 _ ?_
    show Steps p.tables e below (T9.setTop (mkF m 21 #[.val (.ref a1), .val (.long q2), .second] [(.long (own_mx gf q2)), (.ref a1)])) _
    refine st10 _ ?_
    show Steps p.tables e below (T10.setTop (mkF m 24 #[.val (.ref a1), .val (.long q2), .second] [])) _
    exact X10.returnOut hx Bd.returns (hb hby d4_24) hr
  · show Q4 Z a1 q2 wi lf gf ls gs fb fs sb ss nu bf se h0 n0 _ T10.heap _
    rw [e10]
    exact ⟨rfl, N10, K10, D10⟩
def Q3 (Z : State) (a1 : Addr) (q2 : Int64) (q3 : Int64) (wi : Int32) (lf gf ls gs fb fs sb ss : Int64) (nu : Value) (bf : Int32) (se : Value) (h0 : Heap) (n0 : Nat) (v : Option Value) (h : Heap) (L : List Loc) : Prop := v = none ∧ Fr n0 L ∧ Keep h0 h [a1] ∧ DK Z h a1 wi (own_mn lf q2) (own_mx gf q2) (own_mn ls q3) (own_mx gs q3) fb fs sb ss nu bf se
set_option maxRecDepth 65536 in
set_option maxHeartbeats 40000000 in
theorem rm3 (l : Launch) (Z : State) (a0 : Array Value) (hw : ∀ d ∈ tables_1, d.before a0 Z = true) (ws : List Jvm.Cond) (a1 : Addr) (q2 : Int64) (q3 : Int64) (wi : Int32) (lf gf ls gs fb fs sb ss : Int64) (nu : Value) (bf : Int32) (se : Value) (h0 : Heap) (n0 : Nat) (Z0 : n0 ≤ h0.size) (g_a1 : n0 ≤ a1) (D0 : DK Z h0 a1 wi lf gf ls gs fb fs sb ss nu bf se) :
    MetFree l (⟨"com/example/fairjoin/fairjoin/operator/DirectKeys", "held", "(JJ)V"⟩ : MethodName) (head1 (Jvm.Cond.code (⟨"com/example/fairjoin/fairjoin/operator/DirectKeys", "held", "(JJ)V"⟩ : MethodName) prog_151_method_12_code 5 none :: ws) ({ frames := 2, cells := 0, slots := 0, locals := 30 } : Room)) (fun a U => a = #[(.ref a1), (.long q2), (.long q3)] ∧ Z.Warmed39 U.vm ∧ U.heap = h0) (fun _ _ _ _ _ => True) (fun _ U o U' => ∃ v L, o = .returned v ∧ Q3 Z a1 q2 q3 wi lf gf ls gs fb fs sb ss nu bf se h0 n0 v U'.heap L ∧ FrameEnd U o U' L ({ frames := 2, cells := 0, slots := 0, locals := 30 } : Room).cells ({ frames := 2, cells := 0, slots := 0, locals := 30 } : Room).slots) := by
  refine MetFree.of_bodySF (plainFor_of_name pn_3) hisR ?_
  intro p e s m args below meth c s₁ Bd hml0 hP hK
  obtain ⟨rfl, hZ, hh⟩ := hP
  have hx := Bd.exec
  have hby := Bd.bytes
  have hml : c.maxLocals = 5 := hml0
  have hown : s.vm.findClass "com/example/fairjoin/fairjoin/operator/DirectKeys" = some m.cls := findClass_of_methodNamed Bd.named
  have hnm := (name_of_methodNamed Bd.named Bd.method).1
  have X0 : Stand p l e ({ frames := 2, cells := 0, slots := 0, locals := 30 } : Room) s m #[(.ref a1), (.long q2), (.long q3)] below meth c s₁ [] 0 0 := Stand.of_body Bd
  have e0 : s₁.heap = h0 := by rw [← hh, Bd.state]; rfl
  have N0 := Fr.nil n0
  have pre0 : ∀ t, Steps p.tables e below (s₁.setTop (mkF m 0 #[.val (.ref a1), .val (.long q2), .second, .val (.long q3), .second] [])) t → Steps p.tables e below (s₁.setTop (entryFrame m #[(.ref a1), (.long q2), (.long q3)] 5)) t := fun t ktt => castTop (ef_3 m a1 q2 q3) ktt
  obtain ⟨cq4, kq4, q4a, q4b, q4c⟩ := isOf hZ e0 D0.1
  obtain ⟨_, _, ⟨T4, L4, k4, n4⟩, -, X4, ⟨Lc4, hQ4, l4, y4, z4⟩, st4⟩ := X0.virtualBack hx (y := (⟨"com/example/fairjoin/fairjoin/operator/DirectKeys", "held", "(J)V"⟩ : MethodName)) (z := (⟨"com/example/fairjoin/fairjoin/operator/DirectKeys", "held", "(J)V"⟩ : MethodName)) hown (mvT hZ (hw _ (List.mem_of_getElem? (i := 33) rfl))) (mvT hZ (hw _ (List.mem_of_getElem? (i := 34) rfl))) (notFace_of_selects (args := #[]) (mvT hZ (hw _ (List.mem_of_getElem? (i := 36) rfl)))) (mvT hZ (hw _ (List.mem_of_getElem? (i := 36) rfl))) (mvT hZ (hw _ (List.mem_of_getElem? (i := 35) rfl))) (by decide) (backOf (W := 0) (rm4 l Z a0 hw [] a1 q2 wi lf gf ls gs fb fs sb ss nu bf se h0 n0 Z0 g_a1 D0) hZ (hw _ (List.mem_of_getElem? (i := 37) rfl)) (hw _ (List.mem_of_getElem? (i := 4) rfl)) (by decide) (by decide)) q4a q4c (g := (mkF m 2 #[.val (.ref a1), .val (.long q2), .second, .val (.long q3), .second] [(.long q2), (.ref a1)])) rfl (by rw [hml]; rfl) (Steps.refl _) (argsL := [(.long q2)]) (rest := []) (lenOf pd_3_3 rfl) rfl (by show 2 * 0 + _ ≤ _; exact Nat.le_of_eq rfl) (hb hby d3_2) (fun _ _ => ⟨rfl, e0, (by decide : 0 + 0 ≤ _), (by decide : 0 + 0 ≤ _)⟩)
  dsimp only [Pt.U, Pt.locs, Pt.cells, Pt.slots] at X4 l4 y4 z4 st4 hQ4
  subst l4 y4 z4
  obtain ⟨rfl, N4q, K4q, D4⟩ := hQ4
  have K4 : Keep h0 T4.heap [a1] := (Keep.refl h0 [a1]).trans K4q (fun x hx => Or.inl hx)
  have Z4 : n0 ≤ T4.heap.size := Nat.le_trans Z0 K4q.1
  have N4 := Fr.app N0 N4q
  obtain ⟨T6, X6, e6, st6⟩ := getF X4 hx hZ hown (host := "") (Or.inl (hw _ (List.mem_of_getElem? (i := 17) rfl))) Via.refl rfl (dk_ls D4) (g := (mkF m 7 #[.val (.ref a1), .val (.long q2), .second, .val (.long q3), .second] [(.ref a1), (.ref a1)])) rfl rfl (hb hby d3_7)
  obtain ⟨_, _, ⟨T7, L7, k7, n7⟩, -, X7, ⟨Lc7, hQ7, l7, y7, z7⟩, st7⟩ := Jvm.LawKit.callS X6 hx (y := (⟨"java/lang/Math", "min", "(JJ)J"⟩ : MethodName)) hown (mvT hZ (hw _ (List.mem_of_getElem? (i := 38) rfl))) (mvT hZ (hw _ (List.mem_of_getElem? (i := 39) rfl))) (mvT hZ (hw _ (List.mem_of_getElem? (i := 40) rfl))) (mvT hZ (hw _ (List.mem_of_getElem? (i := 41) rfl))) (by decide) (backOf (W := 1) (rm5 l Z a0 hw [] ls q3 T4.heap n0 Z4) hZ (hw _ (List.mem_of_getElem? (i := 41) rfl)) (hw _ (List.mem_of_getElem? (i := 40) rfl)) (by decide) (by decide)) (g := (mkF m 11 #[.val (.ref a1), .val (.long q2), .second, .val (.long q3), .second] [(.long q3), (.long ls), (.ref a1)])) rfl (by rw [hml]; rfl) (argsL := [(.long ls), (.long q3)]) (rest := [(.ref a1)]) (lenOf pd_3_4 rfl) rfl (by show 2 * 0 + _ ≤ _; exact Nat.le_of_eq rfl) (hb hby d3_11) (fun _ _ => ⟨rfl, e6, (by decide : 0 + 0 ≤ _), (by decide : 0 + 0 ≤ _)⟩)
  dsimp only [Pt.U, Pt.locs, Pt.cells, Pt.slots] at X7 l7 y7 z7 st7 hQ7
  subst l7 y7 z7
  obtain ⟨rfl, N7q, e7⟩ := hQ7
  have D7 := dk_heap D4 e7
  have K7 : Keep h0 T7.heap [a1] := by rw [e7]; exact K4
  have Z7 : n0 ≤ T7.heap.size := by rw [e7]; exact Z4
  have N7 := Fr.app N4 N7q
  obtain ⟨T8, h8, X8, e8, W8, st8⟩ := putF X7 hx hZ hown (host := "") (Or.inl (hw _ (List.mem_of_getElem? (i := 17) rfl))) Via.refl rfl (dk_ls D7) D7.1 (Or.inl (hw _ (List.mem_of_getElem? (i := 18) rfl))) (hw _ (List.mem_of_getElem? (i := 3) rfl)) (ty := .long) (by decide) rfl rfl (g := (mkF m 14 #[.val (.ref a1), .val (.long q2), .second, .val (.long q3), .second] [(.long (own_mn ls q3)), (.ref a1)])) rfl rfl (hb hby d3_14)
  have D8 := dks_ls hw D7 W8
  have K8 : Keep h0 h8 [a1] := K7.wr W8 (Or.inl (List.mem_of_getElem? (i := 0) rfl))
  have Z8 : n0 ≤ h8.size := Nat.le_trans Z7 (Keep.of_wr W8).1
  have N8 := Fr.snoc X8 N7 g_a1
  obtain ⟨T10, X10, e10, st10⟩ := getF X8 hx hZ hown (host := "") (Or.inl (hw _ (List.mem_of_getElem? (i := 19) rfl))) Via.refl e8 (dk_gs D8) (g := (mkF m 19 #[.val (.ref a1), .val (.long q2), .second, .val (.long q3), .second] [(.ref a1), (.ref a1)])) rfl rfl (hb hby d3_19)
  obtain ⟨_, _, ⟨T11, L11, k11, n11⟩, -, X11, ⟨Lc11, hQ11, l11, y11, z11⟩, st11⟩ := Jvm.LawKit.callS X10 hx (y := (⟨"java/lang/Math", "max", "(JJ)J"⟩ : MethodName)) hown (mvT hZ (hw _ (List.mem_of_getElem? (i := 42) rfl))) (mvT hZ (hw _ (List.mem_of_getElem? (i := 43) rfl))) (mvT hZ (hw _ (List.mem_of_getElem? (i := 40) rfl))) (mvT hZ (hw _ (List.mem_of_getElem? (i := 44) rfl))) (by decide) (backOf (W := 1) (rm6 l Z a0 hw [] gs q3 h8 n0 Z8) hZ (hw _ (List.mem_of_getElem? (i := 44) rfl)) (hw _ (List.mem_of_getElem? (i := 40) rfl)) (by decide) (by decide)) (g := (mkF m 23 #[.val (.ref a1), .val (.long q2), .second, .val (.long q3), .second] [(.long q3), (.long gs), (.ref a1)])) rfl (by rw [hml]; rfl) (argsL := [(.long gs), (.long q3)]) (rest := [(.ref a1)]) (lenOf pd_3_4 rfl) rfl (by show 2 * 0 + _ ≤ _; exact Nat.le_of_eq rfl) (hb hby d3_23) (fun _ _ => ⟨rfl, e10, (by decide : 0 + 0 ≤ _), (by decide : 0 + 0 ≤ _)⟩)
  dsimp only [Pt.U, Pt.locs, Pt.cells, Pt.slots] at X11 l11 y11 z11 st11 hQ11
  subst l11 y11 z11
  obtain ⟨rfl, N11q, e11⟩ := hQ11
  have D11 := dk_heap D8 e11
  have K11 : Keep h0 T11.heap [a1] := by rw [e11]; exact K8
  have Z11 : n0 ≤ T11.heap.size := by rw [e11]; exact Z8
  have N11 := Fr.app N8 N11q
  obtain ⟨T12, h12, X12, e12, W12, st12⟩ := putF X11 hx hZ hown (host := "") (Or.inl (hw _ (List.mem_of_getElem? (i := 19) rfl))) Via.refl rfl (dk_gs D11) D11.1 (Or.inl (hw _ (List.mem_of_getElem? (i := 20) rfl))) (hw _ (List.mem_of_getElem? (i := 3) rfl)) (ty := .long) (by decide) rfl rfl (g := (mkF m 26 #[.val (.ref a1), .val (.long q2), .second, .val (.long q3), .second] [(.long (own_mx gs q3)), (.ref a1)])) rfl rfl (hb hby d3_26)
  have D12 := dks_gs hw D11 W12
  have K12 : Keep h0 h12 [a1] := K11.wr W12 (Or.inl (List.mem_of_getElem? (i := 0) rfl))
  have Z12 : n0 ≤ h12.size := Nat.le_trans Z11 (Keep.of_wr W12).1
  have N12 := Fr.snoc X12 N11 g_a1
  obtain ⟨fsr, hr, hrun, hended, hW, hsame⟩ := X12.leave (v := none) (fun _ => rfl)
  refine ⟨_, _, pre0 _ ?_, hrun, hended, _, _, rfl, ?_, ⟨_, rfl⟩, hW, hsame.mono (by decide) (by decide)⟩
  · show Steps p.tables e below (s₁.setTop (mkF m 0 #[.val (.ref a1), .val (.long q2), .second, .val (.long q3), .second] [])) _
    refine XS.aloadN X0.here hx rfl (hb hby d3_0) rfl rfl ?_
    show Steps p.tables e below (s₁.setTop (mkF m 1 #[.val (.ref a1), .val (.long q2), .second, .val (.long q3), .second] [(.ref a1)])) _
    refine XS.lloadN X0.here hx rfl (hb hby d3_1) rfl ?_
    show Steps p.tables e below (s₁.setTop (mkF m 2 #[.val (.ref a1), .val (.long q2), .second, .val (.long q3), .second] [(.long q2), (.ref a1)])) _
    refine st4.trans ?_
    show Steps p.tables e below (T4.setTop (mkF m 5 #[.val (.ref a1), .val (.long q2), .second, .val (.long q3), .second] [])) _
    refine XS.aloadN X4.here hx rfl (hb hby d3_5) rfl rfl ?_
    show Steps p.tables e below (T4.setTop (mkF m 6 #[.val (.ref a1), .val (.long q2), .second, .val (.long q3), .second] [(.ref a1)])) _
    refine XS.aloadN X4.here hx rfl (hb hby d3_6) rfl rfl ?_
    show Steps p.tables e below (T4.setTop (mkF m 7 #[.val (.ref a1), .val (.long q2), .second, .val (.long q3), .second] [(.ref a1), (.ref a1)])) _
    refine st6 _ ?_
    show Steps p.tables e below (T6.setTop (mkF m 10 #[.val (.ref a1), .val (.long q2), .second, .val (.long q3), .second] [(.long ls), (.ref a1)])) _
    refine XS.lloadN X6.here hx rfl (hb hby d3_10) rfl ?_
    show Steps p.tables e below (T6.setTop (mkF m 11 #[.val (.ref a1), .val (.long q2), .second, .val (.long q3), .second] [(.long q3), (.long ls), (.ref a1)])) _
    refine st7 _ ?_
    show Steps p.tables e below (T7.setTop (mkF m 14 #[.val (.ref a1), .val (.long q2), .second, .val (.long q3), .second] [(.long (own_mn ls q3)), (.ref a1)])) _
    refine st8 _ ?_
    show Steps p.tables e below (T8.setTop (mkF m 17 #[.val (.ref a1), .val (.long q2), .second, .val (.long q3), .second] [])) _
    refine XS.aloadN X8.here hx rfl (hb hby d3_17) rfl rfl ?_
    show Steps p.tables e below (T8.setTop (mkF m 18 #[.val (.ref a1), .val (.long q2), .second, .val (.long q3), .second] [(.ref a1)])) _
    refine XS.aloadN X8.here hx rfl (hb hby d3_18) rfl rfl ?_
    show Steps p.tables e below (T8.setTop (mkF m 19 #[.val (.ref a1), .val (.long q2), .second, .val (.long q3), .second] [(.ref a1), (.ref a1)])) _
    refine st10 _ ?_
    show Steps p.tables e below (T10.setTop (mkF m 22 #[.val (.ref a1), .val (.long q2), .second, .val (.long q3), .second] [(.long gs), (.ref a1)])) _
    refine XS.lloadN X10.here hx rfl (hb hby d3_22) rfl ?_
    show Steps p.tables e below (T10.setTop (mkF m 23 #[.val (.ref a1), .val (.long q2), .second, .val (.long q3), .second] [(.long q3), (.long gs), (.ref a1)])) _
    refine st11 _ ?_
    show Steps p.tables e below (T11.setTop (mkF m 26 #[.val (.ref a1), .val (.long q2), .second, .val (.long q3), .second] [(.long (own_mx gs q3)), (.ref a1)])) _
    refine st12 _ ?_
    show Steps p.tables e below (T12.setTop (mkF m 29 #[.val (.ref a1), .val (.long q2), .second, .val (.long q3), .second] [])) _
    exact X12.returnOut hx Bd.returns (hb hby d3_29) hr
  · show Q3 Z a1 q2 q3 wi lf gf ls gs fb fs sb ss nu bf se h0 n0 _ T12.heap _
    rw [e12]
    exact ⟨rfl, N12, K12, D12⟩
def Q1 (Z : State) (a1 : Addr) (p2 : Int32) (h0 : Heap) (n0 : Nat) (v : Option Value) (h : Heap) (L : List Loc) : Prop := v = none ∧ Fr n0 L ∧ Keep h0 h [a1] ∧ ∃ t : Addr, DK Z h a1 p2 (9223372036854775807 : Int64) (-9223372036854775808 : Int64) (9223372036854775807 : Int64) (-9223372036854775808 : Int64) 0 0 0 1 (.ref t) 0 .null
set_option maxRecDepth 65536 in
set_option maxHeartbeats 40000000 in
theorem rm1 (l : Launch) (Z : State) (a0 : Array Value) (hw : ∀ d ∈ tables_1, d.before a0 Z = true) (ws : List Jvm.Cond) (a1 : Addr) (p2 : Int32) (h0 : Heap) (n0 : Nat) (Z0 : n0 ≤ h0.size) (g_a1 : n0 ≤ a1) (D0 : DK Z h0 a1 0 0 0 0 0 0 0 0 0 .null 0 .null) :
    MetFree l (⟨"com/example/fairjoin/fairjoin/operator/DirectKeys", "<init>", "(I)V"⟩ : MethodName) (head1 (Jvm.Cond.code (⟨"com/example/fairjoin/fairjoin/operator/DirectKeys", "<init>", "(I)V"⟩ : MethodName) prog_151_method_1_code 2 none :: ws) ({ frames := 1, cells := 1, slots := 0, locals := 12 } : Room)) (fun a U => a = #[(.ref a1), (.int p2)] ∧ Z.Warmed39 U.vm ∧ U.heap = h0) (fun _ _ _ _ _ => True) (fun _ U o U' => ∃ v L, o = .returned v ∧ Q1 Z a1 p2 h0 n0 v U'.heap L ∧ FrameEnd U o U' L ({ frames := 1, cells := 1, slots := 0, locals := 12 } : Room).cells ({ frames := 1, cells := 1, slots := 0, locals := 12 } : Room).slots) := by
  refine MetFree.of_bodySF (plainFor_of_name pn_1) hisR ?_
  intro p e s m args below meth c s₁ Bd hml0 hP hK
  obtain ⟨rfl, hZ, hh⟩ := hP
  have hx := Bd.exec
  have hby := Bd.bytes
  have hml : c.maxLocals = 2 := hml0
  have hown : s.vm.findClass "com/example/fairjoin/fairjoin/operator/DirectKeys" = some m.cls := findClass_of_methodNamed Bd.named
  have hnm := (name_of_methodNamed Bd.named Bd.method).1
  have X0 : Stand p l e ({ frames := 1, cells := 1, slots := 0, locals := 12 } : Room) s m #[(.ref a1), (.int p2)] below meth c s₁ [] 0 0 := Stand.of_body Bd
  have e0 : s₁.heap = h0 := by rw [← hh, Bd.state]; rfl
  have N0 := Fr.nil n0
  have pre0 : ∀ t, Steps p.tables e below (s₁.setTop (mkF m 0 #[.val (.ref a1), .val (.int p2)] [])) t → Steps p.tables e below (s₁.setTop (entryFrame m #[(.ref a1), (.int p2)] 2)) t := fun t ktt => castTop (ef_1 m a1 p2) ktt
  obtain ⟨T3, X3, e3, st3⟩ := initO X0 hx hZ hown (hw _ (List.mem_of_getElem? (i := 8) rfl)) (hw _ (List.mem_of_getElem? (i := 9) rfl)) (hw _ (List.mem_of_getElem? (i := 10) rfl)) e0 (g := (mkF m 1 #[.val (.ref a1), .val (.int p2)] [(.ref a1)])) rfl (by rw [hml]; rfl) rfl (hb hby d1_1) (by decide) (W := 0) (by show 2 * 0 + _ ≤ _; exact Nat.le_of_eq rfl) (by decide)
  obtain ⟨T4, h4, X4, e4, W4, st4⟩ := putF X3 hx hZ hown (host := "") (Or.inl (hw _ (List.mem_of_getElem? (i := 12) rfl))) Via.refl e3 (dk_lf D0) D0.1 (Or.inl (hw _ (List.mem_of_getElem? (i := 13) rfl))) (hw _ (List.mem_of_getElem? (i := 3) rfl)) (ty := .long) (by decide) rfl rfl (g := (mkF m 8 #[.val (.ref a1), .val (.int p2)] [(.long (9223372036854775807 : Int64)), (.ref a1)])) rfl rfl (hb hby d1_8)
  have D4 := dks_lf hw D0 W4
  have K4 : Keep h0 h4 [a1] := (Keep.refl h0 [a1]).wr W4 (Or.inl (List.mem_of_getElem? (i := 0) rfl))
  have Z4 : n0 ≤ h4.size := Nat.le_trans Z0 (Keep.of_wr W4).1
  have N4 := Fr.snoc X4 N0 g_a1
  obtain ⟨T5, h5, X5, e5, W5, st5⟩ := putF X4 hx hZ hown (host := "") (Or.inl (hw _ (List.mem_of_getElem? (i := 15) rfl))) Via.refl e4 (dk_gf D4) D4.1 (Or.inl (hw _ (List.mem_of_getElem? (i := 16) rfl))) (hw _ (List.mem_of_getElem? (i := 3) rfl)) (ty := .long) (by decide) rfl rfl (g := (mkF m 15 #[.val (.ref a1), .val (.int p2)] [(.long (-9223372036854775808 : Int64)), (.ref a1)])) rfl rfl (hb hby d1_15)
  have D5 := dks_gf hw D4 W5
  have K5 : Keep h0 h5 [a1] := K4.wr W5 (Or.inl (List.mem_of_getElem? (i := 0) rfl))
  have Z5 : n0 ≤ h5.size := Nat.le_trans Z4 (Keep.of_wr W5).1
  have N5 := Fr.snoc X5 N4 g_a1
  obtain ⟨T6, h6, X6, e6, W6, st6⟩ := putF X5 hx hZ hown (host := "") (Or.inl (hw _ (List.mem_of_getElem? (i := 17) rfl))) Via.refl e5 (dk_ls D5) D5.1 (Or.inl (hw _ (List.mem_of_getElem? (i := 18) rfl))) (hw _ (List.mem_of_getElem? (i := 3) rfl)) (ty := .long) (by decide) rfl rfl (g := (mkF m 22 #[.val (.ref a1), .val (.int p2)] [(.long (9223372036854775807 : Int64)), (.ref a1)])) rfl rfl (hb hby d1_22)
  have D6 := dks_ls hw D5 W6
  have K6 : Keep h0 h6 [a1] := K5.wr W6 (Or.inl (List.mem_of_getElem? (i := 0) rfl))
  have Z6 : n0 ≤ h6.size := Nat.le_trans Z5 (Keep.of_wr W6).1
  have N6 := Fr.snoc X6 N5 g_a1
  obtain ⟨T7, h7, X7, e7, W7, st7⟩ := putF X6 hx hZ hown (host := "") (Or.inl (hw _ (List.mem_of_getElem? (i := 19) rfl))) Via.refl e6 (dk_gs D6) D6.1 (Or.inl (hw _ (List.mem_of_getElem? (i := 20) rfl))) (hw _ (List.mem_of_getElem? (i := 3) rfl)) (ty := .long) (by decide) rfl rfl (g := (mkF m 29 #[.val (.ref a1), .val (.int p2)] [(.long (-9223372036854775808 : Int64)), (.ref a1)])) rfl rfl (hb hby d1_29)
  have D7 := dks_gs hw D6 W7
  have K7 : Keep h0 h7 [a1] := K6.wr W7 (Or.inl (List.mem_of_getElem? (i := 0) rfl))
  have Z7 : n0 ≤ h7.size := Nat.le_trans Z6 (Keep.of_wr W7).1
  have N7 := Fr.snoc X7 N6 g_a1
  obtain ⟨T8, h8, X8, e8, W8, st8⟩ := putF X7 hx hZ hown (host := "") (Or.inl (hw _ (List.mem_of_getElem? (i := 21) rfl))) Via.refl e7 (dk_ss D7) D7.1 (Or.inl (hw _ (List.mem_of_getElem? (i := 22) rfl))) (hw _ (List.mem_of_getElem? (i := 3) rfl)) (ty := .long) (by decide) rfl rfl (g := (mkF m 34 #[.val (.ref a1), .val (.int p2)] [(.long (1 : Int64)), (.ref a1)])) rfl rfl (hb hby d1_34)
  have D8 := dks_ss hw D7 W8
  have K8 : Keep h0 h8 [a1] := K7.wr W8 (Or.inl (List.mem_of_getElem? (i := 0) rfl))
  have Z8 : n0 ≤ h8.size := Nat.le_trans Z7 (Keep.of_wr W8).1
  have N8 := Fr.snoc X8 N7 g_a1
  obtain ⟨T9, h9, k9, X9, e9, E9, A9, st9⟩ := newP X8 hx hZ (hw _ (List.mem_of_getElem? (i := 23) rfl)) e8 (g := (mkF m 39 #[.val (.ref a1), .val (.int p2)] [(.int (0 : Int32)), (.ref a1)])) rfl (hb hby d1_39) rfl (by decide) (cap := 0) (by decide) (by decide) (by decide) (by decide)
  obtain ⟨b9, g9⟩ : ∃ z, z = h8.size := ⟨_, rfl⟩
  rw [← g9] at A9 st9
  have g_b9 : n0 ≤ b9 := Nat.le_trans Z8 (Nat.le_of_eq g9.symm)
  have sz_b9 : h0.size ≤ b9 := Nat.le_trans K8.1 (Nat.le_of_eq g9.symm)
  have K9 : Keep h0 h9 [a1] := K8.ext E9
  have D9 := dk_ext D8 E9
  have Z9 : n0 ≤ h9.size := Nat.le_trans Z8 E9.1
  obtain ⟨T10, h10, X10, e10, W10, st10⟩ := putF X9 hx hZ hown (host := "") (Or.inl (hw _ (List.mem_of_getElem? (i := 24) rfl))) Via.refl e9 (dk_nu D9) D9.1 (Or.inl (hw _ (List.mem_of_getElem? (i := 25) rfl))) (hw _ (List.mem_of_getElem? (i := 3) rfl)) (ty := (.array .int)) (by decide) rfl rfl (g := (mkF m 41 #[.val (.ref a1), .val (.int p2)] [(.ref b9), (.ref a1)])) rfl rfl (hb hby d1_41)
  have D10 := dks_nu hw D9 W10
  have K10 : Keep h0 h10 [a1] := K9.wr W10 (Or.inl (List.mem_of_getElem? (i := 0) rfl))
  have Z10 : n0 ≤ h10.size := Nat.le_trans Z9 (Keep.of_wr W10).1
  have N10 := Fr.snoc X10 N8 g_a1
  obtain ⟨T11, h11, X11, e11, W11, st11⟩ := putF X10 hx hZ hown (host := "") (Or.inl (hw _ (List.mem_of_getElem? (i := 26) rfl))) Via.refl e10 (dk_wi D10) D10.1 (Or.inr ⟨(hw _ (List.mem_of_getElem? (i := 27) rfl)), rfl, hnm⟩) (hw _ (List.mem_of_getElem? (i := 3) rfl)) (ty := .int) (by decide) rfl rfl (g := (mkF m 46 #[.val (.ref a1), .val (.int p2)] [(.int p2), (.ref a1)])) rfl rfl (hb hby d1_46)
  have D11 := dks_wi hw D10 W11
  have K11 : Keep h0 h11 [a1] := K10.wr W11 (Or.inl (List.mem_of_getElem? (i := 0) rfl))
  have Z11 : n0 ≤ h11.size := Nat.le_trans Z10 (Keep.of_wr W11).1
  have N11 := Fr.snoc X11 N10 g_a1
  obtain ⟨fsr, hr, hrun, hended, hW, hsame⟩ := X11.leave (v := none) (fun _ => rfl)
  refine ⟨_, _, pre0 _ ?_, hrun, hended, _, _, rfl, ?_, ⟨_, rfl⟩, hW, hsame.mono (by decide) (by decide)⟩
  · show Steps p.tables e below (s₁.setTop (mkF m 0 #[.val (.ref a1), .val (.int p2)] [])) _
    refine XS.aloadN X0.here hx rfl (hb hby d1_0) rfl rfl ?_
    show Steps p.tables e below (s₁.setTop (mkF m 1 #[.val (.ref a1), .val (.int p2)] [(.ref a1)])) _
    refine st3 _ ?_
    show Steps p.tables e below (T3.setTop (mkF m 4 #[.val (.ref a1), .val (.int p2)] [])) _
    refine XS.aloadN X3.here hx rfl (hb hby d1_4) rfl rfl ?_
    show Steps p.tables e below (T3.setTop (mkF m 5 #[.val (.ref a1), .val (.int p2)] [(.ref a1)])) _
    refine X3.ldc2Long hx hown (mvT hZ (hw _ (List.mem_of_getElem? (i := 11) rfl))) (g := (mkF m 5 #[.val (.ref a1), .val (.int p2)] [(.ref a1)])) rfl (hb hby d1_5) _ ?_
    show Steps p.tables e below (T3.setTop (mkF m 8 #[.val (.ref a1), .val (.int p2)] [(.long (9223372036854775807 : Int64)), (.ref a1)])) _
    refine st4 _ ?_
    show Steps p.tables e below (T4.setTop (mkF m 11 #[.val (.ref a1), .val (.int p2)] [])) _
    refine XS.aloadN X4.here hx rfl (hb hby d1_11) rfl rfl ?_
    show Steps p.tables e below (T4.setTop (mkF m 12 #[.val (.ref a1), .val (.int p2)] [(.ref a1)])) _
    refine X4.ldc2Long hx hown (mvT hZ (hw _ (List.mem_of_getElem? (i := 14) rfl))) (g := (mkF m 12 #[.val (.ref a1), .val (.int p2)] [(.ref a1)])) rfl (hb hby d1_12) _ ?_
    show Steps p.tables e below (T4.setTop (mkF m 15 #[.val (.ref a1), .val (.int p2)] [(.long (-9223372036854775808 : Int64)), (.ref a1)])) _
    refine st5 _ ?_
    show Steps p.tables e below (T5.setTop (mkF m 18 #[.val (.ref a1), .val (.int p2)] [])) _
    refine XS.aloadN X5.here hx rfl (hb hby d1_18) rfl rfl ?_
    show Steps p.tables e below (T5.setTop (mkF m 19 #[.val (.ref a1), .val (.int p2)] [(.ref a1)])) _
    refine X5.ldc2Long hx hown (mvT hZ (hw _ (List.mem_of_getElem? (i := 11) rfl))) (g := (mkF m 19 #[.val (.ref a1), .val (.int p2)] [(.ref a1)])) rfl (hb hby d1_19) _ ?_
    show Steps p.tables e below (T5.setTop (mkF m 22 #[.val (.ref a1), .val (.int p2)] [(.long (9223372036854775807 : Int64)), (.ref a1)])) _
    refine st6 _ ?_
    show Steps p.tables e below (T6.setTop (mkF m 25 #[.val (.ref a1), .val (.int p2)] [])) _
    refine XS.aloadN X6.here hx rfl (hb hby d1_25) rfl rfl ?_
    show Steps p.tables e below (T6.setTop (mkF m 26 #[.val (.ref a1), .val (.int p2)] [(.ref a1)])) _
    refine X6.ldc2Long hx hown (mvT hZ (hw _ (List.mem_of_getElem? (i := 14) rfl))) (g := (mkF m 26 #[.val (.ref a1), .val (.int p2)] [(.ref a1)])) rfl (hb hby d1_26) _ ?_
    show Steps p.tables e below (T6.setTop (mkF m 29 #[.val (.ref a1), .val (.int p2)] [(.long (-9223372036854775808 : Int64)), (.ref a1)])) _
    refine st7 _ ?_
    show Steps p.tables e below (T7.setTop (mkF m 32 #[.val (.ref a1), .val (.int p2)] [])) _
    refine XS.aloadN X7.here hx rfl (hb hby d1_32) rfl rfl ?_
    show Steps p.tables e below (T7.setTop (mkF m 33 #[.val (.ref a1), .val (.int p2)] [(.ref a1)])) _
    refine XS.lconst X7.here hx rfl (hb hby d1_33) ?_
    show Steps p.tables e below (T7.setTop (mkF m 34 #[.val (.ref a1), .val (.int p2)] [(.long (1 : Int64)), (.ref a1)])) _
    refine st8 _ ?_
    show Steps p.tables e below (T8.setTop (mkF m 37 #[.val (.ref a1), .val (.int p2)] [])) _
    refine XS.aloadN X8.here hx rfl (hb hby d1_37) rfl rfl ?_
    show Steps p.tables e below (T8.setTop (mkF m 38 #[.val (.ref a1), .val (.int p2)] [(.ref a1)])) _
    refine XS.iconst X8.here hx rfl (hb hby d1_38) ?_
    show Steps p.tables e below (T8.setTop (mkF m 39 #[.val (.ref a1), .val (.int p2)] [(.int (0 : Int32)), (.ref a1)])) _
    refine st9 _ ?_
    show Steps p.tables e below (T9.setTop (mkF m 41 #[.val (.ref a1), .val (.int p2)] [(.ref b9), (.ref a1)])) _
    refine st10 _ ?_
    show Steps p.tables e below (T10.setTop (mkF m 44 #[.val (.ref a1), .val (.int p2)] [])) _
    refine XS.aloadN X10.here hx rfl (hb hby d1_44) rfl rfl ?_
    show Steps p.tables e below (T10.setTop (mkF m 45 #[.val (.ref a1), .val (.int p2)] [(.ref a1)])) _
    refine XS.iloadN X10.here hx rfl (hb hby d1_45) rfl ?_
    show Steps p.tables e below (T10.setTop (mkF m 46 #[.val (.ref a1), .val (.int p2)] [(.int p2), (.ref a1)])) _
    refine st11 _ ?_
    show Steps p.tables e below (T11.setTop (mkF m 49 #[.val (.ref a1), .val (.int p2)] [])) _
    exact X11.returnOut hx Bd.returns (hb hby d1_49) hr
  · show Q1 Z a1 p2 h0 n0 _ T11.heap _
    rw [e11]
    exact ⟨rfl, N11, K11, ⟨b9, D11⟩⟩
def Q8 (Z : State) (a1 : Addr) (q3 : Int64) (q4 : Int64) (d : Nat) (h0 : Heap) (n0 : Nat) (v : Option Value) (h : Heap) (L : List Loc) : Prop := v = some (.int (1 : Int32)) ∧ Fr n0 L ∧ Keep h0 h []
set_option maxRecDepth 65536 in
set_option maxHeartbeats 40000000 in
theorem rm8 (l : Launch) (Z : State) (a0 : Array Value) (hw : ∀ d ∈ tables_1, d.before a0 Z = true) (ws : List Jvm.Cond) (a1 : Addr) (q3 : Int64) (q4 : Int64) (d : Nat) (h0 : Heap) (n0 : Nat) (Z0 : n0 ≤ h0.size) (hd : d ≤ 3) (eg : q4 = q3 + (Int32.ofNat d).toInt64) (A : OwA Z h0 a1 .long 1 (fun _ => .long q3)) :
    MetFree l (⟨"com/example/fairjoin/fairjoin/operator/DirectKeys", "allDifferent", "([JIJJ)Z"⟩ : MethodName) (head1 (Jvm.Cond.code (⟨"com/example/fairjoin/fairjoin/operator/DirectKeys", "allDifferent", "([JIJJ)Z"⟩ : MethodName) prog_151_method_18_code 9 (some .boolean) :: ws) ({ frames := 3, cells := 1, slots := 1, locals := 47 } : Room)) (fun a U => a = #[(.ref a1), (.int (1 : Int32)), (.long q3), (.long q4)] ∧ Z.Warmed39 U.vm ∧ U.heap = h0) (fun _ _ _ _ _ => True) (fun _ U o U' => ∃ v L, o = .returned v ∧ Q8 Z a1 q3 q4 d h0 n0 v U'.heap L ∧ FrameEnd U o U' L ({ frames := 3, cells := 1, slots := 1, locals := 47 } : Room).cells ({ frames := 3, cells := 1, slots := 1, locals := 47 } : Room).slots) := by
  refine MetFree.of_bodySF (plainFor_of_name pn_8) hisR ?_
  intro p e s m args below meth c s₁ Bd hml0 hP hK
  obtain ⟨rfl, hZ, hh⟩ := hP
  have hx := Bd.exec
  have hby := Bd.bytes
  have hml : c.maxLocals = 9 := hml0
  have hown : s.vm.findClass "com/example/fairjoin/fairjoin/operator/DirectKeys" = some m.cls := findClass_of_methodNamed Bd.named
  have hnm := (name_of_methodNamed Bd.named Bd.method).1
  have X0 : Stand p l e ({ frames := 3, cells := 1, slots := 1, locals := 47 } : Room) s m #[(.ref a1), (.int (1 : Int32)), (.long q3), (.long q4)] below meth c s₁ [] 0 0 := Stand.of_body Bd
  have e0 : s₁.heap = h0 := by rw [← hh, Bd.state]; rfl
  have N0 := Fr.nil n0
  have pre0 : ∀ t, Steps p.tables e below (s₁.setTop (mkF m 0 #[.val (.ref a1), .val (.int (1 : Int32)), .val (.long q3), .second, .val (.long q4), .second, .unset, .unset, .unset] [])) t → Steps p.tables e below (s₁.setTop (entryFrame m #[(.ref a1), (.int (1 : Int32)), (.long q3), (.long q4)] 9)) t := fun t ktt => castTop (ef_8 m a1 (1 : Int32) q3 q4) ktt
  obtain ⟨_, _, ⟨T5, L5, k5, n5⟩, -, X5, ⟨Lc5, hQ5, l5, y5, z5⟩, st5⟩ := Jvm.LawKit.callS X0 hx (y := (⟨"com/example/fairjoin/fairjoin/operator/DirectKeys", "closeTogether", "(JJJ)Z"⟩ : MethodName)) hown (mvT hZ (hw _ (List.mem_of_getElem? (i := 53) rfl))) (mvT hZ (hw _ (List.mem_of_getElem? (i := 54) rfl))) (mvT hZ (hw _ (List.mem_of_getElem? (i := 4) rfl))) (mvT hZ (hw _ (List.mem_of_getElem? (i := 55) rfl))) (by decide) (backOf (W := 0) (rm9 l Z a0 hw [] q3 q4 ((1 : Int32).toInt64) h0 n0 Z0 (fun _ => own_close _ _ d hd eg)) hZ (hw _ (List.mem_of_getElem? (i := 55) rfl)) (hw _ (List.mem_of_getElem? (i := 4) rfl)) (by decide) (by decide)) (g := (mkF m 5 #[.val (.ref a1), .val (.int (1 : Int32)), .val (.long q3), .second, .val (.long q4), .second, .unset, .unset, .unset] [(.long ((1 : Int32).toInt64)), (.long q4), (.long q3)])) rfl (by rw [hml]; rfl) (argsL := [(.long q3), (.long q4), (.long ((1 : Int32).toInt64))]) (rest := []) (lenOf pd_8_7 rfl) rfl (by show 2 * 0 + _ ≤ _; exact Nat.le_of_eq rfl) (hb hby d8_5) (fun _ _ => ⟨rfl, e0, (by decide : 0 + 0 ≤ _), (by decide : 0 + 0 ≤ _)⟩)
  dsimp only [Pt.U, Pt.locs, Pt.cells, Pt.slots] at X5 l5 y5 z5 st5 hQ5
  subst l5 y5 z5
  obtain ⟨rfl, N5q, e5⟩ := hQ5
  have Z5 : n0 ≤ T5.heap.size := by rw [e5]; exact Z0
  have K5 : Keep h0 T5.heap [] := by rw [e5]; exact Keep.refl _ _
  have N5 := Fr.app N0 N5q
  obtain ⟨T6, h6, k6, X6, e6, E6, A6, st6⟩ := newP X5 hx hZ (hw _ (List.mem_of_getElem? (i := 1) rfl)) rfl (g := (mkF m 26 #[.val (.ref a1), .val (.int (1 : Int32)), .val (.long q3), .second, .val (.long q4), .second, .unset, .unset, .unset] [(.int (1 : Int32))])) rfl (hb hby d8_26) rfl (by decide) (cap := 1) (by decide) (by decide) (by decide) (by decide)
  obtain ⟨b6, g6⟩ : ∃ z, z = T5.heap.size := ⟨_, rfl⟩
  rw [← g6] at A6 st6
  have B6 : OwA Z h6 b6 .long 1 (fun _ => .long 0) := owa_new A6 (by decide)
  have g_b6 : n0 ≤ b6 := Nat.le_trans Z5 (Nat.le_of_eq g6.symm)
  have sz_b6 : h0.size ≤ b6 := Nat.le_trans K5.1 (Nat.le_of_eq g6.symm)
  have K6 : Keep h0 h6 [] := K5.ext E6
  have A6' := owa_ext (owa_heap A e5) E6
  obtain ⟨cl_a1, Ar_a1, S_a1, H_a1⟩ := A6'
  have hin42 : ¬ ((0 : Int32) < 0 ∨ cl_a1.slots.size ≤ ((0 : Int32)).toNatClampNeg) := owa_in S_a1 (by decide) (by decide)
  have hat42 : cl_a1.slots[((0 : Int32)).toNatClampNeg]? = some (.long q3) := H_a1 0 (by decide)
  obtain ⟨cl_b6, Ar_b6, S_b6, H_b6⟩ := B6
  have hin55 : ¬ ((((0 : Int32).toUInt32 >>> ((6 : Int32) &&& 31).toUInt32).toInt32) < 0 ∨ cl_b6.slots.size ≤ ((((0 : Int32).toUInt32 >>> ((6 : Int32) &&& 31).toUInt32).toInt32)).toNatClampNeg) := owa_in S_b6 (by decide) (by decide)
  have hat55 : cl_b6.slots[((((0 : Int32).toUInt32 >>> ((6 : Int32) &&& 31).toUInt32).toInt32)).toNatClampNeg]? = some (.long (0 : Int64)) := H_b6 0 (by decide)
  have hin76 := hin55
  have hat76 := hat55
  have hin82 := hin55
  have hnz24 : ¬ ((64 : Int64) = (0 : Int64)) := by decide
  have hz0 : (q3 - q3).toInt32 = (0 : Int32) := by rw [Int64.sub_self]; decide
  have hsz : ((((q4 - q3) + (64 : Int64)) / (64 : Int64)).toInt32) = (1 : Int32) := own_one64 _ _ d hd eg
  have hc36 : (0 : Int32) < (1 : Int32) := by decide
  have hc36b : ¬ (((0 : Int32) + (1 : Int32)) < (1 : Int32)) := by decide
  have hc63 : (lcmpW ((0 : Int64) &&& ((1 : Int64) <<< ((0 : Int32) &&& 0x3f).toInt64)) (0 : Int64)) = (0 : Int32) := by decide
  obtain ⟨T10, h10, X10, e10, W10, st10⟩ := stJ X6 hx hZ e6 Ar_b6 (j := (((0 : Int32).toUInt32 >>> ((6 : Int32) &&& 31).toUInt32).toInt32)) hin82 (g := (mkF m 82 #[.val (.ref a1), .val (.int (1 : Int32)), .val (.long q3), .second, .val (.long q4), .second, .val (.ref b6), .val (.int (0 : Int32)), .val (.int (0 : Int32))] [(.long ((0 : Int64) ||| ((1 : Int64) <<< ((0 : Int32) &&& 0x3f).toInt64))), (.int (((0 : Int32).toUInt32 >>> ((6 : Int32) &&& 31).toUInt32).toInt32)), (.ref b6)])) rfl rfl (hb hby d8_82)
  have K10 : Keep h0 h10 [] := K6.wr W10 (Or.inr sz_b6)
  have N10 := Fr.snoc X10 N5 g_b6
  obtain ⟨fsr, hr, hrun, hended, hW, hsame⟩ := X10.leave (v := some (.int (1 : Int32))) (fun h => by rw [Bd.returns] at h; cases h)
  refine ⟨_, _, pre0 _ ?_, hrun, hended, _, _, rfl, ?_, ⟨_, rfl⟩, hW, hsame.mono (by decide) (by decide)⟩
  · show Steps p.tables e below (s₁.setTop (mkF m 0 #[.val (.ref a1), .val (.int (1 : Int32)), .val (.long q3), .second, .val (.long q4), .second, .unset, .unset, .unset] [])) _
    refine XS.lloadN X0.here hx rfl (hb hby d8_0) rfl ?_
    show Steps p.tables e below (s₁.setTop (mkF m 1 #[.val (.ref a1), .val (.int (1 : Int32)), .val (.long q3), .second, .val (.long q4), .second, .unset, .unset, .unset] [(.long q3)])) _
    refine XS.lload X0.here hx rfl (hb hby d8_1) rfl ?_
    show Steps p.tables e below (s₁.setTop (mkF m 3 #[.val (.ref a1), .val (.int (1 : Int32)), .val (.long q3), .second, .val (.long q4), .second, .unset, .unset, .unset] [(.long q4), (.long q3)])) _
    refine XS.iloadN X0.here hx rfl (hb hby d8_3) rfl ?_
    show Steps p.tables e below (s₁.setTop (mkF m 4 #[.val (.ref a1), .val (.int (1 : Int32)), .val (.long q3), .second, .val (.long q4), .second, .unset, .unset, .unset] [(.int (1 : Int32)), (.long q4), (.long q3)])) _
    refine XS.i2l X0.here hx rfl (hb hby d8_4) rfl ?_
    show Steps p.tables e below (s₁.setTop (mkF m 5 #[.val (.ref a1), .val (.int (1 : Int32)), .val (.long q3), .second, .val (.long q4), .second, .unset, .unset, .unset] [(.long ((1 : Int32).toInt64)), (.long q4), (.long q3)])) _
    refine st5 _ ?_
    show Steps p.tables e below (T5.setTop (mkF m 8 #[.val (.ref a1), .val (.int (1 : Int32)), .val (.long q3), .second, .val (.long q4), .second, .unset, .unset, .unset] [(.int (1 : Int32))])) _
    refine XS.ifYes X5.here hx rfl (pc0 := 8) (pc' := 13) rfl (hb hby d8_8) rfl ((if0 _ _).trans (feq (by decide : ¬ ((1 : Int32) = (0 : Int32)))).2) (by decide) (by decide) ?_
    show Steps p.tables e below (T5.setTop (mkF m 13 #[.val (.ref a1), .val (.int (1 : Int32)), .val (.long q3), .second, .val (.long q4), .second, .unset, .unset, .unset] [])) _
    refine XS.lload X5.here hx rfl (hb hby d8_13) rfl ?_
    show Steps p.tables e below (T5.setTop (mkF m 15 #[.val (.ref a1), .val (.int (1 : Int32)), .val (.long q3), .second, .val (.long q4), .second, .unset, .unset, .unset] [(.long q4)])) _
    refine XS.lloadN X5.here hx rfl (hb hby d8_15) rfl ?_
    show Steps p.tables e below (T5.setTop (mkF m 16 #[.val (.ref a1), .val (.int (1 : Int32)), .val (.long q3), .second, .val (.long q4), .second, .unset, .unset, .unset] [(.long q3), (.long q4)])) _
    refine XS.lsub X5.here hx rfl (hb hby d8_16) rfl ?_
    show Steps p.tables e below (T5.setTop (mkF m 17 #[.val (.ref a1), .val (.int (1 : Int32)), .val (.long q3), .second, .val (.long q4), .second, .unset, .unset, .unset] [(.long (q4 - q3))])) _
    refine X5.ldc2Long hx hown (mvT hZ (hw _ (List.mem_of_getElem? (i := 66) rfl))) (g := (mkF m 17 #[.val (.ref a1), .val (.int (1 : Int32)), .val (.long q3), .second, .val (.long q4), .second, .unset, .unset, .unset] [(.long (q4 - q3))])) rfl (hb hby d8_17) _ ?_
    show Steps p.tables e below (T5.setTop (mkF m 20 #[.val (.ref a1), .val (.int (1 : Int32)), .val (.long q3), .second, .val (.long q4), .second, .unset, .unset, .unset] [(.long (64 : Int64)), (.long (q4 - q3))])) _
    refine XS.ladd X5.here hx rfl (hb hby d8_20) rfl ?_
    show Steps p.tables e below (T5.setTop (mkF m 21 #[.val (.ref a1), .val (.int (1 : Int32)), .val (.long q3), .second, .val (.long q4), .second, .unset, .unset, .unset] [(.long ((q4 - q3) + (64 : Int64)))])) _
    refine X5.ldc2Long hx hown (mvT hZ (hw _ (List.mem_of_getElem? (i := 66) rfl))) (g := (mkF m 21 #[.val (.ref a1), .val (.int (1 : Int32)), .val (.long q3), .second, .val (.long q4), .second, .unset, .unset, .unset] [(.long ((q4 - q3) + (64 : Int64)))])) rfl (hb hby d8_21) _ ?_
    show Steps p.tables e below (T5.setTop (mkF m 24 #[.val (.ref a1), .val (.int (1 : Int32)), .val (.long q3), .second, .val (.long q4), .second, .unset, .unset, .unset] [(.long (64 : Int64)), (.long ((q4 - q3) + (64 : Int64)))])) _
    refine XS.ldiv X5.here hx rfl (hb hby d8_24) rfl hnz24 ?_
    show Steps p.tables e below (T5.setTop (mkF m 25 #[.val (.ref a1), .val (.int (1 : Int32)), .val (.long q3), .second, .val (.long q4), .second, .unset, .unset, .unset] [(.long (((q4 - q3) + (64 : Int64)) / (64 : Int64)))])) _
    refine XS.l2i X5.here hx rfl (hb hby d8_25) rfl ?_
    rw [hsz]
    show Steps p.tables e below (T5.setTop (mkF m 26 #[.val (.ref a1), .val (.int (1 : Int32)), .val (.long q3), .second, .val (.long q4), .second, .unset, .unset, .unset] [(.int (1 : Int32))])) _
    refine st6 _ ?_
    show Steps p.tables e below (T6.setTop (mkF m 28 #[.val (.ref a1), .val (.int (1 : Int32)), .val (.long q3), .second, .val (.long q4), .second, .unset, .unset, .unset] [(.ref b6)])) _
    refine XS.astore X6.here hx rfl (hb hby d8_28) rfl rfl (l' := #[.val (.ref a1), .val (.int (1 : Int32)), .val (.long q3), .second, .val (.long q4), .second, .val (.ref b6), .unset, .unset]) rfl ?_
    show Steps p.tables e below (T6.setTop (mkF m 30 #[.val (.ref a1), .val (.int (1 : Int32)), .val (.long q3), .second, .val (.long q4), .second, .val (.ref b6), .unset, .unset] [])) _
    refine XS.iconst X6.here hx rfl (hb hby d8_30) ?_
    show Steps p.tables e below (T6.setTop (mkF m 31 #[.val (.ref a1), .val (.int (1 : Int32)), .val (.long q3), .second, .val (.long q4), .second, .val (.ref b6), .unset, .unset] [(.int (0 : Int32))])) _
    refine XS.istore X6.here hx rfl (hb hby d8_31) rfl (l' := #[.val (.ref a1), .val (.int (1 : Int32)), .val (.long q3), .second, .val (.long q4), .second, .val (.ref b6), .val (.int (0 : Int32)), .unset]) rfl ?_
    show Steps p.tables e below (T6.setTop (mkF m 33 #[.val (.ref a1), .val (.int (1 : Int32)), .val (.long q3), .second, .val (.long q4), .second, .val (.ref b6), .val (.int (0 : Int32)), .unset] [])) _
    refine XS.iload X6.here hx rfl (hb hby d8_33) rfl ?_
    show Steps p.tables e below (T6.setTop (mkF m 35 #[.val (.ref a1), .val (.int (1 : Int32)), .val (.long q3), .second, .val (.long q4), .second, .val (.ref b6), .val (.int (0 : Int32)), .unset] [(.int (0 : Int32))])) _
    refine XS.iloadN X6.here hx rfl (hb hby d8_35) rfl ?_
    show Steps p.tables e below (T6.setTop (mkF m 36 #[.val (.ref a1), .val (.int (1 : Int32)), .val (.long q3), .second, .val (.long q4), .second, .val (.ref b6), .val (.int (0 : Int32)), .unset] [(.int (1 : Int32)), (.int (0 : Int32))])) _
    refine XS.icmpNo X6.here hx rfl (hb hby d8_36) rfl (tlt hc36).2.1 ?_
    show Steps p.tables e below (T6.setTop (mkF m 39 #[.val (.ref a1), .val (.int (1 : Int32)), .val (.long q3), .second, .val (.long q4), .second, .val (.ref b6), .val (.int (0 : Int32)), .unset] [])) _
    refine XS.aloadN X6.here hx rfl (hb hby d8_39) rfl rfl ?_
    show Steps p.tables e below (T6.setTop (mkF m 40 #[.val (.ref a1), .val (.int (1 : Int32)), .val (.long q3), .second, .val (.long q4), .second, .val (.ref b6), .val (.int (0 : Int32)), .unset] [(.ref a1)])) _
    refine XS.iload X6.here hx rfl (hb hby d8_40) rfl ?_
    show Steps p.tables e below (T6.setTop (mkF m 42 #[.val (.ref a1), .val (.int (1 : Int32)), .val (.long q3), .second, .val (.long q4), .second, .val (.ref b6), .val (.int (0 : Int32)), .unset] [(.int (0 : Int32)), (.ref a1)])) _
    refine X6.laload hx (j := (0 : Int32)) (v := (.long q3)) (by rw [e6]; exact Ar_a1.1) (State.isArrayOf_alike hZ.alike Ar_a1.2.1) Ar_a1.2.2 hin42 hat42 (g := (mkF m 42 #[.val (.ref a1), .val (.int (1 : Int32)), .val (.long q3), .second, .val (.long q4), .second, .val (.ref b6), .val (.int (0 : Int32)), .unset] [(.int (0 : Int32)), (.ref a1)])) rfl rfl (hb hby d8_42) _ ?_
    show Steps p.tables e below (T6.setTop (mkF m 43 #[.val (.ref a1), .val (.int (1 : Int32)), .val (.long q3), .second, .val (.long q4), .second, .val (.ref b6), .val (.int (0 : Int32)), .unset] [(.long q3)])) _
    refine XS.lloadN X6.here hx rfl (hb hby d8_43) rfl ?_
    show Steps p.tables e below (T6.setTop (mkF m 44 #[.val (.ref a1), .val (.int (1 : Int32)), .val (.long q3), .second, .val (.long q4), .second, .val (.ref b6), .val (.int (0 : Int32)), .unset] [(.long q3), (.long q3)])) _
    refine XS.lsub X6.here hx rfl (hb hby d8_44) rfl ?_
    show Steps p.tables e below (T6.setTop (mkF m 45 #[.val (.ref a1), .val (.int (1 : Int32)), .val (.long q3), .second, .val (.long q4), .second, .val (.ref b6), .val (.int (0 : Int32)), .unset] [(.long (q3 - q3))])) _
    refine XS.l2i X6.here hx rfl (hb hby d8_45) rfl ?_
    rw [hz0]
    show Steps p.tables e below (T6.setTop (mkF m 46 #[.val (.ref a1), .val (.int (1 : Int32)), .val (.long q3), .second, .val (.long q4), .second, .val (.ref b6), .val (.int (0 : Int32)), .unset] [(.int (0 : Int32))])) _
    refine XS.istore X6.here hx rfl (hb hby d8_46) rfl (l' := #[.val (.ref a1), .val (.int (1 : Int32)), .val (.long q3), .second, .val (.long q4), .second, .val (.ref b6), .val (.int (0 : Int32)), .val (.int (0 : Int32))]) rfl ?_
    show Steps p.tables e below (T6.setTop (mkF m 48 #[.val (.ref a1), .val (.int (1 : Int32)), .val (.long q3), .second, .val (.long q4), .second, .val (.ref b6), .val (.int (0 : Int32)), .val (.int (0 : Int32))] [])) _
    refine XS.aload X6.here hx rfl (hb hby d8_48) rfl rfl ?_
    show Steps p.tables e below (T6.setTop (mkF m 50 #[.val (.ref a1), .val (.int (1 : Int32)), .val (.long q3), .second, .val (.long q4), .second, .val (.ref b6), .val (.int (0 : Int32)), .val (.int (0 : Int32))] [(.ref b6)])) _
    refine XS.iload X6.here hx rfl (hb hby d8_50) rfl ?_
    show Steps p.tables e below (T6.setTop (mkF m 52 #[.val (.ref a1), .val (.int (1 : Int32)), .val (.long q3), .second, .val (.long q4), .second, .val (.ref b6), .val (.int (0 : Int32)), .val (.int (0 : Int32))] [(.int (0 : Int32)), (.ref b6)])) _
    refine XS.bipush X6.here hx rfl (hb hby d8_52) ?_
    show Steps p.tables e below (T6.setTop (mkF m 54 #[.val (.ref a1), .val (.int (1 : Int32)), .val (.long q3), .second, .val (.long q4), .second, .val (.ref b6), .val (.int (0 : Int32)), .val (.int (0 : Int32))] [(.int (6 : Int32)), (.int (0 : Int32)), (.ref b6)])) _
    refine XS.iushr X6.here hx rfl (hb hby d8_54) rfl ?_
    show Steps p.tables e below (T6.setTop (mkF m 55 #[.val (.ref a1), .val (.int (1 : Int32)), .val (.long q3), .second, .val (.long q4), .second, .val (.ref b6), .val (.int (0 : Int32)), .val (.int (0 : Int32))] [(.int (((0 : Int32).toUInt32 >>> ((6 : Int32) &&& 31).toUInt32).toInt32)), (.ref b6)])) _
    refine X6.laload hx (j := (((0 : Int32).toUInt32 >>> ((6 : Int32) &&& 31).toUInt32).toInt32)) (v := (.long (0 : Int64))) (by rw [e6]; exact Ar_b6.1) (State.isArrayOf_alike hZ.alike Ar_b6.2.1) Ar_b6.2.2 hin55 hat55 (g := (mkF m 55 #[.val (.ref a1), .val (.int (1 : Int32)), .val (.long q3), .second, .val (.long q4), .second, .val (.ref b6), .val (.int (0 : Int32)), .val (.int (0 : Int32))] [(.int (((0 : Int32).toUInt32 >>> ((6 : Int32) &&& 31).toUInt32).toInt32)), (.ref b6)])) rfl rfl (hb hby d8_55) _ ?_
    show Steps p.tables e below (T6.setTop (mkF m 56 #[.val (.ref a1), .val (.int (1 : Int32)), .val (.long q3), .second, .val (.long q4), .second, .val (.ref b6), .val (.int (0 : Int32)), .val (.int (0 : Int32))] [(.long (0 : Int64))])) _
    refine XS.lconst X6.here hx rfl (hb hby d8_56) ?_
    show Steps p.tables e below (T6.setTop (mkF m 57 #[.val (.ref a1), .val (.int (1 : Int32)), .val (.long q3), .second, .val (.long q4), .second, .val (.ref b6), .val (.int (0 : Int32)), .val (.int (0 : Int32))] [(.long (1 : Int64)), (.long (0 : Int64))])) _
    refine XS.iload X6.here hx rfl (hb hby d8_57) rfl ?_
    show Steps p.tables e below (T6.setTop (mkF m 59 #[.val (.ref a1), .val (.int (1 : Int32)), .val (.long q3), .second, .val (.long q4), .second, .val (.ref b6), .val (.int (0 : Int32)), .val (.int (0 : Int32))] [(.int (0 : Int32)), (.long (1 : Int64)), (.long (0 : Int64))])) _
    refine XS.lshl X6.here hx rfl (hb hby d8_59) rfl ?_
    show Steps p.tables e below (T6.setTop (mkF m 60 #[.val (.ref a1), .val (.int (1 : Int32)), .val (.long q3), .second, .val (.long q4), .second, .val (.ref b6), .val (.int (0 : Int32)), .val (.int (0 : Int32))] [(.long ((1 : Int64) <<< ((0 : Int32) &&& 0x3f).toInt64)), (.long (0 : Int64))])) _
    refine XS.land X6.here hx rfl (hb hby d8_60) rfl ?_
    show Steps p.tables e below (T6.setTop (mkF m 61 #[.val (.ref a1), .val (.int (1 : Int32)), .val (.long q3), .second, .val (.long q4), .second, .val (.ref b6), .val (.int (0 : Int32)), .val (.int (0 : Int32))] [(.long ((0 : Int64) &&& ((1 : Int64) <<< ((0 : Int32) &&& 0x3f).toInt64)))])) _
    refine XS.lconst X6.here hx rfl (hb hby d8_61) ?_
    show Steps p.tables e below (T6.setTop (mkF m 62 #[.val (.ref a1), .val (.int (1 : Int32)), .val (.long q3), .second, .val (.long q4), .second, .val (.ref b6), .val (.int (0 : Int32)), .val (.int (0 : Int32))] [(.long (0 : Int64)), (.long ((0 : Int64) &&& ((1 : Int64) <<< ((0 : Int32) &&& 0x3f).toInt64)))])) _
    refine XS.lcmp X6.here hx rfl (hb hby d8_62) rfl ?_
    show Steps p.tables e below (T6.setTop (mkF m 63 #[.val (.ref a1), .val (.int (1 : Int32)), .val (.long q3), .second, .val (.long q4), .second, .val (.ref b6), .val (.int (0 : Int32)), .val (.int (0 : Int32))] [(.int (lcmpW ((0 : Int64) &&& ((1 : Int64) <<< ((0 : Int32) &&& 0x3f).toInt64)) (0 : Int64)))])) _
    refine XS.ifYes X6.here hx rfl (pc0 := 63) (pc' := 68) rfl (hb hby d8_63) rfl ((if0 _ _).trans (teq hc63).1) (by decide) (by decide) ?_
    show Steps p.tables e below (T6.setTop (mkF m 68 #[.val (.ref a1), .val (.int (1 : Int32)), .val (.long q3), .second, .val (.long q4), .second, .val (.ref b6), .val (.int (0 : Int32)), .val (.int (0 : Int32))] [])) _
    refine XS.aload X6.here hx rfl (hb hby d8_68) rfl rfl ?_
    show Steps p.tables e below (T6.setTop (mkF m 70 #[.val (.ref a1), .val (.int (1 : Int32)), .val (.long q3), .second, .val (.long q4), .second, .val (.ref b6), .val (.int (0 : Int32)), .val (.int (0 : Int32))] [(.ref b6)])) _
    refine XS.iload X6.here hx rfl (hb hby d8_70) rfl ?_
    show Steps p.tables e below (T6.setTop (mkF m 72 #[.val (.ref a1), .val (.int (1 : Int32)), .val (.long q3), .second, .val (.long q4), .second, .val (.ref b6), .val (.int (0 : Int32)), .val (.int (0 : Int32))] [(.int (0 : Int32)), (.ref b6)])) _
    refine XS.bipush X6.here hx rfl (hb hby d8_72) ?_
    show Steps p.tables e below (T6.setTop (mkF m 74 #[.val (.ref a1), .val (.int (1 : Int32)), .val (.long q3), .second, .val (.long q4), .second, .val (.ref b6), .val (.int (0 : Int32)), .val (.int (0 : Int32))] [(.int (6 : Int32)), (.int (0 : Int32)), (.ref b6)])) _
    refine XS.iushr X6.here hx rfl (hb hby d8_74) rfl ?_
    show Steps p.tables e below (T6.setTop (mkF m 75 #[.val (.ref a1), .val (.int (1 : Int32)), .val (.long q3), .second, .val (.long q4), .second, .val (.ref b6), .val (.int (0 : Int32)), .val (.int (0 : Int32))] [(.int (((0 : Int32).toUInt32 >>> ((6 : Int32) &&& 31).toUInt32).toInt32)), (.ref b6)])) _
    jvm_step X6.here [X6.here.top, hx, (hb hby d8_75), Value.category]
    show Steps p.tables e below (T6.setTop (mkF m 76 #[.val (.ref a1), .val (.int (1 : Int32)), .val (.long q3), .second, .val (.long q4), .second, .val (.ref b6), .val (.int (0 : Int32)), .val (.int (0 : Int32))] [(.int (((0 : Int32).toUInt32 >>> ((6 : Int32) &&& 31).toUInt32).toInt32)), (.ref b6), (.int (((0 : Int32).toUInt32 >>> ((6 : Int32) &&& 31).toUInt32).toInt32)), (.ref b6)])) _
    refine X6.laload hx (j := (((0 : Int32).toUInt32 >>> ((6 : Int32) &&& 31).toUInt32).toInt32)) (v := (.long (0 : Int64))) (by rw [e6]; exact Ar_b6.1) (State.isArrayOf_alike hZ.alike Ar_b6.2.1) Ar_b6.2.2 hin76 hat76 (g := (mkF m 76 #[.val (.ref a1), .val (.int (1 : Int32)), .val (.long q3), .second, .val (.long q4), .second, .val (.ref b6), .val (.int (0 : Int32)), .val (.int (0 : Int32))] [(.int (((0 : Int32).toUInt32 >>> ((6 : Int32) &&& 31).toUInt32).toInt32)), (.ref b6), (.int (((0 : Int32).toUInt32 >>> ((6 : Int32) &&& 31).toUInt32).toInt32)), (.ref b6)])) rfl rfl (hb hby d8_76) _ ?_
    show Steps p.tables e below (T6.setTop (mkF m 77 #[.val (.ref a1), .val (.int (1 : Int32)), .val (.long q3), .second, .val (.long q4), .second, .val (.ref b6), .val (.int (0 : Int32)), .val (.int (0 : Int32))] [(.long (0 : Int64)), (.int (((0 : Int32).toUInt32 >>> ((6 : Int32) &&& 31).toUInt32).toInt32)), (.ref b6)])) _
    refine XS.lconst X6.here hx rfl (hb hby d8_77) ?_
    show Steps p.tables e below (T6.setTop (mkF m 78 #[.val (.ref a1), .val (.int (1 : Int32)), .val (.long q3), .second, .val (.long q4), .second, .val (.ref b6), .val (.int (0 : Int32)), .val (.int (0 : Int32))] [(.long (1 : Int64)), (.long (0 : Int64)), (.int (((0 : Int32).toUInt32 >>> ((6 : Int32) &&& 31).toUInt32).toInt32)), (.ref b6)])) _
    refine XS.iload X6.here hx rfl (hb hby d8_78) rfl ?_
    show Steps p.tables e below (T6.setTop (mkF m 80 #[.val (.ref a1), .val (.int (1 : Int32)), .val (.long q3), .second, .val (.long q4), .second, .val (.ref b6), .val (.int (0 : Int32)), .val (.int (0 : Int32))] [(.int (0 : Int32)), (.long (1 : Int64)), (.long (0 : Int64)), (.int (((0 : Int32).toUInt32 >>> ((6 : Int32) &&& 31).toUInt32).toInt32)), (.ref b6)])) _
    refine XS.lshl X6.here hx rfl (hb hby d8_80) rfl ?_
    show Steps p.tables e below (T6.setTop (mkF m 81 #[.val (.ref a1), .val (.int (1 : Int32)), .val (.long q3), .second, .val (.long q4), .second, .val (.ref b6), .val (.int (0 : Int32)), .val (.int (0 : Int32))] [(.long ((1 : Int64) <<< ((0 : Int32) &&& 0x3f).toInt64)), (.long (0 : Int64)), (.int (((0 : Int32).toUInt32 >>> ((6 : Int32) &&& 31).toUInt32).toInt32)), (.ref b6)])) _
    refine XS.lor X6.here hx rfl (hb hby d8_81) rfl ?_
    show Steps p.tables e below (T6.setTop (mkF m 82 #[.val (.ref a1), .val (.int (1 : Int32)), .val (.long q3), .second, .val (.long q4), .second, .val (.ref b6), .val (.int (0 : Int32)), .val (.int (0 : Int32))] [(.long ((0 : Int64) ||| ((1 : Int64) <<< ((0 : Int32) &&& 0x3f).toInt64))), (.int (((0 : Int32).toUInt32 >>> ((6 : Int32) &&& 31).toUInt32).toInt32)), (.ref b6)])) _
    refine st10 _ ?_
    show Steps p.tables e below (T10.setTop (mkF m 83 #[.val (.ref a1), .val (.int (1 : Int32)), .val (.long q3), .second, .val (.long q4), .second, .val (.ref b6), .val (.int (0 : Int32)), .val (.int (0 : Int32))] [])) _
    refine XS.iinc X10.here hx rfl (hb hby d8_83) rfl (l' := #[.val (.ref a1), .val (.int (1 : Int32)), .val (.long q3), .second, .val (.long q4), .second, .val (.ref b6), .val (.int ((0 : Int32) + (1 : Int32))), .val (.int (0 : Int32))]) rfl ?_
    show Steps p.tables e below (T10.setTop (mkF m 86 #[.val (.ref a1), .val (.int (1 : Int32)), .val (.long q3), .second, .val (.long q4), .second, .val (.ref b6), .val (.int ((0 : Int32) + (1 : Int32))), .val (.int (0 : Int32))] [])) _
    refine XS.goto X10.here hx rfl (pc0 := 86) (pc' := 33) rfl (hb hby d8_86) (by decide) (by decide) ?_
    show Steps p.tables e below (T10.setTop (mkF m 33 #[.val (.ref a1), .val (.int (1 : Int32)), .val (.long q3), .second, .val (.long q4), .second, .val (.ref b6), .val (.int ((0 : Int32) + (1 : Int32))), .val (.int (0 : Int32))] [])) _
    refine XS.iload X10.here hx rfl (hb hby d8_33) rfl ?_
    show Steps p.tables e below (T10.setTop (mkF m 35 #[.val (.ref a1), .val (.int (1 : Int32)), .val (.long q3), .second, .val (.long q4), .second, .val (.ref b6), .val (.int ((0 : Int32) + (1 : Int32))), .val (.int (0 : Int32))] [(.int ((0 : Int32) + (1 : Int32)))])) _
    refine XS.iloadN X10.here hx rfl (hb hby d8_35) rfl ?_
    show Steps p.tables e below (T10.setTop (mkF m 36 #[.val (.ref a1), .val (.int (1 : Int32)), .val (.long q3), .second, .val (.long q4), .second, .val (.ref b6), .val (.int ((0 : Int32) + (1 : Int32))), .val (.int (0 : Int32))] [(.int (1 : Int32)), (.int ((0 : Int32) + (1 : Int32)))])) _
    refine XS.icmpYes X10.here hx rfl (pc0 := 36) (pc' := 89) rfl (hb hby d8_36) rfl (flt hc36b).2.1 (by decide) (by decide) ?_
    show Steps p.tables e below (T10.setTop (mkF m 89 #[.val (.ref a1), .val (.int (1 : Int32)), .val (.long q3), .second, .val (.long q4), .second, .val (.ref b6), .val (.int ((0 : Int32) + (1 : Int32))), .val (.int (0 : Int32))] [])) _
    refine XS.iconst X10.here hx rfl (hb hby d8_89) ?_
    show Steps p.tables e below (T10.setTop (mkF m 90 #[.val (.ref a1), .val (.int (1 : Int32)), .val (.long q3), .second, .val (.long q4), .second, .val (.ref b6), .val (.int ((0 : Int32) + (1 : Int32))), .val (.int (0 : Int32))] [(.int (1 : Int32))])) _
    exact retN X10 hx (t := .boolean) Bd.returns (by simp) (hb hby d8_90) hr
  · show Q8 Z a1 q3 q4 d h0 n0 _ T10.heap _
    rw [e10]
    exact ⟨rfl, N10, K10⟩
def Q7 (Z : State) (a1 : Addr) (a2 : Addr) (d : Nat) (lf gf ls gs fb fs sb ss : Int64) (nu : Value) (bf : Int32) (se : Value) (h0 : Heap) (n0 : Nat) (v : Option Value) (h : Heap) (L : List Loc) : Prop := v = some (.int (1 : Int32)) ∧ Fr n0 L ∧ Keep h0 h [a1] ∧ ∃ t1 t2 : Addr, DK Z h a1 2 lf gf ls gs lf (Int32.ofNat (d + 1)).toInt64 0 1 (.ref t1) 1 (.ref t2) ∧ OwA Z h t1 .int (d + 1) (fun _ => .int 0) ∧ OwA Z h t2 .long (d + 1) (fun _ => .long 0) ∧ t1 ≠ t2 ∧ t1 ≠ a1 ∧ t2 ≠ a1 ∧ n0 ≤ t1 ∧ n0 ≤ t2
set_option maxRecDepth 65536 in
set_option maxHeartbeats 40000000 in
theorem rm7 (l : Launch) (Z : State) (a0 : Array Value) (hw : ∀ d ∈ tables_1, d.before a0 Z = true) (ws : List Jvm.Cond) (a1 : Addr) (a2 : Addr) (d : Nat) (lf gf ls gs fb fs sb ss : Int64) (nu : Value) (bf : Int32) (se : Value) (h0 : Heap) (n0 : Nat) (Z0 : n0 ≤ h0.size) (g_a1 : n0 ≤ a1) (hd : d ≤ 3) (eg : gf = lf + (Int32.ofNat d).toInt64) (hle : ¬ ((0 : Int32) < (lcmpW lf gf))) (A : OwA Z h0 a2 .long 1 (fun _ => .long lf)) (D0 : DK Z h0 a1 2 lf gf ls gs fb fs sb ss nu bf se) :
    MetFree l (⟨"com/example/fairjoin/fairjoin/operator/DirectKeys", "lookUpByFirst", "([JI)Z"⟩ : MethodName) (head1 (Jvm.Cond.code (⟨"com/example/fairjoin/fairjoin/operator/DirectKeys", "lookUpByFirst", "([JI)Z"⟩ : MethodName) prog_151_method_17_code 4 (some .boolean) :: ws) ({ frames := 4, cells := 3, slots := 9, locals := 67 } : Room)) (fun a U => a = #[(.ref a1), (.ref a2), (.int (1 : Int32))] ∧ Z.Warmed39 U.vm ∧ U.heap = h0) (fun _ _ _ _ _ => True) (fun _ U o U' => ∃ v L, o = .returned v ∧ Q7 Z a1 a2 d lf gf ls gs fb fs sb ss nu bf se h0 n0 v U'.heap L ∧ FrameEnd U o U' L ({ frames := 4, cells := 3, slots := 9, locals := 67 } : Room).cells ({ frames := 4, cells := 3, slots := 9, locals := 67 } : Room).slots) := by
  refine MetFree.of_bodySF (plainFor_of_name pn_7) hisR ?_
  intro p e s m args below meth c s₁ Bd hml0 hP hK
  obtain ⟨rfl, hZ, hh⟩ := hP
  have hx := Bd.exec
  have hby := Bd.bytes
  have hml : c.maxLocals = 4 := hml0
  have hown : s.vm.findClass "com/example/fairjoin/fairjoin/operator/DirectKeys" = some m.cls := findClass_of_methodNamed Bd.named
  have hnm := (name_of_methodNamed Bd.named Bd.method).1
  have X0 : Stand p l e ({ frames := 4, cells := 3, slots := 9, locals := 67 } : Room) s m #[(.ref a1), (.ref a2), (.int (1 : Int32))] below meth c s₁ [] 0 0 := Stand.of_body Bd
  have e0 : s₁.heap = h0 := by rw [← hh, Bd.state]; rfl
  have N0 := Fr.nil n0
  have pre0 : ∀ t, Steps p.tables e below (s₁.setTop (mkF m 0 #[.val (.ref a1), .val (.ref a2), .val (.int (1 : Int32)), .unset] [])) t → Steps p.tables e below (s₁.setTop (entryFrame m #[(.ref a1), (.ref a2), (.int (1 : Int32))] 4)) t := fun t ktt => castTop (ef_7 m a1 a2 (1 : Int32)) ktt
  have hc5 : (2 : Int32) = (2 : Int32) := rfl
  have hc17 := hle
  have hsp : (((gf - lf) + (1 : Int64)).toInt32) = Int32.ofNat (d + 1) := own_span _ _ d hd eg
  obtain ⟨T5, X5, e5, st5⟩ := getF X0 hx hZ hown (host := "") (Or.inl (hw _ (List.mem_of_getElem? (i := 26) rfl))) Via.refl e0 (dk_wi D0) (g := (mkF m 1 #[.val (.ref a1), .val (.ref a2), .val (.int (1 : Int32)), .unset] [(.ref a1)])) rfl rfl (hb hby d7_1)
  obtain ⟨T7, X7, e7, st7⟩ := getF X5 hx hZ hown (host := "") (Or.inl (hw _ (List.mem_of_getElem? (i := 12) rfl))) Via.refl e5 (dk_lf D0) (g := (mkF m 9 #[.val (.ref a1), .val (.ref a2), .val (.int (1 : Int32)), .unset] [(.ref a1)])) rfl rfl (hb hby d7_9)
  obtain ⟨T9, X9, e9, st9⟩ := getF X7 hx hZ hown (host := "") (Or.inl (hw _ (List.mem_of_getElem? (i := 15) rfl))) Via.refl e7 (dk_gf D0) (g := (mkF m 13 #[.val (.ref a1), .val (.ref a2), .val (.int (1 : Int32)), .unset] [(.ref a1), (.long lf)])) rfl rfl (hb hby d7_13)
  obtain ⟨T10, X10, e10, st10⟩ := getF X9 hx hZ hown (host := "") (Or.inl (hw _ (List.mem_of_getElem? (i := 12) rfl))) Via.refl e9 (dk_lf D0) (g := (mkF m 23 #[.val (.ref a1), .val (.ref a2), .val (.int (1 : Int32)), .unset] [(.ref a1), (.int (1 : Int32)), (.ref a2)])) rfl rfl (hb hby d7_23)
  obtain ⟨T11, X11, e11, st11⟩ := getF X10 hx hZ hown (host := "") (Or.inl (hw _ (List.mem_of_getElem? (i := 15) rfl))) Via.refl e10 (dk_gf D0) (g := (mkF m 27 #[.val (.ref a1), .val (.ref a2), .val (.int (1 : Int32)), .unset] [(.ref a1), (.long lf), (.int (1 : Int32)), (.ref a2)])) rfl rfl (hb hby d7_27)
  obtain ⟨_, _, ⟨T12, L12, k12, n12⟩, -, X12, ⟨Lc12, hQ12, l12, y12, z12⟩, st12⟩ := Jvm.LawKit.callS X11 hx (y := (⟨"com/example/fairjoin/fairjoin/operator/DirectKeys", "allDifferent", "([JIJJ)Z"⟩ : MethodName)) hown (mvT hZ (hw _ (List.mem_of_getElem? (i := 50) rfl))) (mvT hZ (hw _ (List.mem_of_getElem? (i := 51) rfl))) (mvT hZ (hw _ (List.mem_of_getElem? (i := 4) rfl))) (mvT hZ (hw _ (List.mem_of_getElem? (i := 52) rfl))) (by decide) (backOf (W := 0) (rm8 l Z a0 hw [] a2 lf gf d h0 n0 Z0 hd eg A) hZ (hw _ (List.mem_of_getElem? (i := 52) rfl)) (hw _ (List.mem_of_getElem? (i := 4) rfl)) (by decide) (by decide)) (g := (mkF m 30 #[.val (.ref a1), .val (.ref a2), .val (.int (1 : Int32)), .unset] [(.long gf), (.long lf), (.int (1 : Int32)), (.ref a2)])) rfl (by rw [hml]; rfl) (argsL := [(.ref a2), (.int (1 : Int32)), (.long lf), (.long gf)]) (rest := []) (lenOf pd_7_6 rfl) rfl (by show 2 * 0 + _ ≤ _; exact Nat.le_of_eq rfl) (hb hby d7_30) (fun _ _ => ⟨rfl, e11, (by decide : 0 + 1 ≤ _), (by decide : 0 + 1 ≤ _)⟩)
  dsimp only [Pt.U, Pt.locs, Pt.cells, Pt.slots] at X12 l12 y12 z12 st12 hQ12
  subst l12 y12 z12
  obtain ⟨rfl, N12q, K12q⟩ := hQ12
  have D12 := dk_keep D0 K12q (by simp)
  have K12 : Keep h0 T12.heap [a1] := (Keep.refl h0 [a1]).trans K12q (fun x hx => by cases hx)
  have Z12 : n0 ≤ T12.heap.size := Nat.le_trans Z0 K12q.1
  have N12 := Fr.app N0 N12q
  obtain ⟨T14, X14, e14, st14⟩ := getF X12 hx hZ hown (host := "") (Or.inl (hw _ (List.mem_of_getElem? (i := 15) rfl))) Via.refl rfl (dk_gf D12) (g := (mkF m 39 #[.val (.ref a1), .val (.ref a2), .val (.int (1 : Int32)), .unset] [(.ref a1)])) rfl rfl (hb hby d7_39)
  obtain ⟨T16, X16, e16, st16⟩ := getF X14 hx hZ hown (host := "") (Or.inl (hw _ (List.mem_of_getElem? (i := 12) rfl))) Via.refl e14 (dk_lf D12) (g := (mkF m 43 #[.val (.ref a1), .val (.ref a2), .val (.int (1 : Int32)), .unset] [(.ref a1), (.long gf)])) rfl rfl (hb hby d7_43)
  obtain ⟨T17, h17, X17, e17, W17, st17⟩ := putFN X16 hx hZ hown (hw _ (List.mem_of_getElem? (i := 67) rfl)) Via.refl e16 (dk_bf D12) D12.1 (Or.inl (hw _ (List.mem_of_getElem? (i := 68) rfl))) (hw _ (List.mem_of_getElem? (i := 3) rfl)) (ty := .boolean) (v' := (.int (1 : Int32))) (by decide) rfl rfl (g := (mkF m 53 #[.val (.ref a1), .val (.ref a2), .val (.int (1 : Int32)), .val (.int (Int32.ofNat (d + 1)))] [(.int (1 : Int32)), (.ref a1)])) rfl rfl (hb hby d7_53)
  have D17 := dks_bf hw D12 W17
  have K17 : Keep h0 h17 [a1] := K12.wr W17 (Or.inl (List.mem_of_getElem? (i := 0) rfl))
  have Z17 : n0 ≤ h17.size := Nat.le_trans Z12 (Keep.of_wr W17).1
  have N17 := Fr.snoc X17 N12 g_a1
  obtain ⟨T18, X18, e18, st18⟩ := getF X17 hx hZ hown (host := "") (Or.inl (hw _ (List.mem_of_getElem? (i := 12) rfl))) Via.refl e17 (dk_lf D17) (g := (mkF m 58 #[.val (.ref a1), .val (.ref a2), .val (.int (1 : Int32)), .val (.int (Int32.ofNat (d + 1)))] [(.ref a1), (.ref a1)])) rfl rfl (hb hby d7_58)
  obtain ⟨T19, h19, X19, e19, W19, st19⟩ := putF X18 hx hZ hown (host := "") (Or.inl (hw _ (List.mem_of_getElem? (i := 69) rfl))) Via.refl e18 (dk_fb D17) D17.1 (Or.inl (hw _ (List.mem_of_getElem? (i := 70) rfl))) (hw _ (List.mem_of_getElem? (i := 3) rfl)) (ty := .long) (by decide) rfl rfl (g := (mkF m 61 #[.val (.ref a1), .val (.ref a2), .val (.int (1 : Int32)), .val (.int (Int32.ofNat (d + 1)))] [(.long lf), (.ref a1)])) rfl rfl (hb hby d7_61)
  have D19 := dks_fb hw D17 W19
  have K19 : Keep h0 h19 [a1] := K17.wr W19 (Or.inl (List.mem_of_getElem? (i := 0) rfl))
  have Z19 : n0 ≤ h19.size := Nat.le_trans Z17 (Keep.of_wr W19).1
  have N19 := Fr.snoc X19 N17 g_a1
  obtain ⟨T20, h20, X20, e20, W20, st20⟩ := putF X19 hx hZ hown (host := "") (Or.inl (hw _ (List.mem_of_getElem? (i := 71) rfl))) Via.refl e19 (dk_fs D19) D19.1 (Or.inl (hw _ (List.mem_of_getElem? (i := 72) rfl))) (hw _ (List.mem_of_getElem? (i := 3) rfl)) (ty := .long) (by decide) rfl rfl (g := (mkF m 67 #[.val (.ref a1), .val (.ref a2), .val (.int (1 : Int32)), .val (.int (Int32.ofNat (d + 1)))] [(.long ((Int32.ofNat (d + 1)).toInt64)), (.ref a1)])) rfl rfl (hb hby d7_67)
  have D20 := dks_fs hw D19 W20
  have K20 : Keep h0 h20 [a1] := K19.wr W20 (Or.inl (List.mem_of_getElem? (i := 0) rfl))
  have Z20 : n0 ≤ h20.size := Nat.le_trans Z19 (Keep.of_wr W20).1
  have N20 := Fr.snoc X20 N19 g_a1
  obtain ⟨T21, h21, X21, e21, W21, st21⟩ := putF X20 hx hZ hown (host := "") (Or.inl (hw _ (List.mem_of_getElem? (i := 73) rfl))) Via.refl e20 (dk_sb D20) D20.1 (Or.inl (hw _ (List.mem_of_getElem? (i := 74) rfl))) (hw _ (List.mem_of_getElem? (i := 3) rfl)) (ty := .long) (by decide) rfl rfl (g := (mkF m 72 #[.val (.ref a1), .val (.ref a2), .val (.int (1 : Int32)), .val (.int (Int32.ofNat (d + 1)))] [(.long (0 : Int64)), (.ref a1)])) rfl rfl (hb hby d7_72)
  have D21 := dks_sb hw D20 W21
  have K21 : Keep h0 h21 [a1] := K20.wr W21 (Or.inl (List.mem_of_getElem? (i := 0) rfl))
  have Z21 : n0 ≤ h21.size := Nat.le_trans Z20 (Keep.of_wr W21).1
  have N21 := Fr.snoc X21 N20 g_a1
  obtain ⟨T22, h22, X22, e22, W22, st22⟩ := putF X21 hx hZ hown (host := "") (Or.inl (hw _ (List.mem_of_getElem? (i := 21) rfl))) Via.refl e21 (dk_ss D21) D21.1 (Or.inl (hw _ (List.mem_of_getElem? (i := 22) rfl))) (hw _ (List.mem_of_getElem? (i := 3) rfl)) (ty := .long) (by decide) rfl rfl (g := (mkF m 77 #[.val (.ref a1), .val (.ref a2), .val (.int (1 : Int32)), .val (.int (Int32.ofNat (d + 1)))] [(.long (1 : Int64)), (.ref a1)])) rfl rfl (hb hby d7_77)
  have D22 := dks_ss hw D21 W22
  have K22 : Keep h0 h22 [a1] := K21.wr W22 (Or.inl (List.mem_of_getElem? (i := 0) rfl))
  have Z22 : n0 ≤ h22.size := Nat.le_trans Z21 (Keep.of_wr W22).1
  have N22 := Fr.snoc X22 N21 g_a1
  obtain ⟨T23, h23, k23, X23, e23, E23, A23, st23⟩ := newP X22 hx hZ (hw _ (List.mem_of_getElem? (i := 23) rfl)) e22 (g := (mkF m 82 #[.val (.ref a1), .val (.ref a2), .val (.int (1 : Int32)), .val (.int (Int32.ofNat (d + 1)))] [(.int (Int32.ofNat (d + 1))), (.ref a1)])) rfl (hb hby d7_82) rfl (own_pos (by omega)) (cap := 4) (by rw [own_clamp (by omega)]; omega) (by decide) (by decide) (by decide)
  obtain ⟨b23, g23⟩ : ∃ z, z = h22.size := ⟨_, rfl⟩
  rw [← g23] at A23 st23
  have B23 : OwA Z h23 b23 .int (d + 1) (fun _ => .int 0) := owa_new A23 (own_clamp (by omega))
  have g_b23 : n0 ≤ b23 := Nat.le_trans Z22 (Nat.le_of_eq g23.symm)
  have sz_b23 : h0.size ≤ b23 := Nat.le_trans K22.1 (Nat.le_of_eq g23.symm)
  have K23 : Keep h0 h23 [a1] := K22.ext E23
  have D23 := dk_ext D22 E23
  have Z23 : n0 ≤ h23.size := Nat.le_trans Z22 E23.1
  obtain ⟨T24, h24, X24, e24, W24, st24⟩ := putF X23 hx hZ hown (host := "") (Or.inl (hw _ (List.mem_of_getElem? (i := 24) rfl))) Via.refl e23 (dk_nu D23) D23.1 (Or.inl (hw _ (List.mem_of_getElem? (i := 25) rfl))) (hw _ (List.mem_of_getElem? (i := 3) rfl)) (ty := (.array .int)) (by decide) rfl rfl (g := (mkF m 84 #[.val (.ref a1), .val (.ref a2), .val (.int (1 : Int32)), .val (.int (Int32.ofNat (d + 1)))] [(.ref b23), (.ref a1)])) rfl rfl (hb hby d7_84)
  have D24 := dks_nu hw D23 W24
  have K24 : Keep h0 h24 [a1] := K23.wr W24 (Or.inl (List.mem_of_getElem? (i := 0) rfl))
  have Z24 : n0 ≤ h24.size := Nat.le_trans Z23 (Keep.of_wr W24).1
  have N24 := Fr.snoc X24 N22 g_a1
  obtain ⟨T25, h25, k25, X25, e25, E25, A25, st25⟩ := newP X24 hx hZ (hw _ (List.mem_of_getElem? (i := 1) rfl)) e24 (g := (mkF m 89 #[.val (.ref a1), .val (.ref a2), .val (.int (1 : Int32)), .val (.int (Int32.ofNat (d + 1)))] [(.int (Int32.ofNat (d + 1))), (.ref a1)])) rfl (hb hby d7_89) rfl (own_pos (by omega)) (cap := 4) (by rw [own_clamp (by omega)]; omega) (by decide) (by decide) (by decide)
  obtain ⟨b25, g25⟩ : ∃ z, z = h24.size := ⟨_, rfl⟩
  rw [← g25] at A25 st25
  have B25 : OwA Z h25 b25 .long (d + 1) (fun _ => .long 0) := owa_new A25 (own_clamp (by omega))
  have g_b25 : n0 ≤ b25 := Nat.le_trans Z24 (Nat.le_of_eq g25.symm)
  have sz_b25 : h0.size ≤ b25 := Nat.le_trans K24.1 (Nat.le_of_eq g25.symm)
  have K25 : Keep h0 h25 [a1] := K24.ext E25
  have D25 := dk_ext D24 E25
  have Z25 : n0 ≤ h25.size := Nat.le_trans Z24 E25.1
  obtain ⟨T26, h26, X26, e26, W26, st26⟩ := putF X25 hx hZ hown (host := "") (Or.inl (hw _ (List.mem_of_getElem? (i := 75) rfl))) Via.refl e25 (dk_se D25) D25.1 (Or.inl (hw _ (List.mem_of_getElem? (i := 76) rfl))) (hw _ (List.mem_of_getElem? (i := 3) rfl)) (ty := (.array .long)) (by decide) rfl rfl (g := (mkF m 91 #[.val (.ref a1), .val (.ref a2), .val (.int (1 : Int32)), .val (.int (Int32.ofNat (d + 1)))] [(.ref b25), (.ref a1)])) rfl rfl (hb hby d7_91)
  have D26 := dks_se hw D25 W26
  have K26 : Keep h0 h26 [a1] := K25.wr W26 (Or.inl (List.mem_of_getElem? (i := 0) rfl))
  have Z26 : n0 ≤ h26.size := Nat.le_trans Z25 (Keep.of_wr W26).1
  have N26 := Fr.snoc X26 N24 g_a1
  have hne23 : b23 ≠ a1 := fun u => by
    have q := (D22.1).lt
    rw [← u, g23] at q; exact Nat.lt_irrefl _ q
  have hne25 : b25 ≠ a1 := fun u => by
    have q := (D24.1).lt
    rw [← u, g25] at q; exact Nat.lt_irrefl _ q
  have hne2325 : b23 ≠ b25 := fun u => by
    have q := owa_lt (owa_other B23 W24 hne23)
    rw [u, g25] at q; exact Nat.lt_irrefl _ q
  obtain ⟨fsr, hr, hrun, hended, hW, hsame⟩ := X26.leave (v := some (.int (1 : Int32))) (fun h => by rw [Bd.returns] at h; cases h)
  refine ⟨_, _, pre0 _ ?_, hrun, hended, _, _, rfl, ?_, ⟨_, rfl⟩, hW, hsame.mono (by decide) (by decide)⟩
  · show Steps p.tables e below (s₁.setTop (mkF m 0 #[.val (.ref a1), .val (.ref a2), .val (.int (1 : Int32)), .unset] [])) _
    refine XS.aloadN X0.here hx rfl (hb hby d7_0) rfl rfl ?_
    show Steps p.tables e below (s₁.setTop (mkF m 1 #[.val (.ref a1), .val (.ref a2), .val (.int (1 : Int32)), .unset] [(.ref a1)])) _
    refine st5 _ ?_
    show Steps p.tables e below (T5.setTop (mkF m 4 #[.val (.ref a1), .val (.ref a2), .val (.int (1 : Int32)), .unset] [(.int (2 : Int32))])) _
    refine XS.iconst X5.here hx rfl (hb hby d7_4) ?_
    show Steps p.tables e below (T5.setTop (mkF m 5 #[.val (.ref a1), .val (.ref a2), .val (.int (1 : Int32)), .unset] [(.int (2 : Int32)), (.int (2 : Int32))])) _
    refine XS.icmpNo X5.here hx rfl (hb hby d7_5) rfl (teq hc5).2 ?_
    show Steps p.tables e below (T5.setTop (mkF m 8 #[.val (.ref a1), .val (.ref a2), .val (.int (1 : Int32)), .unset] [])) _
    refine XS.aloadN X5.here hx rfl (hb hby d7_8) rfl rfl ?_
    show Steps p.tables e below (T5.setTop (mkF m 9 #[.val (.ref a1), .val (.ref a2), .val (.int (1 : Int32)), .unset] [(.ref a1)])) _
    refine st7 _ ?_
    show Steps p.tables e below (T7.setTop (mkF m 12 #[.val (.ref a1), .val (.ref a2), .val (.int (1 : Int32)), .unset] [(.long lf)])) _
    refine XS.aloadN X7.here hx rfl (hb hby d7_12) rfl rfl ?_
    show Steps p.tables e below (T7.setTop (mkF m 13 #[.val (.ref a1), .val (.ref a2), .val (.int (1 : Int32)), .unset] [(.ref a1), (.long lf)])) _
    refine st9 _ ?_
    show Steps p.tables e below (T9.setTop (mkF m 16 #[.val (.ref a1), .val (.ref a2), .val (.int (1 : Int32)), .unset] [(.long gf), (.long lf)])) _
    refine XS.lcmp X9.here hx rfl (hb hby d7_16) rfl ?_
    show Steps p.tables e below (T9.setTop (mkF m 17 #[.val (.ref a1), .val (.ref a2), .val (.int (1 : Int32)), .unset] [(.int (lcmpW lf gf))])) _
    refine XS.ifNo X9.here hx rfl (hb hby d7_17) rfl ((if0 _ _).trans (flt hc17).2.2.1) ?_
    show Steps p.tables e below (T9.setTop (mkF m 20 #[.val (.ref a1), .val (.ref a2), .val (.int (1 : Int32)), .unset] [])) _
    refine XS.aloadN X9.here hx rfl (hb hby d7_20) rfl rfl ?_
    show Steps p.tables e below (T9.setTop (mkF m 21 #[.val (.ref a1), .val (.ref a2), .val (.int (1 : Int32)), .unset] [(.ref a2)])) _
    refine XS.iloadN X9.here hx rfl (hb hby d7_21) rfl ?_
    show Steps p.tables e below (T9.setTop (mkF m 22 #[.val (.ref a1), .val (.ref a2), .val (.int (1 : Int32)), .unset] [(.int (1 : Int32)), (.ref a2)])) _
    refine XS.aloadN X9.here hx rfl (hb hby d7_22) rfl rfl ?_
    show Steps p.tables e below (T9.setTop (mkF m 23 #[.val (.ref a1), .val (.ref a2), .val (.int (1 : Int32)), .unset] [(.ref a1), (.int (1 : Int32)), (.ref a2)])) _
    refine st10 _ ?_
    show Steps p.tables e below (T10.setTop (mkF m 26 #[.val (.ref a1), .val (.ref a2), .val (.int (1 : Int32)), .unset] [(.long lf), (.int (1 : Int32)), (.ref a2)])) _
    refine XS.aloadN X10.here hx rfl (hb hby d7_26) rfl rfl ?_
    show Steps p.tables e below (T10.setTop (mkF m 27 #[.val (.ref a1), .val (.ref a2), .val (.int (1 : Int32)), .unset] [(.ref a1), (.long lf), (.int (1 : Int32)), (.ref a2)])) _
    refine st11 _ ?_
    show Steps p.tables e below (T11.setTop (mkF m 30 #[.val (.ref a1), .val (.ref a2), .val (.int (1 : Int32)), .unset] [(.long gf), (.long lf), (.int (1 : Int32)), (.ref a2)])) _
    refine st12 _ ?_
    show Steps p.tables e below (T12.setTop (mkF m 33 #[.val (.ref a1), .val (.ref a2), .val (.int (1 : Int32)), .unset] [(.int (1 : Int32))])) _
    refine XS.ifYes X12.here hx rfl (pc0 := 33) (pc' := 38) rfl (hb hby d7_33) rfl ((if0 _ _).trans (feq (by decide : ¬ ((1 : Int32) = (0 : Int32)))).2) (by decide) (by decide) ?_
    show Steps p.tables e below (T12.setTop (mkF m 38 #[.val (.ref a1), .val (.ref a2), .val (.int (1 : Int32)), .unset] [])) _
    refine XS.aloadN X12.here hx rfl (hb hby d7_38) rfl rfl ?_
    show Steps p.tables e below (T12.setTop (mkF m 39 #[.val (.ref a1), .val (.ref a2), .val (.int (1 : Int32)), .unset] [(.ref a1)])) _
    refine st14 _ ?_
    show Steps p.tables e below (T14.setTop (mkF m 42 #[.val (.ref a1), .val (.ref a2), .val (.int (1 : Int32)), .unset] [(.long gf)])) _
    refine XS.aloadN X14.here hx rfl (hb hby d7_42) rfl rfl ?_
    show Steps p.tables e below (T14.setTop (mkF m 43 #[.val (.ref a1), .val (.ref a2), .val (.int (1 : Int32)), .unset] [(.ref a1), (.long gf)])) _
    refine st16 _ ?_
    show Steps p.tables e below (T16.setTop (mkF m 46 #[.val (.ref a1), .val (.ref a2), .val (.int (1 : Int32)), .unset] [(.long lf), (.long gf)])) _
    refine XS.lsub X16.here hx rfl (hb hby d7_46) rfl ?_
    show Steps p.tables e below (T16.setTop (mkF m 47 #[.val (.ref a1), .val (.ref a2), .val (.int (1 : Int32)), .unset] [(.long (gf - lf))])) _
    refine XS.lconst X16.here hx rfl (hb hby d7_47) ?_
    show Steps p.tables e below (T16.setTop (mkF m 48 #[.val (.ref a1), .val (.ref a2), .val (.int (1 : Int32)), .unset] [(.long (1 : Int64)), (.long (gf - lf))])) _
    refine XS.ladd X16.here hx rfl (hb hby d7_48) rfl ?_
    show Steps p.tables e below (T16.setTop (mkF m 49 #[.val (.ref a1), .val (.ref a2), .val (.int (1 : Int32)), .unset] [(.long ((gf - lf) + (1 : Int64)))])) _
    refine XS.l2i X16.here hx rfl (hb hby d7_49) rfl ?_
    rw [hsp]
    show Steps p.tables e below (T16.setTop (mkF m 50 #[.val (.ref a1), .val (.ref a2), .val (.int (1 : Int32)), .unset] [(.int (Int32.ofNat (d + 1)))])) _
    refine XS.istoreN X16.here hx rfl (hb hby d7_50) rfl (l' := #[.val (.ref a1), .val (.ref a2), .val (.int (1 : Int32)), .val (.int (Int32.ofNat (d + 1)))]) rfl ?_
    show Steps p.tables e below (T16.setTop (mkF m 51 #[.val (.ref a1), .val (.ref a2), .val (.int (1 : Int32)), .val (.int (Int32.ofNat (d + 1)))] [])) _
    refine XS.aloadN X16.here hx rfl (hb hby d7_51) rfl rfl ?_
    show Steps p.tables e below (T16.setTop (mkF m 52 #[.val (.ref a1), .val (.ref a2), .val (.int (1 : Int32)), .val (.int (Int32.ofNat (d + 1)))] [(.ref a1)])) _
    refine XS.iconst X16.here hx rfl (hb hby d7_52) ?_
    show Steps p.tables e below (T16.setTop (mkF m 53 #[.val (.ref a1), .val (.ref a2), .val (.int (1 : Int32)), .val (.int (Int32.ofNat (d + 1)))] [(.int (1 : Int32)), (.ref a1)])) _
    refine st17 _ ?_
    show Steps p.tables e below (T17.setTop (mkF m 56 #[.val (.ref a1), .val (.ref a2), .val (.int (1 : Int32)), .val (.int (Int32.ofNat (d + 1)))] [])) _
    refine XS.aloadN X17.here hx rfl (hb hby d7_56) rfl rfl ?_
    show Steps p.tables e below (T17.setTop (mkF m 57 #[.val (.ref a1), .val (.ref a2), .val (.int (1 : Int32)), .val (.int (Int32.ofNat (d + 1)))] [(.ref a1)])) _
    refine XS.aloadN X17.here hx rfl (hb hby d7_57) rfl rfl ?_
    show Steps p.tables e below (T17.setTop (mkF m 58 #[.val (.ref a1), .val (.ref a2), .val (.int (1 : Int32)), .val (.int (Int32.ofNat (d + 1)))] [(.ref a1), (.ref a1)])) _
    refine st18 _ ?_
    show Steps p.tables e below (T18.setTop (mkF m 61 #[.val (.ref a1), .val (.ref a2), .val (.int (1 : Int32)), .val (.int (Int32.ofNat (d + 1)))] [(.long lf), (.ref a1)])) _
    refine st19 _ ?_
    show Steps p.tables e below (T19.setTop (mkF m 64 #[.val (.ref a1), .val (.ref a2), .val (.int (1 : Int32)), .val (.int (Int32.ofNat (d + 1)))] [])) _
    refine XS.aloadN X19.here hx rfl (hb hby d7_64) rfl rfl ?_
    show Steps p.tables e below (T19.setTop (mkF m 65 #[.val (.ref a1), .val (.ref a2), .val (.int (1 : Int32)), .val (.int (Int32.ofNat (d + 1)))] [(.ref a1)])) _
    refine XS.iloadN X19.here hx rfl (hb hby d7_65) rfl ?_
    show Steps p.tables e below (T19.setTop (mkF m 66 #[.val (.ref a1), .val (.ref a2), .val (.int (1 : Int32)), .val (.int (Int32.ofNat (d + 1)))] [(.int (Int32.ofNat (d + 1))), (.ref a1)])) _
    refine XS.i2l X19.here hx rfl (hb hby d7_66) rfl ?_
    show Steps p.tables e below (T19.setTop (mkF m 67 #[.val (.ref a1), .val (.ref a2), .val (.int (1 : Int32)), .val (.int (Int32.ofNat (d + 1)))] [(.long ((Int32.ofNat (d + 1)).toInt64)), (.ref a1)])) _
    refine st20 _ ?_
    show Steps p.tables e below (T20.setTop (mkF m 70 #[.val (.ref a1), .val (.ref a2), .val (.int (1 : Int32)), .val (.int (Int32.ofNat (d + 1)))] [])) _
    refine XS.aloadN X20.here hx rfl (hb hby d7_70) rfl rfl ?_
    show Steps p.tables e below (T20.setTop (mkF m 71 #[.val (.ref a1), .val (.ref a2), .val (.int (1 : Int32)), .val (.int (Int32.ofNat (d + 1)))] [(.ref a1)])) _
    refine XS.lconst X20.here hx rfl (hb hby d7_71) ?_
    show Steps p.tables e below (T20.setTop (mkF m 72 #[.val (.ref a1), .val (.ref a2), .val (.int (1 : Int32)), .val (.int (Int32.ofNat (d + 1)))] [(.long (0 : Int64)), (.ref a1)])) _
    refine st21 _ ?_
    show Steps p.tables e below (T21.setTop (mkF m 75 #[.val (.ref a1), .val (.ref a2), .val (.int (1 : Int32)), .val (.int (Int32.ofNat (d + 1)))] [])) _
    refine XS.aloadN X21.here hx rfl (hb hby d7_75) rfl rfl ?_
    show Steps p.tables e below (T21.setTop (mkF m 76 #[.val (.ref a1), .val (.ref a2), .val (.int (1 : Int32)), .val (.int (Int32.ofNat (d + 1)))] [(.ref a1)])) _
    refine XS.lconst X21.here hx rfl (hb hby d7_76) ?_
    show Steps p.tables e below (T21.setTop (mkF m 77 #[.val (.ref a1), .val (.ref a2), .val (.int (1 : Int32)), .val (.int (Int32.ofNat (d + 1)))] [(.long (1 : Int64)), (.ref a1)])) _
    refine st22 _ ?_
    show Steps p.tables e below (T22.setTop (mkF m 80 #[.val (.ref a1), .val (.ref a2), .val (.int (1 : Int32)), .val (.int (Int32.ofNat (d + 1)))] [])) _
    refine XS.aloadN X22.here hx rfl (hb hby d7_80) rfl rfl ?_
    show Steps p.tables e below (T22.setTop (mkF m 81 #[.val (.ref a1), .val (.ref a2), .val (.int (1 : Int32)), .val (.int (Int32.ofNat (d + 1)))] [(.ref a1)])) _
    refine XS.iloadN X22.here hx rfl (hb hby d7_81) rfl ?_
    show Steps p.tables e below (T22.setTop (mkF m 82 #[.val (.ref a1), .val (.ref a2), .val (.int (1 : Int32)), .val (.int (Int32.ofNat (d + 1)))] [(.int (Int32.ofNat (d + 1))), (.ref a1)])) _
    refine st23 _ ?_
    show Steps p.tables e below (T23.setTop (mkF m 84 #[.val (.ref a1), .val (.ref a2), .val (.int (1 : Int32)), .val (.int (Int32.ofNat (d + 1)))] [(.ref b23), (.ref a1)])) _
    refine st24 _ ?_
    show Steps p.tables e below (T24.setTop (mkF m 87 #[.val (.ref a1), .val (.ref a2), .val (.int (1 : Int32)), .val (.int (Int32.ofNat (d + 1)))] [])) _
    refine XS.aloadN X24.here hx rfl (hb hby d7_87) rfl rfl ?_
    show Steps p.tables e below (T24.setTop (mkF m 88 #[.val (.ref a1), .val (.ref a2), .val (.int (1 : Int32)), .val (.int (Int32.ofNat (d + 1)))] [(.ref a1)])) _
    refine XS.iloadN X24.here hx rfl (hb hby d7_88) rfl ?_
    show Steps p.tables e below (T24.setTop (mkF m 89 #[.val (.ref a1), .val (.ref a2), .val (.int (1 : Int32)), .val (.int (Int32.ofNat (d + 1)))] [(.int (Int32.ofNat (d + 1))), (.ref a1)])) _
    refine st25 _ ?_
    show Steps p.tables e below (T25.setTop (mkF m 91 #[.val (.ref a1), .val (.ref a2), .val (.int (1 : Int32)), .val (.int (Int32.ofNat (d + 1)))] [(.ref b25), (.ref a1)])) _
    refine st26 _ ?_
    show Steps p.tables e below (T26.setTop (mkF m 94 #[.val (.ref a1), .val (.ref a2), .val (.int (1 : Int32)), .val (.int (Int32.ofNat (d + 1)))] [])) _
    refine XS.iconst X26.here hx rfl (hb hby d7_94) ?_
    show Steps p.tables e below (T26.setTop (mkF m 95 #[.val (.ref a1), .val (.ref a2), .val (.int (1 : Int32)), .val (.int (Int32.ofNat (d + 1)))] [(.int (1 : Int32))])) _
    exact retN X26 hx (t := .boolean) Bd.returns (by simp) (hb hby d7_95) hr
  · show Q7 Z a1 a2 d lf gf ls gs fb fs sb ss nu bf se h0 n0 _ T26.heap _
    rw [e26]
    exact ⟨rfl, N26, K26, b23, b25, D26, owa_other (owa_ext (owa_other B23 W24 hne23) E25) W26 hne23, owa_other B25 W26 hne25, hne2325, hne23, hne25, g_b23, g_b25⟩
def Q13 (Z : State) (a1 : Addr) (d e' : Nat) (lf gf ls gs fb fs sb ss : Int64) (nu : Value) (bf : Int32) (se : Value) (h0 : Heap) (n0 : Nat) (v : Option Value) (h : Heap) (L : List Loc) : Prop := v = some (.int (1 : Int32)) ∧ Fr n0 L ∧ Keep h0 h [a1] ∧ ∃ t1 : Addr, DK Z h a1 2 lf gf ls gs lf ((Int32.ofNat (d + 1)).toInt64) ls ((Int32.ofNat (e' + 1)).toInt64) (.ref t1) 0 .null ∧ OwA Z h t1 .int ((d + 1) * (e' + 1)) (fun _ => .int 0) ∧ t1 ≠ a1 ∧ n0 ≤ t1
set_option maxRecDepth 65536 in
set_option maxHeartbeats 40000000 in
theorem rm13 (l : Launch) (Z : State) (a0 : Array Value) (hw : ∀ d ∈ tables_1, d.before a0 Z = true) (ws : List Jvm.Cond) (a1 : Addr) (d e' : Nat) (lf gf ls gs fb fs sb ss : Int64) (nu : Value) (bf : Int32) (se : Value) (h0 : Heap) (n0 : Nat) (Z0 : n0 ≤ h0.size) (g_a1 : n0 ≤ a1) (hd : d ≤ 3) (he' : e' ≤ 3) (eg : gf = lf + (Int32.ofNat d).toInt64) (es : gs = ls + (Int32.ofNat e').toInt64) (hle : ¬ ((0 : Int32) < (lcmpW lf gf))) (D0 : DK Z h0 a1 2 lf gf ls gs fb fs sb ss nu bf se) :
    MetFree l (⟨"com/example/fairjoin/fairjoin/operator/DirectKeys", "lookUpDirectly", "(J)Z"⟩ : MethodName) (head1 (Jvm.Cond.code (⟨"com/example/fairjoin/fairjoin/operator/DirectKeys", "lookUpDirectly", "(J)Z"⟩ : MethodName) prog_151_method_16_code 9 (some .boolean) :: ws) ({ frames := 2, cells := 1, slots := 16, locals := 30 } : Room)) (fun a U => a = #[(.ref a1), (.long (16 : Int64))] ∧ Z.Warmed39 U.vm ∧ U.heap = h0) (fun _ _ _ _ _ => True) (fun _ U o U' => ∃ v L, o = .returned v ∧ Q13 Z a1 d e' lf gf ls gs fb fs sb ss nu bf se h0 n0 v U'.heap L ∧ FrameEnd U o U' L ({ frames := 2, cells := 1, slots := 16, locals := 30 } : Room).cells ({ frames := 2, cells := 1, slots := 16, locals := 30 } : Room).slots) := by
  refine MetFree.of_bodySF (plainFor_of_name pn_13) hisR ?_
  intro p e s m args below meth c s₁ Bd hml0 hP hK
  obtain ⟨rfl, hZ, hh⟩ := hP
  have hx := Bd.exec
  have hby := Bd.bytes
  have hml : c.maxLocals = 9 := hml0
  have hown : s.vm.findClass "com/example/fairjoin/fairjoin/operator/DirectKeys" = some m.cls := findClass_of_methodNamed Bd.named
  have hnm := (name_of_methodNamed Bd.named Bd.method).1
  have X0 : Stand p l e ({ frames := 2, cells := 1, slots := 16, locals := 30 } : Room) s m #[(.ref a1), (.long (16 : Int64))] below meth c s₁ [] 0 0 := Stand.of_body Bd
  have e0 : s₁.heap = h0 := by rw [← hh, Bd.state]; rfl
  have N0 := Fr.nil n0
  have pre0 : ∀ t, Steps p.tables e below (s₁.setTop (mkF m 0 #[.val (.ref a1), .val (.long (16 : Int64)), .second, .unset, .unset, .unset, .unset, .unset, .unset] [])) t → Steps p.tables e below (s₁.setTop (entryFrame m #[(.ref a1), (.long (16 : Int64))] 9)) t := fun t ktt => castTop (ef_13 m a1 (16 : Int64)) ktt
  have hl16 := own_l16 d e' hd he'
  have hc5 : ¬ ((2 : Int32) < (2 : Int32)) := by decide
  have hc17 := hle
  have hc55 : (2 : Int32) = (2 : Int32) := rfl
  have hc94 : (2 : Int32) = (2 : Int32) := rfl
  have hc156 : (2 : Int32) = (2 : Int32) := rfl
  have hs1 : ((gf - lf) + (1 : Int64)) = (Int32.ofNat (d + 1)).toInt64 := own_span64 _ _ d hd eg
  have hs2 : ((gs - ls) + (1 : Int64)) = (Int32.ofNat (e' + 1)).toInt64 := own_span64 _ _ e' he' es
  have hpr : ((((Int32.ofNat (d + 1)).toInt64) * ((Int32.ofNat (e' + 1)).toInt64)).toInt32) = Int32.ofNat ((d + 1) * (e' + 1)) := own_prod d e' hd he'
  obtain ⟨T4, X4, e4, st4⟩ := getF X0 hx hZ hown (host := "") (Or.inl (hw _ (List.mem_of_getElem? (i := 26) rfl))) Via.refl e0 (dk_wi D0) (g := (mkF m 1 #[.val (.ref a1), .val (.long (16 : Int64)), .second, .unset, .unset, .unset, .unset, .unset, .unset] [(.ref a1)])) rfl rfl (hb hby d13_1)
  obtain ⟨T6, X6, e6, st6⟩ := getF X4 hx hZ hown (host := "") (Or.inl (hw _ (List.mem_of_getElem? (i := 12) rfl))) Via.refl e4 (dk_lf D0) (g := (mkF m 9 #[.val (.ref a1), .val (.long (16 : Int64)), .second, .unset, .unset, .unset, .unset, .unset, .unset] [(.ref a1)])) rfl rfl (hb hby d13_9)
  obtain ⟨T8, X8, e8, st8⟩ := getF X6 hx hZ hown (host := "") (Or.inl (hw _ (List.mem_of_getElem? (i := 15) rfl))) Via.refl e6 (dk_gf D0) (g := (mkF m 13 #[.val (.ref a1), .val (.long (16 : Int64)), .second, .unset, .unset, .unset, .unset, .unset, .unset] [(.ref a1), (.long lf)])) rfl rfl (hb hby d13_13)
  obtain ⟨_, _, ⟨T9, L9, k9, n9⟩, -, X9, ⟨Lc9, hQ9, l9, y9, z9⟩, st9⟩ := Jvm.LawKit.callS X8 hx (y := (⟨"java/lang/Math", "min", "(JJ)J"⟩ : MethodName)) hown (mvT hZ (hw _ (List.mem_of_getElem? (i := 38) rfl))) (mvT hZ (hw _ (List.mem_of_getElem? (i := 39) rfl))) (mvT hZ (hw _ (List.mem_of_getElem? (i := 40) rfl))) (mvT hZ (hw _ (List.mem_of_getElem? (i := 41) rfl))) (by decide) (backOf (W := 0) (rm5 l Z a0 hw [] ((16 : Int64) * (4 : Int64)) (2147483639 : Int64) h0 n0 Z0) hZ (hw _ (List.mem_of_getElem? (i := 41) rfl)) (hw _ (List.mem_of_getElem? (i := 40) rfl)) (by decide) (by decide)) (g := (mkF m 30 #[.val (.ref a1), .val (.long (16 : Int64)), .second, .unset, .unset, .unset, .unset, .unset, .unset] [(.long (2147483639 : Int64)), (.long ((16 : Int64) * (4 : Int64)))])) rfl (by rw [hml]; rfl) (argsL := [(.long ((16 : Int64) * (4 : Int64))), (.long (2147483639 : Int64))]) (rest := []) (lenOf pd_13_4 rfl) rfl (by show 2 * 0 + _ ≤ _; exact Nat.le_of_eq rfl) (hb hby d13_30) (fun _ _ => ⟨rfl, e8, (by decide : 0 + 0 ≤ _), (by decide : 0 + 0 ≤ _)⟩)
  dsimp only [Pt.U, Pt.locs, Pt.cells, Pt.slots] at X9 l9 y9 z9 st9 hQ9
  subst l9 y9 z9
  obtain ⟨rfl, N9q, e9⟩ := hQ9
  have D9 := dk_heap D0 e9
  have K9 : Keep h0 T9.heap [a1] := by rw [e9]; exact (Keep.refl h0 [a1])
  have Z9 : n0 ≤ T9.heap.size := by rw [e9]; exact Z0
  have N9 := Fr.app N0 N9q
  obtain ⟨T11, X11, e11, st11⟩ := getF X9 hx hZ hown (host := "") (Or.inl (hw _ (List.mem_of_getElem? (i := 15) rfl))) Via.refl rfl (dk_gf D9) (g := (mkF m 35 #[.val (.ref a1), .val (.long (16 : Int64)), .second, .val (.long (own_mn ((16 : Int64) * (4 : Int64)) (2147483639 : Int64))), .second, .unset, .unset, .unset, .unset] [(.ref a1)])) rfl rfl (hb hby d13_35)
  obtain ⟨T13, X13, e13, st13⟩ := getF X11 hx hZ hown (host := "") (Or.inl (hw _ (List.mem_of_getElem? (i := 12) rfl))) Via.refl e11 (dk_lf D9) (g := (mkF m 39 #[.val (.ref a1), .val (.long (16 : Int64)), .second, .val (.long (own_mn ((16 : Int64) * (4 : Int64)) (2147483639 : Int64))), .second, .unset, .unset, .unset, .unset] [(.ref a1), (.long gf)])) rfl rfl (hb hby d13_39)
  obtain ⟨_, _, ⟨T14, L14, k14, n14⟩, -, X14, ⟨Lc14, hQ14, l14, y14, z14⟩, st14⟩ := Jvm.LawKit.callS X13 hx (y := (⟨"java/lang/Long", "compareUnsigned", "(JJ)I"⟩ : MethodName)) hown (mvT hZ (hw _ (List.mem_of_getElem? (i := 58) rfl))) (mvT hZ (hw _ (List.mem_of_getElem? (i := 59) rfl))) (mvT hZ (hw _ (List.mem_of_getElem? (i := 60) rfl))) (mvT hZ (hw _ (List.mem_of_getElem? (i := 61) rfl))) (by decide) (backOf (W := 0) (rm10 l Z a0 hw [] (gf - lf) (own_mn ((16 : Int64) * (4 : Int64)) (2147483639 : Int64)) T9.heap n0 Z9) hZ (hw _ (List.mem_of_getElem? (i := 61) rfl)) (hw _ (List.mem_of_getElem? (i := 60) rfl)) (by decide) (by decide)) (g := (mkF m 44 #[.val (.ref a1), .val (.long (16 : Int64)), .second, .val (.long (own_mn ((16 : Int64) * (4 : Int64)) (2147483639 : Int64))), .second, .unset, .unset, .unset, .unset] [(.long (own_mn ((16 : Int64) * (4 : Int64)) (2147483639 : Int64))), (.long (gf - lf))])) rfl (by rw [hml]; rfl) (argsL := [(.long (gf - lf)), (.long (own_mn ((16 : Int64) * (4 : Int64)) (2147483639 : Int64)))]) (rest := []) (lenOf pd_13_8 rfl) rfl (by show 2 * 0 + _ ≤ _; exact Nat.le_of_eq rfl) (hb hby d13_44) (fun _ _ => ⟨rfl, e13, (by decide : 0 + 0 ≤ _), (by decide : 0 + 0 ≤ _)⟩)
  dsimp only [Pt.U, Pt.locs, Pt.cells, Pt.slots] at X14 l14 y14 z14 st14 hQ14
  subst l14 y14 z14
  obtain ⟨rfl, N14q, e14⟩ := hQ14
  have D14 := dk_heap D9 e14
  have K14 : Keep h0 T14.heap [a1] := by rw [e14]; exact K9
  have Z14 : n0 ≤ T14.heap.size := by rw [e14]; exact Z9
  have N14 := Fr.app N9 N14q
  obtain ⟨T16, X16, e16, st16⟩ := getF X14 hx hZ hown (host := "") (Or.inl (hw _ (List.mem_of_getElem? (i := 26) rfl))) Via.refl rfl (dk_wi D14) (g := (mkF m 51 #[.val (.ref a1), .val (.long (16 : Int64)), .second, .val (.long (own_mn ((16 : Int64) * (4 : Int64)) (2147483639 : Int64))), .second, .unset, .unset, .unset, .unset] [(.ref a1)])) rfl rfl (hb hby d13_51)
  obtain ⟨T18, X18, e18, st18⟩ := getF X16 hx hZ hown (host := "") (Or.inl (hw _ (List.mem_of_getElem? (i := 19) rfl))) Via.refl e16 (dk_gs D14) (g := (mkF m 59 #[.val (.ref a1), .val (.long (16 : Int64)), .second, .val (.long (own_mn ((16 : Int64) * (4 : Int64)) (2147483639 : Int64))), .second, .unset, .unset, .unset, .unset] [(.ref a1)])) rfl rfl (hb hby d13_59)
  obtain ⟨T20, X20, e20, st20⟩ := getF X18 hx hZ hown (host := "") (Or.inl (hw _ (List.mem_of_getElem? (i := 17) rfl))) Via.refl e18 (dk_ls D14) (g := (mkF m 63 #[.val (.ref a1), .val (.long (16 : Int64)), .second, .val (.long (own_mn ((16 : Int64) * (4 : Int64)) (2147483639 : Int64))), .second, .unset, .unset, .unset, .unset] [(.ref a1), (.long gs)])) rfl rfl (hb hby d13_63)
  obtain ⟨_, _, ⟨T21, L21, k21, n21⟩, -, X21, ⟨Lc21, hQ21, l21, y21, z21⟩, st21⟩ := Jvm.LawKit.callS X20 hx (y := (⟨"java/lang/Long", "compareUnsigned", "(JJ)I"⟩ : MethodName)) hown (mvT hZ (hw _ (List.mem_of_getElem? (i := 58) rfl))) (mvT hZ (hw _ (List.mem_of_getElem? (i := 59) rfl))) (mvT hZ (hw _ (List.mem_of_getElem? (i := 60) rfl))) (mvT hZ (hw _ (List.mem_of_getElem? (i := 61) rfl))) (by decide) (backOf (W := 0) (rm10 l Z a0 hw [] (gs - ls) (own_mn ((16 : Int64) * (4 : Int64)) (2147483639 : Int64)) T14.heap n0 Z14) hZ (hw _ (List.mem_of_getElem? (i := 61) rfl)) (hw _ (List.mem_of_getElem? (i := 60) rfl)) (by decide) (by decide)) (g := (mkF m 68 #[.val (.ref a1), .val (.long (16 : Int64)), .second, .val (.long (own_mn ((16 : Int64) * (4 : Int64)) (2147483639 : Int64))), .second, .unset, .unset, .unset, .unset] [(.long (own_mn ((16 : Int64) * (4 : Int64)) (2147483639 : Int64))), (.long (gs - ls))])) rfl (by rw [hml]; rfl) (argsL := [(.long (gs - ls)), (.long (own_mn ((16 : Int64) * (4 : Int64)) (2147483639 : Int64)))]) (rest := []) (lenOf pd_13_8 rfl) rfl (by show 2 * 0 + _ ≤ _; exact Nat.le_of_eq rfl) (hb hby d13_68) (fun _ _ => ⟨rfl, e20, (by decide : 0 + 0 ≤ _), (by decide : 0 + 0 ≤ _)⟩)
  dsimp only [Pt.U, Pt.locs, Pt.cells, Pt.slots] at X21 l21 y21 z21 st21 hQ21
  subst l21 y21 z21
  obtain ⟨rfl, N21q, e21⟩ := hQ21
  have D21 := dk_heap D14 e21
  have K21 : Keep h0 T21.heap [a1] := by rw [e21]; exact K14
  have Z21 : n0 ≤ T21.heap.size := by rw [e21]; exact Z14
  have N21 := Fr.app N14 N21q
  obtain ⟨T23, X23, e23, st23⟩ := getF X21 hx hZ hown (host := "") (Or.inl (hw _ (List.mem_of_getElem? (i := 15) rfl))) Via.refl rfl (dk_gf D21) (g := (mkF m 77 #[.val (.ref a1), .val (.long (16 : Int64)), .second, .val (.long (own_mn ((16 : Int64) * (4 : Int64)) (2147483639 : Int64))), .second, .unset, .unset, .unset, .unset] [(.ref a1)])) rfl rfl (hb hby d13_77)
  obtain ⟨T25, X25, e25, st25⟩ := getF X23 hx hZ hown (host := "") (Or.inl (hw _ (List.mem_of_getElem? (i := 12) rfl))) Via.refl e23 (dk_lf D21) (g := (mkF m 81 #[.val (.ref a1), .val (.long (16 : Int64)), .second, .val (.long (own_mn ((16 : Int64) * (4 : Int64)) (2147483639 : Int64))), .second, .unset, .unset, .unset, .unset] [(.ref a1), (.long gf)])) rfl rfl (hb hby d13_81)
  obtain ⟨T27, X27, e27, st27⟩ := getF X25 hx hZ hown (host := "") (Or.inl (hw _ (List.mem_of_getElem? (i := 26) rfl))) Via.refl e25 (dk_wi D21) (g := (mkF m 90 #[.val (.ref a1), .val (.long (16 : Int64)), .second, .val (.long (own_mn ((16 : Int64) * (4 : Int64)) (2147483639 : Int64))), .second, .val (.long ((Int32.ofNat (d + 1)).toInt64)), .second, .unset, .unset] [(.ref a1)])) rfl rfl (hb hby d13_90)
  obtain ⟨T29, X29, e29, st29⟩ := getF X27 hx hZ hown (host := "") (Or.inl (hw _ (List.mem_of_getElem? (i := 19) rfl))) Via.refl e27 (dk_gs D21) (g := (mkF m 98 #[.val (.ref a1), .val (.long (16 : Int64)), .second, .val (.long (own_mn ((16 : Int64) * (4 : Int64)) (2147483639 : Int64))), .second, .val (.long ((Int32.ofNat (d + 1)).toInt64)), .second, .unset, .unset] [(.ref a1)])) rfl rfl (hb hby d13_98)
  obtain ⟨T31, X31, e31, st31⟩ := getF X29 hx hZ hown (host := "") (Or.inl (hw _ (List.mem_of_getElem? (i := 17) rfl))) Via.refl e29 (dk_ls D21) (g := (mkF m 102 #[.val (.ref a1), .val (.long (16 : Int64)), .second, .val (.long (own_mn ((16 : Int64) * (4 : Int64)) (2147483639 : Int64))), .second, .val (.long ((Int32.ofNat (d + 1)).toInt64)), .second, .unset, .unset] [(.ref a1), (.long gs)])) rfl rfl (hb hby d13_102)
  obtain ⟨T32, h32, X32, e32, W32, st32⟩ := putFN X31 hx hZ hown (hw _ (List.mem_of_getElem? (i := 67) rfl)) Via.refl e31 (dk_bf D21) D21.1 (Or.inl (hw _ (List.mem_of_getElem? (i := 68) rfl))) (hw _ (List.mem_of_getElem? (i := 3) rfl)) (ty := .boolean) (v' := (.int (0 : Int32))) (by decide) rfl rfl (g := (mkF m 128 #[.val (.ref a1), .val (.long (16 : Int64)), .second, .val (.long (own_mn ((16 : Int64) * (4 : Int64)) (2147483639 : Int64))), .second, .val (.long ((Int32.ofNat (d + 1)).toInt64)), .second, .val (.long ((Int32.ofNat (e' + 1)).toInt64)), .second] [(.int (0 : Int32)), (.ref a1)])) rfl rfl (hb hby d13_128)
  have D32 := dks_bf hw D21 W32
  have K32 : Keep h0 h32 [a1] := K21.wr W32 (Or.inl (List.mem_of_getElem? (i := 0) rfl))
  have Z32 : n0 ≤ h32.size := Nat.le_trans Z21 (Keep.of_wr W32).1
  have N32 := Fr.snoc X32 N21 g_a1
  obtain ⟨T33, h33, X33, e33, W33, st33⟩ := putF X32 hx hZ hown (host := "") (Or.inl (hw _ (List.mem_of_getElem? (i := 75) rfl))) Via.refl e32 (dk_se D32) D32.1 (Or.inl (hw _ (List.mem_of_getElem? (i := 76) rfl))) (hw _ (List.mem_of_getElem? (i := 3) rfl)) (ty := (.array .long)) (by decide) rfl rfl (g := (mkF m 133 #[.val (.ref a1), .val (.long (16 : Int64)), .second, .val (.long (own_mn ((16 : Int64) * (4 : Int64)) (2147483639 : Int64))), .second, .val (.long ((Int32.ofNat (d + 1)).toInt64)), .second, .val (.long ((Int32.ofNat (e' + 1)).toInt64)), .second] [.null, (.ref a1)])) rfl rfl (hb hby d13_133)
  have D33 := dks_se hw D32 W33
  have K33 : Keep h0 h33 [a1] := K32.wr W33 (Or.inl (List.mem_of_getElem? (i := 0) rfl))
  have Z33 : n0 ≤ h33.size := Nat.le_trans Z32 (Keep.of_wr W33).1
  have N33 := Fr.snoc X33 N32 g_a1
  obtain ⟨T34, X34, e34, st34⟩ := getF X33 hx hZ hown (host := "") (Or.inl (hw _ (List.mem_of_getElem? (i := 12) rfl))) Via.refl e33 (dk_lf D33) (g := (mkF m 138 #[.val (.ref a1), .val (.long (16 : Int64)), .second, .val (.long (own_mn ((16 : Int64) * (4 : Int64)) (2147483639 : Int64))), .second, .val (.long ((Int32.ofNat (d + 1)).toInt64)), .second, .val (.long ((Int32.ofNat (e' + 1)).toInt64)), .second] [(.ref a1), (.ref a1)])) rfl rfl (hb hby d13_138)
  obtain ⟨T35, h35, X35, e35, W35, st35⟩ := putF X34 hx hZ hown (host := "") (Or.inl (hw _ (List.mem_of_getElem? (i := 69) rfl))) Via.refl e34 (dk_fb D33) D33.1 (Or.inl (hw _ (List.mem_of_getElem? (i := 70) rfl))) (hw _ (List.mem_of_getElem? (i := 3) rfl)) (ty := .long) (by decide) rfl rfl (g := (mkF m 141 #[.val (.ref a1), .val (.long (16 : Int64)), .second, .val (.long (own_mn ((16 : Int64) * (4 : Int64)) (2147483639 : Int64))), .second, .val (.long ((Int32.ofNat (d + 1)).toInt64)), .second, .val (.long ((Int32.ofNat (e' + 1)).toInt64)), .second] [(.long lf), (.ref a1)])) rfl rfl (hb hby d13_141)
  have D35 := dks_fb hw D33 W35
  have K35 : Keep h0 h35 [a1] := K33.wr W35 (Or.inl (List.mem_of_getElem? (i := 0) rfl))
  have Z35 : n0 ≤ h35.size := Nat.le_trans Z33 (Keep.of_wr W35).1
  have N35 := Fr.snoc X35 N33 g_a1
  obtain ⟨T36, h36, X36, e36, W36, st36⟩ := putF X35 hx hZ hown (host := "") (Or.inl (hw _ (List.mem_of_getElem? (i := 71) rfl))) Via.refl e35 (dk_fs D35) D35.1 (Or.inl (hw _ (List.mem_of_getElem? (i := 72) rfl))) (hw _ (List.mem_of_getElem? (i := 3) rfl)) (ty := .long) (by decide) rfl rfl (g := (mkF m 147 #[.val (.ref a1), .val (.long (16 : Int64)), .second, .val (.long (own_mn ((16 : Int64) * (4 : Int64)) (2147483639 : Int64))), .second, .val (.long ((Int32.ofNat (d + 1)).toInt64)), .second, .val (.long ((Int32.ofNat (e' + 1)).toInt64)), .second] [(.long ((Int32.ofNat (d + 1)).toInt64)), (.ref a1)])) rfl rfl (hb hby d13_147)
  have D36 := dks_fs hw D35 W36
  have K36 : Keep h0 h36 [a1] := K35.wr W36 (Or.inl (List.mem_of_getElem? (i := 0) rfl))
  have Z36 : n0 ≤ h36.size := Nat.le_trans Z35 (Keep.of_wr W36).1
  have N36 := Fr.snoc X36 N35 g_a1
  obtain ⟨T37, X37, e37, st37⟩ := getF X36 hx hZ hown (host := "") (Or.inl (hw _ (List.mem_of_getElem? (i := 26) rfl))) Via.refl e36 (dk_wi D36) (g := (mkF m 152 #[.val (.ref a1), .val (.long (16 : Int64)), .second, .val (.long (own_mn ((16 : Int64) * (4 : Int64)) (2147483639 : Int64))), .second, .val (.long ((Int32.ofNat (d + 1)).toInt64)), .second, .val (.long ((Int32.ofNat (e' + 1)).toInt64)), .second] [(.ref a1), (.ref a1)])) rfl rfl (hb hby d13_152)
  obtain ⟨T38, X38, e38, st38⟩ := getF X37 hx hZ hown (host := "") (Or.inl (hw _ (List.mem_of_getElem? (i := 17) rfl))) Via.refl e37 (dk_ls D36) (g := (mkF m 160 #[.val (.ref a1), .val (.long (16 : Int64)), .second, .val (.long (own_mn ((16 : Int64) * (4 : Int64)) (2147483639 : Int64))), .second, .val (.long ((Int32.ofNat (d + 1)).toInt64)), .second, .val (.long ((Int32.ofNat (e' + 1)).toInt64)), .second] [(.ref a1), (.ref a1)])) rfl rfl (hb hby d13_160)
  obtain ⟨T39, h39, X39, e39, W39, st39⟩ := putF X38 hx hZ hown (host := "") (Or.inl (hw _ (List.mem_of_getElem? (i := 73) rfl))) Via.refl e38 (dk_sb D36) D36.1 (Or.inl (hw _ (List.mem_of_getElem? (i := 74) rfl))) (hw _ (List.mem_of_getElem? (i := 3) rfl)) (ty := .long) (by decide) rfl rfl (g := (mkF m 167 #[.val (.ref a1), .val (.long (16 : Int64)), .second, .val (.long (own_mn ((16 : Int64) * (4 : Int64)) (2147483639 : Int64))), .second, .val (.long ((Int32.ofNat (d + 1)).toInt64)), .second, .val (.long ((Int32.ofNat (e' + 1)).toInt64)), .second] [(.long ls), (.ref a1)])) rfl rfl (hb hby d13_167)
  have D39 := dks_sb hw D36 W39
  have K39 : Keep h0 h39 [a1] := K36.wr W39 (Or.inl (List.mem_of_getElem? (i := 0) rfl))
  have Z39 : n0 ≤ h39.size := Nat.le_trans Z36 (Keep.of_wr W39).1
  have N39 := Fr.snoc X39 N36 g_a1
  obtain ⟨T40, h40, X40, e40, W40, st40⟩ := putF X39 hx hZ hown (host := "") (Or.inl (hw _ (List.mem_of_getElem? (i := 21) rfl))) Via.refl e39 (dk_ss D39) D39.1 (Or.inl (hw _ (List.mem_of_getElem? (i := 22) rfl))) (hw _ (List.mem_of_getElem? (i := 3) rfl)) (ty := .long) (by decide) rfl rfl (g := (mkF m 173 #[.val (.ref a1), .val (.long (16 : Int64)), .second, .val (.long (own_mn ((16 : Int64) * (4 : Int64)) (2147483639 : Int64))), .second, .val (.long ((Int32.ofNat (d + 1)).toInt64)), .second, .val (.long ((Int32.ofNat (e' + 1)).toInt64)), .second] [(.long ((Int32.ofNat (e' + 1)).toInt64)), (.ref a1)])) rfl rfl (hb hby d13_173)
  have D40 := dks_ss hw D39 W40
  have K40 : Keep h0 h40 [a1] := K39.wr W40 (Or.inl (List.mem_of_getElem? (i := 0) rfl))
  have Z40 : n0 ≤ h40.size := Nat.le_trans Z39 (Keep.of_wr W40).1
  have N40 := Fr.snoc X40 N39 g_a1
  obtain ⟨T41, h41, k41, X41, e41, E41, A41, st41⟩ := newP X40 hx hZ (hw _ (List.mem_of_getElem? (i := 23) rfl)) e40 (g := (mkF m 183 #[.val (.ref a1), .val (.long (16 : Int64)), .second, .val (.long (own_mn ((16 : Int64) * (4 : Int64)) (2147483639 : Int64))), .second, .val (.long ((Int32.ofNat (d + 1)).toInt64)), .second, .val (.long ((Int32.ofNat (e' + 1)).toInt64)), .second] [(.int (Int32.ofNat ((d + 1) * (e' + 1)))), (.ref a1)])) rfl (hb hby d13_183) rfl (own_pos (by omega)) (cap := 16) (by rw [own_clamp (by omega)]; omega) (by decide) (by decide) (by decide)
  obtain ⟨b41, g41⟩ : ∃ z, z = h40.size := ⟨_, rfl⟩
  rw [← g41] at A41 st41
  have B41 : OwA Z h41 b41 .int ((d + 1) * (e' + 1)) (fun _ => .int 0) := owa_new A41 (own_clamp (by omega))
  have g_b41 : n0 ≤ b41 := Nat.le_trans Z40 (Nat.le_of_eq g41.symm)
  have sz_b41 : h0.size ≤ b41 := Nat.le_trans K40.1 (Nat.le_of_eq g41.symm)
  have K41 : Keep h0 h41 [a1] := K40.ext E41
  have D41 := dk_ext D40 E41
  have Z41 : n0 ≤ h41.size := Nat.le_trans Z40 E41.1
  obtain ⟨T42, h42, X42, e42, W42, st42⟩ := putF X41 hx hZ hown (host := "") (Or.inl (hw _ (List.mem_of_getElem? (i := 24) rfl))) Via.refl e41 (dk_nu D41) D41.1 (Or.inl (hw _ (List.mem_of_getElem? (i := 25) rfl))) (hw _ (List.mem_of_getElem? (i := 3) rfl)) (ty := (.array .int)) (by decide) rfl rfl (g := (mkF m 185 #[.val (.ref a1), .val (.long (16 : Int64)), .second, .val (.long (own_mn ((16 : Int64) * (4 : Int64)) (2147483639 : Int64))), .second, .val (.long ((Int32.ofNat (d + 1)).toInt64)), .second, .val (.long ((Int32.ofNat (e' + 1)).toInt64)), .second] [(.ref b41), (.ref a1)])) rfl rfl (hb hby d13_185)
  have D42 := dks_nu hw D41 W42
  have K42 : Keep h0 h42 [a1] := K41.wr W42 (Or.inl (List.mem_of_getElem? (i := 0) rfl))
  have Z42 : n0 ≤ h42.size := Nat.le_trans Z41 (Keep.of_wr W42).1
  have N42 := Fr.snoc X42 N40 g_a1
  have hne41 : b41 ≠ a1 := fun u => by
    have q := (D40.1).lt
    rw [← u, g41] at q; exact Nat.lt_irrefl _ q
  obtain ⟨fsr, hr, hrun, hended, hW, hsame⟩ := X42.leave (v := some (.int (1 : Int32))) (fun h => by rw [Bd.returns] at h; cases h)
  refine ⟨_, _, pre0 _ ?_, hrun, hended, _, _, rfl, ?_, ⟨_, rfl⟩, hW, hsame.mono (by decide) (by decide)⟩
  · show Steps p.tables e below (s₁.setTop (mkF m 0 #[.val (.ref a1), .val (.long (16 : Int64)), .second, .unset, .unset, .unset, .unset, .unset, .unset] [])) _
    refine XS.aloadN X0.here hx rfl (hb hby d13_0) rfl rfl ?_
    show Steps p.tables e below (s₁.setTop (mkF m 1 #[.val (.ref a1), .val (.long (16 : Int64)), .second, .unset, .unset, .unset, .unset, .unset, .unset] [(.ref a1)])) _
    refine st4 _ ?_
    show Steps p.tables e below (T4.setTop (mkF m 4 #[.val (.ref a1), .val (.long (16 : Int64)), .second, .unset, .unset, .unset, .unset, .unset, .unset] [(.int (2 : Int32))])) _
    refine XS.iconst X4.here hx rfl (hb hby d13_4) ?_
    show Steps p.tables e below (T4.setTop (mkF m 5 #[.val (.ref a1), .val (.long (16 : Int64)), .second, .unset, .unset, .unset, .unset, .unset, .unset] [(.int (2 : Int32)), (.int (2 : Int32))])) _
    refine XS.icmpNo X4.here hx rfl (hb hby d13_5) rfl (flt hc5).2.2.1 ?_
    show Steps p.tables e below (T4.setTop (mkF m 8 #[.val (.ref a1), .val (.long (16 : Int64)), .second, .unset, .unset, .unset, .unset, .unset, .unset] [])) _
    refine XS.aloadN X4.here hx rfl (hb hby d13_8) rfl rfl ?_
    show Steps p.tables e below (T4.setTop (mkF m 9 #[.val (.ref a1), .val (.long (16 : Int64)), .second, .unset, .unset, .unset, .unset, .unset, .unset] [(.ref a1)])) _
    refine st6 _ ?_
    show Steps p.tables e below (T6.setTop (mkF m 12 #[.val (.ref a1), .val (.long (16 : Int64)), .second, .unset, .unset, .unset, .unset, .unset, .unset] [(.long lf)])) _
    refine XS.aloadN X6.here hx rfl (hb hby d13_12) rfl rfl ?_
    show Steps p.tables e below (T6.setTop (mkF m 13 #[.val (.ref a1), .val (.long (16 : Int64)), .second, .unset, .unset, .unset, .unset, .unset, .unset] [(.ref a1), (.long lf)])) _
    refine st8 _ ?_
    show Steps p.tables e below (T8.setTop (mkF m 16 #[.val (.ref a1), .val (.long (16 : Int64)), .second, .unset, .unset, .unset, .unset, .unset, .unset] [(.long gf), (.long lf)])) _
    refine XS.lcmp X8.here hx rfl (hb hby d13_16) rfl ?_
    show Steps p.tables e below (T8.setTop (mkF m 17 #[.val (.ref a1), .val (.long (16 : Int64)), .second, .unset, .unset, .unset, .unset, .unset, .unset] [(.int (lcmpW lf gf))])) _
    refine XS.ifYes X8.here hx rfl (pc0 := 17) (pc' := 22) rfl (hb hby d13_17) rfl ((if0 _ _).trans (flt hc17).2.2.2) (by decide) (by decide) ?_
    show Steps p.tables e below (T8.setTop (mkF m 22 #[.val (.ref a1), .val (.long (16 : Int64)), .second, .unset, .unset, .unset, .unset, .unset, .unset] [])) _
    refine XS.lloadN X8.here hx rfl (hb hby d13_22) rfl ?_
    show Steps p.tables e below (T8.setTop (mkF m 23 #[.val (.ref a1), .val (.long (16 : Int64)), .second, .unset, .unset, .unset, .unset, .unset, .unset] [(.long (16 : Int64))])) _
    refine X8.ldc2Long hx hown (mvT hZ (hw _ (List.mem_of_getElem? (i := 56) rfl))) (g := (mkF m 23 #[.val (.ref a1), .val (.long (16 : Int64)), .second, .unset, .unset, .unset, .unset, .unset, .unset] [(.long (16 : Int64))])) rfl (hb hby d13_23) _ ?_
    show Steps p.tables e below (T8.setTop (mkF m 26 #[.val (.ref a1), .val (.long (16 : Int64)), .second, .unset, .unset, .unset, .unset, .unset, .unset] [(.long (4 : Int64)), (.long (16 : Int64))])) _
    refine XS.lmul X8.here hx rfl (hb hby d13_26) rfl ?_
    show Steps p.tables e below (T8.setTop (mkF m 27 #[.val (.ref a1), .val (.long (16 : Int64)), .second, .unset, .unset, .unset, .unset, .unset, .unset] [(.long ((16 : Int64) * (4 : Int64)))])) _
    refine X8.ldc2Long hx hown (mvT hZ (hw _ (List.mem_of_getElem? (i := 57) rfl))) (g := (mkF m 27 #[.val (.ref a1), .val (.long (16 : Int64)), .second, .unset, .unset, .unset, .unset, .unset, .unset] [(.long ((16 : Int64) * (4 : Int64)))])) rfl (hb hby d13_27) _ ?_
    show Steps p.tables e below (T8.setTop (mkF m 30 #[.val (.ref a1), .val (.long (16 : Int64)), .second, .unset, .unset, .unset, .unset, .unset, .unset] [(.long (2147483639 : Int64)), (.long ((16 : Int64) * (4 : Int64)))])) _
    refine st9 _ ?_
    show Steps p.tables e below (T9.setTop (mkF m 33 #[.val (.ref a1), .val (.long (16 : Int64)), .second, .unset, .unset, .unset, .unset, .unset, .unset] [(.long (own_mn ((16 : Int64) * (4 : Int64)) (2147483639 : Int64)))])) _
    refine XS.lstoreN X9.here hx rfl (hb hby d13_33) rfl (l' := #[.val (.ref a1), .val (.long (16 : Int64)), .second, .val (.long (own_mn ((16 : Int64) * (4 : Int64)) (2147483639 : Int64))), .second, .unset, .unset, .unset, .unset]) rfl ?_
    show Steps p.tables e below (T9.setTop (mkF m 34 #[.val (.ref a1), .val (.long (16 : Int64)), .second, .val (.long (own_mn ((16 : Int64) * (4 : Int64)) (2147483639 : Int64))), .second, .unset, .unset, .unset, .unset] [])) _
    refine XS.aloadN X9.here hx rfl (hb hby d13_34) rfl rfl ?_
    show Steps p.tables e below (T9.setTop (mkF m 35 #[.val (.ref a1), .val (.long (16 : Int64)), .second, .val (.long (own_mn ((16 : Int64) * (4 : Int64)) (2147483639 : Int64))), .second, .unset, .unset, .unset, .unset] [(.ref a1)])) _
    refine st11 _ ?_
    show Steps p.tables e below (T11.setTop (mkF m 38 #[.val (.ref a1), .val (.long (16 : Int64)), .second, .val (.long (own_mn ((16 : Int64) * (4 : Int64)) (2147483639 : Int64))), .second, .unset, .unset, .unset, .unset] [(.long gf)])) _
    refine XS.aloadN X11.here hx rfl (hb hby d13_38) rfl rfl ?_
    show Steps p.tables e below (T11.setTop (mkF m 39 #[.val (.ref a1), .val (.long (16 : Int64)), .second, .val (.long (own_mn ((16 : Int64) * (4 : Int64)) (2147483639 : Int64))), .second, .unset, .unset, .unset, .unset] [(.ref a1), (.long gf)])) _
    refine st13 _ ?_
    show Steps p.tables e below (T13.setTop (mkF m 42 #[.val (.ref a1), .val (.long (16 : Int64)), .second, .val (.long (own_mn ((16 : Int64) * (4 : Int64)) (2147483639 : Int64))), .second, .unset, .unset, .unset, .unset] [(.long lf), (.long gf)])) _
    refine XS.lsub X13.here hx rfl (hb hby d13_42) rfl ?_
    show Steps p.tables e below (T13.setTop (mkF m 43 #[.val (.ref a1), .val (.long (16 : Int64)), .second, .val (.long (own_mn ((16 : Int64) * (4 : Int64)) (2147483639 : Int64))), .second, .unset, .unset, .unset, .unset] [(.long (gf - lf))])) _
    refine XS.lloadN X13.here hx rfl (hb hby d13_43) rfl ?_
    show Steps p.tables e below (T13.setTop (mkF m 44 #[.val (.ref a1), .val (.long (16 : Int64)), .second, .val (.long (own_mn ((16 : Int64) * (4 : Int64)) (2147483639 : Int64))), .second, .unset, .unset, .unset, .unset] [(.long (own_mn ((16 : Int64) * (4 : Int64)) (2147483639 : Int64))), (.long (gf - lf))])) _
    refine st14 _ ?_
    show Steps p.tables e below (T14.setTop (mkF m 47 #[.val (.ref a1), .val (.long (16 : Int64)), .second, .val (.long (own_mn ((16 : Int64) * (4 : Int64)) (2147483639 : Int64))), .second, .unset, .unset, .unset, .unset] [(.int (own_cu (gf - lf) (own_mn ((16 : Int64) * (4 : Int64)) (2147483639 : Int64))))])) _
    refine XS.ifNo X14.here hx rfl (hb hby d13_47) rfl ((if0 _ _).trans (tlt (own_cu16 _ _ d hd eg : (own_cu (gf - lf) (own_mn ((16 : Int64) * (4 : Int64)) (2147483639 : Int64))) < (0 : Int32))).2.1) ?_
    show Steps p.tables e below (T14.setTop (mkF m 50 #[.val (.ref a1), .val (.long (16 : Int64)), .second, .val (.long (own_mn ((16 : Int64) * (4 : Int64)) (2147483639 : Int64))), .second, .unset, .unset, .unset, .unset] [])) _
    refine XS.aloadN X14.here hx rfl (hb hby d13_50) rfl rfl ?_
    show Steps p.tables e below (T14.setTop (mkF m 51 #[.val (.ref a1), .val (.long (16 : Int64)), .second, .val (.long (own_mn ((16 : Int64) * (4 : Int64)) (2147483639 : Int64))), .second, .unset, .unset, .unset, .unset] [(.ref a1)])) _
    refine st16 _ ?_
    show Steps p.tables e below (T16.setTop (mkF m 54 #[.val (.ref a1), .val (.long (16 : Int64)), .second, .val (.long (own_mn ((16 : Int64) * (4 : Int64)) (2147483639 : Int64))), .second, .unset, .unset, .unset, .unset] [(.int (2 : Int32))])) _
    refine XS.iconst X16.here hx rfl (hb hby d13_54) ?_
    show Steps p.tables e below (T16.setTop (mkF m 55 #[.val (.ref a1), .val (.long (16 : Int64)), .second, .val (.long (own_mn ((16 : Int64) * (4 : Int64)) (2147483639 : Int64))), .second, .unset, .unset, .unset, .unset] [(.int (2 : Int32)), (.int (2 : Int32))])) _
    refine XS.icmpNo X16.here hx rfl (hb hby d13_55) rfl (teq hc55).2 ?_
    show Steps p.tables e below (T16.setTop (mkF m 58 #[.val (.ref a1), .val (.long (16 : Int64)), .second, .val (.long (own_mn ((16 : Int64) * (4 : Int64)) (2147483639 : Int64))), .second, .unset, .unset, .unset, .unset] [])) _
    refine XS.aloadN X16.here hx rfl (hb hby d13_58) rfl rfl ?_
    show Steps p.tables e below (T16.setTop (mkF m 59 #[.val (.ref a1), .val (.long (16 : Int64)), .second, .val (.long (own_mn ((16 : Int64) * (4 : Int64)) (2147483639 : Int64))), .second, .unset, .unset, .unset, .unset] [(.ref a1)])) _
    refine st18 _ ?_
    show Steps p.tables e below (T18.setTop (mkF m 62 #[.val (.ref a1), .val (.long (16 : Int64)), .second, .val (.long (own_mn ((16 : Int64) * (4 : Int64)) (2147483639 : Int64))), .second, .unset, .unset, .unset, .unset] [(.long gs)])) _
    refine XS.aloadN X18.here hx rfl (hb hby d13_62) rfl rfl ?_
    show Steps p.tables e below (T18.setTop (mkF m 63 #[.val (.ref a1), .val (.long (16 : Int64)), .second, .val (.long (own_mn ((16 : Int64) * (4 : Int64)) (2147483639 : Int64))), .second, .unset, .unset, .unset, .unset] [(.ref a1), (.long gs)])) _
    refine st20 _ ?_
    show Steps p.tables e below (T20.setTop (mkF m 66 #[.val (.ref a1), .val (.long (16 : Int64)), .second, .val (.long (own_mn ((16 : Int64) * (4 : Int64)) (2147483639 : Int64))), .second, .unset, .unset, .unset, .unset] [(.long ls), (.long gs)])) _
    refine XS.lsub X20.here hx rfl (hb hby d13_66) rfl ?_
    show Steps p.tables e below (T20.setTop (mkF m 67 #[.val (.ref a1), .val (.long (16 : Int64)), .second, .val (.long (own_mn ((16 : Int64) * (4 : Int64)) (2147483639 : Int64))), .second, .unset, .unset, .unset, .unset] [(.long (gs - ls))])) _
    refine XS.lloadN X20.here hx rfl (hb hby d13_67) rfl ?_
    show Steps p.tables e below (T20.setTop (mkF m 68 #[.val (.ref a1), .val (.long (16 : Int64)), .second, .val (.long (own_mn ((16 : Int64) * (4 : Int64)) (2147483639 : Int64))), .second, .unset, .unset, .unset, .unset] [(.long (own_mn ((16 : Int64) * (4 : Int64)) (2147483639 : Int64))), (.long (gs - ls))])) _
    refine st21 _ ?_
    show Steps p.tables e below (T21.setTop (mkF m 71 #[.val (.ref a1), .val (.long (16 : Int64)), .second, .val (.long (own_mn ((16 : Int64) * (4 : Int64)) (2147483639 : Int64))), .second, .unset, .unset, .unset, .unset] [(.int (own_cu (gs - ls) (own_mn ((16 : Int64) * (4 : Int64)) (2147483639 : Int64))))])) _
    refine XS.ifYes X21.here hx rfl (pc0 := 71) (pc' := 76) rfl (hb hby d13_71) rfl ((if0 _ _).trans (tlt (own_cu16 _ _ e' he' es : (own_cu (gs - ls) (own_mn ((16 : Int64) * (4 : Int64)) (2147483639 : Int64))) < (0 : Int32))).1) (by decide) (by decide) ?_
    show Steps p.tables e below (T21.setTop (mkF m 76 #[.val (.ref a1), .val (.long (16 : Int64)), .second, .val (.long (own_mn ((16 : Int64) * (4 : Int64)) (2147483639 : Int64))), .second, .unset, .unset, .unset, .unset] [])) _
    refine XS.aloadN X21.here hx rfl (hb hby d13_76) rfl rfl ?_
    show Steps p.tables e below (T21.setTop (mkF m 77 #[.val (.ref a1), .val (.long (16 : Int64)), .second, .val (.long (own_mn ((16 : Int64) * (4 : Int64)) (2147483639 : Int64))), .second, .unset, .unset, .unset, .unset] [(.ref a1)])) _
    refine st23 _ ?_
    show Steps p.tables e below (T23.setTop (mkF m 80 #[.val (.ref a1), .val (.long (16 : Int64)), .second, .val (.long (own_mn ((16 : Int64) * (4 : Int64)) (2147483639 : Int64))), .second, .unset, .unset, .unset, .unset] [(.long gf)])) _
    refine XS.aloadN X23.here hx rfl (hb hby d13_80) rfl rfl ?_
    show Steps p.tables e below (T23.setTop (mkF m 81 #[.val (.ref a1), .val (.long (16 : Int64)), .second, .val (.long (own_mn ((16 : Int64) * (4 : Int64)) (2147483639 : Int64))), .second, .unset, .unset, .unset, .unset] [(.ref a1), (.long gf)])) _
    refine st25 _ ?_
    show Steps p.tables e below (T25.setTop (mkF m 84 #[.val (.ref a1), .val (.long (16 : Int64)), .second, .val (.long (own_mn ((16 : Int64) * (4 : Int64)) (2147483639 : Int64))), .second, .unset, .unset, .unset, .unset] [(.long lf), (.long gf)])) _
    refine XS.lsub X25.here hx rfl (hb hby d13_84) rfl ?_
    show Steps p.tables e below (T25.setTop (mkF m 85 #[.val (.ref a1), .val (.long (16 : Int64)), .second, .val (.long (own_mn ((16 : Int64) * (4 : Int64)) (2147483639 : Int64))), .second, .unset, .unset, .unset, .unset] [(.long (gf - lf))])) _
    refine XS.lconst X25.here hx rfl (hb hby d13_85) ?_
    show Steps p.tables e below (T25.setTop (mkF m 86 #[.val (.ref a1), .val (.long (16 : Int64)), .second, .val (.long (own_mn ((16 : Int64) * (4 : Int64)) (2147483639 : Int64))), .second, .unset, .unset, .unset, .unset] [(.long (1 : Int64)), (.long (gf - lf))])) _
    refine XS.ladd X25.here hx rfl (hb hby d13_86) rfl ?_
    rw [hs1]
    show Steps p.tables e below (T25.setTop (mkF m 87 #[.val (.ref a1), .val (.long (16 : Int64)), .second, .val (.long (own_mn ((16 : Int64) * (4 : Int64)) (2147483639 : Int64))), .second, .unset, .unset, .unset, .unset] [(.long ((Int32.ofNat (d + 1)).toInt64))])) _
    refine XS.lstore X25.here hx rfl (hb hby d13_87) rfl (l' := #[.val (.ref a1), .val (.long (16 : Int64)), .second, .val (.long (own_mn ((16 : Int64) * (4 : Int64)) (2147483639 : Int64))), .second, .val (.long ((Int32.ofNat (d + 1)).toInt64)), .second, .unset, .unset]) rfl ?_
    show Steps p.tables e below (T25.setTop (mkF m 89 #[.val (.ref a1), .val (.long (16 : Int64)), .second, .val (.long (own_mn ((16 : Int64) * (4 : Int64)) (2147483639 : Int64))), .second, .val (.long ((Int32.ofNat (d + 1)).toInt64)), .second, .unset, .unset] [])) _
    refine XS.aloadN X25.here hx rfl (hb hby d13_89) rfl rfl ?_
    show Steps p.tables e below (T25.setTop (mkF m 90 #[.val (.ref a1), .val (.long (16 : Int64)), .second, .val (.long (own_mn ((16 : Int64) * (4 : Int64)) (2147483639 : Int64))), .second, .val (.long ((Int32.ofNat (d + 1)).toInt64)), .second, .unset, .unset] [(.ref a1)])) _
    refine st27 _ ?_
    show Steps p.tables e below (T27.setTop (mkF m 93 #[.val (.ref a1), .val (.long (16 : Int64)), .second, .val (.long (own_mn ((16 : Int64) * (4 : Int64)) (2147483639 : Int64))), .second, .val (.long ((Int32.ofNat (d + 1)).toInt64)), .second, .unset, .unset] [(.int (2 : Int32))])) _
    refine XS.iconst X27.here hx rfl (hb hby d13_93) ?_
    show Steps p.tables e below (T27.setTop (mkF m 94 #[.val (.ref a1), .val (.long (16 : Int64)), .second, .val (.long (own_mn ((16 : Int64) * (4 : Int64)) (2147483639 : Int64))), .second, .val (.long ((Int32.ofNat (d + 1)).toInt64)), .second, .unset, .unset] [(.int (2 : Int32)), (.int (2 : Int32))])) _
    refine XS.icmpNo X27.here hx rfl (hb hby d13_94) rfl (teq hc94).2 ?_
    show Steps p.tables e below (T27.setTop (mkF m 97 #[.val (.ref a1), .val (.long (16 : Int64)), .second, .val (.long (own_mn ((16 : Int64) * (4 : Int64)) (2147483639 : Int64))), .second, .val (.long ((Int32.ofNat (d + 1)).toInt64)), .second, .unset, .unset] [])) _
    refine XS.aloadN X27.here hx rfl (hb hby d13_97) rfl rfl ?_
    show Steps p.tables e below (T27.setTop (mkF m 98 #[.val (.ref a1), .val (.long (16 : Int64)), .second, .val (.long (own_mn ((16 : Int64) * (4 : Int64)) (2147483639 : Int64))), .second, .val (.long ((Int32.ofNat (d + 1)).toInt64)), .second, .unset, .unset] [(.ref a1)])) _
    refine st29 _ ?_
    show Steps p.tables e below (T29.setTop (mkF m 101 #[.val (.ref a1), .val (.long (16 : Int64)), .second, .val (.long (own_mn ((16 : Int64) * (4 : Int64)) (2147483639 : Int64))), .second, .val (.long ((Int32.ofNat (d + 1)).toInt64)), .second, .unset, .unset] [(.long gs)])) _
    refine XS.aloadN X29.here hx rfl (hb hby d13_101) rfl rfl ?_
    show Steps p.tables e below (T29.setTop (mkF m 102 #[.val (.ref a1), .val (.long (16 : Int64)), .second, .val (.long (own_mn ((16 : Int64) * (4 : Int64)) (2147483639 : Int64))), .second, .val (.long ((Int32.ofNat (d + 1)).toInt64)), .second, .unset, .unset] [(.ref a1), (.long gs)])) _
    refine st31 _ ?_
    show Steps p.tables e below (T31.setTop (mkF m 105 #[.val (.ref a1), .val (.long (16 : Int64)), .second, .val (.long (own_mn ((16 : Int64) * (4 : Int64)) (2147483639 : Int64))), .second, .val (.long ((Int32.ofNat (d + 1)).toInt64)), .second, .unset, .unset] [(.long ls), (.long gs)])) _
    refine XS.lsub X31.here hx rfl (hb hby d13_105) rfl ?_
    show Steps p.tables e below (T31.setTop (mkF m 106 #[.val (.ref a1), .val (.long (16 : Int64)), .second, .val (.long (own_mn ((16 : Int64) * (4 : Int64)) (2147483639 : Int64))), .second, .val (.long ((Int32.ofNat (d + 1)).toInt64)), .second, .unset, .unset] [(.long (gs - ls))])) _
    refine XS.lconst X31.here hx rfl (hb hby d13_106) ?_
    show Steps p.tables e below (T31.setTop (mkF m 107 #[.val (.ref a1), .val (.long (16 : Int64)), .second, .val (.long (own_mn ((16 : Int64) * (4 : Int64)) (2147483639 : Int64))), .second, .val (.long ((Int32.ofNat (d + 1)).toInt64)), .second, .unset, .unset] [(.long (1 : Int64)), (.long (gs - ls))])) _
    refine XS.ladd X31.here hx rfl (hb hby d13_107) rfl ?_
    rw [hs2]
    show Steps p.tables e below (T31.setTop (mkF m 108 #[.val (.ref a1), .val (.long (16 : Int64)), .second, .val (.long (own_mn ((16 : Int64) * (4 : Int64)) (2147483639 : Int64))), .second, .val (.long ((Int32.ofNat (d + 1)).toInt64)), .second, .unset, .unset] [(.long ((Int32.ofNat (e' + 1)).toInt64))])) _
    refine XS.goto X31.here hx rfl (pc0 := 108) (pc' := 112) rfl (hb hby d13_108) (by decide) (by decide) ?_
    show Steps p.tables e below (T31.setTop (mkF m 112 #[.val (.ref a1), .val (.long (16 : Int64)), .second, .val (.long (own_mn ((16 : Int64) * (4 : Int64)) (2147483639 : Int64))), .second, .val (.long ((Int32.ofNat (d + 1)).toInt64)), .second, .unset, .unset] [(.long ((Int32.ofNat (e' + 1)).toInt64))])) _
    refine XS.lstore X31.here hx rfl (hb hby d13_112) rfl (l' := #[.val (.ref a1), .val (.long (16 : Int64)), .second, .val (.long (own_mn ((16 : Int64) * (4 : Int64)) (2147483639 : Int64))), .second, .val (.long ((Int32.ofNat (d + 1)).toInt64)), .second, .val (.long ((Int32.ofNat (e' + 1)).toInt64)), .second]) rfl ?_
    show Steps p.tables e below (T31.setTop (mkF m 114 #[.val (.ref a1), .val (.long (16 : Int64)), .second, .val (.long (own_mn ((16 : Int64) * (4 : Int64)) (2147483639 : Int64))), .second, .val (.long ((Int32.ofNat (d + 1)).toInt64)), .second, .val (.long ((Int32.ofNat (e' + 1)).toInt64)), .second] [])) _
    refine XS.lload X31.here hx rfl (hb hby d13_114) rfl ?_
    show Steps p.tables e below (T31.setTop (mkF m 116 #[.val (.ref a1), .val (.long (16 : Int64)), .second, .val (.long (own_mn ((16 : Int64) * (4 : Int64)) (2147483639 : Int64))), .second, .val (.long ((Int32.ofNat (d + 1)).toInt64)), .second, .val (.long ((Int32.ofNat (e' + 1)).toInt64)), .second] [(.long ((Int32.ofNat (d + 1)).toInt64))])) _
    refine XS.lload X31.here hx rfl (hb hby d13_116) rfl ?_
    show Steps p.tables e below (T31.setTop (mkF m 118 #[.val (.ref a1), .val (.long (16 : Int64)), .second, .val (.long (own_mn ((16 : Int64) * (4 : Int64)) (2147483639 : Int64))), .second, .val (.long ((Int32.ofNat (d + 1)).toInt64)), .second, .val (.long ((Int32.ofNat (e' + 1)).toInt64)), .second] [(.long ((Int32.ofNat (e' + 1)).toInt64)), (.long ((Int32.ofNat (d + 1)).toInt64))])) _
    refine XS.lmul X31.here hx rfl (hb hby d13_118) rfl ?_
    show Steps p.tables e below (T31.setTop (mkF m 119 #[.val (.ref a1), .val (.long (16 : Int64)), .second, .val (.long (own_mn ((16 : Int64) * (4 : Int64)) (2147483639 : Int64))), .second, .val (.long ((Int32.ofNat (d + 1)).toInt64)), .second, .val (.long ((Int32.ofNat (e' + 1)).toInt64)), .second] [(.long (((Int32.ofNat (d + 1)).toInt64) * ((Int32.ofNat (e' + 1)).toInt64)))])) _
    refine XS.lloadN X31.here hx rfl (hb hby d13_119) rfl ?_
    show Steps p.tables e below (T31.setTop (mkF m 120 #[.val (.ref a1), .val (.long (16 : Int64)), .second, .val (.long (own_mn ((16 : Int64) * (4 : Int64)) (2147483639 : Int64))), .second, .val (.long ((Int32.ofNat (d + 1)).toInt64)), .second, .val (.long ((Int32.ofNat (e' + 1)).toInt64)), .second] [(.long (own_mn ((16 : Int64) * (4 : Int64)) (2147483639 : Int64))), (.long (((Int32.ofNat (d + 1)).toInt64) * ((Int32.ofNat (e' + 1)).toInt64)))])) _
    refine XS.lcmp X31.here hx rfl (hb hby d13_120) rfl ?_
    show Steps p.tables e below (T31.setTop (mkF m 121 #[.val (.ref a1), .val (.long (16 : Int64)), .second, .val (.long (own_mn ((16 : Int64) * (4 : Int64)) (2147483639 : Int64))), .second, .val (.long ((Int32.ofNat (d + 1)).toInt64)), .second, .val (.long ((Int32.ofNat (e' + 1)).toInt64)), .second] [(.int (lcmpW (((Int32.ofNat (d + 1)).toInt64) * ((Int32.ofNat (e' + 1)).toInt64)) (own_mn ((16 : Int64) * (4 : Int64)) (2147483639 : Int64))))])) _
    refine XS.ifYes X31.here hx rfl (pc0 := 121) (pc' := 126) rfl (hb hby d13_121) rfl ((if0 _ _).trans (flt (own_le16 d e' hd he' : ¬ ((0 : Int32) < (lcmpW (((Int32.ofNat (d + 1)).toInt64) * ((Int32.ofNat (e' + 1)).toInt64)) (own_mn ((16 : Int64) * (4 : Int64)) (2147483639 : Int64)))))).2.2.2) (by decide) (by decide) ?_
    show Steps p.tables e below (T31.setTop (mkF m 126 #[.val (.ref a1), .val (.long (16 : Int64)), .second, .val (.long (own_mn ((16 : Int64) * (4 : Int64)) (2147483639 : Int64))), .second, .val (.long ((Int32.ofNat (d + 1)).toInt64)), .second, .val (.long ((Int32.ofNat (e' + 1)).toInt64)), .second] [])) _
    refine XS.aloadN X31.here hx rfl (hb hby d13_126) rfl rfl ?_
    show Steps p.tables e below (T31.setTop (mkF m 127 #[.val (.ref a1), .val (.long (16 : Int64)), .second, .val (.long (own_mn ((16 : Int64) * (4 : Int64)) (2147483639 : Int64))), .second, .val (.long ((Int32.ofNat (d + 1)).toInt64)), .second, .val (.long ((Int32.ofNat (e' + 1)).toInt64)), .second] [(.ref a1)])) _
    refine XS.iconst X31.here hx rfl (hb hby d13_127) ?_
    show Steps p.tables e below (T31.setTop (mkF m 128 #[.val (.ref a1), .val (.long (16 : Int64)), .second, .val (.long (own_mn ((16 : Int64) * (4 : Int64)) (2147483639 : Int64))), .second, .val (.long ((Int32.ofNat (d + 1)).toInt64)), .second, .val (.long ((Int32.ofNat (e' + 1)).toInt64)), .second] [(.int (0 : Int32)), (.ref a1)])) _
    refine st32 _ ?_
    show Steps p.tables e below (T32.setTop (mkF m 131 #[.val (.ref a1), .val (.long (16 : Int64)), .second, .val (.long (own_mn ((16 : Int64) * (4 : Int64)) (2147483639 : Int64))), .second, .val (.long ((Int32.ofNat (d + 1)).toInt64)), .second, .val (.long ((Int32.ofNat (e' + 1)).toInt64)), .second] [])) _
    refine XS.aloadN X32.here hx rfl (hb hby d13_131) rfl rfl ?_
    show Steps p.tables e below (T32.setTop (mkF m 132 #[.val (.ref a1), .val (.long (16 : Int64)), .second, .val (.long (own_mn ((16 : Int64) * (4 : Int64)) (2147483639 : Int64))), .second, .val (.long ((Int32.ofNat (d + 1)).toInt64)), .second, .val (.long ((Int32.ofNat (e' + 1)).toInt64)), .second] [(.ref a1)])) _
    refine XS.aconstNull X32.here hx rfl (hb hby d13_132) ?_
    show Steps p.tables e below (T32.setTop (mkF m 133 #[.val (.ref a1), .val (.long (16 : Int64)), .second, .val (.long (own_mn ((16 : Int64) * (4 : Int64)) (2147483639 : Int64))), .second, .val (.long ((Int32.ofNat (d + 1)).toInt64)), .second, .val (.long ((Int32.ofNat (e' + 1)).toInt64)), .second] [.null, (.ref a1)])) _
    refine st33 _ ?_
    show Steps p.tables e below (T33.setTop (mkF m 136 #[.val (.ref a1), .val (.long (16 : Int64)), .second, .val (.long (own_mn ((16 : Int64) * (4 : Int64)) (2147483639 : Int64))), .second, .val (.long ((Int32.ofNat (d + 1)).toInt64)), .second, .val (.long ((Int32.ofNat (e' + 1)).toInt64)), .second] [])) _
    refine XS.aloadN X33.here hx rfl (hb hby d13_136) rfl rfl ?_
    show Steps p.tables e below (T33.setTop (mkF m 137 #[.val (.ref a1), .val (.long (16 : Int64)), .second, .val (.long (own_mn ((16 : Int64) * (4 : Int64)) (2147483639 : Int64))), .second, .val (.long ((Int32.ofNat (d + 1)).toInt64)), .second, .val (.long ((Int32.ofNat (e' + 1)).toInt64)), .second] [(.ref a1)])) _
    refine XS.aloadN X33.here hx rfl (hb hby d13_137) rfl rfl ?_
    show Steps p.tables e below (T33.setTop (mkF m 138 #[.val (.ref a1), .val (.long (16 : Int64)), .second, .val (.long (own_mn ((16 : Int64) * (4 : Int64)) (2147483639 : Int64))), .second, .val (.long ((Int32.ofNat (d + 1)).toInt64)), .second, .val (.long ((Int32.ofNat (e' + 1)).toInt64)), .second] [(.ref a1), (.ref a1)])) _
    refine st34 _ ?_
    show Steps p.tables e below (T34.setTop (mkF m 141 #[.val (.ref a1), .val (.long (16 : Int64)), .second, .val (.long (own_mn ((16 : Int64) * (4 : Int64)) (2147483639 : Int64))), .second, .val (.long ((Int32.ofNat (d + 1)).toInt64)), .second, .val (.long ((Int32.ofNat (e' + 1)).toInt64)), .second] [(.long lf), (.ref a1)])) _
    refine st35 _ ?_
    show Steps p.tables e below (T35.setTop (mkF m 144 #[.val (.ref a1), .val (.long (16 : Int64)), .second, .val (.long (own_mn ((16 : Int64) * (4 : Int64)) (2147483639 : Int64))), .second, .val (.long ((Int32.ofNat (d + 1)).toInt64)), .second, .val (.long ((Int32.ofNat (e' + 1)).toInt64)), .second] [])) _
    refine XS.aloadN X35.here hx rfl (hb hby d13_144) rfl rfl ?_
    show Steps p.tables e below (T35.setTop (mkF m 145 #[.val (.ref a1), .val (.long (16 : Int64)), .second, .val (.long (own_mn ((16 : Int64) * (4 : Int64)) (2147483639 : Int64))), .second, .val (.long ((Int32.ofNat (d + 1)).toInt64)), .second, .val (.long ((Int32.ofNat (e' + 1)).toInt64)), .second] [(.ref a1)])) _
    refine XS.lload X35.here hx rfl (hb hby d13_145) rfl ?_
    show Steps p.tables e below (T35.setTop (mkF m 147 #[.val (.ref a1), .val (.long (16 : Int64)), .second, .val (.long (own_mn ((16 : Int64) * (4 : Int64)) (2147483639 : Int64))), .second, .val (.long ((Int32.ofNat (d + 1)).toInt64)), .second, .val (.long ((Int32.ofNat (e' + 1)).toInt64)), .second] [(.long ((Int32.ofNat (d + 1)).toInt64)), (.ref a1)])) _
    refine st36 _ ?_
    show Steps p.tables e below (T36.setTop (mkF m 150 #[.val (.ref a1), .val (.long (16 : Int64)), .second, .val (.long (own_mn ((16 : Int64) * (4 : Int64)) (2147483639 : Int64))), .second, .val (.long ((Int32.ofNat (d + 1)).toInt64)), .second, .val (.long ((Int32.ofNat (e' + 1)).toInt64)), .second] [])) _
    refine XS.aloadN X36.here hx rfl (hb hby d13_150) rfl rfl ?_
    show Steps p.tables e below (T36.setTop (mkF m 151 #[.val (.ref a1), .val (.long (16 : Int64)), .second, .val (.long (own_mn ((16 : Int64) * (4 : Int64)) (2147483639 : Int64))), .second, .val (.long ((Int32.ofNat (d + 1)).toInt64)), .second, .val (.long ((Int32.ofNat (e' + 1)).toInt64)), .second] [(.ref a1)])) _
    refine XS.aloadN X36.here hx rfl (hb hby d13_151) rfl rfl ?_
    show Steps p.tables e below (T36.setTop (mkF m 152 #[.val (.ref a1), .val (.long (16 : Int64)), .second, .val (.long (own_mn ((16 : Int64) * (4 : Int64)) (2147483639 : Int64))), .second, .val (.long ((Int32.ofNat (d + 1)).toInt64)), .second, .val (.long ((Int32.ofNat (e' + 1)).toInt64)), .second] [(.ref a1), (.ref a1)])) _
    refine st37 _ ?_
    show Steps p.tables e below (T37.setTop (mkF m 155 #[.val (.ref a1), .val (.long (16 : Int64)), .second, .val (.long (own_mn ((16 : Int64) * (4 : Int64)) (2147483639 : Int64))), .second, .val (.long ((Int32.ofNat (d + 1)).toInt64)), .second, .val (.long ((Int32.ofNat (e' + 1)).toInt64)), .second] [(.int (2 : Int32)), (.ref a1)])) _
    refine XS.iconst X37.here hx rfl (hb hby d13_155) ?_
    show Steps p.tables e below (T37.setTop (mkF m 156 #[.val (.ref a1), .val (.long (16 : Int64)), .second, .val (.long (own_mn ((16 : Int64) * (4 : Int64)) (2147483639 : Int64))), .second, .val (.long ((Int32.ofNat (d + 1)).toInt64)), .second, .val (.long ((Int32.ofNat (e' + 1)).toInt64)), .second] [(.int (2 : Int32)), (.int (2 : Int32)), (.ref a1)])) _
    refine XS.icmpNo X37.here hx rfl (hb hby d13_156) rfl (teq hc156).2 ?_
    show Steps p.tables e below (T37.setTop (mkF m 159 #[.val (.ref a1), .val (.long (16 : Int64)), .second, .val (.long (own_mn ((16 : Int64) * (4 : Int64)) (2147483639 : Int64))), .second, .val (.long ((Int32.ofNat (d + 1)).toInt64)), .second, .val (.long ((Int32.ofNat (e' + 1)).toInt64)), .second] [(.ref a1)])) _
    refine XS.aloadN X37.here hx rfl (hb hby d13_159) rfl rfl ?_
    show Steps p.tables e below (T37.setTop (mkF m 160 #[.val (.ref a1), .val (.long (16 : Int64)), .second, .val (.long (own_mn ((16 : Int64) * (4 : Int64)) (2147483639 : Int64))), .second, .val (.long ((Int32.ofNat (d + 1)).toInt64)), .second, .val (.long ((Int32.ofNat (e' + 1)).toInt64)), .second] [(.ref a1), (.ref a1)])) _
    refine st38 _ ?_
    show Steps p.tables e below (T38.setTop (mkF m 163 #[.val (.ref a1), .val (.long (16 : Int64)), .second, .val (.long (own_mn ((16 : Int64) * (4 : Int64)) (2147483639 : Int64))), .second, .val (.long ((Int32.ofNat (d + 1)).toInt64)), .second, .val (.long ((Int32.ofNat (e' + 1)).toInt64)), .second] [(.long ls), (.ref a1)])) _
    refine XS.goto X38.here hx rfl (pc0 := 163) (pc' := 167) rfl (hb hby d13_163) (by decide) (by decide) ?_
    show Steps p.tables e below (T38.setTop (mkF m 167 #[.val (.ref a1), .val (.long (16 : Int64)), .second, .val (.long (own_mn ((16 : Int64) * (4 : Int64)) (2147483639 : Int64))), .second, .val (.long ((Int32.ofNat (d + 1)).toInt64)), .second, .val (.long ((Int32.ofNat (e' + 1)).toInt64)), .second] [(.long ls), (.ref a1)])) _
    refine st39 _ ?_
    show Steps p.tables e below (T39.setTop (mkF m 170 #[.val (.ref a1), .val (.long (16 : Int64)), .second, .val (.long (own_mn ((16 : Int64) * (4 : Int64)) (2147483639 : Int64))), .second, .val (.long ((Int32.ofNat (d + 1)).toInt64)), .second, .val (.long ((Int32.ofNat (e' + 1)).toInt64)), .second] [])) _
    refine XS.aloadN X39.here hx rfl (hb hby d13_170) rfl rfl ?_
    show Steps p.tables e below (T39.setTop (mkF m 171 #[.val (.ref a1), .val (.long (16 : Int64)), .second, .val (.long (own_mn ((16 : Int64) * (4 : Int64)) (2147483639 : Int64))), .second, .val (.long ((Int32.ofNat (d + 1)).toInt64)), .second, .val (.long ((Int32.ofNat (e' + 1)).toInt64)), .second] [(.ref a1)])) _
    refine XS.lload X39.here hx rfl (hb hby d13_171) rfl ?_
    show Steps p.tables e below (T39.setTop (mkF m 173 #[.val (.ref a1), .val (.long (16 : Int64)), .second, .val (.long (own_mn ((16 : Int64) * (4 : Int64)) (2147483639 : Int64))), .second, .val (.long ((Int32.ofNat (d + 1)).toInt64)), .second, .val (.long ((Int32.ofNat (e' + 1)).toInt64)), .second] [(.long ((Int32.ofNat (e' + 1)).toInt64)), (.ref a1)])) _
    refine st40 _ ?_
    show Steps p.tables e below (T40.setTop (mkF m 176 #[.val (.ref a1), .val (.long (16 : Int64)), .second, .val (.long (own_mn ((16 : Int64) * (4 : Int64)) (2147483639 : Int64))), .second, .val (.long ((Int32.ofNat (d + 1)).toInt64)), .second, .val (.long ((Int32.ofNat (e' + 1)).toInt64)), .second] [])) _
    refine XS.aloadN X40.here hx rfl (hb hby d13_176) rfl rfl ?_
    show Steps p.tables e below (T40.setTop (mkF m 177 #[.val (.ref a1), .val (.long (16 : Int64)), .second, .val (.long (own_mn ((16 : Int64) * (4 : Int64)) (2147483639 : Int64))), .second, .val (.long ((Int32.ofNat (d + 1)).toInt64)), .second, .val (.long ((Int32.ofNat (e' + 1)).toInt64)), .second] [(.ref a1)])) _
    refine XS.lload X40.here hx rfl (hb hby d13_177) rfl ?_
    show Steps p.tables e below (T40.setTop (mkF m 179 #[.val (.ref a1), .val (.long (16 : Int64)), .second, .val (.long (own_mn ((16 : Int64) * (4 : Int64)) (2147483639 : Int64))), .second, .val (.long ((Int32.ofNat (d + 1)).toInt64)), .second, .val (.long ((Int32.ofNat (e' + 1)).toInt64)), .second] [(.long ((Int32.ofNat (d + 1)).toInt64)), (.ref a1)])) _
    refine XS.lload X40.here hx rfl (hb hby d13_179) rfl ?_
    show Steps p.tables e below (T40.setTop (mkF m 181 #[.val (.ref a1), .val (.long (16 : Int64)), .second, .val (.long (own_mn ((16 : Int64) * (4 : Int64)) (2147483639 : Int64))), .second, .val (.long ((Int32.ofNat (d + 1)).toInt64)), .second, .val (.long ((Int32.ofNat (e' + 1)).toInt64)), .second] [(.long ((Int32.ofNat (e' + 1)).toInt64)), (.long ((Int32.ofNat (d + 1)).toInt64)), (.ref a1)])) _
    refine XS.lmul X40.here hx rfl (hb hby d13_181) rfl ?_
    show Steps p.tables e below (T40.setTop (mkF m 182 #[.val (.ref a1), .val (.long (16 : Int64)), .second, .val (.long (own_mn ((16 : Int64) * (4 : Int64)) (2147483639 : Int64))), .second, .val (.long ((Int32.ofNat (d + 1)).toInt64)), .second, .val (.long ((Int32.ofNat (e' + 1)).toInt64)), .second] [(.long (((Int32.ofNat (d + 1)).toInt64) * ((Int32.ofNat (e' + 1)).toInt64))), (.ref a1)])) _
    refine XS.l2i X40.here hx rfl (hb hby d13_182) rfl ?_
    rw [hpr]
    show Steps p.tables e below (T40.setTop (mkF m 183 #[.val (.ref a1), .val (.long (16 : Int64)), .second, .val (.long (own_mn ((16 : Int64) * (4 : Int64)) (2147483639 : Int64))), .second, .val (.long ((Int32.ofNat (d + 1)).toInt64)), .second, .val (.long ((Int32.ofNat (e' + 1)).toInt64)), .second] [(.int (Int32.ofNat ((d + 1) * (e' + 1)))), (.ref a1)])) _
    refine st41 _ ?_
    show Steps p.tables e below (T41.setTop (mkF m 185 #[.val (.ref a1), .val (.long (16 : Int64)), .second, .val (.long (own_mn ((16 : Int64) * (4 : Int64)) (2147483639 : Int64))), .second, .val (.long ((Int32.ofNat (d + 1)).toInt64)), .second, .val (.long ((Int32.ofNat (e' + 1)).toInt64)), .second] [(.ref b41), (.ref a1)])) _
    refine st42 _ ?_
    show Steps p.tables e below (T42.setTop (mkF m 188 #[.val (.ref a1), .val (.long (16 : Int64)), .second, .val (.long (own_mn ((16 : Int64) * (4 : Int64)) (2147483639 : Int64))), .second, .val (.long ((Int32.ofNat (d + 1)).toInt64)), .second, .val (.long ((Int32.ofNat (e' + 1)).toInt64)), .second] [])) _
    refine XS.iconst X42.here hx rfl (hb hby d13_188) ?_
    show Steps p.tables e below (T42.setTop (mkF m 189 #[.val (.ref a1), .val (.long (16 : Int64)), .second, .val (.long (own_mn ((16 : Int64) * (4 : Int64)) (2147483639 : Int64))), .second, .val (.long ((Int32.ofNat (d + 1)).toInt64)), .second, .val (.long ((Int32.ofNat (e' + 1)).toInt64)), .second] [(.int (1 : Int32))])) _
    exact retN X42 hx (t := .boolean) Bd.returns (by simp) (hb hby d13_189) hr
  · show Q13 Z a1 d e' lf gf ls gs fb fs sb ss nu bf se h0 n0 _ T42.heap _
    rw [e42]
    exact ⟨rfl, N42, K42, b41, D42, owa_other B41 W42 hne41, hne41, g_b41⟩
def Q14a (Z : State) (a1 : Addr) (k : Nat) (p3 : Int32) (q4 : Int64) (wi : Int32) (lf gf ls gs fb fs sb ss : Int64) (t1 : Addr) (bf : Int32) (se : Value) (len : Nat) (h0 : Heap) (n0 : Nat) (v : Option Value) (h : Heap) (L : List Loc) : Prop := v = none ∧ Fr n0 L ∧ Keep h0 h [t1] ∧ DK Z h a1 wi lf gf ls gs fb fs sb ss (.ref t1) bf se ∧ OwA Z h t1 .int len (fun j => if j = k then .int (p3 + (1 : Int32)) else .int 0)
set_option maxRecDepth 65536 in
set_option maxHeartbeats 40000000 in
theorem rm14a (l : Launch) (Z : State) (a0 : Array Value) (hw : ∀ d ∈ tables_1, d.before a0 Z = true) (ws : List Jvm.Cond) (a1 : Addr) (k : Nat) (p3 : Int32) (q4 : Int64) (wi : Int32) (lf gf ls gs fb fs sb ss : Int64) (t1 : Addr) (bf : Int32) (se : Value) (len : Nat) (h0 : Heap) (n0 : Nat) (Z0 : n0 ≤ h0.size) (hk : k < len) (hl : len ≤ 16) (D0 : DK Z h0 a1 wi lf gf ls gs fb fs sb ss (.ref t1) bf se) (A1 : OwA Z h0 t1 .int len (fun _ => .int 0)) (g_t1 : n0 ≤ t1) (hne1 : a1 ≠ t1) (hc13 : bf = (0 : Int32)) :
    MetFree l (⟨"com/example/fairjoin/fairjoin/operator/DirectKeys", "put", "(IIJ)V"⟩ : MethodName) (head1 (Jvm.Cond.code (⟨"com/example/fairjoin/fairjoin/operator/DirectKeys", "put", "(IIJ)V"⟩ : MethodName) prog_151_method_7_code 5 none :: ws) ({ frames := 0, cells := 0, slots := 0, locals := 0 } : Room)) (fun a U => a = #[(.ref a1), (.int (Int32.ofNat k)), (.int p3), (.long q4)] ∧ Z.Warmed39 U.vm ∧ U.heap = h0) (fun _ _ _ _ _ => True) (fun _ U o U' => ∃ v L, o = .returned v ∧ Q14a Z a1 k p3 q4 wi lf gf ls gs fb fs sb ss t1 bf se len h0 n0 v U'.heap L ∧ FrameEnd U o U' L ({ frames := 0, cells := 0, slots := 0, locals := 0 } : Room).cells ({ frames := 0, cells := 0, slots := 0, locals := 0 } : Room).slots) := by
  refine MetFree.of_bodySF (plainFor_of_name pn_14) hisR ?_
  intro p e s m args below meth c s₁ Bd hml0 hP hK
  obtain ⟨rfl, hZ, hh⟩ := hP
  have hx := Bd.exec
  have hby := Bd.bytes
  have hml : c.maxLocals = 5 := hml0
  have hown : s.vm.findClass "com/example/fairjoin/fairjoin/operator/DirectKeys" = some m.cls := findClass_of_methodNamed Bd.named
  have hnm := (name_of_methodNamed Bd.named Bd.method).1
  have X0 : Stand p l e ({ frames := 0, cells := 0, slots := 0, locals := 0 } : Room) s m #[(.ref a1), (.int (Int32.ofNat k)), (.int p3), (.long q4)] below meth c s₁ [] 0 0 := Stand.of_body Bd
  have e0 : s₁.heap = h0 := by rw [← hh, Bd.state]; rfl
  have N0 := Fr.nil n0
  have pre0 : ∀ t, Steps p.tables e below (s₁.setTop (mkF m 0 #[.val (.ref a1), .val (.int (Int32.ofNat k)), .val (.int p3), .val (.long q4), .second] [])) t → Steps p.tables e below (s₁.setTop (entryFrame m #[(.ref a1), (.int (Int32.ofNat k)), (.int p3), (.long q4)] 5)) t := fun t ktt => castTop (ef_14 m a1 (Int32.ofNat k) p3 q4) ktt
  have F_numbers_a1 := dk_nu D0
  have F_byFirst_a1 := dk_bf D0
  have A1' := A1
  obtain ⟨cl_t1, Ar_t1, S_t1, H_t1⟩ := A1
  have hkc : (Int32.ofNat k).toNatClampNeg = k := own_clamp (by omega)
  have hin8 : ¬ ((Int32.ofNat k) < 0 ∨ cl_t1.slots.size ≤ ((Int32.ofNat k)).toNatClampNeg) := owa_in S_t1 (own_pos (by omega)) (by rw [hkc]; exact hk)
  obtain ⟨T6, X6, e6, st6⟩ := getF X0 hx hZ hown (host := "") (Or.inl (hw _ (List.mem_of_getElem? (i := 24) rfl))) Via.refl e0 F_numbers_a1 (g := (mkF m 1 #[.val (.ref a1), .val (.int (Int32.ofNat k)), .val (.int p3), .val (.long q4), .second] [(.ref a1)])) rfl rfl (hb hby d14_1)
  obtain ⟨T7, h7, X7, e7, W7, st7⟩ := stI X6 hx hZ e6 Ar_t1 (j := (Int32.ofNat k)) hin8 (g := (mkF m 8 #[.val (.ref a1), .val (.int (Int32.ofNat k)), .val (.int p3), .val (.long q4), .second] [(.int (p3 + (1 : Int32))), (.int (Int32.ofNat k)), (.ref t1)])) rfl rfl (hb hby d14_8)
  have N7 := Fr.snoc X7 N0 g_t1
  have K7 : Keep h0 h7 [t1] := (Keep.refl h0 [t1]).wr W7 (Or.inl (List.mem_of_getElem? (i := 0) rfl))
  obtain ⟨T9, X9, e9, st9⟩ := getF X7 hx hZ hown (host := "") (Or.inl (hw _ (List.mem_of_getElem? (i := 67) rfl))) Via.refl e7 (F_byFirst_a1.other W7 (Or.inl hne1)) (g := (mkF m 10 #[.val (.ref a1), .val (.int (Int32.ofNat k)), .val (.int p3), .val (.long q4), .second] [(.ref a1)])) rfl rfl (hb hby d14_10)
  obtain ⟨fsr, hr, hrun, hended, hW, hsame⟩ := X9.leave (v := none) (fun _ => rfl)
  refine ⟨_, _, pre0 _ ?_, hrun, hended, _, _, rfl, ?_, ⟨_, rfl⟩, hW, hsame.mono (by decide) (by decide)⟩
  · show Steps p.tables e below (s₁.setTop (mkF m 0 #[.val (.ref a1), .val (.int (Int32.ofNat k)), .val (.int p3), .val (.long q4), .second] [])) _
    refine XS.aloadN X0.here hx rfl (hb hby d14_0) rfl rfl ?_
    show Steps p.tables e below (s₁.setTop (mkF m 1 #[.val (.ref a1), .val (.int (Int32.ofNat k)), .val (.int p3), .val (.long q4), .second] [(.ref a1)])) _
    refine st6 _ ?_
    show Steps p.tables e below (T6.setTop (mkF m 4 #[.val (.ref a1), .val (.int (Int32.ofNat k)), .val (.int p3), .val (.long q4), .second] [(.ref t1)])) _
    refine XS.iloadN X6.here hx rfl (hb hby d14_4) rfl ?_
    show Steps p.tables e below (T6.setTop (mkF m 5 #[.val (.ref a1), .val (.int (Int32.ofNat k)), .val (.int p3), .val (.long q4), .second] [(.int (Int32.ofNat k)), (.ref t1)])) _
    refine XS.iloadN X6.here hx rfl (hb hby d14_5) rfl ?_
    show Steps p.tables e below (T6.setTop (mkF m 6 #[.val (.ref a1), .val (.int (Int32.ofNat k)), .val (.int p3), .val (.long q4), .second] [(.int p3), (.int (Int32.ofNat k)), (.ref t1)])) _
    refine XS.iconst X6.here hx rfl (hb hby d14_6) ?_
    show Steps p.tables e below (T6.setTop (mkF m 7 #[.val (.ref a1), .val (.int (Int32.ofNat k)), .val (.int p3), .val (.long q4), .second] [(.int (1 : Int32)), (.int p3), (.int (Int32.ofNat k)), (.ref t1)])) _
    refine XS.iadd X6.here hx rfl (hb hby d14_7) rfl ?_
    show Steps p.tables e below (T6.setTop (mkF m 8 #[.val (.ref a1), .val (.int (Int32.ofNat k)), .val (.int p3), .val (.long q4), .second] [(.int (p3 + (1 : Int32))), (.int (Int32.ofNat k)), (.ref t1)])) _
    refine st7 _ ?_
    show Steps p.tables e below (T7.setTop (mkF m 9 #[.val (.ref a1), .val (.int (Int32.ofNat k)), .val (.int p3), .val (.long q4), .second] [])) _
    refine XS.aloadN X7.here hx rfl (hb hby d14_9) rfl rfl ?_
    show Steps p.tables e below (T7.setTop (mkF m 10 #[.val (.ref a1), .val (.int (Int32.ofNat k)), .val (.int p3), .val (.long q4), .second] [(.ref a1)])) _
    refine st9 _ ?_
    show Steps p.tables e below (T9.setTop (mkF m 13 #[.val (.ref a1), .val (.int (Int32.ofNat k)), .val (.int p3), .val (.long q4), .second] [(.int bf)])) _
    refine XS.ifYes X9.here hx rfl (pc0 := 13) (pc' := 23) rfl (hb hby d14_13) rfl ((if0 _ _).trans (teq hc13).1) (by decide) (by decide) ?_
    show Steps p.tables e below (T9.setTop (mkF m 23 #[.val (.ref a1), .val (.int (Int32.ofNat k)), .val (.int p3), .val (.long q4), .second] [])) _
    exact X9.returnOut hx Bd.returns (hb hby d14_23) hr
  · show Q14a Z a1 k p3 q4 wi lf gf ls gs fb fs sb ss t1 bf se len h0 n0 _ T9.heap _
    rw [e9]
    exact ⟨rfl, N7, K7, dk_other D0 W7 hne1, owa_congr (owa_set A1' W7) (fun j hj => by rw [hkc])⟩
def Q14b (Z : State) (a1 : Addr) (k : Nat) (p3 : Int32) (q4 : Int64) (wi : Int32) (lf gf ls gs fb fs sb ss : Int64) (t1 : Addr) (bf : Int32) (se : Value) (len : Nat) (t2 : Addr) (h0 : Heap) (n0 : Nat) (v : Option Value) (h : Heap) (L : List Loc) : Prop := v = none ∧ Fr n0 L ∧ Keep h0 h [t1, t2] ∧ DK Z h a1 wi lf gf ls gs fb fs sb ss (.ref t1) bf (.ref t2) ∧ OwA Z h t1 .int len (fun j => if j = k then .int (p3 + (1 : Int32)) else .int 0) ∧ OwA Z h t2 .long len (fun j => if j = k then .long q4 else .long 0)
set_option maxRecDepth 65536 in
set_option maxHeartbeats 40000000 in
theorem rm14b (l : Launch) (Z : State) (a0 : Array Value) (hw : ∀ d ∈ tables_1, d.before a0 Z = true) (ws : List Jvm.Cond) (a1 : Addr) (k : Nat) (p3 : Int32) (q4 : Int64) (wi : Int32) (lf gf ls gs fb fs sb ss : Int64) (t1 : Addr) (bf : Int32) (se : Value) (len : Nat) (t2 : Addr) (h0 : Heap) (n0 : Nat) (Z0 : n0 ≤ h0.size) (hk : k < len) (hl : len ≤ 16) (D0 : DK Z h0 a1 wi lf gf ls gs fb fs sb ss (.ref t1) bf (.ref t2)) (A1 : OwA Z h0 t1 .int len (fun _ => .int 0)) (g_t1 : n0 ≤ t1) (hne1 : a1 ≠ t1) (A2 : OwA Z h0 t2 .long len (fun _ => .long 0)) (g_t2 : n0 ≤ t2) (hne2 : a1 ≠ t2) (hne12 : t1 ≠ t2) (hc13 : ¬ (bf = (0 : Int32))) :
    MetFree l (⟨"com/example/fairjoin/fairjoin/operator/DirectKeys", "put", "(IIJ)V"⟩ : MethodName) (head1 (Jvm.Cond.code (⟨"com/example/fairjoin/fairjoin/operator/DirectKeys", "put", "(IIJ)V"⟩ : MethodName) prog_151_method_7_code 5 none :: ws) ({ frames := 0, cells := 0, slots := 0, locals := 0 } : Room)) (fun a U => a = #[(.ref a1), (.int (Int32.ofNat k)), (.int p3), (.long q4)] ∧ Z.Warmed39 U.vm ∧ U.heap = h0) (fun _ _ _ _ _ => True) (fun _ U o U' => ∃ v L, o = .returned v ∧ Q14b Z a1 k p3 q4 wi lf gf ls gs fb fs sb ss t1 bf se len t2 h0 n0 v U'.heap L ∧ FrameEnd U o U' L ({ frames := 0, cells := 0, slots := 0, locals := 0 } : Room).cells ({ frames := 0, cells := 0, slots := 0, locals := 0 } : Room).slots) := by
  refine MetFree.of_bodySF (plainFor_of_name pn_14) hisR ?_
  intro p e s m args below meth c s₁ Bd hml0 hP hK
  obtain ⟨rfl, hZ, hh⟩ := hP
  have hx := Bd.exec
  have hby := Bd.bytes
  have hml : c.maxLocals = 5 := hml0
  have hown : s.vm.findClass "com/example/fairjoin/fairjoin/operator/DirectKeys" = some m.cls := findClass_of_methodNamed Bd.named
  have hnm := (name_of_methodNamed Bd.named Bd.method).1
  have X0 : Stand p l e ({ frames := 0, cells := 0, slots := 0, locals := 0 } : Room) s m #[(.ref a1), (.int (Int32.ofNat k)), (.int p3), (.long q4)] below meth c s₁ [] 0 0 := Stand.of_body Bd
  have e0 : s₁.heap = h0 := by rw [← hh, Bd.state]; rfl
  have N0 := Fr.nil n0
  have pre0 : ∀ t, Steps p.tables e below (s₁.setTop (mkF m 0 #[.val (.ref a1), .val (.int (Int32.ofNat k)), .val (.int p3), .val (.long q4), .second] [])) t → Steps p.tables e below (s₁.setTop (entryFrame m #[(.ref a1), (.int (Int32.ofNat k)), (.int p3), (.long q4)] 5)) t := fun t ktt => castTop (ef_14 m a1 (Int32.ofNat k) p3 q4) ktt
  have F_numbers_a1 := dk_nu D0
  have F_byFirst_a1 := dk_bf D0
  have A1' := A1
  obtain ⟨cl_t1, Ar_t1, S_t1, H_t1⟩ := A1
  have hkc : (Int32.ofNat k).toNatClampNeg = k := own_clamp (by omega)
  have hin8 : ¬ ((Int32.ofNat k) < 0 ∨ cl_t1.slots.size ≤ ((Int32.ofNat k)).toNatClampNeg) := owa_in S_t1 (own_pos (by omega)) (by rw [hkc]; exact hk)
  have F_seconds_a1 := dk_se D0
  obtain ⟨T6, X6, e6, st6⟩ := getF X0 hx hZ hown (host := "") (Or.inl (hw _ (List.mem_of_getElem? (i := 24) rfl))) Via.refl e0 F_numbers_a1 (g := (mkF m 1 #[.val (.ref a1), .val (.int (Int32.ofNat k)), .val (.int p3), .val (.long q4), .second] [(.ref a1)])) rfl rfl (hb hby d14_1)
  obtain ⟨T7, h7, X7, e7, W7, st7⟩ := stI X6 hx hZ e6 Ar_t1 (j := (Int32.ofNat k)) hin8 (g := (mkF m 8 #[.val (.ref a1), .val (.int (Int32.ofNat k)), .val (.int p3), .val (.long q4), .second] [(.int (p3 + (1 : Int32))), (.int (Int32.ofNat k)), (.ref t1)])) rfl rfl (hb hby d14_8)
  have N7 := Fr.snoc X7 N0 g_t1
  have K7 : Keep h0 h7 [t1, t2] := (Keep.refl h0 [t1, t2]).wr W7 (Or.inl (List.mem_of_getElem? (i := 0) rfl))
  obtain ⟨T9, X9, e9, st9⟩ := getF X7 hx hZ hown (host := "") (Or.inl (hw _ (List.mem_of_getElem? (i := 67) rfl))) Via.refl e7 (F_byFirst_a1.other W7 (Or.inl hne1)) (g := (mkF m 10 #[.val (.ref a1), .val (.int (Int32.ofNat k)), .val (.int p3), .val (.long q4), .second] [(.ref a1)])) rfl rfl (hb hby d14_10)
  obtain ⟨T11, X11, e11, st11⟩ := getF X9 hx hZ hown (host := "") (Or.inl (hw _ (List.mem_of_getElem? (i := 75) rfl))) Via.refl e9 (F_seconds_a1.other W7 (Or.inl hne1)) (g := (mkF m 17 #[.val (.ref a1), .val (.int (Int32.ofNat k)), .val (.int p3), .val (.long q4), .second] [(.ref a1)])) rfl rfl (hb hby d14_17)
  have A2' := owa_other A2 W7 (Ne.symm hne12)
  have A2'' := A2'
  obtain ⟨cl_t2, Ar_t2, S_t2, H_t2⟩ := A2''
  have hin22 : ¬ ((Int32.ofNat k) < 0 ∨ cl_t2.slots.size ≤ ((Int32.ofNat k)).toNatClampNeg) := owa_in S_t2 (own_pos (by omega)) (by rw [hkc]; exact hk)
  obtain ⟨T12, h12, X12, e12, W12, st12⟩ := stJ X11 hx hZ e11 Ar_t2 (j := (Int32.ofNat k)) hin22 (g := (mkF m 22 #[.val (.ref a1), .val (.int (Int32.ofNat k)), .val (.int p3), .val (.long q4), .second] [(.long q4), (.int (Int32.ofNat k)), (.ref t2)])) rfl rfl (hb hby d14_22)
  have N12 := Fr.snoc X12 N7 g_t2
  have K12 : Keep h0 h12 [t1, t2] := K7.wr W12 (Or.inl (List.mem_of_getElem? (i := 1) rfl))
  obtain ⟨fsr, hr, hrun, hended, hW, hsame⟩ := X12.leave (v := none) (fun _ => rfl)
  refine ⟨_, _, pre0 _ ?_, hrun, hended, _, _, rfl, ?_, ⟨_, rfl⟩, hW, hsame.mono (by decide) (by decide)⟩
  · show Steps p.tables e below (s₁.setTop (mkF m 0 #[.val (.ref a1), .val (.int (Int32.ofNat k)), .val (.int p3), .val (.long q4), .second] [])) _
    refine XS.aloadN X0.here hx rfl (hb hby d14_0) rfl rfl ?_
    show Steps p.tables e below (s₁.setTop (mkF m 1 #[.val (.ref a1), .val (.int (Int32.ofNat k)), .val (.int p3), .val (.long q4), .second] [(.ref a1)])) _
    refine st6 _ ?_
    show Steps p.tables e below (T6.setTop (mkF m 4 #[.val (.ref a1), .val (.int (Int32.ofNat k)), .val (.int p3), .val (.long q4), .second] [(.ref t1)])) _
    refine XS.iloadN X6.here hx rfl (hb hby d14_4) rfl ?_
    show Steps p.tables e below (T6.setTop (mkF m 5 #[.val (.ref a1), .val (.int (Int32.ofNat k)), .val (.int p3), .val (.long q4), .second] [(.int (Int32.ofNat k)), (.ref t1)])) _
    refine XS.iloadN X6.here hx rfl (hb hby d14_5) rfl ?_
    show Steps p.tables e below (T6.setTop (mkF m 6 #[.val (.ref a1), .val (.int (Int32.ofNat k)), .val (.int p3), .val (.long q4), .second] [(.int p3), (.int (Int32.ofNat k)), (.ref t1)])) _
    refine XS.iconst X6.here hx rfl (hb hby d14_6) ?_
    show Steps p.tables e below (T6.setTop (mkF m 7 #[.val (.ref a1), .val (.int (Int32.ofNat k)), .val (.int p3), .val (.long q4), .second] [(.int (1 : Int32)), (.int p3), (.int (Int32.ofNat k)), (.ref t1)])) _
    refine XS.iadd X6.here hx rfl (hb hby d14_7) rfl ?_
    show Steps p.tables e below (T6.setTop (mkF m 8 #[.val (.ref a1), .val (.int (Int32.ofNat k)), .val (.int p3), .val (.long q4), .second] [(.int (p3 + (1 : Int32))), (.int (Int32.ofNat k)), (.ref t1)])) _
    refine st7 _ ?_
    show Steps p.tables e below (T7.setTop (mkF m 9 #[.val (.ref a1), .val (.int (Int32.ofNat k)), .val (.int p3), .val (.long q4), .second] [])) _
    refine XS.aloadN X7.here hx rfl (hb hby d14_9) rfl rfl ?_
    show Steps p.tables e below (T7.setTop (mkF m 10 #[.val (.ref a1), .val (.int (Int32.ofNat k)), .val (.int p3), .val (.long q4), .second] [(.ref a1)])) _
    refine st9 _ ?_
    show Steps p.tables e below (T9.setTop (mkF m 13 #[.val (.ref a1), .val (.int (Int32.ofNat k)), .val (.int p3), .val (.long q4), .second] [(.int bf)])) _
    refine XS.ifNo X9.here hx rfl (hb hby d14_13) rfl ((if0 _ _).trans (feq hc13).1) ?_
    show Steps p.tables e below (T9.setTop (mkF m 16 #[.val (.ref a1), .val (.int (Int32.ofNat k)), .val (.int p3), .val (.long q4), .second] [])) _
    refine XS.aloadN X9.here hx rfl (hb hby d14_16) rfl rfl ?_
    show Steps p.tables e below (T9.setTop (mkF m 17 #[.val (.ref a1), .val (.int (Int32.ofNat k)), .val (.int p3), .val (.long q4), .second] [(.ref a1)])) _
    refine st11 _ ?_
    show Steps p.tables e below (T11.setTop (mkF m 20 #[.val (.ref a1), .val (.int (Int32.ofNat k)), .val (.int p3), .val (.long q4), .second] [(.ref t2)])) _
    refine XS.iloadN X11.here hx rfl (hb hby d14_20) rfl ?_
    show Steps p.tables e below (T11.setTop (mkF m 21 #[.val (.ref a1), .val (.int (Int32.ofNat k)), .val (.int p3), .val (.long q4), .second] [(.int (Int32.ofNat k)), (.ref t2)])) _
    refine XS.lloadN X11.here hx rfl (hb hby d14_21) rfl ?_
    show Steps p.tables e below (T11.setTop (mkF m 22 #[.val (.ref a1), .val (.int (Int32.ofNat k)), .val (.int p3), .val (.long q4), .second] [(.long q4), (.int (Int32.ofNat k)), (.ref t2)])) _
    refine st12 _ ?_
    show Steps p.tables e below (T12.setTop (mkF m 23 #[.val (.ref a1), .val (.int (Int32.ofNat k)), .val (.int p3), .val (.long q4), .second] [])) _
    exact X12.returnOut hx Bd.returns (hb hby d14_23) hr
  · show Q14b Z a1 k p3 q4 wi lf gf ls gs fb fs sb ss t1 bf se len t2 h0 n0 _ T12.heap _
    rw [e12]
    exact ⟨rfl, N12, K12, dk_other (dk_other D0 W7 hne1) W12 hne2, owa_congr (owa_other (owa_set A1' W7) W12 hne12) (fun j hj => by rw [hkc]), owa_congr (owa_set A2' W12) (fun j hj => by rw [hkc])⟩
def Q12 (Z : State) (a1 : Addr) (q2 : Int64) (q3 : Int64) (wi : Int32) (lf gf ls gs fb fs sb ss : Int64) (nu : Value) (bf : Int32) (se : Value) (h0 : Heap) (n0 : Nat) (v : Option Value) (h : Heap) (L : List Loc) : Prop := v = some (.int (own_slotD fb fs sb ss q2 q3)) ∧ Fr n0 L ∧ h = h0
set_option maxRecDepth 65536 in
set_option maxHeartbeats 40000000 in
theorem rm12a (l : Launch) (Z : State) (a0 : Array Value) (hw : ∀ d ∈ tables_1, d.before a0 Z = true) (ws : List Jvm.Cond) (a1 : Addr) (q2 : Int64) (q3 : Int64) (wi : Int32) (lf gf ls gs fb fs sb ss : Int64) (nu : Value) (bf : Int32) (se : Value) (h0 : Heap) (n0 : Nat) (Z0 : n0 ≤ h0.size) (D0 : DK Z h0 a1 wi lf gf ls gs fb fs sb ss nu bf se) (hc12 : bf = (0 : Int32)) (hc87 : (lcmpW (q2 - fb) (0 : Int64)) < (0 : Int32)) :
    MetFree l (⟨"com/example/fairjoin/fairjoin/operator/DirectKeys", "slot", "(JJ)I"⟩ : MethodName) (head1 (Jvm.Cond.code (⟨"com/example/fairjoin/fairjoin/operator/DirectKeys", "slot", "(JJ)I"⟩ : MethodName) prog_151_method_4_code 9 (some .int) :: ws) ({ frames := 0, cells := 0, slots := 0, locals := 0 } : Room)) (fun a U => a = #[(.ref a1), (.long q2), (.long q3)] ∧ Z.Warmed39 U.vm ∧ U.heap = h0) (fun _ _ _ _ _ => True) (fun _ U o U' => ∃ v L, o = .returned v ∧ Q12 Z a1 q2 q3 wi lf gf ls gs fb fs sb ss nu bf se h0 n0 v U'.heap L ∧ FrameEnd U o U' L ({ frames := 0, cells := 0, slots := 0, locals := 0 } : Room).cells ({ frames := 0, cells := 0, slots := 0, locals := 0 } : Room).slots) := by
  refine MetFree.of_bodySF (plainFor_of_name pn_12) hisR ?_
  intro p e s m args below meth c s₁ Bd hml0 hP hK
  obtain ⟨rfl, hZ, hh⟩ := hP
  have hx := Bd.exec
  have hby := Bd.bytes
  have hml : c.maxLocals = 9 := hml0
  have hown : s.vm.findClass "com/example/fairjoin/fairjoin/operator/DirectKeys" = some m.cls := findClass_of_methodNamed Bd.named
  have hnm := (name_of_methodNamed Bd.named Bd.method).1
  have X0 : Stand p l e ({ frames := 0, cells := 0, slots := 0, locals := 0 } : Room) s m #[(.ref a1), (.long q2), (.long q3)] below meth c s₁ [] 0 0 := Stand.of_body Bd
  have e0 : s₁.heap = h0 := by rw [← hh, Bd.state]; rfl
  have N0 := Fr.nil n0
  have pre0 : ∀ t, Steps p.tables e below (s₁.setTop (mkF m 0 #[.val (.ref a1), .val (.long q2), .second, .val (.long q3), .second, .unset, .unset, .unset, .unset] [])) t → Steps p.tables e below (s₁.setTop (entryFrame m #[(.ref a1), (.long q2), (.long q3)] 9)) t := fun t ktt => castTop (ef_12 m a1 q2 q3) ktt
  have F_firstBase_a1 := dk_fb D0
  have F_byFirst_a1 := dk_bf D0
  have F_firstSpan_a1 := dk_fs D0
  have F_secondBase_a1 := dk_sb D0
  have F_secondSpan_a1 := dk_ss D0
  have F_numbers_a1 := dk_nu D0
  have F_seconds_a1 := dk_se D0
  obtain ⟨T5, X5, e5, st5⟩ := getF X0 hx hZ hown (host := "") (Or.inl (hw _ (List.mem_of_getElem? (i := 69) rfl))) Via.refl e0 F_firstBase_a1 (g := (mkF m 2 #[.val (.ref a1), .val (.long q2), .second, .val (.long q3), .second, .unset, .unset, .unset, .unset] [(.ref a1), (.long q2)])) rfl rfl (hb hby d12_2)
  obtain ⟨T7, X7, e7, st7⟩ := getF X5 hx hZ hown (host := "") (Or.inl (hw _ (List.mem_of_getElem? (i := 67) rfl))) Via.refl e5 F_byFirst_a1 (g := (mkF m 9 #[.val (.ref a1), .val (.long q2), .second, .val (.long q3), .second, .val (.long (q2 - fb)), .second, .unset, .unset] [(.ref a1)])) rfl rfl (hb hby d12_9)
  obtain ⟨T9, X9, e9, st9⟩ := getF X7 hx hZ hown (host := "") (Or.inl (hw _ (List.mem_of_getElem? (i := 73) rfl))) Via.refl e7 F_secondBase_a1 (g := (mkF m 77 #[.val (.ref a1), .val (.long q2), .second, .val (.long q3), .second, .val (.long (q2 - fb)), .second, .unset, .unset] [(.ref a1), (.long q3)])) rfl rfl (hb hby d12_77)
  obtain ⟨fsr, hr, hrun, hended, hW, hsame⟩ := X9.leave (v := some (.int (-1 : Int32))) (fun h => by rw [Bd.returns] at h; cases h)
  refine ⟨_, _, pre0 _ ?_, hrun, hended, _, _, rfl, ?_, ⟨_, rfl⟩, hW, hsame.mono (by decide) (by decide)⟩
  · show Steps p.tables e below (s₁.setTop (mkF m 0 #[.val (.ref a1), .val (.long q2), .second, .val (.long q3), .second, .unset, .unset, .unset, .unset] [])) _
    refine XS.lloadN X0.here hx rfl (hb hby d12_0) rfl ?_
    show Steps p.tables e below (s₁.setTop (mkF m 1 #[.val (.ref a1), .val (.long q2), .second, .val (.long q3), .second, .unset, .unset, .unset, .unset] [(.long q2)])) _
    refine XS.aloadN X0.here hx rfl (hb hby d12_1) rfl rfl ?_
    show Steps p.tables e below (s₁.setTop (mkF m 2 #[.val (.ref a1), .val (.long q2), .second, .val (.long q3), .second, .unset, .unset, .unset, .unset] [(.ref a1), (.long q2)])) _
    refine st5 _ ?_
    show Steps p.tables e below (T5.setTop (mkF m 5 #[.val (.ref a1), .val (.long q2), .second, .val (.long q3), .second, .unset, .unset, .unset, .unset] [(.long fb), (.long q2)])) _
    refine XS.lsub X5.here hx rfl (hb hby d12_5) rfl ?_
    show Steps p.tables e below (T5.setTop (mkF m 6 #[.val (.ref a1), .val (.long q2), .second, .val (.long q3), .second, .unset, .unset, .unset, .unset] [(.long (q2 - fb))])) _
    refine XS.lstore X5.here hx rfl (hb hby d12_6) rfl (l' := #[.val (.ref a1), .val (.long q2), .second, .val (.long q3), .second, .val (.long (q2 - fb)), .second, .unset, .unset]) rfl ?_
    show Steps p.tables e below (T5.setTop (mkF m 8 #[.val (.ref a1), .val (.long q2), .second, .val (.long q3), .second, .val (.long (q2 - fb)), .second, .unset, .unset] [])) _
    refine XS.aloadN X5.here hx rfl (hb hby d12_8) rfl rfl ?_
    show Steps p.tables e below (T5.setTop (mkF m 9 #[.val (.ref a1), .val (.long q2), .second, .val (.long q3), .second, .val (.long (q2 - fb)), .second, .unset, .unset] [(.ref a1)])) _
    refine st7 _ ?_
    show Steps p.tables e below (T7.setTop (mkF m 12 #[.val (.ref a1), .val (.long q2), .second, .val (.long q3), .second, .val (.long (q2 - fb)), .second, .unset, .unset] [(.int bf)])) _
    refine XS.ifYes X7.here hx rfl (pc0 := 12) (pc' := 75) rfl (hb hby d12_12) rfl ((if0 _ _).trans (teq hc12).1) (by decide) (by decide) ?_
    show Steps p.tables e below (T7.setTop (mkF m 75 #[.val (.ref a1), .val (.long q2), .second, .val (.long q3), .second, .val (.long (q2 - fb)), .second, .unset, .unset] [])) _
    refine XS.lloadN X7.here hx rfl (hb hby d12_75) rfl ?_
    show Steps p.tables e below (T7.setTop (mkF m 76 #[.val (.ref a1), .val (.long q2), .second, .val (.long q3), .second, .val (.long (q2 - fb)), .second, .unset, .unset] [(.long q3)])) _
    refine XS.aloadN X7.here hx rfl (hb hby d12_76) rfl rfl ?_
    show Steps p.tables e below (T7.setTop (mkF m 77 #[.val (.ref a1), .val (.long q2), .second, .val (.long q3), .second, .val (.long (q2 - fb)), .second, .unset, .unset] [(.ref a1), (.long q3)])) _
    refine st9 _ ?_
    show Steps p.tables e below (T9.setTop (mkF m 80 #[.val (.ref a1), .val (.long q2), .second, .val (.long q3), .second, .val (.long (q2 - fb)), .second, .unset, .unset] [(.long sb), (.long q3)])) _
    refine XS.lsub X9.here hx rfl (hb hby d12_80) rfl ?_
    show Steps p.tables e below (T9.setTop (mkF m 81 #[.val (.ref a1), .val (.long q2), .second, .val (.long q3), .second, .val (.long (q2 - fb)), .second, .unset, .unset] [(.long (q3 - sb))])) _
    refine XS.lstore X9.here hx rfl (hb hby d12_81) rfl (l' := #[.val (.ref a1), .val (.long q2), .second, .val (.long q3), .second, .val (.long (q2 - fb)), .second, .val (.long (q3 - sb)), .second]) rfl ?_
    show Steps p.tables e below (T9.setTop (mkF m 83 #[.val (.ref a1), .val (.long q2), .second, .val (.long q3), .second, .val (.long (q2 - fb)), .second, .val (.long (q3 - sb)), .second] [])) _
    refine XS.lload X9.here hx rfl (hb hby d12_83) rfl ?_
    show Steps p.tables e below (T9.setTop (mkF m 85 #[.val (.ref a1), .val (.long q2), .second, .val (.long q3), .second, .val (.long (q2 - fb)), .second, .val (.long (q3 - sb)), .second] [(.long (q2 - fb))])) _
    refine XS.lconst X9.here hx rfl (hb hby d12_85) ?_
    show Steps p.tables e below (T9.setTop (mkF m 86 #[.val (.ref a1), .val (.long q2), .second, .val (.long q3), .second, .val (.long (q2 - fb)), .second, .val (.long (q3 - sb)), .second] [(.long (0 : Int64)), (.long (q2 - fb))])) _
    refine XS.lcmp X9.here hx rfl (hb hby d12_86) rfl ?_
    show Steps p.tables e below (T9.setTop (mkF m 87 #[.val (.ref a1), .val (.long q2), .second, .val (.long q3), .second, .val (.long (q2 - fb)), .second, .val (.long (q3 - sb)), .second] [(.int (lcmpW (q2 - fb) (0 : Int64)))])) _
    refine XS.ifYes X9.here hx rfl (pc0 := 87) (pc' := 131) rfl (hb hby d12_87) rfl ((if0 _ _).trans (tlt hc87).1) (by decide) (by decide) ?_
    show Steps p.tables e below (T9.setTop (mkF m 131 #[.val (.ref a1), .val (.long q2), .second, .val (.long q3), .second, .val (.long (q2 - fb)), .second, .val (.long (q3 - sb)), .second] [])) _
    refine XS.iconst X9.here hx rfl (hb hby d12_131) ?_
    show Steps p.tables e below (T9.setTop (mkF m 132 #[.val (.ref a1), .val (.long q2), .second, .val (.long q3), .second, .val (.long (q2 - fb)), .second, .val (.long (q3 - sb)), .second] [(.int (-1 : Int32))])) _
    exact retI X9 hx Bd.returns (hb hby d12_132) hr
  · show Q12 Z a1 q2 q3 wi lf gf ls gs fb fs sb ss nu bf se h0 n0 _ T9.heap _
    rw [e9]
    exact ⟨by rw [own_slotD, if_pos hc87], N0, rfl⟩
set_option maxRecDepth 65536 in
set_option maxHeartbeats 40000000 in
theorem rm12b (l : Launch) (Z : State) (a0 : Array Value) (hw : ∀ d ∈ tables_1, d.before a0 Z = true) (ws : List Jvm.Cond) (a1 : Addr) (q2 : Int64) (q3 : Int64) (wi : Int32) (lf gf ls gs fb fs sb ss : Int64) (nu : Value) (bf : Int32) (se : Value) (h0 : Heap) (n0 : Nat) (Z0 : n0 ≤ h0.size) (D0 : DK Z h0 a1 wi lf gf ls gs fb fs sb ss nu bf se) (hc12 : bf = (0 : Int32)) (hc87 : ¬ ((lcmpW (q2 - fb) (0 : Int64)) < (0 : Int32))) (hc97 : ¬ ((lcmpW (q2 - fb) fs) < (0 : Int32))) :
    MetFree l (⟨"com/example/fairjoin/fairjoin/operator/DirectKeys", "slot", "(JJ)I"⟩ : MethodName) (head1 (Jvm.Cond.code (⟨"com/example/fairjoin/fairjoin/operator/DirectKeys", "slot", "(JJ)I"⟩ : MethodName) prog_151_method_4_code 9 (some .int) :: ws) ({ frames := 0, cells := 0, slots := 0, locals := 0 } : Room)) (fun a U => a = #[(.ref a1), (.long q2), (.long q3)] ∧ Z.Warmed39 U.vm ∧ U.heap = h0) (fun _ _ _ _ _ => True) (fun _ U o U' => ∃ v L, o = .returned v ∧ Q12 Z a1 q2 q3 wi lf gf ls gs fb fs sb ss nu bf se h0 n0 v U'.heap L ∧ FrameEnd U o U' L ({ frames := 0, cells := 0, slots := 0, locals := 0 } : Room).cells ({ frames := 0, cells := 0, slots := 0, locals := 0 } : Room).slots) := by
  refine MetFree.of_bodySF (plainFor_of_name pn_12) hisR ?_
  intro p e s m args below meth c s₁ Bd hml0 hP hK
  obtain ⟨rfl, hZ, hh⟩ := hP
  have hx := Bd.exec
  have hby := Bd.bytes
  have hml : c.maxLocals = 9 := hml0
  have hown : s.vm.findClass "com/example/fairjoin/fairjoin/operator/DirectKeys" = some m.cls := findClass_of_methodNamed Bd.named
  have hnm := (name_of_methodNamed Bd.named Bd.method).1
  have X0 : Stand p l e ({ frames := 0, cells := 0, slots := 0, locals := 0 } : Room) s m #[(.ref a1), (.long q2), (.long q3)] below meth c s₁ [] 0 0 := Stand.of_body Bd
  have e0 : s₁.heap = h0 := by rw [← hh, Bd.state]; rfl
  have N0 := Fr.nil n0
  have pre0 : ∀ t, Steps p.tables e below (s₁.setTop (mkF m 0 #[.val (.ref a1), .val (.long q2), .second, .val (.long q3), .second, .unset, .unset, .unset, .unset] [])) t → Steps p.tables e below (s₁.setTop (entryFrame m #[(.ref a1), (.long q2), (.long q3)] 9)) t := fun t ktt => castTop (ef_12 m a1 q2 q3) ktt
  have F_firstBase_a1 := dk_fb D0
  have F_byFirst_a1 := dk_bf D0
  have F_firstSpan_a1 := dk_fs D0
  have F_secondBase_a1 := dk_sb D0
  have F_secondSpan_a1 := dk_ss D0
  have F_numbers_a1 := dk_nu D0
  have F_seconds_a1 := dk_se D0
  obtain ⟨T5, X5, e5, st5⟩ := getF X0 hx hZ hown (host := "") (Or.inl (hw _ (List.mem_of_getElem? (i := 69) rfl))) Via.refl e0 F_firstBase_a1 (g := (mkF m 2 #[.val (.ref a1), .val (.long q2), .second, .val (.long q3), .second, .unset, .unset, .unset, .unset] [(.ref a1), (.long q2)])) rfl rfl (hb hby d12_2)
  obtain ⟨T7, X7, e7, st7⟩ := getF X5 hx hZ hown (host := "") (Or.inl (hw _ (List.mem_of_getElem? (i := 67) rfl))) Via.refl e5 F_byFirst_a1 (g := (mkF m 9 #[.val (.ref a1), .val (.long q2), .second, .val (.long q3), .second, .val (.long (q2 - fb)), .second, .unset, .unset] [(.ref a1)])) rfl rfl (hb hby d12_9)
  obtain ⟨T9, X9, e9, st9⟩ := getF X7 hx hZ hown (host := "") (Or.inl (hw _ (List.mem_of_getElem? (i := 73) rfl))) Via.refl e7 F_secondBase_a1 (g := (mkF m 77 #[.val (.ref a1), .val (.long q2), .second, .val (.long q3), .second, .val (.long (q2 - fb)), .second, .unset, .unset] [(.ref a1), (.long q3)])) rfl rfl (hb hby d12_77)
  obtain ⟨T11, X11, e11, st11⟩ := getF X9 hx hZ hown (host := "") (Or.inl (hw _ (List.mem_of_getElem? (i := 71) rfl))) Via.refl e9 F_firstSpan_a1 (g := (mkF m 93 #[.val (.ref a1), .val (.long q2), .second, .val (.long q3), .second, .val (.long (q2 - fb)), .second, .val (.long (q3 - sb)), .second] [(.ref a1), (.long (q2 - fb))])) rfl rfl (hb hby d12_93)
  obtain ⟨fsr, hr, hrun, hended, hW, hsame⟩ := X11.leave (v := some (.int (-1 : Int32))) (fun h => by rw [Bd.returns] at h; cases h)
  refine ⟨_, _, pre0 _ ?_, hrun, hended, _, _, rfl, ?_, ⟨_, rfl⟩, hW, hsame.mono (by decide) (by decide)⟩
  · show Steps p.tables e below (s₁.setTop (mkF m 0 #[.val (.ref a1), .val (.long q2), .second, .val (.long q3), .second, .unset, .unset, .unset, .unset] [])) _
    refine XS.lloadN X0.here hx rfl (hb hby d12_0) rfl ?_
    show Steps p.tables e below (s₁.setTop (mkF m 1 #[.val (.ref a1), .val (.long q2), .second, .val (.long q3), .second, .unset, .unset, .unset, .unset] [(.long q2)])) _
    refine XS.aloadN X0.here hx rfl (hb hby d12_1) rfl rfl ?_
    show Steps p.tables e below (s₁.setTop (mkF m 2 #[.val (.ref a1), .val (.long q2), .second, .val (.long q3), .second, .unset, .unset, .unset, .unset] [(.ref a1), (.long q2)])) _
    refine st5 _ ?_
    show Steps p.tables e below (T5.setTop (mkF m 5 #[.val (.ref a1), .val (.long q2), .second, .val (.long q3), .second, .unset, .unset, .unset, .unset] [(.long fb), (.long q2)])) _
    refine XS.lsub X5.here hx rfl (hb hby d12_5) rfl ?_
    show Steps p.tables e below (T5.setTop (mkF m 6 #[.val (.ref a1), .val (.long q2), .second, .val (.long q3), .second, .unset, .unset, .unset, .unset] [(.long (q2 - fb))])) _
    refine XS.lstore X5.here hx rfl (hb hby d12_6) rfl (l' := #[.val (.ref a1), .val (.long q2), .second, .val (.long q3), .second, .val (.long (q2 - fb)), .second, .unset, .unset]) rfl ?_
    show Steps p.tables e below (T5.setTop (mkF m 8 #[.val (.ref a1), .val (.long q2), .second, .val (.long q3), .second, .val (.long (q2 - fb)), .second, .unset, .unset] [])) _
    refine XS.aloadN X5.here hx rfl (hb hby d12_8) rfl rfl ?_
    show Steps p.tables e below (T5.setTop (mkF m 9 #[.val (.ref a1), .val (.long q2), .second, .val (.long q3), .second, .val (.long (q2 - fb)), .second, .unset, .unset] [(.ref a1)])) _
    refine st7 _ ?_
    show Steps p.tables e below (T7.setTop (mkF m 12 #[.val (.ref a1), .val (.long q2), .second, .val (.long q3), .second, .val (.long (q2 - fb)), .second, .unset, .unset] [(.int bf)])) _
    refine XS.ifYes X7.here hx rfl (pc0 := 12) (pc' := 75) rfl (hb hby d12_12) rfl ((if0 _ _).trans (teq hc12).1) (by decide) (by decide) ?_
    show Steps p.tables e below (T7.setTop (mkF m 75 #[.val (.ref a1), .val (.long q2), .second, .val (.long q3), .second, .val (.long (q2 - fb)), .second, .unset, .unset] [])) _
    refine XS.lloadN X7.here hx rfl (hb hby d12_75) rfl ?_
    show Steps p.tables e below (T7.setTop (mkF m 76 #[.val (.ref a1), .val (.long q2), .second, .val (.long q3), .second, .val (.long (q2 - fb)), .second, .unset, .unset] [(.long q3)])) _
    refine XS.aloadN X7.here hx rfl (hb hby d12_76) rfl rfl ?_
    show Steps p.tables e below (T7.setTop (mkF m 77 #[.val (.ref a1), .val (.long q2), .second, .val (.long q3), .second, .val (.long (q2 - fb)), .second, .unset, .unset] [(.ref a1), (.long q3)])) _
    refine st9 _ ?_
    show Steps p.tables e below (T9.setTop (mkF m 80 #[.val (.ref a1), .val (.long q2), .second, .val (.long q3), .second, .val (.long (q2 - fb)), .second, .unset, .unset] [(.long sb), (.long q3)])) _
    refine XS.lsub X9.here hx rfl (hb hby d12_80) rfl ?_
    show Steps p.tables e below (T9.setTop (mkF m 81 #[.val (.ref a1), .val (.long q2), .second, .val (.long q3), .second, .val (.long (q2 - fb)), .second, .unset, .unset] [(.long (q3 - sb))])) _
    refine XS.lstore X9.here hx rfl (hb hby d12_81) rfl (l' := #[.val (.ref a1), .val (.long q2), .second, .val (.long q3), .second, .val (.long (q2 - fb)), .second, .val (.long (q3 - sb)), .second]) rfl ?_
    show Steps p.tables e below (T9.setTop (mkF m 83 #[.val (.ref a1), .val (.long q2), .second, .val (.long q3), .second, .val (.long (q2 - fb)), .second, .val (.long (q3 - sb)), .second] [])) _
    refine XS.lload X9.here hx rfl (hb hby d12_83) rfl ?_
    show Steps p.tables e below (T9.setTop (mkF m 85 #[.val (.ref a1), .val (.long q2), .second, .val (.long q3), .second, .val (.long (q2 - fb)), .second, .val (.long (q3 - sb)), .second] [(.long (q2 - fb))])) _
    refine XS.lconst X9.here hx rfl (hb hby d12_85) ?_
    show Steps p.tables e below (T9.setTop (mkF m 86 #[.val (.ref a1), .val (.long q2), .second, .val (.long q3), .second, .val (.long (q2 - fb)), .second, .val (.long (q3 - sb)), .second] [(.long (0 : Int64)), (.long (q2 - fb))])) _
    refine XS.lcmp X9.here hx rfl (hb hby d12_86) rfl ?_
    show Steps p.tables e below (T9.setTop (mkF m 87 #[.val (.ref a1), .val (.long q2), .second, .val (.long q3), .second, .val (.long (q2 - fb)), .second, .val (.long (q3 - sb)), .second] [(.int (lcmpW (q2 - fb) (0 : Int64)))])) _
    refine XS.ifNo X9.here hx rfl (hb hby d12_87) rfl ((if0 _ _).trans (flt hc87).1) ?_
    show Steps p.tables e below (T9.setTop (mkF m 90 #[.val (.ref a1), .val (.long q2), .second, .val (.long q3), .second, .val (.long (q2 - fb)), .second, .val (.long (q3 - sb)), .second] [])) _
    refine XS.lload X9.here hx rfl (hb hby d12_90) rfl ?_
    show Steps p.tables e below (T9.setTop (mkF m 92 #[.val (.ref a1), .val (.long q2), .second, .val (.long q3), .second, .val (.long (q2 - fb)), .second, .val (.long (q3 - sb)), .second] [(.long (q2 - fb))])) _
    refine XS.aloadN X9.here hx rfl (hb hby d12_92) rfl rfl ?_
    show Steps p.tables e below (T9.setTop (mkF m 93 #[.val (.ref a1), .val (.long q2), .second, .val (.long q3), .second, .val (.long (q2 - fb)), .second, .val (.long (q3 - sb)), .second] [(.ref a1), (.long (q2 - fb))])) _
    refine st11 _ ?_
    show Steps p.tables e below (T11.setTop (mkF m 96 #[.val (.ref a1), .val (.long q2), .second, .val (.long q3), .second, .val (.long (q2 - fb)), .second, .val (.long (q3 - sb)), .second] [(.long fs), (.long (q2 - fb))])) _
    refine XS.lcmp X11.here hx rfl (hb hby d12_96) rfl ?_
    show Steps p.tables e below (T11.setTop (mkF m 97 #[.val (.ref a1), .val (.long q2), .second, .val (.long q3), .second, .val (.long (q2 - fb)), .second, .val (.long (q3 - sb)), .second] [(.int (lcmpW (q2 - fb) fs))])) _
    refine XS.ifYes X11.here hx rfl (pc0 := 97) (pc' := 131) rfl (hb hby d12_97) rfl ((if0 _ _).trans (flt hc97).2.1) (by decide) (by decide) ?_
    show Steps p.tables e below (T11.setTop (mkF m 131 #[.val (.ref a1), .val (.long q2), .second, .val (.long q3), .second, .val (.long (q2 - fb)), .second, .val (.long (q3 - sb)), .second] [])) _
    refine XS.iconst X11.here hx rfl (hb hby d12_131) ?_
    show Steps p.tables e below (T11.setTop (mkF m 132 #[.val (.ref a1), .val (.long q2), .second, .val (.long q3), .second, .val (.long (q2 - fb)), .second, .val (.long (q3 - sb)), .second] [(.int (-1 : Int32))])) _
    exact retI X11 hx Bd.returns (hb hby d12_132) hr
  · show Q12 Z a1 q2 q3 wi lf gf ls gs fb fs sb ss nu bf se h0 n0 _ T11.heap _
    rw [e11]
    exact ⟨by rw [own_slotD, if_neg hc87, if_neg hc97], N0, rfl⟩
set_option maxRecDepth 65536 in
set_option maxHeartbeats 40000000 in
theorem rm12c (l : Launch) (Z : State) (a0 : Array Value) (hw : ∀ d ∈ tables_1, d.before a0 Z = true) (ws : List Jvm.Cond) (a1 : Addr) (q2 : Int64) (q3 : Int64) (wi : Int32) (lf gf ls gs fb fs sb ss : Int64) (nu : Value) (bf : Int32) (se : Value) (h0 : Heap) (n0 : Nat) (Z0 : n0 ≤ h0.size) (D0 : DK Z h0 a1 wi lf gf ls gs fb fs sb ss nu bf se) (hc12 : bf = (0 : Int32)) (hc87 : ¬ ((lcmpW (q2 - fb) (0 : Int64)) < (0 : Int32))) (hc97 : (lcmpW (q2 - fb) fs) < (0 : Int32)) (hc104 : (lcmpW (q3 - sb) (0 : Int64)) < (0 : Int32)) :
    MetFree l (⟨"com/example/fairjoin/fairjoin/operator/DirectKeys", "slot", "(JJ)I"⟩ : MethodName) (head1 (Jvm.Cond.code (⟨"com/example/fairjoin/fairjoin/operator/DirectKeys", "slot", "(JJ)I"⟩ : MethodName) prog_151_method_4_code 9 (some .int) :: ws) ({ frames := 0, cells := 0, slots := 0, locals := 0 } : Room)) (fun a U => a = #[(.ref a1), (.long q2), (.long q3)] ∧ Z.Warmed39 U.vm ∧ U.heap = h0) (fun _ _ _ _ _ => True) (fun _ U o U' => ∃ v L, o = .returned v ∧ Q12 Z a1 q2 q3 wi lf gf ls gs fb fs sb ss nu bf se h0 n0 v U'.heap L ∧ FrameEnd U o U' L ({ frames := 0, cells := 0, slots := 0, locals := 0 } : Room).cells ({ frames := 0, cells := 0, slots := 0, locals := 0 } : Room).slots) := by
  refine MetFree.of_bodySF (plainFor_of_name pn_12) hisR ?_
  intro p e s m args below meth c s₁ Bd hml0 hP hK
  obtain ⟨rfl, hZ, hh⟩ := hP
  have hx := Bd.exec
  have hby := Bd.bytes
  have hml : c.maxLocals = 9 := hml0
  have hown : s.vm.findClass "com/example/fairjoin/fairjoin/operator/DirectKeys" = some m.cls := findClass_of_methodNamed Bd.named
  have hnm := (name_of_methodNamed Bd.named Bd.method).1
  have X0 : Stand p l e ({ frames := 0, cells := 0, slots := 0, locals := 0 } : Room) s m #[(.ref a1), (.long q2), (.long q3)] below meth c s₁ [] 0 0 := Stand.of_body Bd
  have e0 : s₁.heap = h0 := by rw [← hh, Bd.state]; rfl
  have N0 := Fr.nil n0
  have pre0 : ∀ t, Steps p.tables e below (s₁.setTop (mkF m 0 #[.val (.ref a1), .val (.long q2), .second, .val (.long q3), .second, .unset, .unset, .unset, .unset] [])) t → Steps p.tables e below (s₁.setTop (entryFrame m #[(.ref a1), (.long q2), (.long q3)] 9)) t := fun t ktt => castTop (ef_12 m a1 q2 q3) ktt
  have F_firstBase_a1 := dk_fb D0
  have F_byFirst_a1 := dk_bf D0
  have F_firstSpan_a1 := dk_fs D0
  have F_secondBase_a1 := dk_sb D0
  have F_secondSpan_a1 := dk_ss D0
  have F_numbers_a1 := dk_nu D0
  have F_seconds_a1 := dk_se D0
  obtain ⟨T5, X5, e5, st5⟩ := getF X0 hx hZ hown (host := "") (Or.inl (hw _ (List.mem_of_getElem? (i := 69) rfl))) Via.refl e0 F_firstBase_a1 (g := (mkF m 2 #[.val (.ref a1), .val (.long q2), .second, .val (.long q3), .second, .unset, .unset, .unset, .unset] [(.ref a1), (.long q2)])) rfl rfl (hb hby d12_2)
  obtain ⟨T7, X7, e7, st7⟩ := getF X5 hx hZ hown (host := "") (Or.inl (hw _ (List.mem_of_getElem? (i := 67) rfl))) Via.refl e5 F_byFirst_a1 (g := (mkF m 9 #[.val (.ref a1), .val (.long q2), .second, .val (.long q3), .second, .val (.long (q2 - fb)), .second, .unset, .unset] [(.ref a1)])) rfl rfl (hb hby d12_9)
  obtain ⟨T9, X9, e9, st9⟩ := getF X7 hx hZ hown (host := "") (Or.inl (hw _ (List.mem_of_getElem? (i := 73) rfl))) Via.refl e7 F_secondBase_a1 (g := (mkF m 77 #[.val (.ref a1), .val (.long q2), .second, .val (.long q3), .second, .val (.long (q2 - fb)), .second, .unset, .unset] [(.ref a1), (.long q3)])) rfl rfl (hb hby d12_77)
  obtain ⟨T11, X11, e11, st11⟩ := getF X9 hx hZ hown (host := "") (Or.inl (hw _ (List.mem_of_getElem? (i := 71) rfl))) Via.refl e9 F_firstSpan_a1 (g := (mkF m 93 #[.val (.ref a1), .val (.long q2), .second, .val (.long q3), .second, .val (.long (q2 - fb)), .second, .val (.long (q3 - sb)), .second] [(.ref a1), (.long (q2 - fb))])) rfl rfl (hb hby d12_93)
  obtain ⟨fsr, hr, hrun, hended, hW, hsame⟩ := X11.leave (v := some (.int (-1 : Int32))) (fun h => by rw [Bd.returns] at h; cases h)
  refine ⟨_, _, pre0 _ ?_, hrun, hended, _, _, rfl, ?_, ⟨_, rfl⟩, hW, hsame.mono (by decide) (by decide)⟩
  · show Steps p.tables e below (s₁.setTop (mkF m 0 #[.val (.ref a1), .val (.long q2), .second, .val (.long q3), .second, .unset, .unset, .unset, .unset] [])) _
    refine XS.lloadN X0.here hx rfl (hb hby d12_0) rfl ?_
    show Steps p.tables e below (s₁.setTop (mkF m 1 #[.val (.ref a1), .val (.long q2), .second, .val (.long q3), .second, .unset, .unset, .unset, .unset] [(.long q2)])) _
    refine XS.aloadN X0.here hx rfl (hb hby d12_1) rfl rfl ?_
    show Steps p.tables e below (s₁.setTop (mkF m 2 #[.val (.ref a1), .val (.long q2), .second, .val (.long q3), .second, .unset, .unset, .unset, .unset] [(.ref a1), (.long q2)])) _
    refine st5 _ ?_
    show Steps p.tables e below (T5.setTop (mkF m 5 #[.val (.ref a1), .val (.long q2), .second, .val (.long q3), .second, .unset, .unset, .unset, .unset] [(.long fb), (.long q2)])) _
    refine XS.lsub X5.here hx rfl (hb hby d12_5) rfl ?_
    show Steps p.tables e below (T5.setTop (mkF m 6 #[.val (.ref a1), .val (.long q2), .second, .val (.long q3), .second, .unset, .unset, .unset, .unset] [(.long (q2 - fb))])) _
    refine XS.lstore X5.here hx rfl (hb hby d12_6) rfl (l' := #[.val (.ref a1), .val (.long q2), .second, .val (.long q3), .second, .val (.long (q2 - fb)), .second, .unset, .unset]) rfl ?_
    show Steps p.tables e below (T5.setTop (mkF m 8 #[.val (.ref a1), .val (.long q2), .second, .val (.long q3), .second, .val (.long (q2 - fb)), .second, .unset, .unset] [])) _
    refine XS.aloadN X5.here hx rfl (hb hby d12_8) rfl rfl ?_
    show Steps p.tables e below (T5.setTop (mkF m 9 #[.val (.ref a1), .val (.long q2), .second, .val (.long q3), .second, .val (.long (q2 - fb)), .second, .unset, .unset] [(.ref a1)])) _
    refine st7 _ ?_
    show Steps p.tables e below (T7.setTop (mkF m 12 #[.val (.ref a1), .val (.long q2), .second, .val (.long q3), .second, .val (.long (q2 - fb)), .second, .unset, .unset] [(.int bf)])) _
    refine XS.ifYes X7.here hx rfl (pc0 := 12) (pc' := 75) rfl (hb hby d12_12) rfl ((if0 _ _).trans (teq hc12).1) (by decide) (by decide) ?_
    show Steps p.tables e below (T7.setTop (mkF m 75 #[.val (.ref a1), .val (.long q2), .second, .val (.long q3), .second, .val (.long (q2 - fb)), .second, .unset, .unset] [])) _
    refine XS.lloadN X7.here hx rfl (hb hby d12_75) rfl ?_
    show Steps p.tables e below (T7.setTop (mkF m 76 #[.val (.ref a1), .val (.long q2), .second, .val (.long q3), .second, .val (.long (q2 - fb)), .second, .unset, .unset] [(.long q3)])) _
    refine XS.aloadN X7.here hx rfl (hb hby d12_76) rfl rfl ?_
    show Steps p.tables e below (T7.setTop (mkF m 77 #[.val (.ref a1), .val (.long q2), .second, .val (.long q3), .second, .val (.long (q2 - fb)), .second, .unset, .unset] [(.ref a1), (.long q3)])) _
    refine st9 _ ?_
    show Steps p.tables e below (T9.setTop (mkF m 80 #[.val (.ref a1), .val (.long q2), .second, .val (.long q3), .second, .val (.long (q2 - fb)), .second, .unset, .unset] [(.long sb), (.long q3)])) _
    refine XS.lsub X9.here hx rfl (hb hby d12_80) rfl ?_
    show Steps p.tables e below (T9.setTop (mkF m 81 #[.val (.ref a1), .val (.long q2), .second, .val (.long q3), .second, .val (.long (q2 - fb)), .second, .unset, .unset] [(.long (q3 - sb))])) _
    refine XS.lstore X9.here hx rfl (hb hby d12_81) rfl (l' := #[.val (.ref a1), .val (.long q2), .second, .val (.long q3), .second, .val (.long (q2 - fb)), .second, .val (.long (q3 - sb)), .second]) rfl ?_
    show Steps p.tables e below (T9.setTop (mkF m 83 #[.val (.ref a1), .val (.long q2), .second, .val (.long q3), .second, .val (.long (q2 - fb)), .second, .val (.long (q3 - sb)), .second] [])) _
    refine XS.lload X9.here hx rfl (hb hby d12_83) rfl ?_
    show Steps p.tables e below (T9.setTop (mkF m 85 #[.val (.ref a1), .val (.long q2), .second, .val (.long q3), .second, .val (.long (q2 - fb)), .second, .val (.long (q3 - sb)), .second] [(.long (q2 - fb))])) _
    refine XS.lconst X9.here hx rfl (hb hby d12_85) ?_
    show Steps p.tables e below (T9.setTop (mkF m 86 #[.val (.ref a1), .val (.long q2), .second, .val (.long q3), .second, .val (.long (q2 - fb)), .second, .val (.long (q3 - sb)), .second] [(.long (0 : Int64)), (.long (q2 - fb))])) _
    refine XS.lcmp X9.here hx rfl (hb hby d12_86) rfl ?_
    show Steps p.tables e below (T9.setTop (mkF m 87 #[.val (.ref a1), .val (.long q2), .second, .val (.long q3), .second, .val (.long (q2 - fb)), .second, .val (.long (q3 - sb)), .second] [(.int (lcmpW (q2 - fb) (0 : Int64)))])) _
    refine XS.ifNo X9.here hx rfl (hb hby d12_87) rfl ((if0 _ _).trans (flt hc87).1) ?_
    show Steps p.tables e below (T9.setTop (mkF m 90 #[.val (.ref a1), .val (.long q2), .second, .val (.long q3), .second, .val (.long (q2 - fb)), .second, .val (.long (q3 - sb)), .second] [])) _
    refine XS.lload X9.here hx rfl (hb hby d12_90) rfl ?_
    show Steps p.tables e below (T9.setTop (mkF m 92 #[.val (.ref a1), .val (.long q2), .second, .val (.long q3), .second, .val (.long (q2 - fb)), .second, .val (.long (q3 - sb)), .second] [(.long (q2 - fb))])) _
    refine XS.aloadN X9.here hx rfl (hb hby d12_92) rfl rfl ?_
    show Steps p.tables e below (T9.setTop (mkF m 93 #[.val (.ref a1), .val (.long q2), .second, .val (.long q3), .second, .val (.long (q2 - fb)), .second, .val (.long (q3 - sb)), .second] [(.ref a1), (.long (q2 - fb))])) _
    refine st11 _ ?_
    show Steps p.tables e below (T11.setTop (mkF m 96 #[.val (.ref a1), .val (.long q2), .second, .val (.long q3), .second, .val (.long (q2 - fb)), .second, .val (.long (q3 - sb)), .second] [(.long fs), (.long (q2 - fb))])) _
    refine XS.lcmp X11.here hx rfl (hb hby d12_96) rfl ?_
    show Steps p.tables e below (T11.setTop (mkF m 97 #[.val (.ref a1), .val (.long q2), .second, .val (.long q3), .second, .val (.long (q2 - fb)), .second, .val (.long (q3 - sb)), .second] [(.int (lcmpW (q2 - fb) fs))])) _
    refine XS.ifNo X11.here hx rfl (hb hby d12_97) rfl ((if0 _ _).trans (tlt hc97).2.1) ?_
    show Steps p.tables e below (T11.setTop (mkF m 100 #[.val (.ref a1), .val (.long q2), .second, .val (.long q3), .second, .val (.long (q2 - fb)), .second, .val (.long (q3 - sb)), .second] [])) _
    refine XS.lload X11.here hx rfl (hb hby d12_100) rfl ?_
    show Steps p.tables e below (T11.setTop (mkF m 102 #[.val (.ref a1), .val (.long q2), .second, .val (.long q3), .second, .val (.long (q2 - fb)), .second, .val (.long (q3 - sb)), .second] [(.long (q3 - sb))])) _
    refine XS.lconst X11.here hx rfl (hb hby d12_102) ?_
    show Steps p.tables e below (T11.setTop (mkF m 103 #[.val (.ref a1), .val (.long q2), .second, .val (.long q3), .second, .val (.long (q2 - fb)), .second, .val (.long (q3 - sb)), .second] [(.long (0 : Int64)), (.long (q3 - sb))])) _
    refine XS.lcmp X11.here hx rfl (hb hby d12_103) rfl ?_
    show Steps p.tables e below (T11.setTop (mkF m 104 #[.val (.ref a1), .val (.long q2), .second, .val (.long q3), .second, .val (.long (q2 - fb)), .second, .val (.long (q3 - sb)), .second] [(.int (lcmpW (q3 - sb) (0 : Int64)))])) _
    refine XS.ifYes X11.here hx rfl (pc0 := 104) (pc' := 131) rfl (hb hby d12_104) rfl ((if0 _ _).trans (tlt hc104).1) (by decide) (by decide) ?_
    show Steps p.tables e below (T11.setTop (mkF m 131 #[.val (.ref a1), .val (.long q2), .second, .val (.long q3), .second, .val (.long (q2 - fb)), .second, .val (.long (q3 - sb)), .second] [])) _
    refine XS.iconst X11.here hx rfl (hb hby d12_131) ?_
    show Steps p.tables e below (T11.setTop (mkF m 132 #[.val (.ref a1), .val (.long q2), .second, .val (.long q3), .second, .val (.long (q2 - fb)), .second, .val (.long (q3 - sb)), .second] [(.int (-1 : Int32))])) _
    exact retI X11 hx Bd.returns (hb hby d12_132) hr
  · show Q12 Z a1 q2 q3 wi lf gf ls gs fb fs sb ss nu bf se h0 n0 _ T11.heap _
    rw [e11]
    exact ⟨by rw [own_slotD, if_neg hc87, if_pos hc97, if_pos hc104], N0, rfl⟩
set_option maxRecDepth 65536 in
set_option maxHeartbeats 40000000 in
theorem rm12d (l : Launch) (Z : State) (a0 : Array Value) (hw : ∀ d ∈ tables_1, d.before a0 Z = true) (ws : List Jvm.Cond) (a1 : Addr) (q2 : Int64) (q3 : Int64) (wi : Int32) (lf gf ls gs fb fs sb ss : Int64) (nu : Value) (bf : Int32) (se : Value) (h0 : Heap) (n0 : Nat) (Z0 : n0 ≤ h0.size) (D0 : DK Z h0 a1 wi lf gf ls gs fb fs sb ss nu bf se) (hc12 : bf = (0 : Int32)) (hc87 : ¬ ((lcmpW (q2 - fb) (0 : Int64)) < (0 : Int32))) (hc97 : (lcmpW (q2 - fb) fs) < (0 : Int32)) (hc104 : ¬ ((lcmpW (q3 - sb) (0 : Int64)) < (0 : Int32))) (hc114 : ¬ ((lcmpW (q3 - sb) ss) < (0 : Int32))) :
    MetFree l (⟨"com/example/fairjoin/fairjoin/operator/DirectKeys", "slot", "(JJ)I"⟩ : MethodName) (head1 (Jvm.Cond.code (⟨"com/example/fairjoin/fairjoin/operator/DirectKeys", "slot", "(JJ)I"⟩ : MethodName) prog_151_method_4_code 9 (some .int) :: ws) ({ frames := 0, cells := 0, slots := 0, locals := 0 } : Room)) (fun a U => a = #[(.ref a1), (.long q2), (.long q3)] ∧ Z.Warmed39 U.vm ∧ U.heap = h0) (fun _ _ _ _ _ => True) (fun _ U o U' => ∃ v L, o = .returned v ∧ Q12 Z a1 q2 q3 wi lf gf ls gs fb fs sb ss nu bf se h0 n0 v U'.heap L ∧ FrameEnd U o U' L ({ frames := 0, cells := 0, slots := 0, locals := 0 } : Room).cells ({ frames := 0, cells := 0, slots := 0, locals := 0 } : Room).slots) := by
  refine MetFree.of_bodySF (plainFor_of_name pn_12) hisR ?_
  intro p e s m args below meth c s₁ Bd hml0 hP hK
  obtain ⟨rfl, hZ, hh⟩ := hP
  have hx := Bd.exec
  have hby := Bd.bytes
  have hml : c.maxLocals = 9 := hml0
  have hown : s.vm.findClass "com/example/fairjoin/fairjoin/operator/DirectKeys" = some m.cls := findClass_of_methodNamed Bd.named
  have hnm := (name_of_methodNamed Bd.named Bd.method).1
  have X0 : Stand p l e ({ frames := 0, cells := 0, slots := 0, locals := 0 } : Room) s m #[(.ref a1), (.long q2), (.long q3)] below meth c s₁ [] 0 0 := Stand.of_body Bd
  have e0 : s₁.heap = h0 := by rw [← hh, Bd.state]; rfl
  have N0 := Fr.nil n0
  have pre0 : ∀ t, Steps p.tables e below (s₁.setTop (mkF m 0 #[.val (.ref a1), .val (.long q2), .second, .val (.long q3), .second, .unset, .unset, .unset, .unset] [])) t → Steps p.tables e below (s₁.setTop (entryFrame m #[(.ref a1), (.long q2), (.long q3)] 9)) t := fun t ktt => castTop (ef_12 m a1 q2 q3) ktt
  have F_firstBase_a1 := dk_fb D0
  have F_byFirst_a1 := dk_bf D0
  have F_firstSpan_a1 := dk_fs D0
  have F_secondBase_a1 := dk_sb D0
  have F_secondSpan_a1 := dk_ss D0
  have F_numbers_a1 := dk_nu D0
  have F_seconds_a1 := dk_se D0
  obtain ⟨T5, X5, e5, st5⟩ := getF X0 hx hZ hown (host := "") (Or.inl (hw _ (List.mem_of_getElem? (i := 69) rfl))) Via.refl e0 F_firstBase_a1 (g := (mkF m 2 #[.val (.ref a1), .val (.long q2), .second, .val (.long q3), .second, .unset, .unset, .unset, .unset] [(.ref a1), (.long q2)])) rfl rfl (hb hby d12_2)
  obtain ⟨T7, X7, e7, st7⟩ := getF X5 hx hZ hown (host := "") (Or.inl (hw _ (List.mem_of_getElem? (i := 67) rfl))) Via.refl e5 F_byFirst_a1 (g := (mkF m 9 #[.val (.ref a1), .val (.long q2), .second, .val (.long q3), .second, .val (.long (q2 - fb)), .second, .unset, .unset] [(.ref a1)])) rfl rfl (hb hby d12_9)
  obtain ⟨T9, X9, e9, st9⟩ := getF X7 hx hZ hown (host := "") (Or.inl (hw _ (List.mem_of_getElem? (i := 73) rfl))) Via.refl e7 F_secondBase_a1 (g := (mkF m 77 #[.val (.ref a1), .val (.long q2), .second, .val (.long q3), .second, .val (.long (q2 - fb)), .second, .unset, .unset] [(.ref a1), (.long q3)])) rfl rfl (hb hby d12_77)
  obtain ⟨T11, X11, e11, st11⟩ := getF X9 hx hZ hown (host := "") (Or.inl (hw _ (List.mem_of_getElem? (i := 71) rfl))) Via.refl e9 F_firstSpan_a1 (g := (mkF m 93 #[.val (.ref a1), .val (.long q2), .second, .val (.long q3), .second, .val (.long (q2 - fb)), .second, .val (.long (q3 - sb)), .second] [(.ref a1), (.long (q2 - fb))])) rfl rfl (hb hby d12_93)
  obtain ⟨T13, X13, e13, st13⟩ := getF X11 hx hZ hown (host := "") (Or.inl (hw _ (List.mem_of_getElem? (i := 21) rfl))) Via.refl e11 F_secondSpan_a1 (g := (mkF m 110 #[.val (.ref a1), .val (.long q2), .second, .val (.long q3), .second, .val (.long (q2 - fb)), .second, .val (.long (q3 - sb)), .second] [(.ref a1), (.long (q3 - sb))])) rfl rfl (hb hby d12_110)
  obtain ⟨fsr, hr, hrun, hended, hW, hsame⟩ := X13.leave (v := some (.int (-1 : Int32))) (fun h => by rw [Bd.returns] at h; cases h)
  refine ⟨_, _, pre0 _ ?_, hrun, hended, _, _, rfl, ?_, ⟨_, rfl⟩, hW, hsame.mono (by decide) (by decide)⟩
  · show Steps p.tables e below (s₁.setTop (mkF m 0 #[.val (.ref a1), .val (.long q2), .second, .val (.long q3), .second, .unset, .unset, .unset, .unset] [])) _
    refine XS.lloadN X0.here hx rfl (hb hby d12_0) rfl ?_
    show Steps p.tables e below (s₁.setTop (mkF m 1 #[.val (.ref a1), .val (.long q2), .second, .val (.long q3), .second, .unset, .unset, .unset, .unset] [(.long q2)])) _
    refine XS.aloadN X0.here hx rfl (hb hby d12_1) rfl rfl ?_
    show Steps p.tables e below (s₁.setTop (mkF m 2 #[.val (.ref a1), .val (.long q2), .second, .val (.long q3), .second, .unset, .unset, .unset, .unset] [(.ref a1), (.long q2)])) _
    refine st5 _ ?_
    show Steps p.tables e below (T5.setTop (mkF m 5 #[.val (.ref a1), .val (.long q2), .second, .val (.long q3), .second, .unset, .unset, .unset, .unset] [(.long fb), (.long q2)])) _
    refine XS.lsub X5.here hx rfl (hb hby d12_5) rfl ?_
    show Steps p.tables e below (T5.setTop (mkF m 6 #[.val (.ref a1), .val (.long q2), .second, .val (.long q3), .second, .unset, .unset, .unset, .unset] [(.long (q2 - fb))])) _
    refine XS.lstore X5.here hx rfl (hb hby d12_6) rfl (l' := #[.val (.ref a1), .val (.long q2), .second, .val (.long q3), .second, .val (.long (q2 - fb)), .second, .unset, .unset]) rfl ?_
    show Steps p.tables e below (T5.setTop (mkF m 8 #[.val (.ref a1), .val (.long q2), .second, .val (.long q3), .second, .val (.long (q2 - fb)), .second, .unset, .unset] [])) _
    refine XS.aloadN X5.here hx rfl (hb hby d12_8) rfl rfl ?_
    show Steps p.tables e below (T5.setTop (mkF m 9 #[.val (.ref a1), .val (.long q2), .second, .val (.long q3), .second, .val (.long (q2 - fb)), .second, .unset, .unset] [(.ref a1)])) _
    refine st7 _ ?_
    show Steps p.tables e below (T7.setTop (mkF m 12 #[.val (.ref a1), .val (.long q2), .second, .val (.long q3), .second, .val (.long (q2 - fb)), .second, .unset, .unset] [(.int bf)])) _
    refine XS.ifYes X7.here hx rfl (pc0 := 12) (pc' := 75) rfl (hb hby d12_12) rfl ((if0 _ _).trans (teq hc12).1) (by decide) (by decide) ?_
    show Steps p.tables e below (T7.setTop (mkF m 75 #[.val (.ref a1), .val (.long q2), .second, .val (.long q3), .second, .val (.long (q2 - fb)), .second, .unset, .unset] [])) _
    refine XS.lloadN X7.here hx rfl (hb hby d12_75) rfl ?_
    show Steps p.tables e below (T7.setTop (mkF m 76 #[.val (.ref a1), .val (.long q2), .second, .val (.long q3), .second, .val (.long (q2 - fb)), .second, .unset, .unset] [(.long q3)])) _
    refine XS.aloadN X7.here hx rfl (hb hby d12_76) rfl rfl ?_
    show Steps p.tables e below (T7.setTop (mkF m 77 #[.val (.ref a1), .val (.long q2), .second, .val (.long q3), .second, .val (.long (q2 - fb)), .second, .unset, .unset] [(.ref a1), (.long q3)])) _
    refine st9 _ ?_
    show Steps p.tables e below (T9.setTop (mkF m 80 #[.val (.ref a1), .val (.long q2), .second, .val (.long q3), .second, .val (.long (q2 - fb)), .second, .unset, .unset] [(.long sb), (.long q3)])) _
    refine XS.lsub X9.here hx rfl (hb hby d12_80) rfl ?_
    show Steps p.tables e below (T9.setTop (mkF m 81 #[.val (.ref a1), .val (.long q2), .second, .val (.long q3), .second, .val (.long (q2 - fb)), .second, .unset, .unset] [(.long (q3 - sb))])) _
    refine XS.lstore X9.here hx rfl (hb hby d12_81) rfl (l' := #[.val (.ref a1), .val (.long q2), .second, .val (.long q3), .second, .val (.long (q2 - fb)), .second, .val (.long (q3 - sb)), .second]) rfl ?_
    show Steps p.tables e below (T9.setTop (mkF m 83 #[.val (.ref a1), .val (.long q2), .second, .val (.long q3), .second, .val (.long (q2 - fb)), .second, .val (.long (q3 - sb)), .second] [])) _
    refine XS.lload X9.here hx rfl (hb hby d12_83) rfl ?_
    show Steps p.tables e below (T9.setTop (mkF m 85 #[.val (.ref a1), .val (.long q2), .second, .val (.long q3), .second, .val (.long (q2 - fb)), .second, .val (.long (q3 - sb)), .second] [(.long (q2 - fb))])) _
    refine XS.lconst X9.here hx rfl (hb hby d12_85) ?_
    show Steps p.tables e below (T9.setTop (mkF m 86 #[.val (.ref a1), .val (.long q2), .second, .val (.long q3), .second, .val (.long (q2 - fb)), .second, .val (.long (q3 - sb)), .second] [(.long (0 : Int64)), (.long (q2 - fb))])) _
    refine XS.lcmp X9.here hx rfl (hb hby d12_86) rfl ?_
    show Steps p.tables e below (T9.setTop (mkF m 87 #[.val (.ref a1), .val (.long q2), .second, .val (.long q3), .second, .val (.long (q2 - fb)), .second, .val (.long (q3 - sb)), .second] [(.int (lcmpW (q2 - fb) (0 : Int64)))])) _
    refine XS.ifNo X9.here hx rfl (hb hby d12_87) rfl ((if0 _ _).trans (flt hc87).1) ?_
    show Steps p.tables e below (T9.setTop (mkF m 90 #[.val (.ref a1), .val (.long q2), .second, .val (.long q3), .second, .val (.long (q2 - fb)), .second, .val (.long (q3 - sb)), .second] [])) _
    refine XS.lload X9.here hx rfl (hb hby d12_90) rfl ?_
    show Steps p.tables e below (T9.setTop (mkF m 92 #[.val (.ref a1), .val (.long q2), .second, .val (.long q3), .second, .val (.long (q2 - fb)), .second, .val (.long (q3 - sb)), .second] [(.long (q2 - fb))])) _
    refine XS.aloadN X9.here hx rfl (hb hby d12_92) rfl rfl ?_
    show Steps p.tables e below (T9.setTop (mkF m 93 #[.val (.ref a1), .val (.long q2), .second, .val (.long q3), .second, .val (.long (q2 - fb)), .second, .val (.long (q3 - sb)), .second] [(.ref a1), (.long (q2 - fb))])) _
    refine st11 _ ?_
    show Steps p.tables e below (T11.setTop (mkF m 96 #[.val (.ref a1), .val (.long q2), .second, .val (.long q3), .second, .val (.long (q2 - fb)), .second, .val (.long (q3 - sb)), .second] [(.long fs), (.long (q2 - fb))])) _
    refine XS.lcmp X11.here hx rfl (hb hby d12_96) rfl ?_
    show Steps p.tables e below (T11.setTop (mkF m 97 #[.val (.ref a1), .val (.long q2), .second, .val (.long q3), .second, .val (.long (q2 - fb)), .second, .val (.long (q3 - sb)), .second] [(.int (lcmpW (q2 - fb) fs))])) _
    refine XS.ifNo X11.here hx rfl (hb hby d12_97) rfl ((if0 _ _).trans (tlt hc97).2.1) ?_
    show Steps p.tables e below (T11.setTop (mkF m 100 #[.val (.ref a1), .val (.long q2), .second, .val (.long q3), .second, .val (.long (q2 - fb)), .second, .val (.long (q3 - sb)), .second] [])) _
    refine XS.lload X11.here hx rfl (hb hby d12_100) rfl ?_
    show Steps p.tables e below (T11.setTop (mkF m 102 #[.val (.ref a1), .val (.long q2), .second, .val (.long q3), .second, .val (.long (q2 - fb)), .second, .val (.long (q3 - sb)), .second] [(.long (q3 - sb))])) _
    refine XS.lconst X11.here hx rfl (hb hby d12_102) ?_
    show Steps p.tables e below (T11.setTop (mkF m 103 #[.val (.ref a1), .val (.long q2), .second, .val (.long q3), .second, .val (.long (q2 - fb)), .second, .val (.long (q3 - sb)), .second] [(.long (0 : Int64)), (.long (q3 - sb))])) _
    refine XS.lcmp X11.here hx rfl (hb hby d12_103) rfl ?_
    show Steps p.tables e below (T11.setTop (mkF m 104 #[.val (.ref a1), .val (.long q2), .second, .val (.long q3), .second, .val (.long (q2 - fb)), .second, .val (.long (q3 - sb)), .second] [(.int (lcmpW (q3 - sb) (0 : Int64)))])) _
    refine XS.ifNo X11.here hx rfl (hb hby d12_104) rfl ((if0 _ _).trans (flt hc104).1) ?_
    show Steps p.tables e below (T11.setTop (mkF m 107 #[.val (.ref a1), .val (.long q2), .second, .val (.long q3), .second, .val (.long (q2 - fb)), .second, .val (.long (q3 - sb)), .second] [])) _
    refine XS.lload X11.here hx rfl (hb hby d12_107) rfl ?_
    show Steps p.tables e below (T11.setTop (mkF m 109 #[.val (.ref a1), .val (.long q2), .second, .val (.long q3), .second, .val (.long (q2 - fb)), .second, .val (.long (q3 - sb)), .second] [(.long (q3 - sb))])) _
    refine XS.aloadN X11.here hx rfl (hb hby d12_109) rfl rfl ?_
    show Steps p.tables e below (T11.setTop (mkF m 110 #[.val (.ref a1), .val (.long q2), .second, .val (.long q3), .second, .val (.long (q2 - fb)), .second, .val (.long (q3 - sb)), .second] [(.ref a1), (.long (q3 - sb))])) _
    refine st13 _ ?_
    show Steps p.tables e below (T13.setTop (mkF m 113 #[.val (.ref a1), .val (.long q2), .second, .val (.long q3), .second, .val (.long (q2 - fb)), .second, .val (.long (q3 - sb)), .second] [(.long ss), (.long (q3 - sb))])) _
    refine XS.lcmp X13.here hx rfl (hb hby d12_113) rfl ?_
    show Steps p.tables e below (T13.setTop (mkF m 114 #[.val (.ref a1), .val (.long q2), .second, .val (.long q3), .second, .val (.long (q2 - fb)), .second, .val (.long (q3 - sb)), .second] [(.int (lcmpW (q3 - sb) ss))])) _
    refine XS.ifYes X13.here hx rfl (pc0 := 114) (pc' := 131) rfl (hb hby d12_114) rfl ((if0 _ _).trans (flt hc114).2.1) (by decide) (by decide) ?_
    show Steps p.tables e below (T13.setTop (mkF m 131 #[.val (.ref a1), .val (.long q2), .second, .val (.long q3), .second, .val (.long (q2 - fb)), .second, .val (.long (q3 - sb)), .second] [])) _
    refine XS.iconst X13.here hx rfl (hb hby d12_131) ?_
    show Steps p.tables e below (T13.setTop (mkF m 132 #[.val (.ref a1), .val (.long q2), .second, .val (.long q3), .second, .val (.long (q2 - fb)), .second, .val (.long (q3 - sb)), .second] [(.int (-1 : Int32))])) _
    exact retI X13 hx Bd.returns (hb hby d12_132) hr
  · show Q12 Z a1 q2 q3 wi lf gf ls gs fb fs sb ss nu bf se h0 n0 _ T13.heap _
    rw [e13]
    exact ⟨by rw [own_slotD, if_neg hc87, if_pos hc97, if_neg hc104, if_neg hc114], N0, rfl⟩
set_option maxRecDepth 65536 in
set_option maxHeartbeats 40000000 in
theorem rm12e (l : Launch) (Z : State) (a0 : Array Value) (hw : ∀ d ∈ tables_1, d.before a0 Z = true) (ws : List Jvm.Cond) (a1 : Addr) (q2 : Int64) (q3 : Int64) (wi : Int32) (lf gf ls gs fb fs sb ss : Int64) (nu : Value) (bf : Int32) (se : Value) (h0 : Heap) (n0 : Nat) (Z0 : n0 ≤ h0.size) (D0 : DK Z h0 a1 wi lf gf ls gs fb fs sb ss nu bf se) (hc12 : bf = (0 : Int32)) (hc87 : ¬ ((lcmpW (q2 - fb) (0 : Int64)) < (0 : Int32))) (hc97 : (lcmpW (q2 - fb) fs) < (0 : Int32)) (hc104 : ¬ ((lcmpW (q3 - sb) (0 : Int64)) < (0 : Int32))) (hc114 : (lcmpW (q3 - sb) ss) < (0 : Int32)) :
    MetFree l (⟨"com/example/fairjoin/fairjoin/operator/DirectKeys", "slot", "(JJ)I"⟩ : MethodName) (head1 (Jvm.Cond.code (⟨"com/example/fairjoin/fairjoin/operator/DirectKeys", "slot", "(JJ)I"⟩ : MethodName) prog_151_method_4_code 9 (some .int) :: ws) ({ frames := 0, cells := 0, slots := 0, locals := 0 } : Room)) (fun a U => a = #[(.ref a1), (.long q2), (.long q3)] ∧ Z.Warmed39 U.vm ∧ U.heap = h0) (fun _ _ _ _ _ => True) (fun _ U o U' => ∃ v L, o = .returned v ∧ Q12 Z a1 q2 q3 wi lf gf ls gs fb fs sb ss nu bf se h0 n0 v U'.heap L ∧ FrameEnd U o U' L ({ frames := 0, cells := 0, slots := 0, locals := 0 } : Room).cells ({ frames := 0, cells := 0, slots := 0, locals := 0 } : Room).slots) := by
  refine MetFree.of_bodySF (plainFor_of_name pn_12) hisR ?_
  intro p e s m args below meth c s₁ Bd hml0 hP hK
  obtain ⟨rfl, hZ, hh⟩ := hP
  have hx := Bd.exec
  have hby := Bd.bytes
  have hml : c.maxLocals = 9 := hml0
  have hown : s.vm.findClass "com/example/fairjoin/fairjoin/operator/DirectKeys" = some m.cls := findClass_of_methodNamed Bd.named
  have hnm := (name_of_methodNamed Bd.named Bd.method).1
  have X0 : Stand p l e ({ frames := 0, cells := 0, slots := 0, locals := 0 } : Room) s m #[(.ref a1), (.long q2), (.long q3)] below meth c s₁ [] 0 0 := Stand.of_body Bd
  have e0 : s₁.heap = h0 := by rw [← hh, Bd.state]; rfl
  have N0 := Fr.nil n0
  have pre0 : ∀ t, Steps p.tables e below (s₁.setTop (mkF m 0 #[.val (.ref a1), .val (.long q2), .second, .val (.long q3), .second, .unset, .unset, .unset, .unset] [])) t → Steps p.tables e below (s₁.setTop (entryFrame m #[(.ref a1), (.long q2), (.long q3)] 9)) t := fun t ktt => castTop (ef_12 m a1 q2 q3) ktt
  have F_firstBase_a1 := dk_fb D0
  have F_byFirst_a1 := dk_bf D0
  have F_firstSpan_a1 := dk_fs D0
  have F_secondBase_a1 := dk_sb D0
  have F_secondSpan_a1 := dk_ss D0
  have F_numbers_a1 := dk_nu D0
  have F_seconds_a1 := dk_se D0
  obtain ⟨T5, X5, e5, st5⟩ := getF X0 hx hZ hown (host := "") (Or.inl (hw _ (List.mem_of_getElem? (i := 69) rfl))) Via.refl e0 F_firstBase_a1 (g := (mkF m 2 #[.val (.ref a1), .val (.long q2), .second, .val (.long q3), .second, .unset, .unset, .unset, .unset] [(.ref a1), (.long q2)])) rfl rfl (hb hby d12_2)
  obtain ⟨T7, X7, e7, st7⟩ := getF X5 hx hZ hown (host := "") (Or.inl (hw _ (List.mem_of_getElem? (i := 67) rfl))) Via.refl e5 F_byFirst_a1 (g := (mkF m 9 #[.val (.ref a1), .val (.long q2), .second, .val (.long q3), .second, .val (.long (q2 - fb)), .second, .unset, .unset] [(.ref a1)])) rfl rfl (hb hby d12_9)
  obtain ⟨T9, X9, e9, st9⟩ := getF X7 hx hZ hown (host := "") (Or.inl (hw _ (List.mem_of_getElem? (i := 73) rfl))) Via.refl e7 F_secondBase_a1 (g := (mkF m 77 #[.val (.ref a1), .val (.long q2), .second, .val (.long q3), .second, .val (.long (q2 - fb)), .second, .unset, .unset] [(.ref a1), (.long q3)])) rfl rfl (hb hby d12_77)
  obtain ⟨T11, X11, e11, st11⟩ := getF X9 hx hZ hown (host := "") (Or.inl (hw _ (List.mem_of_getElem? (i := 71) rfl))) Via.refl e9 F_firstSpan_a1 (g := (mkF m 93 #[.val (.ref a1), .val (.long q2), .second, .val (.long q3), .second, .val (.long (q2 - fb)), .second, .val (.long (q3 - sb)), .second] [(.ref a1), (.long (q2 - fb))])) rfl rfl (hb hby d12_93)
  obtain ⟨T13, X13, e13, st13⟩ := getF X11 hx hZ hown (host := "") (Or.inl (hw _ (List.mem_of_getElem? (i := 21) rfl))) Via.refl e11 F_secondSpan_a1 (g := (mkF m 110 #[.val (.ref a1), .val (.long q2), .second, .val (.long q3), .second, .val (.long (q2 - fb)), .second, .val (.long (q3 - sb)), .second] [(.ref a1), (.long (q3 - sb))])) rfl rfl (hb hby d12_110)
  obtain ⟨T14, X14, e14, st14⟩ := getF X13 hx hZ hown (host := "") (Or.inl (hw _ (List.mem_of_getElem? (i := 21) rfl))) Via.refl e13 F_secondSpan_a1 (g := (mkF m 120 #[.val (.ref a1), .val (.long q2), .second, .val (.long q3), .second, .val (.long (q2 - fb)), .second, .val (.long (q3 - sb)), .second] [(.ref a1), (.long (q2 - fb))])) rfl rfl (hb hby d12_120)
  obtain ⟨fsr, hr, hrun, hended, hW, hsame⟩ := X14.leave (v := some (.int ((((q2 - fb) * ss) + (q3 - sb)).toInt32))) (fun h => by rw [Bd.returns] at h; cases h)
  refine ⟨_, _, pre0 _ ?_, hrun, hended, _, _, rfl, ?_, ⟨_, rfl⟩, hW, hsame.mono (by decide) (by decide)⟩
  · show Steps p.tables e below (s₁.setTop (mkF m 0 #[.val (.ref a1), .val (.long q2), .second, .val (.long q3), .second, .unset, .unset, .unset, .unset] [])) _
    refine XS.lloadN X0.here hx rfl (hb hby d12_0) rfl ?_
    show Steps p.tables e below (s₁.setTop (mkF m 1 #[.val (.ref a1), .val (.long q2), .second, .val (.long q3), .second, .unset, .unset, .unset, .unset] [(.long q2)])) _
    refine XS.aloadN X0.here hx rfl (hb hby d12_1) rfl rfl ?_
    show Steps p.tables e below (s₁.setTop (mkF m 2 #[.val (.ref a1), .val (.long q2), .second, .val (.long q3), .second, .unset, .unset, .unset, .unset] [(.ref a1), (.long q2)])) _
    refine st5 _ ?_
    show Steps p.tables e below (T5.setTop (mkF m 5 #[.val (.ref a1), .val (.long q2), .second, .val (.long q3), .second, .unset, .unset, .unset, .unset] [(.long fb), (.long q2)])) _
    refine XS.lsub X5.here hx rfl (hb hby d12_5) rfl ?_
    show Steps p.tables e below (T5.setTop (mkF m 6 #[.val (.ref a1), .val (.long q2), .second, .val (.long q3), .second, .unset, .unset, .unset, .unset] [(.long (q2 - fb))])) _
    refine XS.lstore X5.here hx rfl (hb hby d12_6) rfl (l' := #[.val (.ref a1), .val (.long q2), .second, .val (.long q3), .second, .val (.long (q2 - fb)), .second, .unset, .unset]) rfl ?_
    show Steps p.tables e below (T5.setTop (mkF m 8 #[.val (.ref a1), .val (.long q2), .second, .val (.long q3), .second, .val (.long (q2 - fb)), .second, .unset, .unset] [])) _
    refine XS.aloadN X5.here hx rfl (hb hby d12_8) rfl rfl ?_
    show Steps p.tables e below (T5.setTop (mkF m 9 #[.val (.ref a1), .val (.long q2), .second, .val (.long q3), .second, .val (.long (q2 - fb)), .second, .unset, .unset] [(.ref a1)])) _
    refine st7 _ ?_
    show Steps p.tables e below (T7.setTop (mkF m 12 #[.val (.ref a1), .val (.long q2), .second, .val (.long q3), .second, .val (.long (q2 - fb)), .second, .unset, .unset] [(.int bf)])) _
    refine XS.ifYes X7.here hx rfl (pc0 := 12) (pc' := 75) rfl (hb hby d12_12) rfl ((if0 _ _).trans (teq hc12).1) (by decide) (by decide) ?_
    show Steps p.tables e below (T7.setTop (mkF m 75 #[.val (.ref a1), .val (.long q2), .second, .val (.long q3), .second, .val (.long (q2 - fb)), .second, .unset, .unset] [])) _
    refine XS.lloadN X7.here hx rfl (hb hby d12_75) rfl ?_
    show Steps p.tables e below (T7.setTop (mkF m 76 #[.val (.ref a1), .val (.long q2), .second, .val (.long q3), .second, .val (.long (q2 - fb)), .second, .unset, .unset] [(.long q3)])) _
    refine XS.aloadN X7.here hx rfl (hb hby d12_76) rfl rfl ?_
    show Steps p.tables e below (T7.setTop (mkF m 77 #[.val (.ref a1), .val (.long q2), .second, .val (.long q3), .second, .val (.long (q2 - fb)), .second, .unset, .unset] [(.ref a1), (.long q3)])) _
    refine st9 _ ?_
    show Steps p.tables e below (T9.setTop (mkF m 80 #[.val (.ref a1), .val (.long q2), .second, .val (.long q3), .second, .val (.long (q2 - fb)), .second, .unset, .unset] [(.long sb), (.long q3)])) _
    refine XS.lsub X9.here hx rfl (hb hby d12_80) rfl ?_
    show Steps p.tables e below (T9.setTop (mkF m 81 #[.val (.ref a1), .val (.long q2), .second, .val (.long q3), .second, .val (.long (q2 - fb)), .second, .unset, .unset] [(.long (q3 - sb))])) _
    refine XS.lstore X9.here hx rfl (hb hby d12_81) rfl (l' := #[.val (.ref a1), .val (.long q2), .second, .val (.long q3), .second, .val (.long (q2 - fb)), .second, .val (.long (q3 - sb)), .second]) rfl ?_
    show Steps p.tables e below (T9.setTop (mkF m 83 #[.val (.ref a1), .val (.long q2), .second, .val (.long q3), .second, .val (.long (q2 - fb)), .second, .val (.long (q3 - sb)), .second] [])) _
    refine XS.lload X9.here hx rfl (hb hby d12_83) rfl ?_
    show Steps p.tables e below (T9.setTop (mkF m 85 #[.val (.ref a1), .val (.long q2), .second, .val (.long q3), .second, .val (.long (q2 - fb)), .second, .val (.long (q3 - sb)), .second] [(.long (q2 - fb))])) _
    refine XS.lconst X9.here hx rfl (hb hby d12_85) ?_
    show Steps p.tables e below (T9.setTop (mkF m 86 #[.val (.ref a1), .val (.long q2), .second, .val (.long q3), .second, .val (.long (q2 - fb)), .second, .val (.long (q3 - sb)), .second] [(.long (0 : Int64)), (.long (q2 - fb))])) _
    refine XS.lcmp X9.here hx rfl (hb hby d12_86) rfl ?_
    show Steps p.tables e below (T9.setTop (mkF m 87 #[.val (.ref a1), .val (.long q2), .second, .val (.long q3), .second, .val (.long (q2 - fb)), .second, .val (.long (q3 - sb)), .second] [(.int (lcmpW (q2 - fb) (0 : Int64)))])) _
    refine XS.ifNo X9.here hx rfl (hb hby d12_87) rfl ((if0 _ _).trans (flt hc87).1) ?_
    show Steps p.tables e below (T9.setTop (mkF m 90 #[.val (.ref a1), .val (.long q2), .second, .val (.long q3), .second, .val (.long (q2 - fb)), .second, .val (.long (q3 - sb)), .second] [])) _
    refine XS.lload X9.here hx rfl (hb hby d12_90) rfl ?_
    show Steps p.tables e below (T9.setTop (mkF m 92 #[.val (.ref a1), .val (.long q2), .second, .val (.long q3), .second, .val (.long (q2 - fb)), .second, .val (.long (q3 - sb)), .second] [(.long (q2 - fb))])) _
    refine XS.aloadN X9.here hx rfl (hb hby d12_92) rfl rfl ?_
    show Steps p.tables e below (T9.setTop (mkF m 93 #[.val (.ref a1), .val (.long q2), .second, .val (.long q3), .second, .val (.long (q2 - fb)), .second, .val (.long (q3 - sb)), .second] [(.ref a1), (.long (q2 - fb))])) _
    refine st11 _ ?_
    show Steps p.tables e below (T11.setTop (mkF m 96 #[.val (.ref a1), .val (.long q2), .second, .val (.long q3), .second, .val (.long (q2 - fb)), .second, .val (.long (q3 - sb)), .second] [(.long fs), (.long (q2 - fb))])) _
    refine XS.lcmp X11.here hx rfl (hb hby d12_96) rfl ?_
    show Steps p.tables e below (T11.setTop (mkF m 97 #[.val (.ref a1), .val (.long q2), .second, .val (.long q3), .second, .val (.long (q2 - fb)), .second, .val (.long (q3 - sb)), .second] [(.int (lcmpW (q2 - fb) fs))])) _
    refine XS.ifNo X11.here hx rfl (hb hby d12_97) rfl ((if0 _ _).trans (tlt hc97).2.1) ?_
    show Steps p.tables e below (T11.setTop (mkF m 100 #[.val (.ref a1), .val (.long q2), .second, .val (.long q3), .second, .val (.long (q2 - fb)), .second, .val (.long (q3 - sb)), .second] [])) _
    refine XS.lload X11.here hx rfl (hb hby d12_100) rfl ?_
    show Steps p.tables e below (T11.setTop (mkF m 102 #[.val (.ref a1), .val (.long q2), .second, .val (.long q3), .second, .val (.long (q2 - fb)), .second, .val (.long (q3 - sb)), .second] [(.long (q3 - sb))])) _
    refine XS.lconst X11.here hx rfl (hb hby d12_102) ?_
    show Steps p.tables e below (T11.setTop (mkF m 103 #[.val (.ref a1), .val (.long q2), .second, .val (.long q3), .second, .val (.long (q2 - fb)), .second, .val (.long (q3 - sb)), .second] [(.long (0 : Int64)), (.long (q3 - sb))])) _
    refine XS.lcmp X11.here hx rfl (hb hby d12_103) rfl ?_
    show Steps p.tables e below (T11.setTop (mkF m 104 #[.val (.ref a1), .val (.long q2), .second, .val (.long q3), .second, .val (.long (q2 - fb)), .second, .val (.long (q3 - sb)), .second] [(.int (lcmpW (q3 - sb) (0 : Int64)))])) _
    refine XS.ifNo X11.here hx rfl (hb hby d12_104) rfl ((if0 _ _).trans (flt hc104).1) ?_
    show Steps p.tables e below (T11.setTop (mkF m 107 #[.val (.ref a1), .val (.long q2), .second, .val (.long q3), .second, .val (.long (q2 - fb)), .second, .val (.long (q3 - sb)), .second] [])) _
    refine XS.lload X11.here hx rfl (hb hby d12_107) rfl ?_
    show Steps p.tables e below (T11.setTop (mkF m 109 #[.val (.ref a1), .val (.long q2), .second, .val (.long q3), .second, .val (.long (q2 - fb)), .second, .val (.long (q3 - sb)), .second] [(.long (q3 - sb))])) _
    refine XS.aloadN X11.here hx rfl (hb hby d12_109) rfl rfl ?_
    show Steps p.tables e below (T11.setTop (mkF m 110 #[.val (.ref a1), .val (.long q2), .second, .val (.long q3), .second, .val (.long (q2 - fb)), .second, .val (.long (q3 - sb)), .second] [(.ref a1), (.long (q3 - sb))])) _
    refine st13 _ ?_
    show Steps p.tables e below (T13.setTop (mkF m 113 #[.val (.ref a1), .val (.long q2), .second, .val (.long q3), .second, .val (.long (q2 - fb)), .second, .val (.long (q3 - sb)), .second] [(.long ss), (.long (q3 - sb))])) _
    refine XS.lcmp X13.here hx rfl (hb hby d12_113) rfl ?_
    show Steps p.tables e below (T13.setTop (mkF m 114 #[.val (.ref a1), .val (.long q2), .second, .val (.long q3), .second, .val (.long (q2 - fb)), .second, .val (.long (q3 - sb)), .second] [(.int (lcmpW (q3 - sb) ss))])) _
    refine XS.ifNo X13.here hx rfl (hb hby d12_114) rfl ((if0 _ _).trans (tlt hc114).2.1) ?_
    show Steps p.tables e below (T13.setTop (mkF m 117 #[.val (.ref a1), .val (.long q2), .second, .val (.long q3), .second, .val (.long (q2 - fb)), .second, .val (.long (q3 - sb)), .second] [])) _
    refine XS.lload X13.here hx rfl (hb hby d12_117) rfl ?_
    show Steps p.tables e below (T13.setTop (mkF m 119 #[.val (.ref a1), .val (.long q2), .second, .val (.long q3), .second, .val (.long (q2 - fb)), .second, .val (.long (q3 - sb)), .second] [(.long (q2 - fb))])) _
    refine XS.aloadN X13.here hx rfl (hb hby d12_119) rfl rfl ?_
    show Steps p.tables e below (T13.setTop (mkF m 120 #[.val (.ref a1), .val (.long q2), .second, .val (.long q3), .second, .val (.long (q2 - fb)), .second, .val (.long (q3 - sb)), .second] [(.ref a1), (.long (q2 - fb))])) _
    refine st14 _ ?_
    show Steps p.tables e below (T14.setTop (mkF m 123 #[.val (.ref a1), .val (.long q2), .second, .val (.long q3), .second, .val (.long (q2 - fb)), .second, .val (.long (q3 - sb)), .second] [(.long ss), (.long (q2 - fb))])) _
    refine XS.lmul X14.here hx rfl (hb hby d12_123) rfl ?_
    show Steps p.tables e below (T14.setTop (mkF m 124 #[.val (.ref a1), .val (.long q2), .second, .val (.long q3), .second, .val (.long (q2 - fb)), .second, .val (.long (q3 - sb)), .second] [(.long ((q2 - fb) * ss))])) _
    refine XS.lload X14.here hx rfl (hb hby d12_124) rfl ?_
    show Steps p.tables e below (T14.setTop (mkF m 126 #[.val (.ref a1), .val (.long q2), .second, .val (.long q3), .second, .val (.long (q2 - fb)), .second, .val (.long (q3 - sb)), .second] [(.long (q3 - sb)), (.long ((q2 - fb) * ss))])) _
    refine XS.ladd X14.here hx rfl (hb hby d12_126) rfl ?_
    show Steps p.tables e below (T14.setTop (mkF m 127 #[.val (.ref a1), .val (.long q2), .second, .val (.long q3), .second, .val (.long (q2 - fb)), .second, .val (.long (q3 - sb)), .second] [(.long (((q2 - fb) * ss) + (q3 - sb)))])) _
    refine XS.l2i X14.here hx rfl (hb hby d12_127) rfl ?_
    show Steps p.tables e below (T14.setTop (mkF m 128 #[.val (.ref a1), .val (.long q2), .second, .val (.long q3), .second, .val (.long (q2 - fb)), .second, .val (.long (q3 - sb)), .second] [(.int ((((q2 - fb) * ss) + (q3 - sb)).toInt32))])) _
    refine XS.goto X14.here hx rfl (pc0 := 128) (pc' := 132) rfl (hb hby d12_128) (by decide) (by decide) ?_
    show Steps p.tables e below (T14.setTop (mkF m 132 #[.val (.ref a1), .val (.long q2), .second, .val (.long q3), .second, .val (.long (q2 - fb)), .second, .val (.long (q3 - sb)), .second] [(.int ((((q2 - fb) * ss) + (q3 - sb)).toInt32))])) _
    exact retI X14 hx Bd.returns (hb hby d12_132) hr
  · show Q12 Z a1 q2 q3 wi lf gf ls gs fb fs sb ss nu bf se h0 n0 _ T14.heap _
    rw [e14]
    exact ⟨by rw [own_slotD, if_neg hc87, if_pos hc97, if_neg hc104, if_pos hc114], N0, rfl⟩
set_option maxRecDepth 65536 in
set_option maxHeartbeats 40000000 in
theorem rm12 (l : Launch) (Z : State) (a0 : Array Value) (hw : ∀ d ∈ tables_1, d.before a0 Z = true) (ws : List Jvm.Cond) (a1 : Addr) (q2 : Int64) (q3 : Int64) (wi : Int32) (lf gf ls gs fb fs sb ss : Int64) (nu : Value) (bf : Int32) (se : Value) (h0 : Heap) (n0 : Nat) (Z0 : n0 ≤ h0.size) (D0 : DK Z h0 a1 wi lf gf ls gs fb fs sb ss nu bf se) (hc12 : bf = (0 : Int32)) :
    MetFree l (⟨"com/example/fairjoin/fairjoin/operator/DirectKeys", "slot", "(JJ)I"⟩ : MethodName) (head1 (Jvm.Cond.code (⟨"com/example/fairjoin/fairjoin/operator/DirectKeys", "slot", "(JJ)I"⟩ : MethodName) prog_151_method_4_code 9 (some .int) :: ws) ({ frames := 0, cells := 0, slots := 0, locals := 0 } : Room)) (fun a U => a = #[(.ref a1), (.long q2), (.long q3)] ∧ Z.Warmed39 U.vm ∧ U.heap = h0) (fun _ _ _ _ _ => True) (fun _ U o U' => ∃ v L, o = .returned v ∧ Q12 Z a1 q2 q3 wi lf gf ls gs fb fs sb ss nu bf se h0 n0 v U'.heap L ∧ FrameEnd U o U' L ({ frames := 0, cells := 0, slots := 0, locals := 0 } : Room).cells ({ frames := 0, cells := 0, slots := 0, locals := 0 } : Room).slots) := by
  by_cases hc87 : (lcmpW (q2 - fb) (0 : Int64)) < (0 : Int32)
  · exact rm12a l Z a0 hw ws a1 q2 q3 wi lf gf ls gs fb fs sb ss nu bf se h0 n0 Z0 D0 hc12 hc87
  by_cases hc97 : (lcmpW (q2 - fb) fs) < (0 : Int32)
  · by_cases hc104 : (lcmpW (q3 - sb) (0 : Int64)) < (0 : Int32)
    · exact rm12c l Z a0 hw ws a1 q2 q3 wi lf gf ls gs fb fs sb ss nu bf se h0 n0 Z0 D0 hc12 hc87 hc97 hc104
    by_cases hc114 : (lcmpW (q3 - sb) ss) < (0 : Int32)
    · exact rm12e l Z a0 hw ws a1 q2 q3 wi lf gf ls gs fb fs sb ss nu bf se h0 n0 Z0 D0 hc12 hc87 hc97 hc104 hc114
    · exact rm12d l Z a0 hw ws a1 q2 q3 wi lf gf ls gs fb fs sb ss nu bf se h0 n0 Z0 D0 hc12 hc87 hc97 hc104 hc114
  · exact rm12b l Z a0 hw ws a1 q2 q3 wi lf gf ls gs fb fs sb ss nu bf se h0 n0 Z0 D0 hc12 hc87 hc97
def Q12n (Z : State) (a1 : Addr) (q2 : Int64) (q3 : Int64) (wi : Int32) (lf gf ls gs fb fs sb ss : Int64) (nu : Value) (bf : Int32) (se : Value) (h0 : Heap) (n0 : Nat) (v : Option Value) (h : Heap) (L : List Loc) : Prop := v = some (.int (-1 : Int32)) ∧ Fr n0 L ∧ h = h0
set_option maxRecDepth 65536 in
set_option maxHeartbeats 40000000 in
theorem rm12f (l : Launch) (Z : State) (a0 : Array Value) (hw : ∀ d ∈ tables_1, d.before a0 Z = true) (ws : List Jvm.Cond) (a1 : Addr) (q2 : Int64) (q3 : Int64) (wi : Int32) (lf gf ls gs fb fs sb ss : Int64) (nu : Value) (bf : Int32) (se : Value) (h0 : Heap) (n0 : Nat) (Z0 : n0 ≤ h0.size) (D0 : DK Z h0 a1 wi lf gf ls gs fb fs sb ss nu bf se) (hc12 : ¬ (bf = (0 : Int32))) (hc19 : (lcmpW (q2 - fb) (0 : Int64)) < (0 : Int32)) :
    MetFree l (⟨"com/example/fairjoin/fairjoin/operator/DirectKeys", "slot", "(JJ)I"⟩ : MethodName) (head1 (Jvm.Cond.code (⟨"com/example/fairjoin/fairjoin/operator/DirectKeys", "slot", "(JJ)I"⟩ : MethodName) prog_151_method_4_code 9 (some .int) :: ws) ({ frames := 0, cells := 0, slots := 0, locals := 0 } : Room)) (fun a U => a = #[(.ref a1), (.long q2), (.long q3)] ∧ Z.Warmed39 U.vm ∧ U.heap = h0) (fun _ _ _ _ _ => True) (fun _ U o U' => ∃ v L, o = .returned v ∧ Q12n Z a1 q2 q3 wi lf gf ls gs fb fs sb ss nu bf se h0 n0 v U'.heap L ∧ FrameEnd U o U' L ({ frames := 0, cells := 0, slots := 0, locals := 0 } : Room).cells ({ frames := 0, cells := 0, slots := 0, locals := 0 } : Room).slots) := by
  refine MetFree.of_bodySF (plainFor_of_name pn_12) hisR ?_
  intro p e s m args below meth c s₁ Bd hml0 hP hK
  obtain ⟨rfl, hZ, hh⟩ := hP
  have hx := Bd.exec
  have hby := Bd.bytes
  have hml : c.maxLocals = 9 := hml0
  have hown : s.vm.findClass "com/example/fairjoin/fairjoin/operator/DirectKeys" = some m.cls := findClass_of_methodNamed Bd.named
  have hnm := (name_of_methodNamed Bd.named Bd.method).1
  have X0 : Stand p l e ({ frames := 0, cells := 0, slots := 0, locals := 0 } : Room) s m #[(.ref a1), (.long q2), (.long q3)] below meth c s₁ [] 0 0 := Stand.of_body Bd
  have e0 : s₁.heap = h0 := by rw [← hh, Bd.state]; rfl
  have N0 := Fr.nil n0
  have pre0 : ∀ t, Steps p.tables e below (s₁.setTop (mkF m 0 #[.val (.ref a1), .val (.long q2), .second, .val (.long q3), .second, .unset, .unset, .unset, .unset] [])) t → Steps p.tables e below (s₁.setTop (entryFrame m #[(.ref a1), (.long q2), (.long q3)] 9)) t := fun t ktt => castTop (ef_12 m a1 q2 q3) ktt
  have F_firstBase_a1 := dk_fb D0
  have F_byFirst_a1 := dk_bf D0
  have F_firstSpan_a1 := dk_fs D0
  have F_secondBase_a1 := dk_sb D0
  have F_secondSpan_a1 := dk_ss D0
  have F_numbers_a1 := dk_nu D0
  have F_seconds_a1 := dk_se D0
  have hc43 : (-1 : Int32) < (0 : Int32) := by decide
  obtain ⟨T5, X5, e5, st5⟩ := getF X0 hx hZ hown (host := "") (Or.inl (hw _ (List.mem_of_getElem? (i := 69) rfl))) Via.refl e0 F_firstBase_a1 (g := (mkF m 2 #[.val (.ref a1), .val (.long q2), .second, .val (.long q3), .second, .unset, .unset, .unset, .unset] [(.ref a1), (.long q2)])) rfl rfl (hb hby d12_2)
  obtain ⟨T7, X7, e7, st7⟩ := getF X5 hx hZ hown (host := "") (Or.inl (hw _ (List.mem_of_getElem? (i := 67) rfl))) Via.refl e5 F_byFirst_a1 (g := (mkF m 9 #[.val (.ref a1), .val (.long q2), .second, .val (.long q3), .second, .val (.long (q2 - fb)), .second, .unset, .unset] [(.ref a1)])) rfl rfl (hb hby d12_9)
  obtain ⟨fsr, hr, hrun, hended, hW, hsame⟩ := X7.leave (v := some (.int (-1 : Int32))) (fun h => by rw [Bd.returns] at h; cases h)
  refine ⟨_, _, pre0 _ ?_, hrun, hended, _, _, rfl, ?_, ⟨_, rfl⟩, hW, hsame.mono (by decide) (by decide)⟩
  · show Steps p.tables e below (s₁.setTop (mkF m 0 #[.val (.ref a1), .val (.long q2), .second, .val (.long q3), .second, .unset, .unset, .unset, .unset] [])) _
    refine XS.lloadN X0.here hx rfl (hb hby d12_0) rfl ?_
    show Steps p.tables e below (s₁.setTop (mkF m 1 #[.val (.ref a1), .val (.long q2), .second, .val (.long q3), .second, .unset, .unset, .unset, .unset] [(.long q2)])) _
    refine XS.aloadN X0.here hx rfl (hb hby d12_1) rfl rfl ?_
    show Steps p.tables e below (s₁.setTop (mkF m 2 #[.val (.ref a1), .val (.long q2), .second, .val (.long q3), .second, .unset, .unset, .unset, .unset] [(.ref a1), (.long q2)])) _
    refine st5 _ ?_
    show Steps p.tables e below (T5.setTop (mkF m 5 #[.val (.ref a1), .val (.long q2), .second, .val (.long q3), .second, .unset, .unset, .unset, .unset] [(.long fb), (.long q2)])) _
    refine XS.lsub X5.here hx rfl (hb hby d12_5) rfl ?_
    show Steps p.tables e below (T5.setTop (mkF m 6 #[.val (.ref a1), .val (.long q2), .second, .val (.long q3), .second, .unset, .unset, .unset, .unset] [(.long (q2 - fb))])) _
    refine XS.lstore X5.here hx rfl (hb hby d12_6) rfl (l' := #[.val (.ref a1), .val (.long q2), .second, .val (.long q3), .second, .val (.long (q2 - fb)), .second, .unset, .unset]) rfl ?_
    show Steps p.tables e below (T5.setTop (mkF m 8 #[.val (.ref a1), .val (.long q2), .second, .val (.long q3), .second, .val (.long (q2 - fb)), .second, .unset, .unset] [])) _
    refine XS.aloadN X5.here hx rfl (hb hby d12_8) rfl rfl ?_
    show Steps p.tables e below (T5.setTop (mkF m 9 #[.val (.ref a1), .val (.long q2), .second, .val (.long q3), .second, .val (.long (q2 - fb)), .second, .unset, .unset] [(.ref a1)])) _
    refine st7 _ ?_
    show Steps p.tables e below (T7.setTop (mkF m 12 #[.val (.ref a1), .val (.long q2), .second, .val (.long q3), .second, .val (.long (q2 - fb)), .second, .unset, .unset] [(.int bf)])) _
    refine XS.ifNo X7.here hx rfl (hb hby d12_12) rfl ((if0 _ _).trans (feq hc12).1) ?_
    show Steps p.tables e below (T7.setTop (mkF m 15 #[.val (.ref a1), .val (.long q2), .second, .val (.long q3), .second, .val (.long (q2 - fb)), .second, .unset, .unset] [])) _
    refine XS.lload X7.here hx rfl (hb hby d12_15) rfl ?_
    show Steps p.tables e below (T7.setTop (mkF m 17 #[.val (.ref a1), .val (.long q2), .second, .val (.long q3), .second, .val (.long (q2 - fb)), .second, .unset, .unset] [(.long (q2 - fb))])) _
    refine XS.lconst X7.here hx rfl (hb hby d12_17) ?_
    show Steps p.tables e below (T7.setTop (mkF m 18 #[.val (.ref a1), .val (.long q2), .second, .val (.long q3), .second, .val (.long (q2 - fb)), .second, .unset, .unset] [(.long (0 : Int64)), (.long (q2 - fb))])) _
    refine XS.lcmp X7.here hx rfl (hb hby d12_18) rfl ?_
    show Steps p.tables e below (T7.setTop (mkF m 19 #[.val (.ref a1), .val (.long q2), .second, .val (.long q3), .second, .val (.long (q2 - fb)), .second, .unset, .unset] [(.int (lcmpW (q2 - fb) (0 : Int64)))])) _
    refine XS.ifYes X7.here hx rfl (pc0 := 19) (pc' := 38) rfl (hb hby d12_19) rfl ((if0 _ _).trans (tlt hc19).1) (by decide) (by decide) ?_
    show Steps p.tables e below (T7.setTop (mkF m 38 #[.val (.ref a1), .val (.long q2), .second, .val (.long q3), .second, .val (.long (q2 - fb)), .second, .unset, .unset] [])) _
    refine XS.iconst X7.here hx rfl (hb hby d12_38) ?_
    show Steps p.tables e below (T7.setTop (mkF m 39 #[.val (.ref a1), .val (.long q2), .second, .val (.long q3), .second, .val (.long (q2 - fb)), .second, .unset, .unset] [(.int (-1 : Int32))])) _
    refine XS.istore X7.here hx rfl (hb hby d12_39) rfl (l' := #[.val (.ref a1), .val (.long q2), .second, .val (.long q3), .second, .val (.long (q2 - fb)), .second, .val (.int (-1 : Int32)), .unset]) rfl ?_
    show Steps p.tables e below (T7.setTop (mkF m 41 #[.val (.ref a1), .val (.long q2), .second, .val (.long q3), .second, .val (.long (q2 - fb)), .second, .val (.int (-1 : Int32)), .unset] [])) _
    refine XS.iload X7.here hx rfl (hb hby d12_41) rfl ?_
    show Steps p.tables e below (T7.setTop (mkF m 43 #[.val (.ref a1), .val (.long q2), .second, .val (.long q3), .second, .val (.long (q2 - fb)), .second, .val (.int (-1 : Int32)), .unset] [(.int (-1 : Int32))])) _
    refine XS.ifYes X7.here hx rfl (pc0 := 43) (pc' := 73) rfl (hb hby d12_43) rfl ((if0 _ _).trans (tlt hc43).1) (by decide) (by decide) ?_
    show Steps p.tables e below (T7.setTop (mkF m 73 #[.val (.ref a1), .val (.long q2), .second, .val (.long q3), .second, .val (.long (q2 - fb)), .second, .val (.int (-1 : Int32)), .unset] [])) _
    refine XS.iconst X7.here hx rfl (hb hby d12_73) ?_
    show Steps p.tables e below (T7.setTop (mkF m 74 #[.val (.ref a1), .val (.long q2), .second, .val (.long q3), .second, .val (.long (q2 - fb)), .second, .val (.int (-1 : Int32)), .unset] [(.int (-1 : Int32))])) _
    exact retI X7 hx Bd.returns (hb hby d12_74) hr
  · show Q12n Z a1 q2 q3 wi lf gf ls gs fb fs sb ss nu bf se h0 n0 _ T7.heap _
    rw [e7]
    exact ⟨rfl, N0, rfl⟩
set_option maxRecDepth 65536 in
set_option maxHeartbeats 40000000 in
theorem rm12g (l : Launch) (Z : State) (a0 : Array Value) (hw : ∀ d ∈ tables_1, d.before a0 Z = true) (ws : List Jvm.Cond) (a1 : Addr) (q2 : Int64) (q3 : Int64) (wi : Int32) (lf gf ls gs fb fs sb ss : Int64) (nu : Value) (bf : Int32) (se : Value) (h0 : Heap) (n0 : Nat) (Z0 : n0 ≤ h0.size) (D0 : DK Z h0 a1 wi lf gf ls gs fb fs sb ss nu bf se) (hc12 : ¬ (bf = (0 : Int32))) (hc19 : ¬ ((lcmpW (q2 - fb) (0 : Int64)) < (0 : Int32))) (hc29 : ¬ ((lcmpW (q2 - fb) fs) < (0 : Int32))) :
    MetFree l (⟨"com/example/fairjoin/fairjoin/operator/DirectKeys", "slot", "(JJ)I"⟩ : MethodName) (head1 (Jvm.Cond.code (⟨"com/example/fairjoin/fairjoin/operator/DirectKeys", "slot", "(JJ)I"⟩ : MethodName) prog_151_method_4_code 9 (some .int) :: ws) ({ frames := 0, cells := 0, slots := 0, locals := 0 } : Room)) (fun a U => a = #[(.ref a1), (.long q2), (.long q3)] ∧ Z.Warmed39 U.vm ∧ U.heap = h0) (fun _ _ _ _ _ => True) (fun _ U o U' => ∃ v L, o = .returned v ∧ Q12n Z a1 q2 q3 wi lf gf ls gs fb fs sb ss nu bf se h0 n0 v U'.heap L ∧ FrameEnd U o U' L ({ frames := 0, cells := 0, slots := 0, locals := 0 } : Room).cells ({ frames := 0, cells := 0, slots := 0, locals := 0 } : Room).slots) := by
  refine MetFree.of_bodySF (plainFor_of_name pn_12) hisR ?_
  intro p e s m args below meth c s₁ Bd hml0 hP hK
  obtain ⟨rfl, hZ, hh⟩ := hP
  have hx := Bd.exec
  have hby := Bd.bytes
  have hml : c.maxLocals = 9 := hml0
  have hown : s.vm.findClass "com/example/fairjoin/fairjoin/operator/DirectKeys" = some m.cls := findClass_of_methodNamed Bd.named
  have hnm := (name_of_methodNamed Bd.named Bd.method).1
  have X0 : Stand p l e ({ frames := 0, cells := 0, slots := 0, locals := 0 } : Room) s m #[(.ref a1), (.long q2), (.long q3)] below meth c s₁ [] 0 0 := Stand.of_body Bd
  have e0 : s₁.heap = h0 := by rw [← hh, Bd.state]; rfl
  have N0 := Fr.nil n0
  have pre0 : ∀ t, Steps p.tables e below (s₁.setTop (mkF m 0 #[.val (.ref a1), .val (.long q2), .second, .val (.long q3), .second, .unset, .unset, .unset, .unset] [])) t → Steps p.tables e below (s₁.setTop (entryFrame m #[(.ref a1), (.long q2), (.long q3)] 9)) t := fun t ktt => castTop (ef_12 m a1 q2 q3) ktt
  have F_firstBase_a1 := dk_fb D0
  have F_byFirst_a1 := dk_bf D0
  have F_firstSpan_a1 := dk_fs D0
  have F_secondBase_a1 := dk_sb D0
  have F_secondSpan_a1 := dk_ss D0
  have F_numbers_a1 := dk_nu D0
  have F_seconds_a1 := dk_se D0
  have hc43 : (-1 : Int32) < (0 : Int32) := by decide
  obtain ⟨T5, X5, e5, st5⟩ := getF X0 hx hZ hown (host := "") (Or.inl (hw _ (List.mem_of_getElem? (i := 69) rfl))) Via.refl e0 F_firstBase_a1 (g := (mkF m 2 #[.val (.ref a1), .val (.long q2), .second, .val (.long q3), .second, .unset, .unset, .unset, .unset] [(.ref a1), (.long q2)])) rfl rfl (hb hby d12_2)
  obtain ⟨T7, X7, e7, st7⟩ := getF X5 hx hZ hown (host := "") (Or.inl (hw _ (List.mem_of_getElem? (i := 67) rfl))) Via.refl e5 F_byFirst_a1 (g := (mkF m 9 #[.val (.ref a1), .val (.long q2), .second, .val (.long q3), .second, .val (.long (q2 - fb)), .second, .unset, .unset] [(.ref a1)])) rfl rfl (hb hby d12_9)
  obtain ⟨T9, X9, e9, st9⟩ := getF X7 hx hZ hown (host := "") (Or.inl (hw _ (List.mem_of_getElem? (i := 71) rfl))) Via.refl e7 F_firstSpan_a1 (g := (mkF m 25 #[.val (.ref a1), .val (.long q2), .second, .val (.long q3), .second, .val (.long (q2 - fb)), .second, .unset, .unset] [(.ref a1), (.long (q2 - fb))])) rfl rfl (hb hby d12_25)
  obtain ⟨fsr, hr, hrun, hended, hW, hsame⟩ := X9.leave (v := some (.int (-1 : Int32))) (fun h => by rw [Bd.returns] at h; cases h)
  refine ⟨_, _, pre0 _ ?_, hrun, hended, _, _, rfl, ?_, ⟨_, rfl⟩, hW, hsame.mono (by decide) (by decide)⟩
  · show Steps p.tables e below (s₁.setTop (mkF m 0 #[.val (.ref a1), .val (.long q2), .second, .val (.long q3), .second, .unset, .unset, .unset, .unset] [])) _
    refine XS.lloadN X0.here hx rfl (hb hby d12_0) rfl ?_
    show Steps p.tables e below (s₁.setTop (mkF m 1 #[.val (.ref a1), .val (.long q2), .second, .val (.long q3), .second, .unset, .unset, .unset, .unset] [(.long q2)])) _
    refine XS.aloadN X0.here hx rfl (hb hby d12_1) rfl rfl ?_
    show Steps p.tables e below (s₁.setTop (mkF m 2 #[.val (.ref a1), .val (.long q2), .second, .val (.long q3), .second, .unset, .unset, .unset, .unset] [(.ref a1), (.long q2)])) _
    refine st5 _ ?_
    show Steps p.tables e below (T5.setTop (mkF m 5 #[.val (.ref a1), .val (.long q2), .second, .val (.long q3), .second, .unset, .unset, .unset, .unset] [(.long fb), (.long q2)])) _
    refine XS.lsub X5.here hx rfl (hb hby d12_5) rfl ?_
    show Steps p.tables e below (T5.setTop (mkF m 6 #[.val (.ref a1), .val (.long q2), .second, .val (.long q3), .second, .unset, .unset, .unset, .unset] [(.long (q2 - fb))])) _
    refine XS.lstore X5.here hx rfl (hb hby d12_6) rfl (l' := #[.val (.ref a1), .val (.long q2), .second, .val (.long q3), .second, .val (.long (q2 - fb)), .second, .unset, .unset]) rfl ?_
    show Steps p.tables e below (T5.setTop (mkF m 8 #[.val (.ref a1), .val (.long q2), .second, .val (.long q3), .second, .val (.long (q2 - fb)), .second, .unset, .unset] [])) _
    refine XS.aloadN X5.here hx rfl (hb hby d12_8) rfl rfl ?_
    show Steps p.tables e below (T5.setTop (mkF m 9 #[.val (.ref a1), .val (.long q2), .second, .val (.long q3), .second, .val (.long (q2 - fb)), .second, .unset, .unset] [(.ref a1)])) _
    refine st7 _ ?_
    show Steps p.tables e below (T7.setTop (mkF m 12 #[.val (.ref a1), .val (.long q2), .second, .val (.long q3), .second, .val (.long (q2 - fb)), .second, .unset, .unset] [(.int bf)])) _
    refine XS.ifNo X7.here hx rfl (hb hby d12_12) rfl ((if0 _ _).trans (feq hc12).1) ?_
    show Steps p.tables e below (T7.setTop (mkF m 15 #[.val (.ref a1), .val (.long q2), .second, .val (.long q3), .second, .val (.long (q2 - fb)), .second, .unset, .unset] [])) _
    refine XS.lload X7.here hx rfl (hb hby d12_15) rfl ?_
    show Steps p.tables e below (T7.setTop (mkF m 17 #[.val (.ref a1), .val (.long q2), .second, .val (.long q3), .second, .val (.long (q2 - fb)), .second, .unset, .unset] [(.long (q2 - fb))])) _
    refine XS.lconst X7.here hx rfl (hb hby d12_17) ?_
    show Steps p.tables e below (T7.setTop (mkF m 18 #[.val (.ref a1), .val (.long q2), .second, .val (.long q3), .second, .val (.long (q2 - fb)), .second, .unset, .unset] [(.long (0 : Int64)), (.long (q2 - fb))])) _
    refine XS.lcmp X7.here hx rfl (hb hby d12_18) rfl ?_
    show Steps p.tables e below (T7.setTop (mkF m 19 #[.val (.ref a1), .val (.long q2), .second, .val (.long q3), .second, .val (.long (q2 - fb)), .second, .unset, .unset] [(.int (lcmpW (q2 - fb) (0 : Int64)))])) _
    refine XS.ifNo X7.here hx rfl (hb hby d12_19) rfl ((if0 _ _).trans (flt hc19).1) ?_
    show Steps p.tables e below (T7.setTop (mkF m 22 #[.val (.ref a1), .val (.long q2), .second, .val (.long q3), .second, .val (.long (q2 - fb)), .second, .unset, .unset] [])) _
    refine XS.lload X7.here hx rfl (hb hby d12_22) rfl ?_
    show Steps p.tables e below (T7.setTop (mkF m 24 #[.val (.ref a1), .val (.long q2), .second, .val (.long q3), .second, .val (.long (q2 - fb)), .second, .unset, .unset] [(.long (q2 - fb))])) _
    refine XS.aloadN X7.here hx rfl (hb hby d12_24) rfl rfl ?_
    show Steps p.tables e below (T7.setTop (mkF m 25 #[.val (.ref a1), .val (.long q2), .second, .val (.long q3), .second, .val (.long (q2 - fb)), .second, .unset, .unset] [(.ref a1), (.long (q2 - fb))])) _
    refine st9 _ ?_
    show Steps p.tables e below (T9.setTop (mkF m 28 #[.val (.ref a1), .val (.long q2), .second, .val (.long q3), .second, .val (.long (q2 - fb)), .second, .unset, .unset] [(.long fs), (.long (q2 - fb))])) _
    refine XS.lcmp X9.here hx rfl (hb hby d12_28) rfl ?_
    show Steps p.tables e below (T9.setTop (mkF m 29 #[.val (.ref a1), .val (.long q2), .second, .val (.long q3), .second, .val (.long (q2 - fb)), .second, .unset, .unset] [(.int (lcmpW (q2 - fb) fs))])) _
    refine XS.ifYes X9.here hx rfl (pc0 := 29) (pc' := 38) rfl (hb hby d12_29) rfl ((if0 _ _).trans (flt hc29).2.1) (by decide) (by decide) ?_
    show Steps p.tables e below (T9.setTop (mkF m 38 #[.val (.ref a1), .val (.long q2), .second, .val (.long q3), .second, .val (.long (q2 - fb)), .second, .unset, .unset] [])) _
    refine XS.iconst X9.here hx rfl (hb hby d12_38) ?_
    show Steps p.tables e below (T9.setTop (mkF m 39 #[.val (.ref a1), .val (.long q2), .second, .val (.long q3), .second, .val (.long (q2 - fb)), .second, .unset, .unset] [(.int (-1 : Int32))])) _
    refine XS.istore X9.here hx rfl (hb hby d12_39) rfl (l' := #[.val (.ref a1), .val (.long q2), .second, .val (.long q3), .second, .val (.long (q2 - fb)), .second, .val (.int (-1 : Int32)), .unset]) rfl ?_
    show Steps p.tables e below (T9.setTop (mkF m 41 #[.val (.ref a1), .val (.long q2), .second, .val (.long q3), .second, .val (.long (q2 - fb)), .second, .val (.int (-1 : Int32)), .unset] [])) _
    refine XS.iload X9.here hx rfl (hb hby d12_41) rfl ?_
    show Steps p.tables e below (T9.setTop (mkF m 43 #[.val (.ref a1), .val (.long q2), .second, .val (.long q3), .second, .val (.long (q2 - fb)), .second, .val (.int (-1 : Int32)), .unset] [(.int (-1 : Int32))])) _
    refine XS.ifYes X9.here hx rfl (pc0 := 43) (pc' := 73) rfl (hb hby d12_43) rfl ((if0 _ _).trans (tlt hc43).1) (by decide) (by decide) ?_
    show Steps p.tables e below (T9.setTop (mkF m 73 #[.val (.ref a1), .val (.long q2), .second, .val (.long q3), .second, .val (.long (q2 - fb)), .second, .val (.int (-1 : Int32)), .unset] [])) _
    refine XS.iconst X9.here hx rfl (hb hby d12_73) ?_
    show Steps p.tables e below (T9.setTop (mkF m 74 #[.val (.ref a1), .val (.long q2), .second, .val (.long q3), .second, .val (.long (q2 - fb)), .second, .val (.int (-1 : Int32)), .unset] [(.int (-1 : Int32))])) _
    exact retI X9 hx Bd.returns (hb hby d12_74) hr
  · show Q12n Z a1 q2 q3 wi lf gf ls gs fb fs sb ss nu bf se h0 n0 _ T9.heap _
    rw [e9]
    exact ⟨rfl, N0, rfl⟩
set_option maxRecDepth 65536 in
set_option maxHeartbeats 40000000 in
theorem rm12n (l : Launch) (Z : State) (a0 : Array Value) (hw : ∀ d ∈ tables_1, d.before a0 Z = true) (ws : List Jvm.Cond) (a1 : Addr) (q2 : Int64) (q3 : Int64) (wi : Int32) (lf gf ls gs fb fs sb ss : Int64) (nu : Value) (bf : Int32) (se : Value) (h0 : Heap) (n0 : Nat) (Z0 : n0 ≤ h0.size) (D0 : DK Z h0 a1 wi lf gf ls gs fb fs sb ss nu bf se) (hc12 : ¬ (bf = (0 : Int32))) (hout : (lcmpW (q2 - fb) (0 : Int64)) < (0 : Int32) ∨ ¬ ((lcmpW (q2 - fb) fs) < (0 : Int32))) :
    MetFree l (⟨"com/example/fairjoin/fairjoin/operator/DirectKeys", "slot", "(JJ)I"⟩ : MethodName) (head1 (Jvm.Cond.code (⟨"com/example/fairjoin/fairjoin/operator/DirectKeys", "slot", "(JJ)I"⟩ : MethodName) prog_151_method_4_code 9 (some .int) :: ws) ({ frames := 0, cells := 0, slots := 0, locals := 0 } : Room)) (fun a U => a = #[(.ref a1), (.long q2), (.long q3)] ∧ Z.Warmed39 U.vm ∧ U.heap = h0) (fun _ _ _ _ _ => True) (fun _ U o U' => ∃ v L, o = .returned v ∧ Q12n Z a1 q2 q3 wi lf gf ls gs fb fs sb ss nu bf se h0 n0 v U'.heap L ∧ FrameEnd U o U' L ({ frames := 0, cells := 0, slots := 0, locals := 0 } : Room).cells ({ frames := 0, cells := 0, slots := 0, locals := 0 } : Room).slots) := by
  by_cases hc19 : (lcmpW (q2 - fb) (0 : Int64)) < (0 : Int32)
  · exact rm12f l Z a0 hw ws a1 q2 q3 wi lf gf ls gs fb fs sb ss nu bf se h0 n0 Z0 D0 hc12 hc19
  · exact rm12g l Z a0 hw ws a1 q2 q3 wi lf gf ls gs fb fs sb ss nu bf se h0 n0 Z0 D0 hc12 hc19 (hout.resolve_left hc19)
def Q12i (Z : State) (a1 : Addr) (q2 : Int64) (q3 : Int64) (wi : Int32) (lf gf ls gs fb fs sb ss : Int64) (t1 : Addr) (bf : Int32) (t2 : Addr) (len i : Nat) (g1 : Nat → Int32) (g2 : Nat → Int64) (h0 : Heap) (n0 : Nat) (v : Option Value) (h : Heap) (L : List Loc) : Prop := v = some (.int (if g1 i = (0 : Int32) then Int32.ofNat i else if g2 i = q3 then Int32.ofNat i else (-1 : Int32))) ∧ Fr n0 L ∧ h = h0
set_option maxRecDepth 65536 in
set_option maxHeartbeats 40000000 in
theorem rm12h (l : Launch) (Z : State) (a0 : Array Value) (hw : ∀ d ∈ tables_1, d.before a0 Z = true) (ws : List Jvm.Cond) (a1 : Addr) (q2 : Int64) (q3 : Int64) (wi : Int32) (lf gf ls gs fb fs sb ss : Int64) (t1 : Addr) (bf : Int32) (t2 : Addr) (len i : Nat) (g1 : Nat → Int32) (g2 : Nat → Int64) (h0 : Heap) (n0 : Nat) (Z0 : n0 ≤ h0.size) (D0 : DK Z h0 a1 wi lf gf ls gs fb fs sb ss (.ref t1) bf (.ref t2)) (hc12 : ¬ (bf = (0 : Int32))) (hi : i < len) (hl : len ≤ 16) (A1 : OwA Z h0 t1 .int len (fun j => .int (g1 j))) (A2 : OwA Z h0 t2 .long len (fun j => .long (g2 j))) (hc19 : ¬ ((lcmpW (q2 - fb) (0 : Int64)) < (0 : Int32))) (hc29 : (lcmpW (q2 - fb) fs) < (0 : Int32)) (eac : (q2 - fb).toInt32 = Int32.ofNat i) (hc53 : g1 i = (0 : Int32)) :
    MetFree l (⟨"com/example/fairjoin/fairjoin/operator/DirectKeys", "slot", "(JJ)I"⟩ : MethodName) (head1 (Jvm.Cond.code (⟨"com/example/fairjoin/fairjoin/operator/DirectKeys", "slot", "(JJ)I"⟩ : MethodName) prog_151_method_4_code 9 (some .int) :: ws) ({ frames := 0, cells := 0, slots := 0, locals := 0 } : Room)) (fun a U => a = #[(.ref a1), (.long q2), (.long q3)] ∧ Z.Warmed39 U.vm ∧ U.heap = h0) (fun _ _ _ _ _ => True) (fun _ U o U' => ∃ v L, o = .returned v ∧ Q12i Z a1 q2 q3 wi lf gf ls gs fb fs sb ss t1 bf t2 len i g1 g2 h0 n0 v U'.heap L ∧ FrameEnd U o U' L ({ frames := 0, cells := 0, slots := 0, locals := 0 } : Room).cells ({ frames := 0, cells := 0, slots := 0, locals := 0 } : Room).slots) := by
  refine MetFree.of_bodySF (plainFor_of_name pn_12) hisR ?_
  intro p e s m args below meth c s₁ Bd hml0 hP hK
  obtain ⟨rfl, hZ, hh⟩ := hP
  have hx := Bd.exec
  have hby := Bd.bytes
  have hml : c.maxLocals = 9 := hml0
  have hown : s.vm.findClass "com/example/fairjoin/fairjoin/operator/DirectKeys" = some m.cls := findClass_of_methodNamed Bd.named
  have hnm := (name_of_methodNamed Bd.named Bd.method).1
  have X0 : Stand p l e ({ frames := 0, cells := 0, slots := 0, locals := 0 } : Room) s m #[(.ref a1), (.long q2), (.long q3)] below meth c s₁ [] 0 0 := Stand.of_body Bd
  have e0 : s₁.heap = h0 := by rw [← hh, Bd.state]; rfl
  have N0 := Fr.nil n0
  have pre0 : ∀ t, Steps p.tables e below (s₁.setTop (mkF m 0 #[.val (.ref a1), .val (.long q2), .second, .val (.long q3), .second, .unset, .unset, .unset, .unset] [])) t → Steps p.tables e below (s₁.setTop (entryFrame m #[(.ref a1), (.long q2), (.long q3)] 9)) t := fun t ktt => castTop (ef_12 m a1 q2 q3) ktt
  have F_firstBase_a1 := dk_fb D0
  have F_byFirst_a1 := dk_bf D0
  have F_firstSpan_a1 := dk_fs D0
  have F_secondBase_a1 := dk_sb D0
  have F_secondSpan_a1 := dk_ss D0
  have F_numbers_a1 := dk_nu D0
  have F_seconds_a1 := dk_se D0
  obtain ⟨cl_t1, Ar_t1, S_t1, H_t1⟩ := A1
  obtain ⟨cl_t2, Ar_t2, S_t2, H_t2⟩ := A2
  have hkc : (Int32.ofNat i).toNatClampNeg = i := own_clamp (by omega)
  have hc43 : ¬ (Int32.ofNat i < (0 : Int32)) := own_pos (by omega)
  have hin52 : ¬ (Int32.ofNat i < 0 ∨ cl_t1.slots.size ≤ (Int32.ofNat i).toNatClampNeg) := owa_in S_t1 hc43 (by rw [hkc]; exact hi)
  have hat52 : cl_t1.slots[(Int32.ofNat i).toNatClampNeg]? = some (.int (g1 i)) := by rw [hkc]; exact H_t1 i hi
  have hin62 : ¬ (Int32.ofNat i < 0 ∨ cl_t2.slots.size ≤ (Int32.ofNat i).toNatClampNeg) := owa_in S_t2 hc43 (by rw [hkc]; exact hi)
  have hat62 : cl_t2.slots[(Int32.ofNat i).toNatClampNeg]? = some (.long (g2 i)) := by rw [hkc]; exact H_t2 i hi
  obtain ⟨T5, X5, e5, st5⟩ := getF X0 hx hZ hown (host := "") (Or.inl (hw _ (List.mem_of_getElem? (i := 69) rfl))) Via.refl e0 F_firstBase_a1 (g := (mkF m 2 #[.val (.ref a1), .val (.long q2), .second, .val (.long q3), .second, .unset, .unset, .unset, .unset] [(.ref a1), (.long q2)])) rfl rfl (hb hby d12_2)
  obtain ⟨T7, X7, e7, st7⟩ := getF X5 hx hZ hown (host := "") (Or.inl (hw _ (List.mem_of_getElem? (i := 67) rfl))) Via.refl e5 F_byFirst_a1 (g := (mkF m 9 #[.val (.ref a1), .val (.long q2), .second, .val (.long q3), .second, .val (.long (q2 - fb)), .second, .unset, .unset] [(.ref a1)])) rfl rfl (hb hby d12_9)
  obtain ⟨T9, X9, e9, st9⟩ := getF X7 hx hZ hown (host := "") (Or.inl (hw _ (List.mem_of_getElem? (i := 71) rfl))) Via.refl e7 F_firstSpan_a1 (g := (mkF m 25 #[.val (.ref a1), .val (.long q2), .second, .val (.long q3), .second, .val (.long (q2 - fb)), .second, .unset, .unset] [(.ref a1), (.long (q2 - fb))])) rfl rfl (hb hby d12_25)
  obtain ⟨T11, X11, e11, st11⟩ := getF X9 hx hZ hown (host := "") (Or.inl (hw _ (List.mem_of_getElem? (i := 24) rfl))) Via.refl e9 F_numbers_a1 (g := (mkF m 47 #[.val (.ref a1), .val (.long q2), .second, .val (.long q3), .second, .val (.long (q2 - fb)), .second, .val (.int (Int32.ofNat i)), .unset] [(.ref a1)])) rfl rfl (hb hby d12_47)
  obtain ⟨fsr, hr, hrun, hended, hW, hsame⟩ := X11.leave (v := some (.int (Int32.ofNat i))) (fun h => by rw [Bd.returns] at h; cases h)
  refine ⟨_, _, pre0 _ ?_, hrun, hended, _, _, rfl, ?_, ⟨_, rfl⟩, hW, hsame.mono (by decide) (by decide)⟩
  · show Steps p.tables e below (s₁.setTop (mkF m 0 #[.val (.ref a1), .val (.long q2), .second, .val (.long q3), .second, .unset, .unset, .unset, .unset] [])) _
    refine XS.lloadN X0.here hx rfl (hb hby d12_0) rfl ?_
    show Steps p.tables e below (s₁.setTop (mkF m 1 #[.val (.ref a1), .val (.long q2), .second, .val (.long q3), .second, .unset, .unset, .unset, .unset] [(.long q2)])) _
    refine XS.aloadN X0.here hx rfl (hb hby d12_1) rfl rfl ?_
    show Steps p.tables e below (s₁.setTop (mkF m 2 #[.val (.ref a1), .val (.long q2), .second, .val (.long q3), .second, .unset, .unset, .unset, .unset] [(.ref a1), (.long q2)])) _
    refine st5 _ ?_
    show Steps p.tables e below (T5.setTop (mkF m 5 #[.val (.ref a1), .val (.long q2), .second, .val (.long q3), .second, .unset, .unset, .unset, .unset] [(.long fb), (.long q2)])) _
    refine XS.lsub X5.here hx rfl (hb hby d12_5) rfl ?_
    show Steps p.tables e below (T5.setTop (mkF m 6 #[.val (.ref a1), .val (.long q2), .second, .val (.long q3), .second, .unset, .unset, .unset, .unset] [(.long (q2 - fb))])) _
    refine XS.lstore X5.here hx rfl (hb hby d12_6) rfl (l' := #[.val (.ref a1), .val (.long q2), .second, .val (.long q3), .second, .val (.long (q2 - fb)), .second, .unset, .unset]) rfl ?_
    show Steps p.tables e below (T5.setTop (mkF m 8 #[.val (.ref a1), .val (.long q2), .second, .val (.long q3), .second, .val (.long (q2 - fb)), .second, .unset, .unset] [])) _
    refine XS.aloadN X5.here hx rfl (hb hby d12_8) rfl rfl ?_
    show Steps p.tables e below (T5.setTop (mkF m 9 #[.val (.ref a1), .val (.long q2), .second, .val (.long q3), .second, .val (.long (q2 - fb)), .second, .unset, .unset] [(.ref a1)])) _
    refine st7 _ ?_
    show Steps p.tables e below (T7.setTop (mkF m 12 #[.val (.ref a1), .val (.long q2), .second, .val (.long q3), .second, .val (.long (q2 - fb)), .second, .unset, .unset] [(.int bf)])) _
    refine XS.ifNo X7.here hx rfl (hb hby d12_12) rfl ((if0 _ _).trans (feq hc12).1) ?_
    show Steps p.tables e below (T7.setTop (mkF m 15 #[.val (.ref a1), .val (.long q2), .second, .val (.long q3), .second, .val (.long (q2 - fb)), .second, .unset, .unset] [])) _
    refine XS.lload X7.here hx rfl (hb hby d12_15) rfl ?_
    show Steps p.tables e below (T7.setTop (mkF m 17 #[.val (.ref a1), .val (.long q2), .second, .val (.long q3), .second, .val (.long (q2 - fb)), .second, .unset, .unset] [(.long (q2 - fb))])) _
    refine XS.lconst X7.here hx rfl (hb hby d12_17) ?_
    show Steps p.tables e below (T7.setTop (mkF m 18 #[.val (.ref a1), .val (.long q2), .second, .val (.long q3), .second, .val (.long (q2 - fb)), .second, .unset, .unset] [(.long (0 : Int64)), (.long (q2 - fb))])) _
    refine XS.lcmp X7.here hx rfl (hb hby d12_18) rfl ?_
    show Steps p.tables e below (T7.setTop (mkF m 19 #[.val (.ref a1), .val (.long q2), .second, .val (.long q3), .second, .val (.long (q2 - fb)), .second, .unset, .unset] [(.int (lcmpW (q2 - fb) (0 : Int64)))])) _
    refine XS.ifNo X7.here hx rfl (hb hby d12_19) rfl ((if0 _ _).trans (flt hc19).1) ?_
    show Steps p.tables e below (T7.setTop (mkF m 22 #[.val (.ref a1), .val (.long q2), .second, .val (.long q3), .second, .val (.long (q2 - fb)), .second, .unset, .unset] [])) _
    refine XS.lload X7.here hx rfl (hb hby d12_22) rfl ?_
    show Steps p.tables e below (T7.setTop (mkF m 24 #[.val (.ref a1), .val (.long q2), .second, .val (.long q3), .second, .val (.long (q2 - fb)), .second, .unset, .unset] [(.long (q2 - fb))])) _
    refine XS.aloadN X7.here hx rfl (hb hby d12_24) rfl rfl ?_
    show Steps p.tables e below (T7.setTop (mkF m 25 #[.val (.ref a1), .val (.long q2), .second, .val (.long q3), .second, .val (.long (q2 - fb)), .second, .unset, .unset] [(.ref a1), (.long (q2 - fb))])) _
    refine st9 _ ?_
    show Steps p.tables e below (T9.setTop (mkF m 28 #[.val (.ref a1), .val (.long q2), .second, .val (.long q3), .second, .val (.long (q2 - fb)), .second, .unset, .unset] [(.long fs), (.long (q2 - fb))])) _
    refine XS.lcmp X9.here hx rfl (hb hby d12_28) rfl ?_
    show Steps p.tables e below (T9.setTop (mkF m 29 #[.val (.ref a1), .val (.long q2), .second, .val (.long q3), .second, .val (.long (q2 - fb)), .second, .unset, .unset] [(.int (lcmpW (q2 - fb) fs))])) _
    refine XS.ifNo X9.here hx rfl (hb hby d12_29) rfl ((if0 _ _).trans (tlt hc29).2.1) ?_
    show Steps p.tables e below (T9.setTop (mkF m 32 #[.val (.ref a1), .val (.long q2), .second, .val (.long q3), .second, .val (.long (q2 - fb)), .second, .unset, .unset] [])) _
    refine XS.lload X9.here hx rfl (hb hby d12_32) rfl ?_
    show Steps p.tables e below (T9.setTop (mkF m 34 #[.val (.ref a1), .val (.long q2), .second, .val (.long q3), .second, .val (.long (q2 - fb)), .second, .unset, .unset] [(.long (q2 - fb))])) _
    refine XS.l2i X9.here hx rfl (hb hby d12_34) rfl ?_
    rw [eac]
    show Steps p.tables e below (T9.setTop (mkF m 35 #[.val (.ref a1), .val (.long q2), .second, .val (.long q3), .second, .val (.long (q2 - fb)), .second, .unset, .unset] [(.int (Int32.ofNat i))])) _
    refine XS.goto X9.here hx rfl (pc0 := 35) (pc' := 39) rfl (hb hby d12_35) (by decide) (by decide) ?_
    show Steps p.tables e below (T9.setTop (mkF m 39 #[.val (.ref a1), .val (.long q2), .second, .val (.long q3), .second, .val (.long (q2 - fb)), .second, .unset, .unset] [(.int (Int32.ofNat i))])) _
    refine XS.istore X9.here hx rfl (hb hby d12_39) rfl (l' := #[.val (.ref a1), .val (.long q2), .second, .val (.long q3), .second, .val (.long (q2 - fb)), .second, .val (.int (Int32.ofNat i)), .unset]) rfl ?_
    show Steps p.tables e below (T9.setTop (mkF m 41 #[.val (.ref a1), .val (.long q2), .second, .val (.long q3), .second, .val (.long (q2 - fb)), .second, .val (.int (Int32.ofNat i)), .unset] [])) _
    refine XS.iload X9.here hx rfl (hb hby d12_41) rfl ?_
    show Steps p.tables e below (T9.setTop (mkF m 43 #[.val (.ref a1), .val (.long q2), .second, .val (.long q3), .second, .val (.long (q2 - fb)), .second, .val (.int (Int32.ofNat i)), .unset] [(.int (Int32.ofNat i))])) _
    refine XS.ifNo X9.here hx rfl (hb hby d12_43) rfl ((if0 _ _).trans (flt hc43).1) ?_
    show Steps p.tables e below (T9.setTop (mkF m 46 #[.val (.ref a1), .val (.long q2), .second, .val (.long q3), .second, .val (.long (q2 - fb)), .second, .val (.int (Int32.ofNat i)), .unset] [])) _
    refine XS.aloadN X9.here hx rfl (hb hby d12_46) rfl rfl ?_
    show Steps p.tables e below (T9.setTop (mkF m 47 #[.val (.ref a1), .val (.long q2), .second, .val (.long q3), .second, .val (.long (q2 - fb)), .second, .val (.int (Int32.ofNat i)), .unset] [(.ref a1)])) _
    refine st11 _ ?_
    show Steps p.tables e below (T11.setTop (mkF m 50 #[.val (.ref a1), .val (.long q2), .second, .val (.long q3), .second, .val (.long (q2 - fb)), .second, .val (.int (Int32.ofNat i)), .unset] [(.ref t1)])) _
    refine XS.iload X11.here hx rfl (hb hby d12_50) rfl ?_
    show Steps p.tables e below (T11.setTop (mkF m 52 #[.val (.ref a1), .val (.long q2), .second, .val (.long q3), .second, .val (.long (q2 - fb)), .second, .val (.int (Int32.ofNat i)), .unset] [(.int (Int32.ofNat i)), (.ref t1)])) _
    refine X11.iaload hx (j := (Int32.ofNat i)) (v := (.int (g1 i))) (by rw [e11]; exact Ar_t1.1) (State.isArrayOf_alike hZ.alike Ar_t1.2.1) Ar_t1.2.2 hin52 hat52 (g := (mkF m 52 #[.val (.ref a1), .val (.long q2), .second, .val (.long q3), .second, .val (.long (q2 - fb)), .second, .val (.int (Int32.ofNat i)), .unset] [(.int (Int32.ofNat i)), (.ref t1)])) rfl rfl (hb hby d12_52) _ ?_
    show Steps p.tables e below (T11.setTop (mkF m 53 #[.val (.ref a1), .val (.long q2), .second, .val (.long q3), .second, .val (.long (q2 - fb)), .second, .val (.int (Int32.ofNat i)), .unset] [(.int (g1 i))])) _
    refine XS.ifYes X11.here hx rfl (pc0 := 53) (pc' := 68) rfl (hb hby d12_53) rfl ((if0 _ _).trans (teq hc53).1) (by decide) (by decide) ?_
    show Steps p.tables e below (T11.setTop (mkF m 68 #[.val (.ref a1), .val (.long q2), .second, .val (.long q3), .second, .val (.long (q2 - fb)), .second, .val (.int (Int32.ofNat i)), .unset] [])) _
    refine XS.iload X11.here hx rfl (hb hby d12_68) rfl ?_
    show Steps p.tables e below (T11.setTop (mkF m 70 #[.val (.ref a1), .val (.long q2), .second, .val (.long q3), .second, .val (.long (q2 - fb)), .second, .val (.int (Int32.ofNat i)), .unset] [(.int (Int32.ofNat i))])) _
    refine XS.goto X11.here hx rfl (pc0 := 70) (pc' := 74) rfl (hb hby d12_70) (by decide) (by decide) ?_
    show Steps p.tables e below (T11.setTop (mkF m 74 #[.val (.ref a1), .val (.long q2), .second, .val (.long q3), .second, .val (.long (q2 - fb)), .second, .val (.int (Int32.ofNat i)), .unset] [(.int (Int32.ofNat i))])) _
    exact retI X11 hx Bd.returns (hb hby d12_74) hr
  · show Q12i Z a1 q2 q3 wi lf gf ls gs fb fs sb ss t1 bf t2 len i g1 g2 h0 n0 _ T11.heap _
    rw [e11]
    exact ⟨by rw [if_pos hc53], N0, rfl⟩
set_option maxRecDepth 65536 in
set_option maxHeartbeats 40000000 in
theorem rm12i (l : Launch) (Z : State) (a0 : Array Value) (hw : ∀ d ∈ tables_1, d.before a0 Z = true) (ws : List Jvm.Cond) (a1 : Addr) (q2 : Int64) (q3 : Int64) (wi : Int32) (lf gf ls gs fb fs sb ss : Int64) (t1 : Addr) (bf : Int32) (t2 : Addr) (len i : Nat) (g1 : Nat → Int32) (g2 : Nat → Int64) (h0 : Heap) (n0 : Nat) (Z0 : n0 ≤ h0.size) (D0 : DK Z h0 a1 wi lf gf ls gs fb fs sb ss (.ref t1) bf (.ref t2)) (hc12 : ¬ (bf = (0 : Int32))) (hi : i < len) (hl : len ≤ 16) (A1 : OwA Z h0 t1 .int len (fun j => .int (g1 j))) (A2 : OwA Z h0 t2 .long len (fun j => .long (g2 j))) (hc19 : ¬ ((lcmpW (q2 - fb) (0 : Int64)) < (0 : Int32))) (hc29 : (lcmpW (q2 - fb) fs) < (0 : Int32)) (eac : (q2 - fb).toInt32 = Int32.ofNat i) (hc53 : ¬ (g1 i = (0 : Int32))) (hg : ¬ (g2 i = q3)) :
    MetFree l (⟨"com/example/fairjoin/fairjoin/operator/DirectKeys", "slot", "(JJ)I"⟩ : MethodName) (head1 (Jvm.Cond.code (⟨"com/example/fairjoin/fairjoin/operator/DirectKeys", "slot", "(JJ)I"⟩ : MethodName) prog_151_method_4_code 9 (some .int) :: ws) ({ frames := 0, cells := 0, slots := 0, locals := 0 } : Room)) (fun a U => a = #[(.ref a1), (.long q2), (.long q3)] ∧ Z.Warmed39 U.vm ∧ U.heap = h0) (fun _ _ _ _ _ => True) (fun _ U o U' => ∃ v L, o = .returned v ∧ Q12i Z a1 q2 q3 wi lf gf ls gs fb fs sb ss t1 bf t2 len i g1 g2 h0 n0 v U'.heap L ∧ FrameEnd U o U' L ({ frames := 0, cells := 0, slots := 0, locals := 0 } : Room).cells ({ frames := 0, cells := 0, slots := 0, locals := 0 } : Room).slots) := by
  refine MetFree.of_bodySF (plainFor_of_name pn_12) hisR ?_
  intro p e s m args below meth c s₁ Bd hml0 hP hK
  obtain ⟨rfl, hZ, hh⟩ := hP
  have hx := Bd.exec
  have hby := Bd.bytes
  have hml : c.maxLocals = 9 := hml0
  have hown : s.vm.findClass "com/example/fairjoin/fairjoin/operator/DirectKeys" = some m.cls := findClass_of_methodNamed Bd.named
  have hnm := (name_of_methodNamed Bd.named Bd.method).1
  have X0 : Stand p l e ({ frames := 0, cells := 0, slots := 0, locals := 0 } : Room) s m #[(.ref a1), (.long q2), (.long q3)] below meth c s₁ [] 0 0 := Stand.of_body Bd
  have e0 : s₁.heap = h0 := by rw [← hh, Bd.state]; rfl
  have N0 := Fr.nil n0
  have pre0 : ∀ t, Steps p.tables e below (s₁.setTop (mkF m 0 #[.val (.ref a1), .val (.long q2), .second, .val (.long q3), .second, .unset, .unset, .unset, .unset] [])) t → Steps p.tables e below (s₁.setTop (entryFrame m #[(.ref a1), (.long q2), (.long q3)] 9)) t := fun t ktt => castTop (ef_12 m a1 q2 q3) ktt
  have F_firstBase_a1 := dk_fb D0
  have F_byFirst_a1 := dk_bf D0
  have F_firstSpan_a1 := dk_fs D0
  have F_secondBase_a1 := dk_sb D0
  have F_secondSpan_a1 := dk_ss D0
  have F_numbers_a1 := dk_nu D0
  have F_seconds_a1 := dk_se D0
  obtain ⟨cl_t1, Ar_t1, S_t1, H_t1⟩ := A1
  obtain ⟨cl_t2, Ar_t2, S_t2, H_t2⟩ := A2
  have hkc : (Int32.ofNat i).toNatClampNeg = i := own_clamp (by omega)
  have hc43 : ¬ (Int32.ofNat i < (0 : Int32)) := own_pos (by omega)
  have hin52 : ¬ (Int32.ofNat i < 0 ∨ cl_t1.slots.size ≤ (Int32.ofNat i).toNatClampNeg) := owa_in S_t1 hc43 (by rw [hkc]; exact hi)
  have hat52 : cl_t1.slots[(Int32.ofNat i).toNatClampNeg]? = some (.int (g1 i)) := by rw [hkc]; exact H_t1 i hi
  have hin62 : ¬ (Int32.ofNat i < 0 ∨ cl_t2.slots.size ≤ (Int32.ofNat i).toNatClampNeg) := owa_in S_t2 hc43 (by rw [hkc]; exact hi)
  have hat62 : cl_t2.slots[(Int32.ofNat i).toNatClampNeg]? = some (.long (g2 i)) := by rw [hkc]; exact H_t2 i hi
  have hc65 : ¬ ((lcmpW (g2 i) q3) = (0 : Int32)) := fun q => hg ((lw_eq _ _).mp q)
  obtain ⟨T5, X5, e5, st5⟩ := getF X0 hx hZ hown (host := "") (Or.inl (hw _ (List.mem_of_getElem? (i := 69) rfl))) Via.refl e0 F_firstBase_a1 (g := (mkF m 2 #[.val (.ref a1), .val (.long q2), .second, .val (.long q3), .second, .unset, .unset, .unset, .unset] [(.ref a1), (.long q2)])) rfl rfl (hb hby d12_2)
  obtain ⟨T7, X7, e7, st7⟩ := getF X5 hx hZ hown (host := "") (Or.inl (hw _ (List.mem_of_getElem? (i := 67) rfl))) Via.refl e5 F_byFirst_a1 (g := (mkF m 9 #[.val (.ref a1), .val (.long q2), .second, .val (.long q3), .second, .val (.long (q2 - fb)), .second, .unset, .unset] [(.ref a1)])) rfl rfl (hb hby d12_9)
  obtain ⟨T9, X9, e9, st9⟩ := getF X7 hx hZ hown (host := "") (Or.inl (hw _ (List.mem_of_getElem? (i := 71) rfl))) Via.refl e7 F_firstSpan_a1 (g := (mkF m 25 #[.val (.ref a1), .val (.long q2), .second, .val (.long q3), .second, .val (.long (q2 - fb)), .second, .unset, .unset] [(.ref a1), (.long (q2 - fb))])) rfl rfl (hb hby d12_25)
  obtain ⟨T11, X11, e11, st11⟩ := getF X9 hx hZ hown (host := "") (Or.inl (hw _ (List.mem_of_getElem? (i := 24) rfl))) Via.refl e9 F_numbers_a1 (g := (mkF m 47 #[.val (.ref a1), .val (.long q2), .second, .val (.long q3), .second, .val (.long (q2 - fb)), .second, .val (.int (Int32.ofNat i)), .unset] [(.ref a1)])) rfl rfl (hb hby d12_47)
  obtain ⟨T14, X14, e14, st14⟩ := getF X11 hx hZ hown (host := "") (Or.inl (hw _ (List.mem_of_getElem? (i := 75) rfl))) Via.refl e11 F_seconds_a1 (g := (mkF m 57 #[.val (.ref a1), .val (.long q2), .second, .val (.long q3), .second, .val (.long (q2 - fb)), .second, .val (.int (Int32.ofNat i)), .unset] [(.ref a1)])) rfl rfl (hb hby d12_57)
  obtain ⟨fsr, hr, hrun, hended, hW, hsame⟩ := X14.leave (v := some (.int (-1 : Int32))) (fun h => by rw [Bd.returns] at h; cases h)
  refine ⟨_, _, pre0 _ ?_, hrun, hended, _, _, rfl, ?_, ⟨_, rfl⟩, hW, hsame.mono (by decide) (by decide)⟩
  · show Steps p.tables e below (s₁.setTop (mkF m 0 #[.val (.ref a1), .val (.long q2), .second, .val (.long q3), .second, .unset, .unset, .unset, .unset] [])) _
    refine XS.lloadN X0.here hx rfl (hb hby d12_0) rfl ?_
    show Steps p.tables e below (s₁.setTop (mkF m 1 #[.val (.ref a1), .val (.long q2), .second, .val (.long q3), .second, .unset, .unset, .unset, .unset] [(.long q2)])) _
    refine XS.aloadN X0.here hx rfl (hb hby d12_1) rfl rfl ?_
    show Steps p.tables e below (s₁.setTop (mkF m 2 #[.val (.ref a1), .val (.long q2), .second, .val (.long q3), .second, .unset, .unset, .unset, .unset] [(.ref a1), (.long q2)])) _
    refine st5 _ ?_
    show Steps p.tables e below (T5.setTop (mkF m 5 #[.val (.ref a1), .val (.long q2), .second, .val (.long q3), .second, .unset, .unset, .unset, .unset] [(.long fb), (.long q2)])) _
    refine XS.lsub X5.here hx rfl (hb hby d12_5) rfl ?_
    show Steps p.tables e below (T5.setTop (mkF m 6 #[.val (.ref a1), .val (.long q2), .second, .val (.long q3), .second, .unset, .unset, .unset, .unset] [(.long (q2 - fb))])) _
    refine XS.lstore X5.here hx rfl (hb hby d12_6) rfl (l' := #[.val (.ref a1), .val (.long q2), .second, .val (.long q3), .second, .val (.long (q2 - fb)), .second, .unset, .unset]) rfl ?_
    show Steps p.tables e below (T5.setTop (mkF m 8 #[.val (.ref a1), .val (.long q2), .second, .val (.long q3), .second, .val (.long (q2 - fb)), .second, .unset, .unset] [])) _
    refine XS.aloadN X5.here hx rfl (hb hby d12_8) rfl rfl ?_
    show Steps p.tables e below (T5.setTop (mkF m 9 #[.val (.ref a1), .val (.long q2), .second, .val (.long q3), .second, .val (.long (q2 - fb)), .second, .unset, .unset] [(.ref a1)])) _
    refine st7 _ ?_
    show Steps p.tables e below (T7.setTop (mkF m 12 #[.val (.ref a1), .val (.long q2), .second, .val (.long q3), .second, .val (.long (q2 - fb)), .second, .unset, .unset] [(.int bf)])) _
    refine XS.ifNo X7.here hx rfl (hb hby d12_12) rfl ((if0 _ _).trans (feq hc12).1) ?_
    show Steps p.tables e below (T7.setTop (mkF m 15 #[.val (.ref a1), .val (.long q2), .second, .val (.long q3), .second, .val (.long (q2 - fb)), .second, .unset, .unset] [])) _
    refine XS.lload X7.here hx rfl (hb hby d12_15) rfl ?_
    show Steps p.tables e below (T7.setTop (mkF m 17 #[.val (.ref a1), .val (.long q2), .second, .val (.long q3), .second, .val (.long (q2 - fb)), .second, .unset, .unset] [(.long (q2 - fb))])) _
    refine XS.lconst X7.here hx rfl (hb hby d12_17) ?_
    show Steps p.tables e below (T7.setTop (mkF m 18 #[.val (.ref a1), .val (.long q2), .second, .val (.long q3), .second, .val (.long (q2 - fb)), .second, .unset, .unset] [(.long (0 : Int64)), (.long (q2 - fb))])) _
    refine XS.lcmp X7.here hx rfl (hb hby d12_18) rfl ?_
    show Steps p.tables e below (T7.setTop (mkF m 19 #[.val (.ref a1), .val (.long q2), .second, .val (.long q3), .second, .val (.long (q2 - fb)), .second, .unset, .unset] [(.int (lcmpW (q2 - fb) (0 : Int64)))])) _
    refine XS.ifNo X7.here hx rfl (hb hby d12_19) rfl ((if0 _ _).trans (flt hc19).1) ?_
    show Steps p.tables e below (T7.setTop (mkF m 22 #[.val (.ref a1), .val (.long q2), .second, .val (.long q3), .second, .val (.long (q2 - fb)), .second, .unset, .unset] [])) _
    refine XS.lload X7.here hx rfl (hb hby d12_22) rfl ?_
    show Steps p.tables e below (T7.setTop (mkF m 24 #[.val (.ref a1), .val (.long q2), .second, .val (.long q3), .second, .val (.long (q2 - fb)), .second, .unset, .unset] [(.long (q2 - fb))])) _
    refine XS.aloadN X7.here hx rfl (hb hby d12_24) rfl rfl ?_
    show Steps p.tables e below (T7.setTop (mkF m 25 #[.val (.ref a1), .val (.long q2), .second, .val (.long q3), .second, .val (.long (q2 - fb)), .second, .unset, .unset] [(.ref a1), (.long (q2 - fb))])) _
    refine st9 _ ?_
    show Steps p.tables e below (T9.setTop (mkF m 28 #[.val (.ref a1), .val (.long q2), .second, .val (.long q3), .second, .val (.long (q2 - fb)), .second, .unset, .unset] [(.long fs), (.long (q2 - fb))])) _
    refine XS.lcmp X9.here hx rfl (hb hby d12_28) rfl ?_
    show Steps p.tables e below (T9.setTop (mkF m 29 #[.val (.ref a1), .val (.long q2), .second, .val (.long q3), .second, .val (.long (q2 - fb)), .second, .unset, .unset] [(.int (lcmpW (q2 - fb) fs))])) _
    refine XS.ifNo X9.here hx rfl (hb hby d12_29) rfl ((if0 _ _).trans (tlt hc29).2.1) ?_
    show Steps p.tables e below (T9.setTop (mkF m 32 #[.val (.ref a1), .val (.long q2), .second, .val (.long q3), .second, .val (.long (q2 - fb)), .second, .unset, .unset] [])) _
    refine XS.lload X9.here hx rfl (hb hby d12_32) rfl ?_
    show Steps p.tables e below (T9.setTop (mkF m 34 #[.val (.ref a1), .val (.long q2), .second, .val (.long q3), .second, .val (.long (q2 - fb)), .second, .unset, .unset] [(.long (q2 - fb))])) _
    refine XS.l2i X9.here hx rfl (hb hby d12_34) rfl ?_
    rw [eac]
    show Steps p.tables e below (T9.setTop (mkF m 35 #[.val (.ref a1), .val (.long q2), .second, .val (.long q3), .second, .val (.long (q2 - fb)), .second, .unset, .unset] [(.int (Int32.ofNat i))])) _
    refine XS.goto X9.here hx rfl (pc0 := 35) (pc' := 39) rfl (hb hby d12_35) (by decide) (by decide) ?_
    show Steps p.tables e below (T9.setTop (mkF m 39 #[.val (.ref a1), .val (.long q2), .second, .val (.long q3), .second, .val (.long (q2 - fb)), .second, .unset, .unset] [(.int (Int32.ofNat i))])) _
    refine XS.istore X9.here hx rfl (hb hby d12_39) rfl (l' := #[.val (.ref a1), .val (.long q2), .second, .val (.long q3), .second, .val (.long (q2 - fb)), .second, .val (.int (Int32.ofNat i)), .unset]) rfl ?_
    show Steps p.tables e below (T9.setTop (mkF m 41 #[.val (.ref a1), .val (.long q2), .second, .val (.long q3), .second, .val (.long (q2 - fb)), .second, .val (.int (Int32.ofNat i)), .unset] [])) _
    refine XS.iload X9.here hx rfl (hb hby d12_41) rfl ?_
    show Steps p.tables e below (T9.setTop (mkF m 43 #[.val (.ref a1), .val (.long q2), .second, .val (.long q3), .second, .val (.long (q2 - fb)), .second, .val (.int (Int32.ofNat i)), .unset] [(.int (Int32.ofNat i))])) _
    refine XS.ifNo X9.here hx rfl (hb hby d12_43) rfl ((if0 _ _).trans (flt hc43).1) ?_
    show Steps p.tables e below (T9.setTop (mkF m 46 #[.val (.ref a1), .val (.long q2), .second, .val (.long q3), .second, .val (.long (q2 - fb)), .second, .val (.int (Int32.ofNat i)), .unset] [])) _
    refine XS.aloadN X9.here hx rfl (hb hby d12_46) rfl rfl ?_
    show Steps p.tables e below (T9.setTop (mkF m 47 #[.val (.ref a1), .val (.long q2), .second, .val (.long q3), .second, .val (.long (q2 - fb)), .second, .val (.int (Int32.ofNat i)), .unset] [(.ref a1)])) _
    refine st11 _ ?_
    show Steps p.tables e below (T11.setTop (mkF m 50 #[.val (.ref a1), .val (.long q2), .second, .val (.long q3), .second, .val (.long (q2 - fb)), .second, .val (.int (Int32.ofNat i)), .unset] [(.ref t1)])) _
    refine XS.iload X11.here hx rfl (hb hby d12_50) rfl ?_
    show Steps p.tables e below (T11.setTop (mkF m 52 #[.val (.ref a1), .val (.long q2), .second, .val (.long q3), .second, .val (.long (q2 - fb)), .second, .val (.int (Int32.ofNat i)), .unset] [(.int (Int32.ofNat i)), (.ref t1)])) _
    refine X11.iaload hx (j := (Int32.ofNat i)) (v := (.int (g1 i))) (by rw [e11]; exact Ar_t1.1) (State.isArrayOf_alike hZ.alike Ar_t1.2.1) Ar_t1.2.2 hin52 hat52 (g := (mkF m 52 #[.val (.ref a1), .val (.long q2), .second, .val (.long q3), .second, .val (.long (q2 - fb)), .second, .val (.int (Int32.ofNat i)), .unset] [(.int (Int32.ofNat i)), (.ref t1)])) rfl rfl (hb hby d12_52) _ ?_
    show Steps p.tables e below (T11.setTop (mkF m 53 #[.val (.ref a1), .val (.long q2), .second, .val (.long q3), .second, .val (.long (q2 - fb)), .second, .val (.int (Int32.ofNat i)), .unset] [(.int (g1 i))])) _
    refine XS.ifNo X11.here hx rfl (hb hby d12_53) rfl ((if0 _ _).trans (feq hc53).1) ?_
    show Steps p.tables e below (T11.setTop (mkF m 56 #[.val (.ref a1), .val (.long q2), .second, .val (.long q3), .second, .val (.long (q2 - fb)), .second, .val (.int (Int32.ofNat i)), .unset] [])) _
    refine XS.aloadN X11.here hx rfl (hb hby d12_56) rfl rfl ?_
    show Steps p.tables e below (T11.setTop (mkF m 57 #[.val (.ref a1), .val (.long q2), .second, .val (.long q3), .second, .val (.long (q2 - fb)), .second, .val (.int (Int32.ofNat i)), .unset] [(.ref a1)])) _
    refine st14 _ ?_
    show Steps p.tables e below (T14.setTop (mkF m 60 #[.val (.ref a1), .val (.long q2), .second, .val (.long q3), .second, .val (.long (q2 - fb)), .second, .val (.int (Int32.ofNat i)), .unset] [(.ref t2)])) _
    refine XS.iload X14.here hx rfl (hb hby d12_60) rfl ?_
    show Steps p.tables e below (T14.setTop (mkF m 62 #[.val (.ref a1), .val (.long q2), .second, .val (.long q3), .second, .val (.long (q2 - fb)), .second, .val (.int (Int32.ofNat i)), .unset] [(.int (Int32.ofNat i)), (.ref t2)])) _
    refine X14.laload hx (j := (Int32.ofNat i)) (v := (.long (g2 i))) (by rw [e14]; exact Ar_t2.1) (State.isArrayOf_alike hZ.alike Ar_t2.2.1) Ar_t2.2.2 hin62 hat62 (g := (mkF m 62 #[.val (.ref a1), .val (.long q2), .second, .val (.long q3), .second, .val (.long (q2 - fb)), .second, .val (.int (Int32.ofNat i)), .unset] [(.int (Int32.ofNat i)), (.ref t2)])) rfl rfl (hb hby d12_62) _ ?_
    show Steps p.tables e below (T14.setTop (mkF m 63 #[.val (.ref a1), .val (.long q2), .second, .val (.long q3), .second, .val (.long (q2 - fb)), .second, .val (.int (Int32.ofNat i)), .unset] [(.long (g2 i))])) _
    refine XS.lloadN X14.here hx rfl (hb hby d12_63) rfl ?_
    show Steps p.tables e below (T14.setTop (mkF m 64 #[.val (.ref a1), .val (.long q2), .second, .val (.long q3), .second, .val (.long (q2 - fb)), .second, .val (.int (Int32.ofNat i)), .unset] [(.long q3), (.long (g2 i))])) _
    refine XS.lcmp X14.here hx rfl (hb hby d12_64) rfl ?_
    show Steps p.tables e below (T14.setTop (mkF m 65 #[.val (.ref a1), .val (.long q2), .second, .val (.long q3), .second, .val (.long (q2 - fb)), .second, .val (.int (Int32.ofNat i)), .unset] [(.int (lcmpW (g2 i) q3))])) _
    refine XS.ifYes X14.here hx rfl (pc0 := 65) (pc' := 73) rfl (hb hby d12_65) rfl ((if0 _ _).trans (feq hc65).2) (by decide) (by decide) ?_
    show Steps p.tables e below (T14.setTop (mkF m 73 #[.val (.ref a1), .val (.long q2), .second, .val (.long q3), .second, .val (.long (q2 - fb)), .second, .val (.int (Int32.ofNat i)), .unset] [])) _
    refine XS.iconst X14.here hx rfl (hb hby d12_73) ?_
    show Steps p.tables e below (T14.setTop (mkF m 74 #[.val (.ref a1), .val (.long q2), .second, .val (.long q3), .second, .val (.long (q2 - fb)), .second, .val (.int (Int32.ofNat i)), .unset] [(.int (-1 : Int32))])) _
    exact retI X14 hx Bd.returns (hb hby d12_74) hr
  · show Q12i Z a1 q2 q3 wi lf gf ls gs fb fs sb ss t1 bf t2 len i g1 g2 h0 n0 _ T14.heap _
    rw [e14]
    exact ⟨by rw [if_neg hc53, if_neg hg], N0, rfl⟩
set_option maxRecDepth 65536 in
set_option maxHeartbeats 40000000 in
theorem rm12j (l : Launch) (Z : State) (a0 : Array Value) (hw : ∀ d ∈ tables_1, d.before a0 Z = true) (ws : List Jvm.Cond) (a1 : Addr) (q2 : Int64) (q3 : Int64) (wi : Int32) (lf gf ls gs fb fs sb ss : Int64) (t1 : Addr) (bf : Int32) (t2 : Addr) (len i : Nat) (g1 : Nat → Int32) (g2 : Nat → Int64) (h0 : Heap) (n0 : Nat) (Z0 : n0 ≤ h0.size) (D0 : DK Z h0 a1 wi lf gf ls gs fb fs sb ss (.ref t1) bf (.ref t2)) (hc12 : ¬ (bf = (0 : Int32))) (hi : i < len) (hl : len ≤ 16) (A1 : OwA Z h0 t1 .int len (fun j => .int (g1 j))) (A2 : OwA Z h0 t2 .long len (fun j => .long (g2 j))) (hc19 : ¬ ((lcmpW (q2 - fb) (0 : Int64)) < (0 : Int32))) (hc29 : (lcmpW (q2 - fb) fs) < (0 : Int32)) (eac : (q2 - fb).toInt32 = Int32.ofNat i) (hc53 : ¬ (g1 i = (0 : Int32))) (hg : g2 i = q3) :
    MetFree l (⟨"com/example/fairjoin/fairjoin/operator/DirectKeys", "slot", "(JJ)I"⟩ : MethodName) (head1 (Jvm.Cond.code (⟨"com/example/fairjoin/fairjoin/operator/DirectKeys", "slot", "(JJ)I"⟩ : MethodName) prog_151_method_4_code 9 (some .int) :: ws) ({ frames := 0, cells := 0, slots := 0, locals := 0 } : Room)) (fun a U => a = #[(.ref a1), (.long q2), (.long q3)] ∧ Z.Warmed39 U.vm ∧ U.heap = h0) (fun _ _ _ _ _ => True) (fun _ U o U' => ∃ v L, o = .returned v ∧ Q12i Z a1 q2 q3 wi lf gf ls gs fb fs sb ss t1 bf t2 len i g1 g2 h0 n0 v U'.heap L ∧ FrameEnd U o U' L ({ frames := 0, cells := 0, slots := 0, locals := 0 } : Room).cells ({ frames := 0, cells := 0, slots := 0, locals := 0 } : Room).slots) := by
  refine MetFree.of_bodySF (plainFor_of_name pn_12) hisR ?_
  intro p e s m args below meth c s₁ Bd hml0 hP hK
  obtain ⟨rfl, hZ, hh⟩ := hP
  have hx := Bd.exec
  have hby := Bd.bytes
  have hml : c.maxLocals = 9 := hml0
  have hown : s.vm.findClass "com/example/fairjoin/fairjoin/operator/DirectKeys" = some m.cls := findClass_of_methodNamed Bd.named
  have hnm := (name_of_methodNamed Bd.named Bd.method).1
  have X0 : Stand p l e ({ frames := 0, cells := 0, slots := 0, locals := 0 } : Room) s m #[(.ref a1), (.long q2), (.long q3)] below meth c s₁ [] 0 0 := Stand.of_body Bd
  have e0 : s₁.heap = h0 := by rw [← hh, Bd.state]; rfl
  have N0 := Fr.nil n0
  have pre0 : ∀ t, Steps p.tables e below (s₁.setTop (mkF m 0 #[.val (.ref a1), .val (.long q2), .second, .val (.long q3), .second, .unset, .unset, .unset, .unset] [])) t → Steps p.tables e below (s₁.setTop (entryFrame m #[(.ref a1), (.long q2), (.long q3)] 9)) t := fun t ktt => castTop (ef_12 m a1 q2 q3) ktt
  have F_firstBase_a1 := dk_fb D0
  have F_byFirst_a1 := dk_bf D0
  have F_firstSpan_a1 := dk_fs D0
  have F_secondBase_a1 := dk_sb D0
  have F_secondSpan_a1 := dk_ss D0
  have F_numbers_a1 := dk_nu D0
  have F_seconds_a1 := dk_se D0
  obtain ⟨cl_t1, Ar_t1, S_t1, H_t1⟩ := A1
  obtain ⟨cl_t2, Ar_t2, S_t2, H_t2⟩ := A2
  have hkc : (Int32.ofNat i).toNatClampNeg = i := own_clamp (by omega)
  have hc43 : ¬ (Int32.ofNat i < (0 : Int32)) := own_pos (by omega)
  have hin52 : ¬ (Int32.ofNat i < 0 ∨ cl_t1.slots.size ≤ (Int32.ofNat i).toNatClampNeg) := owa_in S_t1 hc43 (by rw [hkc]; exact hi)
  have hat52 : cl_t1.slots[(Int32.ofNat i).toNatClampNeg]? = some (.int (g1 i)) := by rw [hkc]; exact H_t1 i hi
  have hin62 : ¬ (Int32.ofNat i < 0 ∨ cl_t2.slots.size ≤ (Int32.ofNat i).toNatClampNeg) := owa_in S_t2 hc43 (by rw [hkc]; exact hi)
  have hat62 : cl_t2.slots[(Int32.ofNat i).toNatClampNeg]? = some (.long (g2 i)) := by rw [hkc]; exact H_t2 i hi
  have hc65 : (lcmpW (g2 i) q3) = (0 : Int32) := (lw_eq _ _).mpr hg
  obtain ⟨T5, X5, e5, st5⟩ := getF X0 hx hZ hown (host := "") (Or.inl (hw _ (List.mem_of_getElem? (i := 69) rfl))) Via.refl e0 F_firstBase_a1 (g := (mkF m 2 #[.val (.ref a1), .val (.long q2), .second, .val (.long q3), .second, .unset, .unset, .unset, .unset] [(.ref a1), (.long q2)])) rfl rfl (hb hby d12_2)
  obtain ⟨T7, X7, e7, st7⟩ := getF X5 hx hZ hown (host := "") (Or.inl (hw _ (List.mem_of_getElem? (i := 67) rfl))) Via.refl e5 F_byFirst_a1 (g := (mkF m 9 #[.val (.ref a1), .val (.long q2), .second, .val (.long q3), .second, .val (.long (q2 - fb)), .second, .unset, .unset] [(.ref a1)])) rfl rfl (hb hby d12_9)
  obtain ⟨T9, X9, e9, st9⟩ := getF X7 hx hZ hown (host := "") (Or.inl (hw _ (List.mem_of_getElem? (i := 71) rfl))) Via.refl e7 F_firstSpan_a1 (g := (mkF m 25 #[.val (.ref a1), .val (.long q2), .second, .val (.long q3), .second, .val (.long (q2 - fb)), .second, .unset, .unset] [(.ref a1), (.long (q2 - fb))])) rfl rfl (hb hby d12_25)
  obtain ⟨T11, X11, e11, st11⟩ := getF X9 hx hZ hown (host := "") (Or.inl (hw _ (List.mem_of_getElem? (i := 24) rfl))) Via.refl e9 F_numbers_a1 (g := (mkF m 47 #[.val (.ref a1), .val (.long q2), .second, .val (.long q3), .second, .val (.long (q2 - fb)), .second, .val (.int (Int32.ofNat i)), .unset] [(.ref a1)])) rfl rfl (hb hby d12_47)
  obtain ⟨T14, X14, e14, st14⟩ := getF X11 hx hZ hown (host := "") (Or.inl (hw _ (List.mem_of_getElem? (i := 75) rfl))) Via.refl e11 F_seconds_a1 (g := (mkF m 57 #[.val (.ref a1), .val (.long q2), .second, .val (.long q3), .second, .val (.long (q2 - fb)), .second, .val (.int (Int32.ofNat i)), .unset] [(.ref a1)])) rfl rfl (hb hby d12_57)
  obtain ⟨fsr, hr, hrun, hended, hW, hsame⟩ := X14.leave (v := some (.int (Int32.ofNat i))) (fun h => by rw [Bd.returns] at h; cases h)
  refine ⟨_, _, pre0 _ ?_, hrun, hended, _, _, rfl, ?_, ⟨_, rfl⟩, hW, hsame.mono (by decide) (by decide)⟩
  · show Steps p.tables e below (s₁.setTop (mkF m 0 #[.val (.ref a1), .val (.long q2), .second, .val (.long q3), .second, .unset, .unset, .unset, .unset] [])) _
    refine XS.lloadN X0.here hx rfl (hb hby d12_0) rfl ?_
    show Steps p.tables e below (s₁.setTop (mkF m 1 #[.val (.ref a1), .val (.long q2), .second, .val (.long q3), .second, .unset, .unset, .unset, .unset] [(.long q2)])) _
    refine XS.aloadN X0.here hx rfl (hb hby d12_1) rfl rfl ?_
    show Steps p.tables e below (s₁.setTop (mkF m 2 #[.val (.ref a1), .val (.long q2), .second, .val (.long q3), .second, .unset, .unset, .unset, .unset] [(.ref a1), (.long q2)])) _
    refine st5 _ ?_
    show Steps p.tables e below (T5.setTop (mkF m 5 #[.val (.ref a1), .val (.long q2), .second, .val (.long q3), .second, .unset, .unset, .unset, .unset] [(.long fb), (.long q2)])) _
    refine XS.lsub X5.here hx rfl (hb hby d12_5) rfl ?_
    show Steps p.tables e below (T5.setTop (mkF m 6 #[.val (.ref a1), .val (.long q2), .second, .val (.long q3), .second, .unset, .unset, .unset, .unset] [(.long (q2 - fb))])) _
    refine XS.lstore X5.here hx rfl (hb hby d12_6) rfl (l' := #[.val (.ref a1), .val (.long q2), .second, .val (.long q3), .second, .val (.long (q2 - fb)), .second, .unset, .unset]) rfl ?_
    show Steps p.tables e below (T5.setTop (mkF m 8 #[.val (.ref a1), .val (.long q2), .second, .val (.long q3), .second, .val (.long (q2 - fb)), .second, .unset, .unset] [])) _
    refine XS.aloadN X5.here hx rfl (hb hby d12_8) rfl rfl ?_
    show Steps p.tables e below (T5.setTop (mkF m 9 #[.val (.ref a1), .val (.long q2), .second, .val (.long q3), .second, .val (.long (q2 - fb)), .second, .unset, .unset] [(.ref a1)])) _
    refine st7 _ ?_
    show Steps p.tables e below (T7.setTop (mkF m 12 #[.val (.ref a1), .val (.long q2), .second, .val (.long q3), .second, .val (.long (q2 - fb)), .second, .unset, .unset] [(.int bf)])) _
    refine XS.ifNo X7.here hx rfl (hb hby d12_12) rfl ((if0 _ _).trans (feq hc12).1) ?_
    show Steps p.tables e below (T7.setTop (mkF m 15 #[.val (.ref a1), .val (.long q2), .second, .val (.long q3), .second, .val (.long (q2 - fb)), .second, .unset, .unset] [])) _
    refine XS.lload X7.here hx rfl (hb hby d12_15) rfl ?_
    show Steps p.tables e below (T7.setTop (mkF m 17 #[.val (.ref a1), .val (.long q2), .second, .val (.long q3), .second, .val (.long (q2 - fb)), .second, .unset, .unset] [(.long (q2 - fb))])) _
    refine XS.lconst X7.here hx rfl (hb hby d12_17) ?_
    show Steps p.tables e below (T7.setTop (mkF m 18 #[.val (.ref a1), .val (.long q2), .second, .val (.long q3), .second, .val (.long (q2 - fb)), .second, .unset, .unset] [(.long (0 : Int64)), (.long (q2 - fb))])) _
    refine XS.lcmp X7.here hx rfl (hb hby d12_18) rfl ?_
    show Steps p.tables e below (T7.setTop (mkF m 19 #[.val (.ref a1), .val (.long q2), .second, .val (.long q3), .second, .val (.long (q2 - fb)), .second, .unset, .unset] [(.int (lcmpW (q2 - fb) (0 : Int64)))])) _
    refine XS.ifNo X7.here hx rfl (hb hby d12_19) rfl ((if0 _ _).trans (flt hc19).1) ?_
    show Steps p.tables e below (T7.setTop (mkF m 22 #[.val (.ref a1), .val (.long q2), .second, .val (.long q3), .second, .val (.long (q2 - fb)), .second, .unset, .unset] [])) _
    refine XS.lload X7.here hx rfl (hb hby d12_22) rfl ?_
    show Steps p.tables e below (T7.setTop (mkF m 24 #[.val (.ref a1), .val (.long q2), .second, .val (.long q3), .second, .val (.long (q2 - fb)), .second, .unset, .unset] [(.long (q2 - fb))])) _
    refine XS.aloadN X7.here hx rfl (hb hby d12_24) rfl rfl ?_
    show Steps p.tables e below (T7.setTop (mkF m 25 #[.val (.ref a1), .val (.long q2), .second, .val (.long q3), .second, .val (.long (q2 - fb)), .second, .unset, .unset] [(.ref a1), (.long (q2 - fb))])) _
    refine st9 _ ?_
    show Steps p.tables e below (T9.setTop (mkF m 28 #[.val (.ref a1), .val (.long q2), .second, .val (.long q3), .second, .val (.long (q2 - fb)), .second, .unset, .unset] [(.long fs), (.long (q2 - fb))])) _
    refine XS.lcmp X9.here hx rfl (hb hby d12_28) rfl ?_
    show Steps p.tables e below (T9.setTop (mkF m 29 #[.val (.ref a1), .val (.long q2), .second, .val (.long q3), .second, .val (.long (q2 - fb)), .second, .unset, .unset] [(.int (lcmpW (q2 - fb) fs))])) _
    refine XS.ifNo X9.here hx rfl (hb hby d12_29) rfl ((if0 _ _).trans (tlt hc29).2.1) ?_
    show Steps p.tables e below (T9.setTop (mkF m 32 #[.val (.ref a1), .val (.long q2), .second, .val (.long q3), .second, .val (.long (q2 - fb)), .second, .unset, .unset] [])) _
    refine XS.lload X9.here hx rfl (hb hby d12_32) rfl ?_
    show Steps p.tables e below (T9.setTop (mkF m 34 #[.val (.ref a1), .val (.long q2), .second, .val (.long q3), .second, .val (.long (q2 - fb)), .second, .unset, .unset] [(.long (q2 - fb))])) _
    refine XS.l2i X9.here hx rfl (hb hby d12_34) rfl ?_
    rw [eac]
    show Steps p.tables e below (T9.setTop (mkF m 35 #[.val (.ref a1), .val (.long q2), .second, .val (.long q3), .second, .val (.long (q2 - fb)), .second, .unset, .unset] [(.int (Int32.ofNat i))])) _
    refine XS.goto X9.here hx rfl (pc0 := 35) (pc' := 39) rfl (hb hby d12_35) (by decide) (by decide) ?_
    show Steps p.tables e below (T9.setTop (mkF m 39 #[.val (.ref a1), .val (.long q2), .second, .val (.long q3), .second, .val (.long (q2 - fb)), .second, .unset, .unset] [(.int (Int32.ofNat i))])) _
    refine XS.istore X9.here hx rfl (hb hby d12_39) rfl (l' := #[.val (.ref a1), .val (.long q2), .second, .val (.long q3), .second, .val (.long (q2 - fb)), .second, .val (.int (Int32.ofNat i)), .unset]) rfl ?_
    show Steps p.tables e below (T9.setTop (mkF m 41 #[.val (.ref a1), .val (.long q2), .second, .val (.long q3), .second, .val (.long (q2 - fb)), .second, .val (.int (Int32.ofNat i)), .unset] [])) _
    refine XS.iload X9.here hx rfl (hb hby d12_41) rfl ?_
    show Steps p.tables e below (T9.setTop (mkF m 43 #[.val (.ref a1), .val (.long q2), .second, .val (.long q3), .second, .val (.long (q2 - fb)), .second, .val (.int (Int32.ofNat i)), .unset] [(.int (Int32.ofNat i))])) _
    refine XS.ifNo X9.here hx rfl (hb hby d12_43) rfl ((if0 _ _).trans (flt hc43).1) ?_
    show Steps p.tables e below (T9.setTop (mkF m 46 #[.val (.ref a1), .val (.long q2), .second, .val (.long q3), .second, .val (.long (q2 - fb)), .second, .val (.int (Int32.ofNat i)), .unset] [])) _
    refine XS.aloadN X9.here hx rfl (hb hby d12_46) rfl rfl ?_
    show Steps p.tables e below (T9.setTop (mkF m 47 #[.val (.ref a1), .val (.long q2), .second, .val (.long q3), .second, .val (.long (q2 - fb)), .second, .val (.int (Int32.ofNat i)), .unset] [(.ref a1)])) _
    refine st11 _ ?_
    show Steps p.tables e below (T11.setTop (mkF m 50 #[.val (.ref a1), .val (.long q2), .second, .val (.long q3), .second, .val (.long (q2 - fb)), .second, .val (.int (Int32.ofNat i)), .unset] [(.ref t1)])) _
    refine XS.iload X11.here hx rfl (hb hby d12_50) rfl ?_
    show Steps p.tables e below (T11.setTop (mkF m 52 #[.val (.ref a1), .val (.long q2), .second, .val (.long q3), .second, .val (.long (q2 - fb)), .second, .val (.int (Int32.ofNat i)), .unset] [(.int (Int32.ofNat i)), (.ref t1)])) _
    refine X11.iaload hx (j := (Int32.ofNat i)) (v := (.int (g1 i))) (by rw [e11]; exact Ar_t1.1) (State.isArrayOf_alike hZ.alike Ar_t1.2.1) Ar_t1.2.2 hin52 hat52 (g := (mkF m 52 #[.val (.ref a1), .val (.long q2), .second, .val (.long q3), .second, .val (.long (q2 - fb)), .second, .val (.int (Int32.ofNat i)), .unset] [(.int (Int32.ofNat i)), (.ref t1)])) rfl rfl (hb hby d12_52) _ ?_
    show Steps p.tables e below (T11.setTop (mkF m 53 #[.val (.ref a1), .val (.long q2), .second, .val (.long q3), .second, .val (.long (q2 - fb)), .second, .val (.int (Int32.ofNat i)), .unset] [(.int (g1 i))])) _
    refine XS.ifNo X11.here hx rfl (hb hby d12_53) rfl ((if0 _ _).trans (feq hc53).1) ?_
    show Steps p.tables e below (T11.setTop (mkF m 56 #[.val (.ref a1), .val (.long q2), .second, .val (.long q3), .second, .val (.long (q2 - fb)), .second, .val (.int (Int32.ofNat i)), .unset] [])) _
    refine XS.aloadN X11.here hx rfl (hb hby d12_56) rfl rfl ?_
    show Steps p.tables e below (T11.setTop (mkF m 57 #[.val (.ref a1), .val (.long q2), .second, .val (.long q3), .second, .val (.long (q2 - fb)), .second, .val (.int (Int32.ofNat i)), .unset] [(.ref a1)])) _
    refine st14 _ ?_
    show Steps p.tables e below (T14.setTop (mkF m 60 #[.val (.ref a1), .val (.long q2), .second, .val (.long q3), .second, .val (.long (q2 - fb)), .second, .val (.int (Int32.ofNat i)), .unset] [(.ref t2)])) _
    refine XS.iload X14.here hx rfl (hb hby d12_60) rfl ?_
    show Steps p.tables e below (T14.setTop (mkF m 62 #[.val (.ref a1), .val (.long q2), .second, .val (.long q3), .second, .val (.long (q2 - fb)), .second, .val (.int (Int32.ofNat i)), .unset] [(.int (Int32.ofNat i)), (.ref t2)])) _
    refine X14.laload hx (j := (Int32.ofNat i)) (v := (.long (g2 i))) (by rw [e14]; exact Ar_t2.1) (State.isArrayOf_alike hZ.alike Ar_t2.2.1) Ar_t2.2.2 hin62 hat62 (g := (mkF m 62 #[.val (.ref a1), .val (.long q2), .second, .val (.long q3), .second, .val (.long (q2 - fb)), .second, .val (.int (Int32.ofNat i)), .unset] [(.int (Int32.ofNat i)), (.ref t2)])) rfl rfl (hb hby d12_62) _ ?_
    show Steps p.tables e below (T14.setTop (mkF m 63 #[.val (.ref a1), .val (.long q2), .second, .val (.long q3), .second, .val (.long (q2 - fb)), .second, .val (.int (Int32.ofNat i)), .unset] [(.long (g2 i))])) _
    refine XS.lloadN X14.here hx rfl (hb hby d12_63) rfl ?_
    show Steps p.tables e below (T14.setTop (mkF m 64 #[.val (.ref a1), .val (.long q2), .second, .val (.long q3), .second, .val (.long (q2 - fb)), .second, .val (.int (Int32.ofNat i)), .unset] [(.long q3), (.long (g2 i))])) _
    refine XS.lcmp X14.here hx rfl (hb hby d12_64) rfl ?_
    show Steps p.tables e below (T14.setTop (mkF m 65 #[.val (.ref a1), .val (.long q2), .second, .val (.long q3), .second, .val (.long (q2 - fb)), .second, .val (.int (Int32.ofNat i)), .unset] [(.int (lcmpW (g2 i) q3))])) _
    refine XS.ifNo X14.here hx rfl (hb hby d12_65) rfl ((if0 _ _).trans (teq hc65).2) ?_
    show Steps p.tables e below (T14.setTop (mkF m 68 #[.val (.ref a1), .val (.long q2), .second, .val (.long q3), .second, .val (.long (q2 - fb)), .second, .val (.int (Int32.ofNat i)), .unset] [])) _
    refine XS.iload X14.here hx rfl (hb hby d12_68) rfl ?_
    show Steps p.tables e below (T14.setTop (mkF m 70 #[.val (.ref a1), .val (.long q2), .second, .val (.long q3), .second, .val (.long (q2 - fb)), .second, .val (.int (Int32.ofNat i)), .unset] [(.int (Int32.ofNat i))])) _
    refine XS.goto X14.here hx rfl (pc0 := 70) (pc' := 74) rfl (hb hby d12_70) (by decide) (by decide) ?_
    show Steps p.tables e below (T14.setTop (mkF m 74 #[.val (.ref a1), .val (.long q2), .second, .val (.long q3), .second, .val (.long (q2 - fb)), .second, .val (.int (Int32.ofNat i)), .unset] [(.int (Int32.ofNat i))])) _
    exact retI X14 hx Bd.returns (hb hby d12_74) hr
  · show Q12i Z a1 q2 q3 wi lf gf ls gs fb fs sb ss t1 bf t2 len i g1 g2 h0 n0 _ T14.heap _
    rw [e14]
    exact ⟨by rw [if_neg hc53, if_pos hg], N0, rfl⟩
set_option maxRecDepth 65536 in
set_option maxHeartbeats 40000000 in
theorem rm12x (l : Launch) (Z : State) (a0 : Array Value) (hw : ∀ d ∈ tables_1, d.before a0 Z = true) (ws : List Jvm.Cond) (a1 : Addr) (q2 : Int64) (q3 : Int64) (wi : Int32) (lf gf ls gs fb fs sb ss : Int64) (t1 : Addr) (bf : Int32) (t2 : Addr) (len i : Nat) (g1 : Nat → Int32) (g2 : Nat → Int64) (h0 : Heap) (n0 : Nat) (Z0 : n0 ≤ h0.size) (D0 : DK Z h0 a1 wi lf gf ls gs fb fs sb ss (.ref t1) bf (.ref t2)) (hc12 : ¬ (bf = (0 : Int32))) (hi : i < len) (hl : len ≤ 16) (A1 : OwA Z h0 t1 .int len (fun j => .int (g1 j))) (A2 : OwA Z h0 t2 .long len (fun j => .long (g2 j))) (hc19 : ¬ ((lcmpW (q2 - fb) (0 : Int64)) < (0 : Int32))) (hc29 : (lcmpW (q2 - fb) fs) < (0 : Int32)) (eac : (q2 - fb).toInt32 = Int32.ofNat i) :
    MetFree l (⟨"com/example/fairjoin/fairjoin/operator/DirectKeys", "slot", "(JJ)I"⟩ : MethodName) (head1 (Jvm.Cond.code (⟨"com/example/fairjoin/fairjoin/operator/DirectKeys", "slot", "(JJ)I"⟩ : MethodName) prog_151_method_4_code 9 (some .int) :: ws) ({ frames := 0, cells := 0, slots := 0, locals := 0 } : Room)) (fun a U => a = #[(.ref a1), (.long q2), (.long q3)] ∧ Z.Warmed39 U.vm ∧ U.heap = h0) (fun _ _ _ _ _ => True) (fun _ U o U' => ∃ v L, o = .returned v ∧ Q12i Z a1 q2 q3 wi lf gf ls gs fb fs sb ss t1 bf t2 len i g1 g2 h0 n0 v U'.heap L ∧ FrameEnd U o U' L ({ frames := 0, cells := 0, slots := 0, locals := 0 } : Room).cells ({ frames := 0, cells := 0, slots := 0, locals := 0 } : Room).slots) := by
  by_cases hc53 : g1 i = (0 : Int32)
  · exact rm12h l Z a0 hw ws a1 q2 q3 wi lf gf ls gs fb fs sb ss t1 bf t2 len i g1 g2 h0 n0 Z0 D0 hc12 hi hl A1 A2 hc19 hc29 eac hc53
  · by_cases hg : g2 i = q3
    · exact rm12j l Z a0 hw ws a1 q2 q3 wi lf gf ls gs fb fs sb ss t1 bf t2 len i g1 g2 h0 n0 Z0 D0 hc12 hi hl A1 A2 hc19 hc29 eac hc53 hg
    · exact rm12i l Z a0 hw ws a1 q2 q3 wi lf gf ls gs fb fs sb ss t1 bf t2 len i g1 g2 h0 n0 Z0 D0 hc12 hi hl A1 A2 hc19 hc29 eac hc53 hg
abbrev lv0 (x0 : Int64) (x2 : Int64) (x4 : Int64) (x6 : Int64) (x8 : Int32) (x9 : Int32) (x10 : Int32) (x11 : Int32) (x12 : Int32) : Array Slot := #[.val (.long x0), .second, .val (.long x2), .second, .val (.long x4), .second, .val (.long x6), .second, .val (.int x8), .val (.int x9), .val (.int x10), .val (.int x11), .val (.int x12), .unset, .unset, .unset, .unset, .unset, .unset, .unset, .unset, .unset, .unset, .unset, .unset, .unset, .unset, .unset, .unset, .unset, .unset, .unset, .unset, .unset, .unset, .unset, .unset, .unset, .unset, .unset, .unset, .unset, .unset]
abbrev lv1 (x0 : Int64) (x2 : Int64) (x4 : Int64) (x6 : Int64) (x8 : Int32) (x9 : Int32) : Array Slot := #[.val (.long x0), .second, .val (.long x2), .second, .val (.long x4), .second, .val (.long x6), .second, .val (.int x8), .val (.int x9), .unset, .unset, .unset, .unset, .unset, .unset, .unset, .unset, .unset, .unset, .unset, .unset, .unset, .unset, .unset, .unset, .unset, .unset, .unset, .unset, .unset, .unset, .unset, .unset, .unset, .unset, .unset, .unset, .unset, .unset, .unset, .unset, .unset]
abbrev lv2 (x0 : Int64) (x2 : Int64) (x4 : Int64) (x6 : Int64) (x8 : Int32) (x9 : Int32) (x10 : Int32) : Array Slot := #[.val (.long x0), .second, .val (.long x2), .second, .val (.long x4), .second, .val (.long x6), .second, .val (.int x8), .val (.int x9), .val (.int x10), .unset, .unset, .unset, .unset, .unset, .unset, .unset, .unset, .unset, .unset, .unset, .unset, .unset, .unset, .unset, .unset, .unset, .unset, .unset, .unset, .unset, .unset, .unset, .unset, .unset, .unset, .unset, .unset, .unset, .unset, .unset, .unset]
abbrev lv3 (x0 : Int64) (x2 : Int64) (x4 : Int64) (x6 : Int64) (x8 : Int32) (x9 : Int32) (x10 : Int32) (x11 : Int32) : Array Slot := #[.val (.long x0), .second, .val (.long x2), .second, .val (.long x4), .second, .val (.long x6), .second, .val (.int x8), .val (.int x9), .val (.int x10), .val (.int x11), .unset, .unset, .unset, .unset, .unset, .unset, .unset, .unset, .unset, .unset, .unset, .unset, .unset, .unset, .unset, .unset, .unset, .unset, .unset, .unset, .unset, .unset, .unset, .unset, .unset, .unset, .unset, .unset, .unset, .unset, .unset]
abbrev lv4 (x0 : Int64) (x2 : Int64) (x4 : Int64) (x6 : Int64) (x8 : Int32) (x9 : Int32) (x10 : Int32) (x11 : Int32) (x12 : Int32) (x13 : Int32) : Array Slot := #[.val (.long x0), .second, .val (.long x2), .second, .val (.long x4), .second, .val (.long x6), .second, .val (.int x8), .val (.int x9), .val (.int x10), .val (.int x11), .val (.int x12), .val (.int x13), .unset, .unset, .unset, .unset, .unset, .unset, .unset, .unset, .unset, .unset, .unset, .unset, .unset, .unset, .unset, .unset, .unset, .unset, .unset, .unset, .unset, .unset, .unset, .unset, .unset, .unset, .unset, .unset, .unset]
abbrev lv5 (x0 : Int64) (x2 : Int64) (x4 : Int64) (x6 : Int64) (x8 : Int32) (x9 : Int32) (x10 : Int32) (x11 : Int32) (x12 : Int32) (x13 : Int32) (x14 : Int32) : Array Slot := #[.val (.long x0), .second, .val (.long x2), .second, .val (.long x4), .second, .val (.long x6), .second, .val (.int x8), .val (.int x9), .val (.int x10), .val (.int x11), .val (.int x12), .val (.int x13), .val (.int x14), .unset, .unset, .unset, .unset, .unset, .unset, .unset, .unset, .unset, .unset, .unset, .unset, .unset, .unset, .unset, .unset, .unset, .unset, .unset, .unset, .unset, .unset, .unset, .unset, .unset, .unset, .unset, .unset]
abbrev lv6 (x0 : Int64) (x2 : Int64) (x4 : Int64) (x6 : Int64) (x8 : Int32) (x9 : Int32) (x10 : Int32) (x11 : Int32) (x12 : Int32) (x13 : Int32) (x14 : Int32) (x15 : Int32) : Array Slot := #[.val (.long x0), .second, .val (.long x2), .second, .val (.long x4), .second, .val (.long x6), .second, .val (.int x8), .val (.int x9), .val (.int x10), .val (.int x11), .val (.int x12), .val (.int x13), .val (.int x14), .val (.int x15), .unset, .unset, .unset, .unset, .unset, .unset, .unset, .unset, .unset, .unset, .unset, .unset, .unset, .unset, .unset, .unset, .unset, .unset, .unset, .unset, .unset, .unset, .unset, .unset, .unset, .unset, .unset]
abbrev lv7 (x0 : Int64) (x2 : Int64) (x4 : Int64) (x6 : Int64) (x8 : Int32) (x9 : Int32) (x10 : Int32) (x11 : Int32) (x12 : Int32) (x13 : Int32) (x14 : Int32) (x15 : Int32) (x16 : Int32) (x17 : Int32) : Array Slot := #[.val (.long x0), .second, .val (.long x2), .second, .val (.long x4), .second, .val (.long x6), .second, .val (.int x8), .val (.int x9), .val (.int x10), .val (.int x11), .val (.int x12), .val (.int x13), .val (.int x14), .val (.int x15), .val (.int x16), .val (.int x17), .unset, .unset, .unset, .unset, .unset, .unset, .unset, .unset, .unset, .unset, .unset, .unset, .unset, .unset, .unset, .unset, .unset, .unset, .unset, .unset, .unset, .unset, .unset, .unset, .unset]
abbrev lv8 (x0 : Int64) (x2 : Int64) (x4 : Int64) (x6 : Int64) (x8 : Int32) (x9 : Int32) (x10 : Int32) (x11 : Int32) (x12 : Int32) (x13 : Int32) (x14 : Int32) (x15 : Int32) (x16 : Int32) : Array Slot := #[.val (.long x0), .second, .val (.long x2), .second, .val (.long x4), .second, .val (.long x6), .second, .val (.int x8), .val (.int x9), .val (.int x10), .val (.int x11), .val (.int x12), .val (.int x13), .val (.int x14), .val (.int x15), .val (.int x16), .unset, .unset, .unset, .unset, .unset, .unset, .unset, .unset, .unset, .unset, .unset, .unset, .unset, .unset, .unset, .unset, .unset, .unset, .unset, .unset, .unset, .unset, .unset, .unset, .unset, .unset]
abbrev lv9 (x0 : Int64) (x2 : Int64) (x4 : Int64) (x6 : Int64) (x8 : Int32) (x9 : Int32) (x10 : Int32) (x11 : Int32) (x12 : Int32) (x13 : Int32) (x14 : Int32) (x15 : Int32) (x16 : Int32) (x17 : Int32) (x18 : Int32) : Array Slot := #[.val (.long x0), .second, .val (.long x2), .second, .val (.long x4), .second, .val (.long x6), .second, .val (.int x8), .val (.int x9), .val (.int x10), .val (.int x11), .val (.int x12), .val (.int x13), .val (.int x14), .val (.int x15), .val (.int x16), .val (.int x17), .val (.int x18), .unset, .unset, .unset, .unset, .unset, .unset, .unset, .unset, .unset, .unset, .unset, .unset, .unset, .unset, .unset, .unset, .unset, .unset, .unset, .unset, .unset, .unset, .unset, .unset]
abbrev lv10 (x0 : Int64) (x2 : Int64) (x4 : Int64) (x6 : Int64) (x8 : Int32) (x9 : Int32) (x10 : Int32) (x11 : Int32) (x12 : Int32) (x13 : Int32) (x14 : Int32) (x15 : Int32) (x16 : Int32) (x17 : Int32) (x18 : Int32) (x19 : Int64) : Array Slot := #[.val (.long x0), .second, .val (.long x2), .second, .val (.long x4), .second, .val (.long x6), .second, .val (.int x8), .val (.int x9), .val (.int x10), .val (.int x11), .val (.int x12), .val (.int x13), .val (.int x14), .val (.int x15), .val (.int x16), .val (.int x17), .val (.int x18), .val (.long x19), .second, .unset, .unset, .unset, .unset, .unset, .unset, .unset, .unset, .unset, .unset, .unset, .unset, .unset, .unset, .unset, .unset, .unset, .unset, .unset, .unset, .unset, .unset]
abbrev lv11 (x0 : Int64) (x2 : Int64) (x4 : Int64) (x6 : Int64) (x8 : Int32) (x9 : Int32) (x10 : Int32) (x11 : Int32) (x12 : Int32) (x13 : Int32) (x14 : Int32) (x15 : Int32) (x16 : Int32) (x17 : Int32) (x18 : Int32) (x19 : Int64) (x21 : Int64) : Array Slot := #[.val (.long x0), .second, .val (.long x2), .second, .val (.long x4), .second, .val (.long x6), .second, .val (.int x8), .val (.int x9), .val (.int x10), .val (.int x11), .val (.int x12), .val (.int x13), .val (.int x14), .val (.int x15), .val (.int x16), .val (.int x17), .val (.int x18), .val (.long x19), .second, .val (.long x21), .second, .unset, .unset, .unset, .unset, .unset, .unset, .unset, .unset, .unset, .unset, .unset, .unset, .unset, .unset, .unset, .unset, .unset, .unset, .unset, .unset]
abbrev lv12 (x0 : Int64) (x2 : Int64) (x4 : Int64) (x6 : Int64) (x8 : Int32) (x9 : Int32) (x10 : Int32) (x11 : Int32) (x12 : Int32) (x13 : Int32) (x14 : Int32) (x15 : Int32) (x16 : Int32) (x17 : Int32) (x18 : Int32) (x19 : Int64) (x21 : Int64) (x23 : Int64) : Array Slot := #[.val (.long x0), .second, .val (.long x2), .second, .val (.long x4), .second, .val (.long x6), .second, .val (.int x8), .val (.int x9), .val (.int x10), .val (.int x11), .val (.int x12), .val (.int x13), .val (.int x14), .val (.int x15), .val (.int x16), .val (.int x17), .val (.int x18), .val (.long x19), .second, .val (.long x21), .second, .val (.long x23), .second, .unset, .unset, .unset, .unset, .unset, .unset, .unset, .unset, .unset, .unset, .unset, .unset, .unset, .unset, .unset, .unset, .unset, .unset]
abbrev lv13 (x0 : Int64) (x2 : Int64) (x4 : Int64) (x6 : Int64) (x8 : Int32) (x9 : Int32) (x10 : Int32) (x11 : Int32) (x12 : Int32) (x13 : Int32) (x14 : Int32) (x15 : Int32) (x16 : Int32) (x17 : Int32) (x18 : Int32) (x19 : Int64) (x21 : Int64) (x23 : Int64) (x25 : Int64) : Array Slot := #[.val (.long x0), .second, .val (.long x2), .second, .val (.long x4), .second, .val (.long x6), .second, .val (.int x8), .val (.int x9), .val (.int x10), .val (.int x11), .val (.int x12), .val (.int x13), .val (.int x14), .val (.int x15), .val (.int x16), .val (.int x17), .val (.int x18), .val (.long x19), .second, .val (.long x21), .second, .val (.long x23), .second, .val (.long x25), .second, .unset, .unset, .unset, .unset, .unset, .unset, .unset, .unset, .unset, .unset, .unset, .unset, .unset, .unset, .unset, .unset]
abbrev lv14 (x0 : Int64) (x2 : Int64) (x4 : Int64) (x6 : Int64) (x8 : Int32) (x9 : Int32) (x10 : Int32) (x11 : Int32) (x12 : Int32) (x13 : Int32) (x14 : Int32) (x15 : Int32) (x16 : Int32) (x17 : Int32) (x18 : Int32) (x19 : Int64) (x21 : Int64) (x23 : Int64) (x25 : Int64) (x27 : Int64) : Array Slot := #[.val (.long x0), .second, .val (.long x2), .second, .val (.long x4), .second, .val (.long x6), .second, .val (.int x8), .val (.int x9), .val (.int x10), .val (.int x11), .val (.int x12), .val (.int x13), .val (.int x14), .val (.int x15), .val (.int x16), .val (.int x17), .val (.int x18), .val (.long x19), .second, .val (.long x21), .second, .val (.long x23), .second, .val (.long x25), .second, .val (.long x27), .second, .unset, .unset, .unset, .unset, .unset, .unset, .unset, .unset, .unset, .unset, .unset, .unset, .unset, .unset]
abbrev lv15 (x0 : Int64) (x2 : Int64) (x4 : Int64) (x6 : Int64) (x8 : Int32) (x9 : Int32) (x10 : Int32) (x11 : Int32) (x12 : Int32) (x13 : Int32) (x14 : Int32) (x15 : Int32) (x16 : Int32) (x17 : Int32) (x18 : Int32) (x19 : Int64) (x21 : Int64) (x23 : Int64) (x25 : Int64) (x27 : Int64) (x29 : Int64) : Array Slot := #[.val (.long x0), .second, .val (.long x2), .second, .val (.long x4), .second, .val (.long x6), .second, .val (.int x8), .val (.int x9), .val (.int x10), .val (.int x11), .val (.int x12), .val (.int x13), .val (.int x14), .val (.int x15), .val (.int x16), .val (.int x17), .val (.int x18), .val (.long x19), .second, .val (.long x21), .second, .val (.long x23), .second, .val (.long x25), .second, .val (.long x27), .second, .val (.long x29), .second, .unset, .unset, .unset, .unset, .unset, .unset, .unset, .unset, .unset, .unset, .unset, .unset]
abbrev lv16 (x0 : Int64) (x2 : Int64) (x4 : Int64) (x6 : Int64) (x8 : Int32) (x9 : Int32) (x10 : Int32) (x11 : Int32) (x12 : Int32) (x13 : Int32) (x14 : Int32) (x15 : Int32) (x16 : Int32) (x17 : Int32) (x18 : Int32) (x19 : Int64) (x21 : Int64) (x23 : Int64) (x25 : Int64) (x27 : Int64) (x29 : Int64) (x31 : Int64) : Array Slot := #[.val (.long x0), .second, .val (.long x2), .second, .val (.long x4), .second, .val (.long x6), .second, .val (.int x8), .val (.int x9), .val (.int x10), .val (.int x11), .val (.int x12), .val (.int x13), .val (.int x14), .val (.int x15), .val (.int x16), .val (.int x17), .val (.int x18), .val (.long x19), .second, .val (.long x21), .second, .val (.long x23), .second, .val (.long x25), .second, .val (.long x27), .second, .val (.long x29), .second, .val (.long x31), .second, .unset, .unset, .unset, .unset, .unset, .unset, .unset, .unset, .unset, .unset]
abbrev lv17 (x0 : Int64) (x2 : Int64) (x4 : Int64) (x6 : Int64) (x8 : Int32) (x9 : Int32) (x10 : Int32) (x11 : Int32) (x12 : Int32) (x13 : Int32) (x14 : Int32) (x15 : Int32) (x16 : Int32) (x17 : Int32) (x18 : Int32) (x19 : Int64) (x21 : Int64) (x23 : Int64) (x25 : Int64) (x27 : Int64) (x29 : Int64) (x31 : Int64) (x33 : Addr) (x34 : Addr) (x35 : Int32) : Array Slot := #[.val (.long x0), .second, .val (.long x2), .second, .val (.long x4), .second, .val (.long x6), .second, .val (.int x8), .val (.int x9), .val (.int x10), .val (.int x11), .val (.int x12), .val (.int x13), .val (.int x14), .val (.int x15), .val (.int x16), .val (.int x17), .val (.int x18), .val (.long x19), .second, .val (.long x21), .second, .val (.long x23), .second, .val (.long x25), .second, .val (.long x27), .second, .val (.long x29), .second, .val (.long x31), .second, .val (.ref x33), .val (.ref x34), .val (.int x35), .unset, .unset, .unset, .unset, .unset, .unset, .unset]
abbrev lv18 (x0 : Int64) (x2 : Int64) (x4 : Int64) (x6 : Int64) (x8 : Int32) (x9 : Int32) (x10 : Int32) (x11 : Int32) (x12 : Int32) (x13 : Int32) (x14 : Int32) (x15 : Int32) (x16 : Int32) (x17 : Int32) (x18 : Int32) (x19 : Int64) (x21 : Int64) (x23 : Int64) (x25 : Int64) (x27 : Int64) (x29 : Int64) (x31 : Int64) (x33 : Addr) : Array Slot := #[.val (.long x0), .second, .val (.long x2), .second, .val (.long x4), .second, .val (.long x6), .second, .val (.int x8), .val (.int x9), .val (.int x10), .val (.int x11), .val (.int x12), .val (.int x13), .val (.int x14), .val (.int x15), .val (.int x16), .val (.int x17), .val (.int x18), .val (.long x19), .second, .val (.long x21), .second, .val (.long x23), .second, .val (.long x25), .second, .val (.long x27), .second, .val (.long x29), .second, .val (.long x31), .second, .val (.ref x33), .unset, .unset, .unset, .unset, .unset, .unset, .unset, .unset, .unset]
abbrev lv19 (x0 : Int64) (x2 : Int64) (x4 : Int64) (x6 : Int64) (x8 : Int32) (x9 : Int32) (x10 : Int32) (x11 : Int32) (x12 : Int32) (x13 : Int32) (x14 : Int32) (x15 : Int32) (x16 : Int32) (x17 : Int32) (x18 : Int32) (x19 : Int64) (x21 : Int64) (x23 : Int64) (x25 : Int64) (x27 : Int64) (x29 : Int64) (x31 : Int64) (x33 : Addr) (x34 : Addr) : Array Slot := #[.val (.long x0), .second, .val (.long x2), .second, .val (.long x4), .second, .val (.long x6), .second, .val (.int x8), .val (.int x9), .val (.int x10), .val (.int x11), .val (.int x12), .val (.int x13), .val (.int x14), .val (.int x15), .val (.int x16), .val (.int x17), .val (.int x18), .val (.long x19), .second, .val (.long x21), .second, .val (.long x23), .second, .val (.long x25), .second, .val (.long x27), .second, .val (.long x29), .second, .val (.long x31), .second, .val (.ref x33), .val (.ref x34), .unset, .unset, .unset, .unset, .unset, .unset, .unset, .unset]
abbrev lv20 (x0 : Int64) (x2 : Int64) (x4 : Int64) (x6 : Int64) (x8 : Int32) (x9 : Int32) (x10 : Int32) (x11 : Int32) (x12 : Int32) (x13 : Int32) (x14 : Int32) (x15 : Int32) (x16 : Int32) (x17 : Int32) (x18 : Int32) (x19 : Int64) (x21 : Int64) (x23 : Int64) (x25 : Int64) (x27 : Int64) (x29 : Int64) (x31 : Int64) (x33 : Addr) (x34 : Addr) (x35 : Int32) (x36 : Int32) : Array Slot := #[.val (.long x0), .second, .val (.long x2), .second, .val (.long x4), .second, .val (.long x6), .second, .val (.int x8), .val (.int x9), .val (.int x10), .val (.int x11), .val (.int x12), .val (.int x13), .val (.int x14), .val (.int x15), .val (.int x16), .val (.int x17), .val (.int x18), .val (.long x19), .second, .val (.long x21), .second, .val (.long x23), .second, .val (.long x25), .second, .val (.long x27), .second, .val (.long x29), .second, .val (.long x31), .second, .val (.ref x33), .val (.ref x34), .val (.int x35), .val (.int x36), .unset, .unset, .unset, .unset, .unset, .unset]
abbrev lv21 (x0 : Int64) (x2 : Int64) (x4 : Int64) (x6 : Int64) (x8 : Int32) (x9 : Int32) (x10 : Int32) (x11 : Int32) (x12 : Int32) (x13 : Int32) (x14 : Int32) (x15 : Int32) (x16 : Int32) (x17 : Int32) (x18 : Int32) (x19 : Int64) (x21 : Int64) (x23 : Int64) (x25 : Int64) (x27 : Int64) (x29 : Int64) (x31 : Int64) (x33 : Addr) (x34 : Addr) (x35 : Int32) (x36 : Int32) (x37 : Int32) : Array Slot := #[.val (.long x0), .second, .val (.long x2), .second, .val (.long x4), .second, .val (.long x6), .second, .val (.int x8), .val (.int x9), .val (.int x10), .val (.int x11), .val (.int x12), .val (.int x13), .val (.int x14), .val (.int x15), .val (.int x16), .val (.int x17), .val (.int x18), .val (.long x19), .second, .val (.long x21), .second, .val (.long x23), .second, .val (.long x25), .second, .val (.long x27), .second, .val (.long x29), .second, .val (.long x31), .second, .val (.ref x33), .val (.ref x34), .val (.int x35), .val (.int x36), .val (.int x37), .unset, .unset, .unset, .unset, .unset]
abbrev lv22 (x0 : Int64) (x2 : Int64) (x4 : Int64) (x6 : Int64) (x8 : Int32) (x9 : Int32) (x10 : Int32) (x11 : Int32) (x12 : Int32) (x13 : Int32) (x14 : Int32) (x15 : Int32) (x16 : Int32) (x17 : Int32) (x18 : Int32) (x19 : Int64) (x21 : Int64) (x23 : Int64) (x25 : Int64) (x27 : Int64) (x29 : Int64) (x31 : Int64) (x33 : Addr) (x34 : Addr) (x35 : Int32) (x36 : Int32) (x37 : Int32) (x38 : Int32) : Array Slot := #[.val (.long x0), .second, .val (.long x2), .second, .val (.long x4), .second, .val (.long x6), .second, .val (.int x8), .val (.int x9), .val (.int x10), .val (.int x11), .val (.int x12), .val (.int x13), .val (.int x14), .val (.int x15), .val (.int x16), .val (.int x17), .val (.int x18), .val (.long x19), .second, .val (.long x21), .second, .val (.long x23), .second, .val (.long x25), .second, .val (.long x27), .second, .val (.long x29), .second, .val (.long x31), .second, .val (.ref x33), .val (.ref x34), .val (.int x35), .val (.int x36), .val (.int x37), .val (.int x38), .unset, .unset, .unset, .unset]
abbrev lv23 (x0 : Int64) (x2 : Int64) (x4 : Int64) (x6 : Int64) (x8 : Int32) (x9 : Int32) (x10 : Int32) (x11 : Int32) (x12 : Int32) (x13 : Int32) (x14 : Int32) (x15 : Int32) (x16 : Int32) (x17 : Int32) (x18 : Int32) (x19 : Int64) (x21 : Int64) (x23 : Int64) (x25 : Int64) (x27 : Int64) (x29 : Int64) (x31 : Int64) (x33 : Addr) (x34 : Addr) (x35 : Int32) (x36 : Int32) (x37 : Int32) (x38 : Int32) (x39 : Int32) : Array Slot := #[.val (.long x0), .second, .val (.long x2), .second, .val (.long x4), .second, .val (.long x6), .second, .val (.int x8), .val (.int x9), .val (.int x10), .val (.int x11), .val (.int x12), .val (.int x13), .val (.int x14), .val (.int x15), .val (.int x16), .val (.int x17), .val (.int x18), .val (.long x19), .second, .val (.long x21), .second, .val (.long x23), .second, .val (.long x25), .second, .val (.long x27), .second, .val (.long x29), .second, .val (.long x31), .second, .val (.ref x33), .val (.ref x34), .val (.int x35), .val (.int x36), .val (.int x37), .val (.int x38), .val (.int x39), .unset, .unset, .unset]
abbrev lv24 (x0 : Int64) (x2 : Int64) (x4 : Int64) (x6 : Int64) (x8 : Int32) (x9 : Int32) (x10 : Int32) (x11 : Int32) (x12 : Int32) (x13 : Int32) (x14 : Int32) (x15 : Int32) (x16 : Int32) (x17 : Int32) (x18 : Int32) (x19 : Int64) (x21 : Int64) (x23 : Int64) (x25 : Int64) (x27 : Int64) (x29 : Int64) (x31 : Int64) (x33 : Addr) (x34 : Addr) (x35 : Int32) (x36 : Int32) (x37 : Int32) (x38 : Int32) (x39 : Int32) (x40 : Int32) : Array Slot := #[.val (.long x0), .second, .val (.long x2), .second, .val (.long x4), .second, .val (.long x6), .second, .val (.int x8), .val (.int x9), .val (.int x10), .val (.int x11), .val (.int x12), .val (.int x13), .val (.int x14), .val (.int x15), .val (.int x16), .val (.int x17), .val (.int x18), .val (.long x19), .second, .val (.long x21), .second, .val (.long x23), .second, .val (.long x25), .second, .val (.long x27), .second, .val (.long x29), .second, .val (.long x31), .second, .val (.ref x33), .val (.ref x34), .val (.int x35), .val (.int x36), .val (.int x37), .val (.int x38), .val (.int x39), .val (.int x40), .unset, .unset]
abbrev lv25 (x0 : Int64) (x2 : Int64) (x4 : Int64) (x6 : Int64) (x8 : Int32) (x9 : Int32) (x10 : Int32) (x11 : Int32) (x12 : Int32) (x13 : Int32) (x14 : Int32) (x15 : Int32) (x16 : Int32) (x17 : Int32) (x18 : Int32) (x19 : Int64) (x21 : Int64) (x23 : Int64) (x25 : Int64) (x27 : Int64) (x29 : Int64) (x31 : Int64) (x33 : Addr) (x34 : Addr) (x35 : Int32) (x36 : Int32) (x37 : Int32) (x38 : Int32) (x39 : Int32) (x40 : Int32) (x41 : Int32) : Array Slot := #[.val (.long x0), .second, .val (.long x2), .second, .val (.long x4), .second, .val (.long x6), .second, .val (.int x8), .val (.int x9), .val (.int x10), .val (.int x11), .val (.int x12), .val (.int x13), .val (.int x14), .val (.int x15), .val (.int x16), .val (.int x17), .val (.int x18), .val (.long x19), .second, .val (.long x21), .second, .val (.long x23), .second, .val (.long x25), .second, .val (.long x27), .second, .val (.long x29), .second, .val (.long x31), .second, .val (.ref x33), .val (.ref x34), .val (.int x35), .val (.int x36), .val (.int x37), .val (.int x38), .val (.int x39), .val (.int x40), .val (.int x41), .unset]
abbrev lv26 (x0 : Int64) (x2 : Int64) (x4 : Int64) (x6 : Int64) (x8 : Int32) (x9 : Int32) (x10 : Int32) (x11 : Int32) (x12 : Int32) (x13 : Int32) (x14 : Int32) (x15 : Int32) (x16 : Int32) (x17 : Int32) (x18 : Int32) (x19 : Int64) (x21 : Int64) (x23 : Int64) (x25 : Int64) (x27 : Int64) (x29 : Int64) (x31 : Int64) (x33 : Addr) (x34 : Addr) (x35 : Int32) (x36 : Int32) (x37 : Int32) (x38 : Int32) (x39 : Int32) (x40 : Int32) (x41 : Int32) (x42 : Int32) : Array Slot := #[.val (.long x0), .second, .val (.long x2), .second, .val (.long x4), .second, .val (.long x6), .second, .val (.int x8), .val (.int x9), .val (.int x10), .val (.int x11), .val (.int x12), .val (.int x13), .val (.int x14), .val (.int x15), .val (.int x16), .val (.int x17), .val (.int x18), .val (.long x19), .second, .val (.long x21), .second, .val (.long x23), .second, .val (.long x25), .second, .val (.long x27), .second, .val (.long x29), .second, .val (.long x31), .second, .val (.ref x33), .val (.ref x34), .val (.int x35), .val (.int x36), .val (.int x37), .val (.int x38), .val (.int x39), .val (.int x40), .val (.int x41), .val (.int x42)]
abbrev lv27 (x0 : Int64) (x2 : Int64) (x4 : Int64) (x6 : Int64) (x8 : Int32) (x9 : Int32) (x10 : Int32) (x11 : Int32) (x12 : Int32) (x13 : Int32) (x14 : Int32) (x15 : Int32) (x16 : Int32) (x17 : Int32) (x18 : Int32) (x19 : Int64) (x21 : Int64) (x23 : Int64) (x25 : Int64) (x27 : Int64) (x29 : Int64) (x31 : Int64) (x33 : Addr) (x34 : Addr) (x35 : Int32) (x36 : Int32) (x37 : Int32) (x38 : Int32) (x39 : Int32) (x40 : Int32) (x42 : Int32) : Array Slot := #[.val (.long x0), .second, .val (.long x2), .second, .val (.long x4), .second, .val (.long x6), .second, .val (.int x8), .val (.int x9), .val (.int x10), .val (.int x11), .val (.int x12), .val (.int x13), .val (.int x14), .val (.int x15), .val (.int x16), .val (.int x17), .val (.int x18), .val (.long x19), .second, .val (.long x21), .second, .val (.long x23), .second, .val (.long x25), .second, .val (.long x27), .second, .val (.long x29), .second, .val (.long x31), .second, .val (.ref x33), .val (.ref x34), .val (.int x35), .val (.int x36), .val (.int x37), .val (.int x38), .val (.int x39), .val (.int x40), .unset, .val (.int x42)]
abbrev lv28 (x0 : Int64) (x2 : Int64) (x4 : Int64) (x6 : Int64) (x8 : Int32) (x9 : Int32) (x10 : Int32) (x11 : Int32) (x12 : Int32) (x13 : Int32) (x14 : Int32) (x15 : Int32) (x16 : Int32) (x17 : Int32) (x18 : Int32) (x19 : Int64) (x21 : Int64) (x23 : Int64) (x25 : Int64) (x27 : Int64) (x29 : Int64) (x31 : Int64) (x33 : Addr) (x34 : Addr) (x35 : Int32) (x36 : Int32) (x37 : Int32) (x38 : Int32) (x39 : Int32) (x40 : Int32) (x41 : Int32) (x42 : Slot) : Array Slot := #[.val (.long x0), .second, .val (.long x2), .second, .val (.long x4), .second, .val (.long x6), .second, .val (.int x8), .val (.int x9), .val (.int x10), .val (.int x11), .val (.int x12), .val (.int x13), .val (.int x14), .val (.int x15), .val (.int x16), .val (.int x17), .val (.int x18), .val (.long x19), .second, .val (.long x21), .second, .val (.long x23), .second, .val (.long x25), .second, .val (.long x27), .second, .val (.long x29), .second, .val (.long x31), .second, .val (.ref x33), .val (.ref x34), .val (.int x35), .val (.int x36), .val (.int x37), .val (.int x38), .val (.int x39), .val (.int x40), .val (.int x41), x42]

theorem own_d64 (d : Nat) (hd : d ≤ 3) : ((Int32.ofNat d).toInt64).toInt = (d : Int) := by
  rw [Jvm.Kit.i64_of_i32, own_nat (by omega)]
theorem own_mx64 : ((9223372036854775807 : Int64)).toInt = 9223372036854775807 := by decide
theorem own_mi64 : ((-9223372036854775808 : Int64)).toInt = -9223372036854775808 := by decide
theorem own_topi (d : Nat) (hd : d ≤ 3) : ((9223372036854775807 : Int64) - ((Int32.ofNat d).toInt64)).toInt = 9223372036854775807 - (d : Int) := by
  have h := own_d64 d hd
  rw [Jvm.Kit.i64_sub (by rw [own_mx64, h]; omega) (by rw [own_mx64, h]; omega), own_mx64, h]
theorem own_top (d : Nat) (hd : d ≤ 3) : ((9223372036854775807 : Int64) - ((Int32.ofNat d).toInt64)).toInt + (d : Int) ≤ 9223372036854775807 := by
  rw [own_topi d hd]; omega
theorem own_low (x : Int64) (d : Nat) (hd : d ≤ 3) (h : ¬ (0 : Int32) < lcmpW x ((9223372036854775807 : Int64) - ((Int32.ofNat d).toInt64))) : x.toInt + (d : Int) ≤ 9223372036854775807 := by
  rw [lw_gt, Int64.lt_iff_toInt_lt, own_topi d hd] at h; omega
theorem own_hi (x : Int64) (d : Nat) (hd : d ≤ 3) (w : x.toInt + (d : Int) ≤ 9223372036854775807) : (x + (Int32.ofNat d).toInt64).toInt = x.toInt + (d : Int) := by
  have h := own_d64 d hd
  have b := Int64.le_toInt x
  rw [Jvm.Kit.i64_add (by rw [h]; omega) (by rw [h]; omega), h]
theorem own_bmin (x : Int64) (d : Nat) (hd : d ≤ 3) (w : x.toInt + (d : Int) ≤ 9223372036854775807) : own_mn (own_mn (9223372036854775807 : Int64) (x + (Int32.ofNat d).toInt64)) x = x := by
  have h := own_hi x d hd w
  have b := Int64.toInt_lt (x + (Int32.ofNat d).toInt64)
  by_cases c : (0 : Int32) < lcmpW (9223372036854775807 : Int64) (x + (Int32.ofNat d).toInt64)
  · rw [show own_mn (9223372036854775807 : Int64) (x + (Int32.ofNat d).toInt64) = x + (Int32.ofNat d).toInt64 from if_pos c]
    by_cases c2 : (0 : Int32) < lcmpW (x + (Int32.ofNat d).toInt64) x
    · exact if_pos c2
    · rw [show own_mn (x + (Int32.ofNat d).toInt64) x = x + (Int32.ofNat d).toInt64 from if_neg c2]
      rw [lw_gt, Int64.lt_iff_toInt_lt, h] at c2
      exact Int64.toInt_inj.mp (by rw [h]; omega)
  · rw [show own_mn (9223372036854775807 : Int64) (x + (Int32.ofNat d).toInt64) = (9223372036854775807 : Int64) from if_neg c]
    rw [lw_gt, Int64.lt_iff_toInt_lt, h, own_mx64] at c
    by_cases c2 : (0 : Int32) < lcmpW (9223372036854775807 : Int64) x
    · exact if_pos c2
    · rw [show own_mn (9223372036854775807 : Int64) x = (9223372036854775807 : Int64) from if_neg c2]
      rw [lw_gt, Int64.lt_iff_toInt_lt, own_mx64] at c2
      exact Int64.toInt_inj.mp (by rw [own_mx64]; omega)
theorem own_bmax (x : Int64) (d : Nat) (hd : d ≤ 3) (w : x.toInt + (d : Int) ≤ 9223372036854775807) : own_mx (own_mx (-9223372036854775808 : Int64) (x + (Int32.ofNat d).toInt64)) x = x + (Int32.ofNat d).toInt64 := by
  have h := own_hi x d hd w
  have b := Int64.le_toInt x
  by_cases c : lcmpW (-9223372036854775808 : Int64) (x + (Int32.ofNat d).toInt64) < (0 : Int32)
  · rw [show own_mx (-9223372036854775808 : Int64) (x + (Int32.ofNat d).toInt64) = x + (Int32.ofNat d).toInt64 from if_pos c]
    by_cases c2 : lcmpW (x + (Int32.ofNat d).toInt64) x < (0 : Int32)
    · rw [lw_lt, Int64.lt_iff_toInt_lt, h] at c2; omega
    · exact if_neg c2
  · rw [show own_mx (-9223372036854775808 : Int64) (x + (Int32.ofNat d).toInt64) = (-9223372036854775808 : Int64) from if_neg c]
    rw [lw_lt, Int64.lt_iff_toInt_lt, h, own_mi64] at c
    by_cases c2 : lcmpW (-9223372036854775808 : Int64) x < (0 : Int32)
    · rw [lw_lt, Int64.lt_iff_toInt_lt, own_mi64] at c2; omega
    · rw [show own_mx (-9223372036854775808 : Int64) x = (-9223372036854775808 : Int64) from if_neg c2]
      exact Int64.toInt_inj.mp (by rw [h, own_mi64]; omega)

theorem own_m3 (x : Int32) : ∃ n : Nat, n ≤ 3 ∧ (x &&& (3 : Int32)) = Int32.ofNat n := by
  have m : (x &&& (3 : Int32)).toInt = x.toInt % 2 ^ 2 := Jvm.Kit.i32_mask x 3 (k := 2) (by decide) (by decide)
  refine ⟨(x &&& (3 : Int32)).toInt.toNat, by omega, ?_⟩
  apply Int32.toInt_inj.mp
  rw [own_nat (by omega)]
  omega
theorem own_kk (x : Int32) (len : Nat) (h0 : 0 < len) (hl : len ≤ 16) : ∃ k : Nat, k < len ∧ ((x &&& (255 : Int32)) % (Int32.ofNat len)) = Int32.ofNat k := by
  have m : (x &&& (255 : Int32)).toInt = x.toInt % 2 ^ 8 := Jvm.Kit.i32_mask x 255 (k := 8) (by decide) (by decide)
  have r : ((x &&& (255 : Int32)) % (Int32.ofNat len)).toInt = (x &&& (255 : Int32)).toInt % (Int32.ofNat len).toInt := Jvm.Kit.i32_rem_nonneg (by omega)
  rw [own_nat (by omega)] at r
  have b1 := Int.emod_nonneg (x &&& (255 : Int32)).toInt (show (len : Int) ≠ 0 by omega)
  have b2 := Int.emod_lt_of_pos (x &&& (255 : Int32)).toInt (show (0 : Int) < (len : Int) by omega)
  refine ⟨((x &&& (255 : Int32)) % (Int32.ofNat len)).toInt.toNat, by omega, ?_⟩
  apply Int32.toInt_inj.mp
  rw [own_nat (by omega)]
  omega
theorem own_n1 (y : Int32) : ¬ ((y &&& (65535 : Int32)) + (1 : Int32)) = (0 : Int32) := by
  have m : (y &&& (65535 : Int32)).toInt = y.toInt % 2 ^ 16 := Jvm.Kit.i32_mask y 65535 (k := 16) (by decide) (by decide)
  have e1 : ((1 : Int32)).toInt = 1 := by decide
  have a : ((y &&& (65535 : Int32)) + (1 : Int32)).toInt = y.toInt % 2 ^ 16 + 1 := by
    rw [Jvm.Kit.i32_add (by rw [m, e1]; omega) (by rw [m, e1]; omega), m, e1]
  intro q
  rw [q, Int32.toInt_zero] at a
  omega
theorem own_lenz (len : Nat) (h0 : 0 < len) (hl : len ≤ 16) : ¬ (Int32.ofNat len = (0 : Int32)) := fun q => by
  have := own_nat (i := len) (by omega)
  rw [q, Int32.toInt_zero] at this
  omega
theorem own_lenp (len : Nat) (hl : len ≤ 16) : (0 : Int32) < Int32.ofNat len ↔ 0 < len := own_ltn (i := 0) (by omega) (by omega)

theorem own_nle (x : Int64) (d : Nat) (hd : d ≤ 3) (w : x.toInt + (d : Int) ≤ 9223372036854775807) : ¬ ((0 : Int32) < (lcmpW x (x + (Int32.ofNat d).toInt64))) := by
  rw [lw_gt, Int64.lt_iff_toInt_lt, own_hi x d hd w]; omega
theorem own_l1 (d e : Nat) (hd : d ≤ 3) (he : e ≤ 3) : ((Int32.ofNat d + (1 : Int32)) * (Int32.ofNat e + (1 : Int32))) = Int32.ofNat ((d + 1) * (e + 1)) := by
  have hc : d = 0 ∨ d = 1 ∨ d = 2 ∨ d = 3 := by omega
  have hc' : e = 0 ∨ e = 1 ∨ e = 2 ∨ e = 3 := by omega
  rcases hc with rfl | rfl | rfl | rfl <;> rcases hc' with rfl | rfl | rfl | rfl <;> decide +kernel
theorem own_zero (f s fb sb ss : Int64) : own_slotD fb 0 sb ss f s = (-1 : Int32) := by
  unfold own_slotD
  by_cases c : lcmpW (f - fb) (0 : Int64) < (0 : Int32)
  · rw [if_pos c]
  · rw [if_neg c, if_neg c]
theorem own_f1 (d : Nat) (hd : d ≤ 3) : ((Int32.ofNat (d + 1)).toInt64).toInt = (d : Int) + 1 := by
  rw [Jvm.Kit.i64_of_i32, own_nat (by omega)]; omega
theorem own_inside (x f : Int64) (d : Nat) (hd : d ≤ 3) (w : x.toInt + (d : Int) ≤ 9223372036854775807) (h1 : ¬ ((0 : Int32) < (lcmpW x f))) (h2 : ¬ ((0 : Int32) < (lcmpW f (x + (Int32.ofNat d).toInt64)))) :
    ∃ i : Nat, i ≤ d ∧ f - x = (Int32.ofNat i).toInt64 ∧ ¬ (lcmpW (f - x) (0 : Int64)) < (0 : Int32) ∧ (lcmpW (f - x) (Int32.ofNat (d + 1)).toInt64) < (0 : Int32) := by
  rw [lw_gt, Int64.lt_iff_toInt_lt] at h1
  rw [lw_gt, Int64.lt_iff_toInt_lt, own_hi x d hd w] at h2
  have a : (f - x).toInt = f.toInt - x.toInt := Jvm.Kit.i64_sub (by omega) (by omega)
  refine ⟨(f.toInt - x.toInt).toNat, by omega, ?_, ?_, ?_⟩
  · apply Int64.toInt_inj.mp
    rw [a, Jvm.Kit.i64_of_i32, own_nat (by omega)]; omega
  · rw [lw_lt, Int64.lt_iff_toInt_lt, a, Int64.toInt_zero]; omega
  · rw [lw_lt, Int64.lt_iff_toInt_lt, a, own_f1 d hd]; omega
theorem own_outside (x f : Int64) (d : Nat) (hd : d ≤ 3) (w : x.toInt + (d : Int) ≤ 9223372036854775807) (h : ¬ (¬ ((0 : Int32) < (lcmpW x f)) ∧ ¬ ((0 : Int32) < (lcmpW f (x + (Int32.ofNat d).toInt64))))) :
    (lcmpW (f - x) (0 : Int64)) < (0 : Int32) ∨ ¬ ((lcmpW (f - x) (Int32.ofNat (d + 1)).toInt64) < (0 : Int32)) := by
  rw [lw_gt, lw_gt, Int64.lt_iff_toInt_lt, Int64.lt_iff_toInt_lt, own_hi x d hd w] at h
  rw [lw_lt, lw_lt, Int64.lt_iff_toInt_lt, Int64.lt_iff_toInt_lt, own_f1 d hd, Int64.toInt_zero, Int64.toInt_sub]
  have b1 := Int64.le_toInt x
  have b2 := Int64.toInt_lt x
  have b3 := Int64.le_toInt f
  have b4 := Int64.toInt_lt f
  have q := Int.bmod_def (f.toInt - x.toInt) (2 ^ 64)
  rw [q]
  omega
theorem own_i32 (i : Nat) (h : i ≤ 3) : ((Int32.ofNat i).toInt64).toInt32 = Int32.ofNat i := Int32.toInt32_toInt64 _
theorem own_Dno (f s x y : Int64) (d e : Nat) (hd : d ≤ 3) (he : e ≤ 3) (w1 : x.toInt + (d : Int) ≤ 9223372036854775807) (w2 : y.toInt + (e : Int) ≤ 9223372036854775807)
    (h : ¬ ((¬ ((0 : Int32) < (lcmpW x f)) ∧ ¬ ((0 : Int32) < (lcmpW f (x + (Int32.ofNat d).toInt64)))) ∧ (¬ ((0 : Int32) < (lcmpW y s)) ∧ ¬ ((0 : Int32) < (lcmpW s (y + (Int32.ofNat e).toInt64)))))) :
    own_slotD x (Int32.ofNat (d + 1)).toInt64 y (Int32.ofNat (e + 1)).toInt64 f s = (-1 : Int32) := by
  unfold own_slotD
  by_cases c1 : lcmpW (f - x) (0 : Int64) < (0 : Int32)
  · rw [if_pos c1]
  rw [if_neg c1]
  by_cases c2 : lcmpW (f - x) (Int32.ofNat (d + 1)).toInt64 < (0 : Int32)
  · rw [if_pos c2]
    by_cases c3 : lcmpW (s - y) (0 : Int64) < (0 : Int32)
    · rw [if_pos c3]
    rw [if_neg c3]
    by_cases c4 : lcmpW (s - y) (Int32.ofNat (e + 1)).toInt64 < (0 : Int32)
    · exfalso
      refine h ⟨?_, ?_⟩
      · exact Classical.byContradiction fun q => (own_outside x f d hd w1 q).elim c1 (fun r => r c2)
      · exact Classical.byContradiction fun q => (own_outside y s e he w2 q).elim c3 (fun r => r c4)
    · rw [if_neg c4]
  · rw [if_neg c2]
theorem own_Dyes (f s x y : Int64) (d e : Nat) (hd : d ≤ 3) (he : e ≤ 3) (w1 : x.toInt + (d : Int) ≤ 9223372036854775807) (w2 : y.toInt + (e : Int) ≤ 9223372036854775807)
    (hF : ¬ ((0 : Int32) < (lcmpW x f)) ∧ ¬ ((0 : Int32) < (lcmpW f (x + (Int32.ofNat d).toInt64)))) (hS : ¬ ((0 : Int32) < (lcmpW y s)) ∧ ¬ ((0 : Int32) < (lcmpW s (y + (Int32.ofNat e).toInt64)))) :
    own_slotD x (Int32.ofNat (d + 1)).toInt64 y (Int32.ofNat (e + 1)).toInt64 f s = (((f - x).toInt32 * (Int32.ofNat e + (1 : Int32))) + ((s - y).toInt32)) := by
  obtain ⟨i, hi, ei, a1, a2⟩ := own_inside x f d hd w1 hF.1 hF.2
  obtain ⟨j, hj, ej, b1, b2⟩ := own_inside y s e he w2 hS.1 hS.2
  unfold own_slotD
  rw [if_neg a1, if_pos a2, if_neg b1, if_pos b2, Int64.toInt32_add, Int64.toInt32_mul, show ((Int32.ofNat (e + 1)).toInt64).toInt32 = Int32.ofNat (e + 1) from Int32.toInt32_toInt64 _, own_up1]
theorem own_inj {i k : Nat} (h : Int32.ofNat i = Int32.ofNat k) (hi : i < 2147483648) (hk : k < 2147483648) : i = k := by
  have a := own_nat hi
  rw [h, own_nat hk] at a
  omega
set_option maxRecDepth 65536 in
set_option maxHeartbeats 40000000 in
theorem qA {p : Program} {l : Launch} {e : Env} {R : Room} {s : State} {m : MethodId} {args : Array Value} {below : List Frame} {meth : Method} {c : Code} {T0 : State} {locs : List Loc} {cells slots : Nat} {Z : State} {a0 : Array Value} {h0 : Heap} (j0 : Int64) (j2 : Int64) (j4 : Int64) (j6 : Int64) (i8 : Int32) (i9 : Int32)
    (X0 : Stand p l e R s m args below meth c T0 locs cells slots) (hx : p.tables.exec = Jvm.exec) (hZ : Z.Warmed39 s.vm) (hw : ∀ d ∈ tables_1, d.before a0 Z = true) (hby : c.code = code) (hml : c.maxLocals = 43) (hown : s.vm.findClass "com/example/fairjoin/fairjoin/operator/DirectKeysSlotPinLaw" = some m.cls) (e0 : T0.heap = h0) :
    ∃ (T' : State), Stand p l e R s m args below meth c T' locs cells slots ∧ T'.heap = h0 ∧
      ∀ target, Steps p.tables e below (T'.setTop (mkF m 22 (lv0 j0 j2 j4 j6 i8 i9 (i8 &&& (3 : Int32)) (((i8.toUInt32 >>> ((2 : Int32) &&& 31).toUInt32).toInt32) &&& (3 : Int32)) (((i8.toUInt32 >>> ((4 : Int32) &&& 31).toUInt32).toInt32) &&& (3 : Int32))) [])) target → Steps p.tables e below (T0.setTop (mkF m 0 (lv1 j0 j2 j4 j6 i8 i9) [])) target := by
  refine ⟨T0, X0, e0, fun target kt => ?_⟩
  show Steps p.tables e below (T0.setTop (mkF m 0 (lv1 j0 j2 j4 j6 i8 i9) [])) _
  refine XS.iload X0.here hx rfl (hb hby at_0) rfl ?_
  show Steps p.tables e below (T0.setTop (mkF m 2 (lv1 j0 j2 j4 j6 i8 i9) [(.int i8)])) _
  refine XS.iconst X0.here hx rfl (hb hby at_2) ?_
  show Steps p.tables e below (T0.setTop (mkF m 3 (lv1 j0 j2 j4 j6 i8 i9) [(.int (3 : Int32)), (.int i8)])) _
  refine XS.iand X0.here hx rfl (hb hby at_3) rfl ?_
  show Steps p.tables e below (T0.setTop (mkF m 4 (lv1 j0 j2 j4 j6 i8 i9) [(.int (i8 &&& (3 : Int32)))])) _
  refine XS.istore X0.here hx rfl (hb hby at_4) rfl (l' := (lv2 j0 j2 j4 j6 i8 i9 (i8 &&& (3 : Int32)))) rfl ?_
  show Steps p.tables e below (T0.setTop (mkF m 6 (lv2 j0 j2 j4 j6 i8 i9 (i8 &&& (3 : Int32))) [])) _
  refine XS.iload X0.here hx rfl (hb hby at_6) rfl ?_
  show Steps p.tables e below (T0.setTop (mkF m 8 (lv2 j0 j2 j4 j6 i8 i9 (i8 &&& (3 : Int32))) [(.int i8)])) _
  refine XS.iconst X0.here hx rfl (hb hby at_8) ?_
  show Steps p.tables e below (T0.setTop (mkF m 9 (lv2 j0 j2 j4 j6 i8 i9 (i8 &&& (3 : Int32))) [(.int (2 : Int32)), (.int i8)])) _
  refine XS.iushr X0.here hx rfl (hb hby at_9) rfl ?_
  show Steps p.tables e below (T0.setTop (mkF m 10 (lv2 j0 j2 j4 j6 i8 i9 (i8 &&& (3 : Int32))) [(.int ((i8.toUInt32 >>> ((2 : Int32) &&& 31).toUInt32).toInt32))])) _
  refine XS.iconst X0.here hx rfl (hb hby at_10) ?_
  show Steps p.tables e below (T0.setTop (mkF m 11 (lv2 j0 j2 j4 j6 i8 i9 (i8 &&& (3 : Int32))) [(.int (3 : Int32)), (.int ((i8.toUInt32 >>> ((2 : Int32) &&& 31).toUInt32).toInt32))])) _
  refine XS.iand X0.here hx rfl (hb hby at_11) rfl ?_
  show Steps p.tables e below (T0.setTop (mkF m 12 (lv2 j0 j2 j4 j6 i8 i9 (i8 &&& (3 : Int32))) [(.int (((i8.toUInt32 >>> ((2 : Int32) &&& 31).toUInt32).toInt32) &&& (3 : Int32)))])) _
  refine XS.istore X0.here hx rfl (hb hby at_12) rfl (l' := (lv3 j0 j2 j4 j6 i8 i9 (i8 &&& (3 : Int32)) (((i8.toUInt32 >>> ((2 : Int32) &&& 31).toUInt32).toInt32) &&& (3 : Int32)))) rfl ?_
  show Steps p.tables e below (T0.setTop (mkF m 14 (lv3 j0 j2 j4 j6 i8 i9 (i8 &&& (3 : Int32)) (((i8.toUInt32 >>> ((2 : Int32) &&& 31).toUInt32).toInt32) &&& (3 : Int32))) [])) _
  refine XS.iload X0.here hx rfl (hb hby at_14) rfl ?_
  show Steps p.tables e below (T0.setTop (mkF m 16 (lv3 j0 j2 j4 j6 i8 i9 (i8 &&& (3 : Int32)) (((i8.toUInt32 >>> ((2 : Int32) &&& 31).toUInt32).toInt32) &&& (3 : Int32))) [(.int i8)])) _
  refine XS.iconst X0.here hx rfl (hb hby at_16) ?_
  show Steps p.tables e below (T0.setTop (mkF m 17 (lv3 j0 j2 j4 j6 i8 i9 (i8 &&& (3 : Int32)) (((i8.toUInt32 >>> ((2 : Int32) &&& 31).toUInt32).toInt32) &&& (3 : Int32))) [(.int (4 : Int32)), (.int i8)])) _
  refine XS.iushr X0.here hx rfl (hb hby at_17) rfl ?_
  show Steps p.tables e below (T0.setTop (mkF m 18 (lv3 j0 j2 j4 j6 i8 i9 (i8 &&& (3 : Int32)) (((i8.toUInt32 >>> ((2 : Int32) &&& 31).toUInt32).toInt32) &&& (3 : Int32))) [(.int ((i8.toUInt32 >>> ((4 : Int32) &&& 31).toUInt32).toInt32))])) _
  refine XS.iconst X0.here hx rfl (hb hby at_18) ?_
  show Steps p.tables e below (T0.setTop (mkF m 19 (lv3 j0 j2 j4 j6 i8 i9 (i8 &&& (3 : Int32)) (((i8.toUInt32 >>> ((2 : Int32) &&& 31).toUInt32).toInt32) &&& (3 : Int32))) [(.int (3 : Int32)), (.int ((i8.toUInt32 >>> ((4 : Int32) &&& 31).toUInt32).toInt32))])) _
  refine XS.iand X0.here hx rfl (hb hby at_19) rfl ?_
  show Steps p.tables e below (T0.setTop (mkF m 20 (lv3 j0 j2 j4 j6 i8 i9 (i8 &&& (3 : Int32)) (((i8.toUInt32 >>> ((2 : Int32) &&& 31).toUInt32).toInt32) &&& (3 : Int32))) [(.int (((i8.toUInt32 >>> ((4 : Int32) &&& 31).toUInt32).toInt32) &&& (3 : Int32)))])) _
  refine XS.istore X0.here hx rfl (hb hby at_20) rfl (l' := (lv0 j0 j2 j4 j6 i8 i9 (i8 &&& (3 : Int32)) (((i8.toUInt32 >>> ((2 : Int32) &&& 31).toUInt32).toInt32) &&& (3 : Int32)) (((i8.toUInt32 >>> ((4 : Int32) &&& 31).toUInt32).toInt32) &&& (3 : Int32)))) rfl ?_
  exact kt
set_option maxRecDepth 65536 in
set_option maxHeartbeats 40000000 in
theorem qBf {p : Program} {l : Launch} {e : Env} {R : Room} {s : State} {m : MethodId} {args : Array Value} {below : List Frame} {meth : Method} {c : Code} {T0 : State} {locs : List Loc} {cells slots : Nat} {Z : State} {a0 : Array Value} {h0 : Heap} (j0 : Int64) (j2 : Int64) (j4 : Int64) (j6 : Int64) (i8 : Int32) (i9 : Int32) (i10 : Int32) (i11 : Int32) (i12 : Int32)
    (X0 : Stand p l e R s m args below meth c T0 locs cells slots) (hx : p.tables.exec = Jvm.exec) (hZ : Z.Warmed39 s.vm) (hw : ∀ d ∈ tables_1, d.before a0 Z = true) (hby : c.code = code) (hml : c.maxLocals = 43) (hown : s.vm.findClass "com/example/fairjoin/fairjoin/operator/DirectKeysSlotPinLaw" = some m.cls) (e0 : T0.heap = h0) (hc29 : ¬ ((((i8.toUInt32 >>> ((6 : Int32) &&& 31).toUInt32).toInt32) &&& (1 : Int32)) = (0 : Int32))) :
    ∃ (T' : State), Stand p l e R s m args below meth c T' locs cells slots ∧ T'.heap = h0 ∧
      ∀ target, Steps p.tables e below (T'.setTop (mkF m 39 (lv4 j0 j2 j4 j6 i8 i9 i10 i11 i12 (1 : Int32)) [])) target → Steps p.tables e below (T0.setTop (mkF m 22 (lv0 j0 j2 j4 j6 i8 i9 i10 i11 i12) [])) target := by
  refine ⟨T0, X0, e0, fun target kt => ?_⟩
  show Steps p.tables e below (T0.setTop (mkF m 22 (lv0 j0 j2 j4 j6 i8 i9 i10 i11 i12) [])) _
  refine XS.iload X0.here hx rfl (hb hby at_22) rfl ?_
  show Steps p.tables e below (T0.setTop (mkF m 24 (lv0 j0 j2 j4 j6 i8 i9 i10 i11 i12) [(.int i8)])) _
  refine XS.bipush X0.here hx rfl (hb hby at_24) ?_
  show Steps p.tables e below (T0.setTop (mkF m 26 (lv0 j0 j2 j4 j6 i8 i9 i10 i11 i12) [(.int (6 : Int32)), (.int i8)])) _
  refine XS.iushr X0.here hx rfl (hb hby at_26) rfl ?_
  show Steps p.tables e below (T0.setTop (mkF m 27 (lv0 j0 j2 j4 j6 i8 i9 i10 i11 i12) [(.int ((i8.toUInt32 >>> ((6 : Int32) &&& 31).toUInt32).toInt32))])) _
  refine XS.iconst X0.here hx rfl (hb hby at_27) ?_
  show Steps p.tables e below (T0.setTop (mkF m 28 (lv0 j0 j2 j4 j6 i8 i9 i10 i11 i12) [(.int (1 : Int32)), (.int ((i8.toUInt32 >>> ((6 : Int32) &&& 31).toUInt32).toInt32))])) _
  refine XS.iand X0.here hx rfl (hb hby at_28) rfl ?_
  show Steps p.tables e below (T0.setTop (mkF m 29 (lv0 j0 j2 j4 j6 i8 i9 i10 i11 i12) [(.int (((i8.toUInt32 >>> ((6 : Int32) &&& 31).toUInt32).toInt32) &&& (1 : Int32)))])) _
  refine XS.ifNo X0.here hx rfl (hb hby at_29) rfl ((if0 _ _).trans (feq hc29).1) ?_
  show Steps p.tables e below (T0.setTop (mkF m 32 (lv0 j0 j2 j4 j6 i8 i9 i10 i11 i12) [])) _
  refine XS.iconst X0.here hx rfl (hb hby at_32) ?_
  show Steps p.tables e below (T0.setTop (mkF m 33 (lv0 j0 j2 j4 j6 i8 i9 i10 i11 i12) [(.int (1 : Int32))])) _
  refine XS.goto X0.here hx rfl (pc0 := 33) (pc' := 37) rfl (hb hby at_33) (by decide) (by decide) ?_
  show Steps p.tables e below (T0.setTop (mkF m 37 (lv0 j0 j2 j4 j6 i8 i9 i10 i11 i12) [(.int (1 : Int32))])) _
  refine XS.istore X0.here hx rfl (hb hby at_37) rfl (l' := (lv4 j0 j2 j4 j6 i8 i9 i10 i11 i12 (1 : Int32))) rfl ?_
  exact kt
set_option maxRecDepth 65536 in
set_option maxHeartbeats 40000000 in
theorem qBt {p : Program} {l : Launch} {e : Env} {R : Room} {s : State} {m : MethodId} {args : Array Value} {below : List Frame} {meth : Method} {c : Code} {T0 : State} {locs : List Loc} {cells slots : Nat} {Z : State} {a0 : Array Value} {h0 : Heap} (j0 : Int64) (j2 : Int64) (j4 : Int64) (j6 : Int64) (i8 : Int32) (i9 : Int32) (i10 : Int32) (i11 : Int32) (i12 : Int32)
    (X0 : Stand p l e R s m args below meth c T0 locs cells slots) (hx : p.tables.exec = Jvm.exec) (hZ : Z.Warmed39 s.vm) (hw : ∀ d ∈ tables_1, d.before a0 Z = true) (hby : c.code = code) (hml : c.maxLocals = 43) (hown : s.vm.findClass "com/example/fairjoin/fairjoin/operator/DirectKeysSlotPinLaw" = some m.cls) (e0 : T0.heap = h0) (hc29 : (((i8.toUInt32 >>> ((6 : Int32) &&& 31).toUInt32).toInt32) &&& (1 : Int32)) = (0 : Int32)) :
    ∃ (T' : State), Stand p l e R s m args below meth c T' locs cells slots ∧ T'.heap = h0 ∧
      ∀ target, Steps p.tables e below (T'.setTop (mkF m 39 (lv4 j0 j2 j4 j6 i8 i9 i10 i11 i12 (0 : Int32)) [])) target → Steps p.tables e below (T0.setTop (mkF m 22 (lv0 j0 j2 j4 j6 i8 i9 i10 i11 i12) [])) target := by
  refine ⟨T0, X0, e0, fun target kt => ?_⟩
  show Steps p.tables e below (T0.setTop (mkF m 22 (lv0 j0 j2 j4 j6 i8 i9 i10 i11 i12) [])) _
  refine XS.iload X0.here hx rfl (hb hby at_22) rfl ?_
  show Steps p.tables e below (T0.setTop (mkF m 24 (lv0 j0 j2 j4 j6 i8 i9 i10 i11 i12) [(.int i8)])) _
  refine XS.bipush X0.here hx rfl (hb hby at_24) ?_
  show Steps p.tables e below (T0.setTop (mkF m 26 (lv0 j0 j2 j4 j6 i8 i9 i10 i11 i12) [(.int (6 : Int32)), (.int i8)])) _
  refine XS.iushr X0.here hx rfl (hb hby at_26) rfl ?_
  show Steps p.tables e below (T0.setTop (mkF m 27 (lv0 j0 j2 j4 j6 i8 i9 i10 i11 i12) [(.int ((i8.toUInt32 >>> ((6 : Int32) &&& 31).toUInt32).toInt32))])) _
  refine XS.iconst X0.here hx rfl (hb hby at_27) ?_
  show Steps p.tables e below (T0.setTop (mkF m 28 (lv0 j0 j2 j4 j6 i8 i9 i10 i11 i12) [(.int (1 : Int32)), (.int ((i8.toUInt32 >>> ((6 : Int32) &&& 31).toUInt32).toInt32))])) _
  refine XS.iand X0.here hx rfl (hb hby at_28) rfl ?_
  show Steps p.tables e below (T0.setTop (mkF m 29 (lv0 j0 j2 j4 j6 i8 i9 i10 i11 i12) [(.int (((i8.toUInt32 >>> ((6 : Int32) &&& 31).toUInt32).toInt32) &&& (1 : Int32)))])) _
  refine XS.ifYes X0.here hx rfl (pc0 := 29) (pc' := 36) rfl (hb hby at_29) rfl ((if0 _ _).trans (teq hc29).1) (by decide) (by decide) ?_
  show Steps p.tables e below (T0.setTop (mkF m 36 (lv0 j0 j2 j4 j6 i8 i9 i10 i11 i12) [])) _
  refine XS.iconst X0.here hx rfl (hb hby at_36) ?_
  show Steps p.tables e below (T0.setTop (mkF m 37 (lv0 j0 j2 j4 j6 i8 i9 i10 i11 i12) [(.int (0 : Int32))])) _
  refine XS.istore X0.here hx rfl (hb hby at_37) rfl (l' := (lv4 j0 j2 j4 j6 i8 i9 i10 i11 i12 (0 : Int32))) rfl ?_
  exact kt
set_option maxRecDepth 65536 in
set_option maxHeartbeats 40000000 in
theorem qB {R : Room} {cells slots : Nat} {p : Program} {l : Launch} {e : Env} {s : State} {m : MethodId} {args : Array Value} {below : List Frame} {meth : Method} {c : Code} {T0 : State} {locs : List Loc} {Z : State} {a0 : Array Value} {h0 : Heap} (j0 : Int64) (j2 : Int64) (j4 : Int64) (j6 : Int64) (i8 : Int32) (i9 : Int32) (i10 : Int32) (i11 : Int32) (i12 : Int32)
    (X0 : Stand p l e R s m args below meth c T0 locs cells slots) (hx : p.tables.exec = Jvm.exec) (hZ : Z.Warmed39 s.vm) (hw : ∀ d ∈ tables_1, d.before a0 Z = true) (hby : c.code = code) (hml : c.maxLocals = 43) (hown : s.vm.findClass "com/example/fairjoin/fairjoin/operator/DirectKeysSlotPinLaw" = some m.cls) (e0 : T0.heap = h0) :
    ∃ (v : Int32) (T' : State), Stand p l e R s m args below meth c T' locs cells slots ∧ T'.heap = h0 ∧
      ∀ target, Steps p.tables e below (T'.setTop (mkF m 39 (lv4 j0 j2 j4 j6 i8 i9 i10 i11 i12 v) [])) target → Steps p.tables e below (T0.setTop (mkF m 22 (lv0 j0 j2 j4 j6 i8 i9 i10 i11 i12) [])) target := by
  by_cases hc : (((i8.toUInt32 >>> ((6 : Int32) &&& 31).toUInt32).toInt32) &&& (1 : Int32)) = (0 : Int32)
  · obtain ⟨T1, X1, e1, st1⟩ := qBt j0 j2 j4 j6 i8 i9 i10 i11 i12 X0 hx hZ hw hby hml hown e0 hc
    exact ⟨_, T1, X1, e1, st1⟩
  · obtain ⟨T1, X1, e1, st1⟩ := qBf j0 j2 j4 j6 i8 i9 i10 i11 i12 X0 hx hZ hw hby hml hown e0 hc
    exact ⟨_, T1, X1, e1, st1⟩
set_option maxRecDepth 65536 in
set_option maxHeartbeats 40000000 in
theorem qCf {p : Program} {l : Launch} {e : Env} {R : Room} {s : State} {m : MethodId} {args : Array Value} {below : List Frame} {meth : Method} {c : Code} {T0 : State} {locs : List Loc} {cells slots : Nat} {Z : State} {a0 : Array Value} {h0 : Heap} (j0 : Int64) (j2 : Int64) (j4 : Int64) (j6 : Int64) (i8 : Int32) (i9 : Int32) (i10 : Int32) (i11 : Int32) (i12 : Int32) (i13 : Int32)
    (X0 : Stand p l e R s m args below meth c T0 locs cells slots) (hx : p.tables.exec = Jvm.exec) (hZ : Z.Warmed39 s.vm) (hw : ∀ d ∈ tables_1, d.before a0 Z = true) (hby : c.code = code) (hml : c.maxLocals = 43) (hown : s.vm.findClass "com/example/fairjoin/fairjoin/operator/DirectKeysSlotPinLaw" = some m.cls) (e0 : T0.heap = h0) (hc46 : ¬ ((((i8.toUInt32 >>> ((7 : Int32) &&& 31).toUInt32).toInt32) &&& (1 : Int32)) = (0 : Int32))) :
    ∃ (T' : State), Stand p l e R s m args below meth c T' locs cells slots ∧ T'.heap = h0 ∧
      ∀ target, Steps p.tables e below (T'.setTop (mkF m 56 (lv5 j0 j2 j4 j6 i8 i9 i10 i11 i12 i13 (1 : Int32)) [])) target → Steps p.tables e below (T0.setTop (mkF m 39 (lv4 j0 j2 j4 j6 i8 i9 i10 i11 i12 i13) [])) target := by
  refine ⟨T0, X0, e0, fun target kt => ?_⟩
  show Steps p.tables e below (T0.setTop (mkF m 39 (lv4 j0 j2 j4 j6 i8 i9 i10 i11 i12 i13) [])) _
  refine XS.iload X0.here hx rfl (hb hby at_39) rfl ?_
  show Steps p.tables e below (T0.setTop (mkF m 41 (lv4 j0 j2 j4 j6 i8 i9 i10 i11 i12 i13) [(.int i8)])) _
  refine XS.bipush X0.here hx rfl (hb hby at_41) ?_
  show Steps p.tables e below (T0.setTop (mkF m 43 (lv4 j0 j2 j4 j6 i8 i9 i10 i11 i12 i13) [(.int (7 : Int32)), (.int i8)])) _
  refine XS.iushr X0.here hx rfl (hb hby at_43) rfl ?_
  show Steps p.tables e below (T0.setTop (mkF m 44 (lv4 j0 j2 j4 j6 i8 i9 i10 i11 i12 i13) [(.int ((i8.toUInt32 >>> ((7 : Int32) &&& 31).toUInt32).toInt32))])) _
  refine XS.iconst X0.here hx rfl (hb hby at_44) ?_
  show Steps p.tables e below (T0.setTop (mkF m 45 (lv4 j0 j2 j4 j6 i8 i9 i10 i11 i12 i13) [(.int (1 : Int32)), (.int ((i8.toUInt32 >>> ((7 : Int32) &&& 31).toUInt32).toInt32))])) _
  refine XS.iand X0.here hx rfl (hb hby at_45) rfl ?_
  show Steps p.tables e below (T0.setTop (mkF m 46 (lv4 j0 j2 j4 j6 i8 i9 i10 i11 i12 i13) [(.int (((i8.toUInt32 >>> ((7 : Int32) &&& 31).toUInt32).toInt32) &&& (1 : Int32)))])) _
  refine XS.ifNo X0.here hx rfl (hb hby at_46) rfl ((if0 _ _).trans (feq hc46).1) ?_
  show Steps p.tables e below (T0.setTop (mkF m 49 (lv4 j0 j2 j4 j6 i8 i9 i10 i11 i12 i13) [])) _
  refine XS.iconst X0.here hx rfl (hb hby at_49) ?_
  show Steps p.tables e below (T0.setTop (mkF m 50 (lv4 j0 j2 j4 j6 i8 i9 i10 i11 i12 i13) [(.int (1 : Int32))])) _
  refine XS.goto X0.here hx rfl (pc0 := 50) (pc' := 54) rfl (hb hby at_50) (by decide) (by decide) ?_
  show Steps p.tables e below (T0.setTop (mkF m 54 (lv4 j0 j2 j4 j6 i8 i9 i10 i11 i12 i13) [(.int (1 : Int32))])) _
  refine XS.istore X0.here hx rfl (hb hby at_54) rfl (l' := (lv5 j0 j2 j4 j6 i8 i9 i10 i11 i12 i13 (1 : Int32))) rfl ?_
  exact kt
set_option maxRecDepth 65536 in
set_option maxHeartbeats 40000000 in
theorem qCt {p : Program} {l : Launch} {e : Env} {R : Room} {s : State} {m : MethodId} {args : Array Value} {below : List Frame} {meth : Method} {c : Code} {T0 : State} {locs : List Loc} {cells slots : Nat} {Z : State} {a0 : Array Value} {h0 : Heap} (j0 : Int64) (j2 : Int64) (j4 : Int64) (j6 : Int64) (i8 : Int32) (i9 : Int32) (i10 : Int32) (i11 : Int32) (i12 : Int32) (i13 : Int32)
    (X0 : Stand p l e R s m args below meth c T0 locs cells slots) (hx : p.tables.exec = Jvm.exec) (hZ : Z.Warmed39 s.vm) (hw : ∀ d ∈ tables_1, d.before a0 Z = true) (hby : c.code = code) (hml : c.maxLocals = 43) (hown : s.vm.findClass "com/example/fairjoin/fairjoin/operator/DirectKeysSlotPinLaw" = some m.cls) (e0 : T0.heap = h0) (hc46 : (((i8.toUInt32 >>> ((7 : Int32) &&& 31).toUInt32).toInt32) &&& (1 : Int32)) = (0 : Int32)) :
    ∃ (T' : State), Stand p l e R s m args below meth c T' locs cells slots ∧ T'.heap = h0 ∧
      ∀ target, Steps p.tables e below (T'.setTop (mkF m 56 (lv5 j0 j2 j4 j6 i8 i9 i10 i11 i12 i13 (0 : Int32)) [])) target → Steps p.tables e below (T0.setTop (mkF m 39 (lv4 j0 j2 j4 j6 i8 i9 i10 i11 i12 i13) [])) target := by
  refine ⟨T0, X0, e0, fun target kt => ?_⟩
  show Steps p.tables e below (T0.setTop (mkF m 39 (lv4 j0 j2 j4 j6 i8 i9 i10 i11 i12 i13) [])) _
  refine XS.iload X0.here hx rfl (hb hby at_39) rfl ?_
  show Steps p.tables e below (T0.setTop (mkF m 41 (lv4 j0 j2 j4 j6 i8 i9 i10 i11 i12 i13) [(.int i8)])) _
  refine XS.bipush X0.here hx rfl (hb hby at_41) ?_
  show Steps p.tables e below (T0.setTop (mkF m 43 (lv4 j0 j2 j4 j6 i8 i9 i10 i11 i12 i13) [(.int (7 : Int32)), (.int i8)])) _
  refine XS.iushr X0.here hx rfl (hb hby at_43) rfl ?_
  show Steps p.tables e below (T0.setTop (mkF m 44 (lv4 j0 j2 j4 j6 i8 i9 i10 i11 i12 i13) [(.int ((i8.toUInt32 >>> ((7 : Int32) &&& 31).toUInt32).toInt32))])) _
  refine XS.iconst X0.here hx rfl (hb hby at_44) ?_
  show Steps p.tables e below (T0.setTop (mkF m 45 (lv4 j0 j2 j4 j6 i8 i9 i10 i11 i12 i13) [(.int (1 : Int32)), (.int ((i8.toUInt32 >>> ((7 : Int32) &&& 31).toUInt32).toInt32))])) _
  refine XS.iand X0.here hx rfl (hb hby at_45) rfl ?_
  show Steps p.tables e below (T0.setTop (mkF m 46 (lv4 j0 j2 j4 j6 i8 i9 i10 i11 i12 i13) [(.int (((i8.toUInt32 >>> ((7 : Int32) &&& 31).toUInt32).toInt32) &&& (1 : Int32)))])) _
  refine XS.ifYes X0.here hx rfl (pc0 := 46) (pc' := 53) rfl (hb hby at_46) rfl ((if0 _ _).trans (teq hc46).1) (by decide) (by decide) ?_
  show Steps p.tables e below (T0.setTop (mkF m 53 (lv4 j0 j2 j4 j6 i8 i9 i10 i11 i12 i13) [])) _
  refine XS.iconst X0.here hx rfl (hb hby at_53) ?_
  show Steps p.tables e below (T0.setTop (mkF m 54 (lv4 j0 j2 j4 j6 i8 i9 i10 i11 i12 i13) [(.int (0 : Int32))])) _
  refine XS.istore X0.here hx rfl (hb hby at_54) rfl (l' := (lv5 j0 j2 j4 j6 i8 i9 i10 i11 i12 i13 (0 : Int32))) rfl ?_
  exact kt
set_option maxRecDepth 65536 in
set_option maxHeartbeats 40000000 in
theorem qC {R : Room} {cells slots : Nat} {p : Program} {l : Launch} {e : Env} {s : State} {m : MethodId} {args : Array Value} {below : List Frame} {meth : Method} {c : Code} {T0 : State} {locs : List Loc} {Z : State} {a0 : Array Value} {h0 : Heap} (j0 : Int64) (j2 : Int64) (j4 : Int64) (j6 : Int64) (i8 : Int32) (i9 : Int32) (i10 : Int32) (i11 : Int32) (i12 : Int32) (i13 : Int32)
    (X0 : Stand p l e R s m args below meth c T0 locs cells slots) (hx : p.tables.exec = Jvm.exec) (hZ : Z.Warmed39 s.vm) (hw : ∀ d ∈ tables_1, d.before a0 Z = true) (hby : c.code = code) (hml : c.maxLocals = 43) (hown : s.vm.findClass "com/example/fairjoin/fairjoin/operator/DirectKeysSlotPinLaw" = some m.cls) (e0 : T0.heap = h0) :
    ∃ (v : Int32) (T' : State), Stand p l e R s m args below meth c T' locs cells slots ∧ T'.heap = h0 ∧
      ∀ target, Steps p.tables e below (T'.setTop (mkF m 56 (lv5 j0 j2 j4 j6 i8 i9 i10 i11 i12 i13 v) [])) target → Steps p.tables e below (T0.setTop (mkF m 39 (lv4 j0 j2 j4 j6 i8 i9 i10 i11 i12 i13) [])) target := by
  by_cases hc : (((i8.toUInt32 >>> ((7 : Int32) &&& 31).toUInt32).toInt32) &&& (1 : Int32)) = (0 : Int32)
  · obtain ⟨T1, X1, e1, st1⟩ := qCt j0 j2 j4 j6 i8 i9 i10 i11 i12 i13 X0 hx hZ hw hby hml hown e0 hc
    exact ⟨_, T1, X1, e1, st1⟩
  · obtain ⟨T1, X1, e1, st1⟩ := qCf j0 j2 j4 j6 i8 i9 i10 i11 i12 i13 X0 hx hZ hw hby hml hown e0 hc
    exact ⟨_, T1, X1, e1, st1⟩
set_option maxRecDepth 65536 in
set_option maxHeartbeats 40000000 in
theorem qDf {p : Program} {l : Launch} {e : Env} {R : Room} {s : State} {m : MethodId} {args : Array Value} {below : List Frame} {meth : Method} {c : Code} {T0 : State} {locs : List Loc} {cells slots : Nat} {Z : State} {a0 : Array Value} {h0 : Heap} (j0 : Int64) (j2 : Int64) (j4 : Int64) (j6 : Int64) (i8 : Int32) (i9 : Int32) (i10 : Int32) (i11 : Int32) (i12 : Int32) (i13 : Int32) (i14 : Int32)
    (X0 : Stand p l e R s m args below meth c T0 locs cells slots) (hx : p.tables.exec = Jvm.exec) (hZ : Z.Warmed39 s.vm) (hw : ∀ d ∈ tables_1, d.before a0 Z = true) (hby : c.code = code) (hml : c.maxLocals = 43) (hown : s.vm.findClass "com/example/fairjoin/fairjoin/operator/DirectKeysSlotPinLaw" = some m.cls) (e0 : T0.heap = h0) (hc63 : ¬ ((((i8.toUInt32 >>> ((8 : Int32) &&& 31).toUInt32).toInt32) &&& (1 : Int32)) = (0 : Int32))) :
    ∃ (T' : State), Stand p l e R s m args below meth c T' locs cells slots ∧ T'.heap = h0 ∧
      ∀ target, Steps p.tables e below (T'.setTop (mkF m 73 (lv6 j0 j2 j4 j6 i8 i9 i10 i11 i12 i13 i14 (1 : Int32)) [])) target → Steps p.tables e below (T0.setTop (mkF m 56 (lv5 j0 j2 j4 j6 i8 i9 i10 i11 i12 i13 i14) [])) target := by
  refine ⟨T0, X0, e0, fun target kt => ?_⟩
  show Steps p.tables e below (T0.setTop (mkF m 56 (lv5 j0 j2 j4 j6 i8 i9 i10 i11 i12 i13 i14) [])) _
  refine XS.iload X0.here hx rfl (hb hby at_56) rfl ?_
  show Steps p.tables e below (T0.setTop (mkF m 58 (lv5 j0 j2 j4 j6 i8 i9 i10 i11 i12 i13 i14) [(.int i8)])) _
  refine XS.bipush X0.here hx rfl (hb hby at_58) ?_
  show Steps p.tables e below (T0.setTop (mkF m 60 (lv5 j0 j2 j4 j6 i8 i9 i10 i11 i12 i13 i14) [(.int (8 : Int32)), (.int i8)])) _
  refine XS.iushr X0.here hx rfl (hb hby at_60) rfl ?_
  show Steps p.tables e below (T0.setTop (mkF m 61 (lv5 j0 j2 j4 j6 i8 i9 i10 i11 i12 i13 i14) [(.int ((i8.toUInt32 >>> ((8 : Int32) &&& 31).toUInt32).toInt32))])) _
  refine XS.iconst X0.here hx rfl (hb hby at_61) ?_
  show Steps p.tables e below (T0.setTop (mkF m 62 (lv5 j0 j2 j4 j6 i8 i9 i10 i11 i12 i13 i14) [(.int (1 : Int32)), (.int ((i8.toUInt32 >>> ((8 : Int32) &&& 31).toUInt32).toInt32))])) _
  refine XS.iand X0.here hx rfl (hb hby at_62) rfl ?_
  show Steps p.tables e below (T0.setTop (mkF m 63 (lv5 j0 j2 j4 j6 i8 i9 i10 i11 i12 i13 i14) [(.int (((i8.toUInt32 >>> ((8 : Int32) &&& 31).toUInt32).toInt32) &&& (1 : Int32)))])) _
  refine XS.ifNo X0.here hx rfl (hb hby at_63) rfl ((if0 _ _).trans (feq hc63).1) ?_
  show Steps p.tables e below (T0.setTop (mkF m 66 (lv5 j0 j2 j4 j6 i8 i9 i10 i11 i12 i13 i14) [])) _
  refine XS.iconst X0.here hx rfl (hb hby at_66) ?_
  show Steps p.tables e below (T0.setTop (mkF m 67 (lv5 j0 j2 j4 j6 i8 i9 i10 i11 i12 i13 i14) [(.int (1 : Int32))])) _
  refine XS.goto X0.here hx rfl (pc0 := 67) (pc' := 71) rfl (hb hby at_67) (by decide) (by decide) ?_
  show Steps p.tables e below (T0.setTop (mkF m 71 (lv5 j0 j2 j4 j6 i8 i9 i10 i11 i12 i13 i14) [(.int (1 : Int32))])) _
  refine XS.istore X0.here hx rfl (hb hby at_71) rfl (l' := (lv6 j0 j2 j4 j6 i8 i9 i10 i11 i12 i13 i14 (1 : Int32))) rfl ?_
  exact kt
set_option maxRecDepth 65536 in
set_option maxHeartbeats 40000000 in
theorem qDt {p : Program} {l : Launch} {e : Env} {R : Room} {s : State} {m : MethodId} {args : Array Value} {below : List Frame} {meth : Method} {c : Code} {T0 : State} {locs : List Loc} {cells slots : Nat} {Z : State} {a0 : Array Value} {h0 : Heap} (j0 : Int64) (j2 : Int64) (j4 : Int64) (j6 : Int64) (i8 : Int32) (i9 : Int32) (i10 : Int32) (i11 : Int32) (i12 : Int32) (i13 : Int32) (i14 : Int32)
    (X0 : Stand p l e R s m args below meth c T0 locs cells slots) (hx : p.tables.exec = Jvm.exec) (hZ : Z.Warmed39 s.vm) (hw : ∀ d ∈ tables_1, d.before a0 Z = true) (hby : c.code = code) (hml : c.maxLocals = 43) (hown : s.vm.findClass "com/example/fairjoin/fairjoin/operator/DirectKeysSlotPinLaw" = some m.cls) (e0 : T0.heap = h0) (hc63 : (((i8.toUInt32 >>> ((8 : Int32) &&& 31).toUInt32).toInt32) &&& (1 : Int32)) = (0 : Int32)) :
    ∃ (T' : State), Stand p l e R s m args below meth c T' locs cells slots ∧ T'.heap = h0 ∧
      ∀ target, Steps p.tables e below (T'.setTop (mkF m 73 (lv6 j0 j2 j4 j6 i8 i9 i10 i11 i12 i13 i14 (0 : Int32)) [])) target → Steps p.tables e below (T0.setTop (mkF m 56 (lv5 j0 j2 j4 j6 i8 i9 i10 i11 i12 i13 i14) [])) target := by
  refine ⟨T0, X0, e0, fun target kt => ?_⟩
  show Steps p.tables e below (T0.setTop (mkF m 56 (lv5 j0 j2 j4 j6 i8 i9 i10 i11 i12 i13 i14) [])) _
  refine XS.iload X0.here hx rfl (hb hby at_56) rfl ?_
  show Steps p.tables e below (T0.setTop (mkF m 58 (lv5 j0 j2 j4 j6 i8 i9 i10 i11 i12 i13 i14) [(.int i8)])) _
  refine XS.bipush X0.here hx rfl (hb hby at_58) ?_
  show Steps p.tables e below (T0.setTop (mkF m 60 (lv5 j0 j2 j4 j6 i8 i9 i10 i11 i12 i13 i14) [(.int (8 : Int32)), (.int i8)])) _
  refine XS.iushr X0.here hx rfl (hb hby at_60) rfl ?_
  show Steps p.tables e below (T0.setTop (mkF m 61 (lv5 j0 j2 j4 j6 i8 i9 i10 i11 i12 i13 i14) [(.int ((i8.toUInt32 >>> ((8 : Int32) &&& 31).toUInt32).toInt32))])) _
  refine XS.iconst X0.here hx rfl (hb hby at_61) ?_
  show Steps p.tables e below (T0.setTop (mkF m 62 (lv5 j0 j2 j4 j6 i8 i9 i10 i11 i12 i13 i14) [(.int (1 : Int32)), (.int ((i8.toUInt32 >>> ((8 : Int32) &&& 31).toUInt32).toInt32))])) _
  refine XS.iand X0.here hx rfl (hb hby at_62) rfl ?_
  show Steps p.tables e below (T0.setTop (mkF m 63 (lv5 j0 j2 j4 j6 i8 i9 i10 i11 i12 i13 i14) [(.int (((i8.toUInt32 >>> ((8 : Int32) &&& 31).toUInt32).toInt32) &&& (1 : Int32)))])) _
  refine XS.ifYes X0.here hx rfl (pc0 := 63) (pc' := 70) rfl (hb hby at_63) rfl ((if0 _ _).trans (teq hc63).1) (by decide) (by decide) ?_
  show Steps p.tables e below (T0.setTop (mkF m 70 (lv5 j0 j2 j4 j6 i8 i9 i10 i11 i12 i13 i14) [])) _
  refine XS.iconst X0.here hx rfl (hb hby at_70) ?_
  show Steps p.tables e below (T0.setTop (mkF m 71 (lv5 j0 j2 j4 j6 i8 i9 i10 i11 i12 i13 i14) [(.int (0 : Int32))])) _
  refine XS.istore X0.here hx rfl (hb hby at_71) rfl (l' := (lv6 j0 j2 j4 j6 i8 i9 i10 i11 i12 i13 i14 (0 : Int32))) rfl ?_
  exact kt
set_option maxRecDepth 65536 in
set_option maxHeartbeats 40000000 in
theorem qD {R : Room} {cells slots : Nat} {p : Program} {l : Launch} {e : Env} {s : State} {m : MethodId} {args : Array Value} {below : List Frame} {meth : Method} {c : Code} {T0 : State} {locs : List Loc} {Z : State} {a0 : Array Value} {h0 : Heap} (j0 : Int64) (j2 : Int64) (j4 : Int64) (j6 : Int64) (i8 : Int32) (i9 : Int32) (i10 : Int32) (i11 : Int32) (i12 : Int32) (i13 : Int32) (i14 : Int32)
    (X0 : Stand p l e R s m args below meth c T0 locs cells slots) (hx : p.tables.exec = Jvm.exec) (hZ : Z.Warmed39 s.vm) (hw : ∀ d ∈ tables_1, d.before a0 Z = true) (hby : c.code = code) (hml : c.maxLocals = 43) (hown : s.vm.findClass "com/example/fairjoin/fairjoin/operator/DirectKeysSlotPinLaw" = some m.cls) (e0 : T0.heap = h0) :
    ∃ (v : Int32) (T' : State), Stand p l e R s m args below meth c T' locs cells slots ∧ T'.heap = h0 ∧
      ∀ target, Steps p.tables e below (T'.setTop (mkF m 73 (lv6 j0 j2 j4 j6 i8 i9 i10 i11 i12 i13 i14 v) [])) target → Steps p.tables e below (T0.setTop (mkF m 56 (lv5 j0 j2 j4 j6 i8 i9 i10 i11 i12 i13 i14) [])) target := by
  by_cases hc : (((i8.toUInt32 >>> ((8 : Int32) &&& 31).toUInt32).toInt32) &&& (1 : Int32)) = (0 : Int32)
  · obtain ⟨T1, X1, e1, st1⟩ := qDt j0 j2 j4 j6 i8 i9 i10 i11 i12 i13 i14 X0 hx hZ hw hby hml hown e0 hc
    exact ⟨_, T1, X1, e1, st1⟩
  · obtain ⟨T1, X1, e1, st1⟩ := qDf j0 j2 j4 j6 i8 i9 i10 i11 i12 i13 i14 X0 hx hZ hw hby hml hown e0 hc
    exact ⟨_, T1, X1, e1, st1⟩
set_option maxRecDepth 65536 in
set_option maxHeartbeats 40000000 in
theorem qE {p : Program} {l : Launch} {e : Env} {R : Room} {s : State} {m : MethodId} {args : Array Value} {below : List Frame} {meth : Method} {c : Code} {T0 : State} {locs : List Loc} {cells slots : Nat} {Z : State} {a0 : Array Value} {h0 : Heap} (j0 : Int64) (j2 : Int64) (j4 : Int64) (j6 : Int64) (i8 : Int32) (i9 : Int32) (i10 : Int32) (i11 : Int32) (i12 : Int32) (i13 : Int32) (i14 : Int32) (i15 : Int32)
    (X0 : Stand p l e R s m args below meth c T0 locs cells slots) (hx : p.tables.exec = Jvm.exec) (hZ : Z.Warmed39 s.vm) (hw : ∀ d ∈ tables_1, d.before a0 Z = true) (hby : c.code = code) (hml : c.maxLocals = 43) (hown : s.vm.findClass "com/example/fairjoin/fairjoin/operator/DirectKeysSlotPinLaw" = some m.cls) (e0 : T0.heap = h0) :
    ∃ (T' : State), Stand p l e R s m args below meth c T' locs cells slots ∧ T'.heap = h0 ∧
      ∀ target, Steps p.tables e below (T'.setTop (mkF m 97 (lv7 j0 j2 j4 j6 i8 i9 i10 i11 i12 i13 i14 i15 ((((i8.toUInt32 >>> ((9 : Int32) &&& 31).toUInt32).toInt32) &&& (7 : Int32)) - (2 : Int32)) ((((i8.toUInt32 >>> ((12 : Int32) &&& 31).toUInt32).toInt32) &&& (7 : Int32)) - (2 : Int32))) [])) target → Steps p.tables e below (T0.setTop (mkF m 73 (lv6 j0 j2 j4 j6 i8 i9 i10 i11 i12 i13 i14 i15) [])) target := by
  refine ⟨T0, X0, e0, fun target kt => ?_⟩
  show Steps p.tables e below (T0.setTop (mkF m 73 (lv6 j0 j2 j4 j6 i8 i9 i10 i11 i12 i13 i14 i15) [])) _
  refine XS.iload X0.here hx rfl (hb hby at_73) rfl ?_
  show Steps p.tables e below (T0.setTop (mkF m 75 (lv6 j0 j2 j4 j6 i8 i9 i10 i11 i12 i13 i14 i15) [(.int i8)])) _
  refine XS.bipush X0.here hx rfl (hb hby at_75) ?_
  show Steps p.tables e below (T0.setTop (mkF m 77 (lv6 j0 j2 j4 j6 i8 i9 i10 i11 i12 i13 i14 i15) [(.int (9 : Int32)), (.int i8)])) _
  refine XS.iushr X0.here hx rfl (hb hby at_77) rfl ?_
  show Steps p.tables e below (T0.setTop (mkF m 78 (lv6 j0 j2 j4 j6 i8 i9 i10 i11 i12 i13 i14 i15) [(.int ((i8.toUInt32 >>> ((9 : Int32) &&& 31).toUInt32).toInt32))])) _
  refine XS.bipush X0.here hx rfl (hb hby at_78) ?_
  show Steps p.tables e below (T0.setTop (mkF m 80 (lv6 j0 j2 j4 j6 i8 i9 i10 i11 i12 i13 i14 i15) [(.int (7 : Int32)), (.int ((i8.toUInt32 >>> ((9 : Int32) &&& 31).toUInt32).toInt32))])) _
  refine XS.iand X0.here hx rfl (hb hby at_80) rfl ?_
  show Steps p.tables e below (T0.setTop (mkF m 81 (lv6 j0 j2 j4 j6 i8 i9 i10 i11 i12 i13 i14 i15) [(.int (((i8.toUInt32 >>> ((9 : Int32) &&& 31).toUInt32).toInt32) &&& (7 : Int32)))])) _
  refine XS.iconst X0.here hx rfl (hb hby at_81) ?_
  show Steps p.tables e below (T0.setTop (mkF m 82 (lv6 j0 j2 j4 j6 i8 i9 i10 i11 i12 i13 i14 i15) [(.int (2 : Int32)), (.int (((i8.toUInt32 >>> ((9 : Int32) &&& 31).toUInt32).toInt32) &&& (7 : Int32)))])) _
  refine XS.isub X0.here hx rfl (hb hby at_82) rfl ?_
  show Steps p.tables e below (T0.setTop (mkF m 83 (lv6 j0 j2 j4 j6 i8 i9 i10 i11 i12 i13 i14 i15) [(.int ((((i8.toUInt32 >>> ((9 : Int32) &&& 31).toUInt32).toInt32) &&& (7 : Int32)) - (2 : Int32)))])) _
  refine XS.istore X0.here hx rfl (hb hby at_83) rfl (l' := (lv8 j0 j2 j4 j6 i8 i9 i10 i11 i12 i13 i14 i15 ((((i8.toUInt32 >>> ((9 : Int32) &&& 31).toUInt32).toInt32) &&& (7 : Int32)) - (2 : Int32)))) rfl ?_
  show Steps p.tables e below (T0.setTop (mkF m 85 (lv8 j0 j2 j4 j6 i8 i9 i10 i11 i12 i13 i14 i15 ((((i8.toUInt32 >>> ((9 : Int32) &&& 31).toUInt32).toInt32) &&& (7 : Int32)) - (2 : Int32))) [])) _
  refine XS.iload X0.here hx rfl (hb hby at_85) rfl ?_
  show Steps p.tables e below (T0.setTop (mkF m 87 (lv8 j0 j2 j4 j6 i8 i9 i10 i11 i12 i13 i14 i15 ((((i8.toUInt32 >>> ((9 : Int32) &&& 31).toUInt32).toInt32) &&& (7 : Int32)) - (2 : Int32))) [(.int i8)])) _
  refine XS.bipush X0.here hx rfl (hb hby at_87) ?_
  show Steps p.tables e below (T0.setTop (mkF m 89 (lv8 j0 j2 j4 j6 i8 i9 i10 i11 i12 i13 i14 i15 ((((i8.toUInt32 >>> ((9 : Int32) &&& 31).toUInt32).toInt32) &&& (7 : Int32)) - (2 : Int32))) [(.int (12 : Int32)), (.int i8)])) _
  refine XS.iushr X0.here hx rfl (hb hby at_89) rfl ?_
  show Steps p.tables e below (T0.setTop (mkF m 90 (lv8 j0 j2 j4 j6 i8 i9 i10 i11 i12 i13 i14 i15 ((((i8.toUInt32 >>> ((9 : Int32) &&& 31).toUInt32).toInt32) &&& (7 : Int32)) - (2 : Int32))) [(.int ((i8.toUInt32 >>> ((12 : Int32) &&& 31).toUInt32).toInt32))])) _
  refine XS.bipush X0.here hx rfl (hb hby at_90) ?_
  show Steps p.tables e below (T0.setTop (mkF m 92 (lv8 j0 j2 j4 j6 i8 i9 i10 i11 i12 i13 i14 i15 ((((i8.toUInt32 >>> ((9 : Int32) &&& 31).toUInt32).toInt32) &&& (7 : Int32)) - (2 : Int32))) [(.int (7 : Int32)), (.int ((i8.toUInt32 >>> ((12 : Int32) &&& 31).toUInt32).toInt32))])) _
  refine XS.iand X0.here hx rfl (hb hby at_92) rfl ?_
  show Steps p.tables e below (T0.setTop (mkF m 93 (lv8 j0 j2 j4 j6 i8 i9 i10 i11 i12 i13 i14 i15 ((((i8.toUInt32 >>> ((9 : Int32) &&& 31).toUInt32).toInt32) &&& (7 : Int32)) - (2 : Int32))) [(.int (((i8.toUInt32 >>> ((12 : Int32) &&& 31).toUInt32).toInt32) &&& (7 : Int32)))])) _
  refine XS.iconst X0.here hx rfl (hb hby at_93) ?_
  show Steps p.tables e below (T0.setTop (mkF m 94 (lv8 j0 j2 j4 j6 i8 i9 i10 i11 i12 i13 i14 i15 ((((i8.toUInt32 >>> ((9 : Int32) &&& 31).toUInt32).toInt32) &&& (7 : Int32)) - (2 : Int32))) [(.int (2 : Int32)), (.int (((i8.toUInt32 >>> ((12 : Int32) &&& 31).toUInt32).toInt32) &&& (7 : Int32)))])) _
  refine XS.isub X0.here hx rfl (hb hby at_94) rfl ?_
  show Steps p.tables e below (T0.setTop (mkF m 95 (lv8 j0 j2 j4 j6 i8 i9 i10 i11 i12 i13 i14 i15 ((((i8.toUInt32 >>> ((9 : Int32) &&& 31).toUInt32).toInt32) &&& (7 : Int32)) - (2 : Int32))) [(.int ((((i8.toUInt32 >>> ((12 : Int32) &&& 31).toUInt32).toInt32) &&& (7 : Int32)) - (2 : Int32)))])) _
  refine XS.istore X0.here hx rfl (hb hby at_95) rfl (l' := (lv7 j0 j2 j4 j6 i8 i9 i10 i11 i12 i13 i14 i15 ((((i8.toUInt32 >>> ((9 : Int32) &&& 31).toUInt32).toInt32) &&& (7 : Int32)) - (2 : Int32)) ((((i8.toUInt32 >>> ((12 : Int32) &&& 31).toUInt32).toInt32) &&& (7 : Int32)) - (2 : Int32)))) rfl ?_
  exact kt
set_option maxRecDepth 65536 in
set_option maxHeartbeats 40000000 in
theorem qFf {p : Program} {l : Launch} {e : Env} {R : Room} {s : State} {m : MethodId} {args : Array Value} {below : List Frame} {meth : Method} {c : Code} {T0 : State} {locs : List Loc} {cells slots : Nat} {Z : State} {a0 : Array Value} {h0 : Heap} (j0 : Int64) (j2 : Int64) (j4 : Int64) (j6 : Int64) (i8 : Int32) (i9 : Int32) (i10 : Int32) (i11 : Int32) (i12 : Int32) (i13 : Int32) (i14 : Int32) (i15 : Int32) (i16 : Int32) (i17 : Int32)
    (X0 : Stand p l e R s m args below meth c T0 locs cells slots) (hx : p.tables.exec = Jvm.exec) (hZ : Z.Warmed39 s.vm) (hw : ∀ d ∈ tables_1, d.before a0 Z = true) (hby : c.code = code) (hml : c.maxLocals = 43) (hown : s.vm.findClass "com/example/fairjoin/fairjoin/operator/DirectKeysSlotPinLaw" = some m.cls) (e0 : T0.heap = h0) (hc104 : ¬ ((((i8.toUInt32 >>> ((15 : Int32) &&& 31).toUInt32).toInt32) &&& (1 : Int32)) = (0 : Int32))) :
    ∃ (T' : State), Stand p l e R s m args below meth c T' locs cells slots ∧ T'.heap = h0 ∧
      ∀ target, Steps p.tables e below (T'.setTop (mkF m 114 (lv9 j0 j2 j4 j6 i8 i9 i10 i11 i12 i13 i14 i15 i16 i17 (1 : Int32)) [])) target → Steps p.tables e below (T0.setTop (mkF m 97 (lv7 j0 j2 j4 j6 i8 i9 i10 i11 i12 i13 i14 i15 i16 i17) [])) target := by
  refine ⟨T0, X0, e0, fun target kt => ?_⟩
  show Steps p.tables e below (T0.setTop (mkF m 97 (lv7 j0 j2 j4 j6 i8 i9 i10 i11 i12 i13 i14 i15 i16 i17) [])) _
  refine XS.iload X0.here hx rfl (hb hby at_97) rfl ?_
  show Steps p.tables e below (T0.setTop (mkF m 99 (lv7 j0 j2 j4 j6 i8 i9 i10 i11 i12 i13 i14 i15 i16 i17) [(.int i8)])) _
  refine XS.bipush X0.here hx rfl (hb hby at_99) ?_
  show Steps p.tables e below (T0.setTop (mkF m 101 (lv7 j0 j2 j4 j6 i8 i9 i10 i11 i12 i13 i14 i15 i16 i17) [(.int (15 : Int32)), (.int i8)])) _
  refine XS.iushr X0.here hx rfl (hb hby at_101) rfl ?_
  show Steps p.tables e below (T0.setTop (mkF m 102 (lv7 j0 j2 j4 j6 i8 i9 i10 i11 i12 i13 i14 i15 i16 i17) [(.int ((i8.toUInt32 >>> ((15 : Int32) &&& 31).toUInt32).toInt32))])) _
  refine XS.iconst X0.here hx rfl (hb hby at_102) ?_
  show Steps p.tables e below (T0.setTop (mkF m 103 (lv7 j0 j2 j4 j6 i8 i9 i10 i11 i12 i13 i14 i15 i16 i17) [(.int (1 : Int32)), (.int ((i8.toUInt32 >>> ((15 : Int32) &&& 31).toUInt32).toInt32))])) _
  refine XS.iand X0.here hx rfl (hb hby at_103) rfl ?_
  show Steps p.tables e below (T0.setTop (mkF m 104 (lv7 j0 j2 j4 j6 i8 i9 i10 i11 i12 i13 i14 i15 i16 i17) [(.int (((i8.toUInt32 >>> ((15 : Int32) &&& 31).toUInt32).toInt32) &&& (1 : Int32)))])) _
  refine XS.ifNo X0.here hx rfl (hb hby at_104) rfl ((if0 _ _).trans (feq hc104).1) ?_
  show Steps p.tables e below (T0.setTop (mkF m 107 (lv7 j0 j2 j4 j6 i8 i9 i10 i11 i12 i13 i14 i15 i16 i17) [])) _
  refine XS.iconst X0.here hx rfl (hb hby at_107) ?_
  show Steps p.tables e below (T0.setTop (mkF m 108 (lv7 j0 j2 j4 j6 i8 i9 i10 i11 i12 i13 i14 i15 i16 i17) [(.int (1 : Int32))])) _
  refine XS.goto X0.here hx rfl (pc0 := 108) (pc' := 112) rfl (hb hby at_108) (by decide) (by decide) ?_
  show Steps p.tables e below (T0.setTop (mkF m 112 (lv7 j0 j2 j4 j6 i8 i9 i10 i11 i12 i13 i14 i15 i16 i17) [(.int (1 : Int32))])) _
  refine XS.istore X0.here hx rfl (hb hby at_112) rfl (l' := (lv9 j0 j2 j4 j6 i8 i9 i10 i11 i12 i13 i14 i15 i16 i17 (1 : Int32))) rfl ?_
  exact kt
set_option maxRecDepth 65536 in
set_option maxHeartbeats 40000000 in
theorem qFt {p : Program} {l : Launch} {e : Env} {R : Room} {s : State} {m : MethodId} {args : Array Value} {below : List Frame} {meth : Method} {c : Code} {T0 : State} {locs : List Loc} {cells slots : Nat} {Z : State} {a0 : Array Value} {h0 : Heap} (j0 : Int64) (j2 : Int64) (j4 : Int64) (j6 : Int64) (i8 : Int32) (i9 : Int32) (i10 : Int32) (i11 : Int32) (i12 : Int32) (i13 : Int32) (i14 : Int32) (i15 : Int32) (i16 : Int32) (i17 : Int32)
    (X0 : Stand p l e R s m args below meth c T0 locs cells slots) (hx : p.tables.exec = Jvm.exec) (hZ : Z.Warmed39 s.vm) (hw : ∀ d ∈ tables_1, d.before a0 Z = true) (hby : c.code = code) (hml : c.maxLocals = 43) (hown : s.vm.findClass "com/example/fairjoin/fairjoin/operator/DirectKeysSlotPinLaw" = some m.cls) (e0 : T0.heap = h0) (hc104 : (((i8.toUInt32 >>> ((15 : Int32) &&& 31).toUInt32).toInt32) &&& (1 : Int32)) = (0 : Int32)) :
    ∃ (T' : State), Stand p l e R s m args below meth c T' locs cells slots ∧ T'.heap = h0 ∧
      ∀ target, Steps p.tables e below (T'.setTop (mkF m 114 (lv9 j0 j2 j4 j6 i8 i9 i10 i11 i12 i13 i14 i15 i16 i17 (0 : Int32)) [])) target → Steps p.tables e below (T0.setTop (mkF m 97 (lv7 j0 j2 j4 j6 i8 i9 i10 i11 i12 i13 i14 i15 i16 i17) [])) target := by
  refine ⟨T0, X0, e0, fun target kt => ?_⟩
  show Steps p.tables e below (T0.setTop (mkF m 97 (lv7 j0 j2 j4 j6 i8 i9 i10 i11 i12 i13 i14 i15 i16 i17) [])) _
  refine XS.iload X0.here hx rfl (hb hby at_97) rfl ?_
  show Steps p.tables e below (T0.setTop (mkF m 99 (lv7 j0 j2 j4 j6 i8 i9 i10 i11 i12 i13 i14 i15 i16 i17) [(.int i8)])) _
  refine XS.bipush X0.here hx rfl (hb hby at_99) ?_
  show Steps p.tables e below (T0.setTop (mkF m 101 (lv7 j0 j2 j4 j6 i8 i9 i10 i11 i12 i13 i14 i15 i16 i17) [(.int (15 : Int32)), (.int i8)])) _
  refine XS.iushr X0.here hx rfl (hb hby at_101) rfl ?_
  show Steps p.tables e below (T0.setTop (mkF m 102 (lv7 j0 j2 j4 j6 i8 i9 i10 i11 i12 i13 i14 i15 i16 i17) [(.int ((i8.toUInt32 >>> ((15 : Int32) &&& 31).toUInt32).toInt32))])) _
  refine XS.iconst X0.here hx rfl (hb hby at_102) ?_
  show Steps p.tables e below (T0.setTop (mkF m 103 (lv7 j0 j2 j4 j6 i8 i9 i10 i11 i12 i13 i14 i15 i16 i17) [(.int (1 : Int32)), (.int ((i8.toUInt32 >>> ((15 : Int32) &&& 31).toUInt32).toInt32))])) _
  refine XS.iand X0.here hx rfl (hb hby at_103) rfl ?_
  show Steps p.tables e below (T0.setTop (mkF m 104 (lv7 j0 j2 j4 j6 i8 i9 i10 i11 i12 i13 i14 i15 i16 i17) [(.int (((i8.toUInt32 >>> ((15 : Int32) &&& 31).toUInt32).toInt32) &&& (1 : Int32)))])) _
  refine XS.ifYes X0.here hx rfl (pc0 := 104) (pc' := 111) rfl (hb hby at_104) rfl ((if0 _ _).trans (teq hc104).1) (by decide) (by decide) ?_
  show Steps p.tables e below (T0.setTop (mkF m 111 (lv7 j0 j2 j4 j6 i8 i9 i10 i11 i12 i13 i14 i15 i16 i17) [])) _
  refine XS.iconst X0.here hx rfl (hb hby at_111) ?_
  show Steps p.tables e below (T0.setTop (mkF m 112 (lv7 j0 j2 j4 j6 i8 i9 i10 i11 i12 i13 i14 i15 i16 i17) [(.int (0 : Int32))])) _
  refine XS.istore X0.here hx rfl (hb hby at_112) rfl (l' := (lv9 j0 j2 j4 j6 i8 i9 i10 i11 i12 i13 i14 i15 i16 i17 (0 : Int32))) rfl ?_
  exact kt
set_option maxRecDepth 65536 in
set_option maxHeartbeats 40000000 in
theorem qF {R : Room} {cells slots : Nat} {p : Program} {l : Launch} {e : Env} {s : State} {m : MethodId} {args : Array Value} {below : List Frame} {meth : Method} {c : Code} {T0 : State} {locs : List Loc} {Z : State} {a0 : Array Value} {h0 : Heap} (j0 : Int64) (j2 : Int64) (j4 : Int64) (j6 : Int64) (i8 : Int32) (i9 : Int32) (i10 : Int32) (i11 : Int32) (i12 : Int32) (i13 : Int32) (i14 : Int32) (i15 : Int32) (i16 : Int32) (i17 : Int32)
    (X0 : Stand p l e R s m args below meth c T0 locs cells slots) (hx : p.tables.exec = Jvm.exec) (hZ : Z.Warmed39 s.vm) (hw : ∀ d ∈ tables_1, d.before a0 Z = true) (hby : c.code = code) (hml : c.maxLocals = 43) (hown : s.vm.findClass "com/example/fairjoin/fairjoin/operator/DirectKeysSlotPinLaw" = some m.cls) (e0 : T0.heap = h0) :
    ∃ (v : Int32) (T' : State), Stand p l e R s m args below meth c T' locs cells slots ∧ T'.heap = h0 ∧
      ∀ target, Steps p.tables e below (T'.setTop (mkF m 114 (lv9 j0 j2 j4 j6 i8 i9 i10 i11 i12 i13 i14 i15 i16 i17 v) [])) target → Steps p.tables e below (T0.setTop (mkF m 97 (lv7 j0 j2 j4 j6 i8 i9 i10 i11 i12 i13 i14 i15 i16 i17) [])) target := by
  by_cases hc : (((i8.toUInt32 >>> ((15 : Int32) &&& 31).toUInt32).toInt32) &&& (1 : Int32)) = (0 : Int32)
  · obtain ⟨T1, X1, e1, st1⟩ := qFt j0 j2 j4 j6 i8 i9 i10 i11 i12 i13 i14 i15 i16 i17 X0 hx hZ hw hby hml hown e0 hc
    exact ⟨_, T1, X1, e1, st1⟩
  · obtain ⟨T1, X1, e1, st1⟩ := qFf j0 j2 j4 j6 i8 i9 i10 i11 i12 i13 i14 i15 i16 i17 X0 hx hZ hw hby hml hown e0 hc
    exact ⟨_, T1, X1, e1, st1⟩
set_option maxRecDepth 65536 in
set_option maxHeartbeats 40000000 in
theorem qGf {p : Program} {l : Launch} {e : Env} {R : Room} {s : State} {m : MethodId} {args : Array Value} {below : List Frame} {meth : Method} {c : Code} {T0 : State} {locs : List Loc} {cells slots : Nat} {Z : State} {a0 : Array Value} {h0 : Heap} (j0 : Int64) (j2 : Int64) (j4 : Int64) (j6 : Int64) (i8 : Int32) (i9 : Int32) (i10 : Int32) (i11 : Int32) (i12 : Int32) (i13 : Int32) (i14 : Int32) (i15 : Int32) (i16 : Int32) (i17 : Int32) (i18 : Int32)
    (X0 : Stand p l e R s m args below meth c T0 locs cells slots) (hx : p.tables.exec = Jvm.exec) (hZ : Z.Warmed39 s.vm) (hw : ∀ d ∈ tables_1, d.before a0 Z = true) (hby : c.code = code) (hml : c.maxLocals = 43) (hown : s.vm.findClass "com/example/fairjoin/fairjoin/operator/DirectKeysSlotPinLaw" = some m.cls) (e0 : T0.heap = h0) (hc123 : (0 : Int32) < (lcmpW j0 ((9223372036854775807 : Int64) - (i11.toInt64)))) :
    ∃ (T' : State), Stand p l e R s m args below meth c T' locs cells slots ∧ T'.heap = h0 ∧
      ∀ target, Steps p.tables e below (T'.setTop (mkF m 139 (lv10 j0 j2 j4 j6 i8 i9 i10 i11 i12 i13 i14 i15 i16 i17 i18 ((9223372036854775807 : Int64) - (i11.toInt64))) [])) target → Steps p.tables e below (T0.setTop (mkF m 114 (lv9 j0 j2 j4 j6 i8 i9 i10 i11 i12 i13 i14 i15 i16 i17 i18) [])) target := by
  refine ⟨T0, X0, e0, fun target kt => ?_⟩
  show Steps p.tables e below (T0.setTop (mkF m 114 (lv9 j0 j2 j4 j6 i8 i9 i10 i11 i12 i13 i14 i15 i16 i17 i18) [])) _
  refine XS.lloadN X0.here hx rfl (hb hby at_114) rfl ?_
  show Steps p.tables e below (T0.setTop (mkF m 115 (lv9 j0 j2 j4 j6 i8 i9 i10 i11 i12 i13 i14 i15 i16 i17 i18) [(.long j0)])) _
  refine X0.ldc2Long hx hown (mvT hZ (hw _ (List.mem_of_getElem? (i := 0) rfl))) (g := (mkF m 115 (lv9 j0 j2 j4 j6 i8 i9 i10 i11 i12 i13 i14 i15 i16 i17 i18) [(.long j0)])) rfl (hb hby at_115) _ ?_
  show Steps p.tables e below (T0.setTop (mkF m 118 (lv9 j0 j2 j4 j6 i8 i9 i10 i11 i12 i13 i14 i15 i16 i17 i18) [(.long (9223372036854775807 : Int64)), (.long j0)])) _
  refine XS.iload X0.here hx rfl (hb hby at_118) rfl ?_
  show Steps p.tables e below (T0.setTop (mkF m 120 (lv9 j0 j2 j4 j6 i8 i9 i10 i11 i12 i13 i14 i15 i16 i17 i18) [(.int i11), (.long (9223372036854775807 : Int64)), (.long j0)])) _
  refine XS.i2l X0.here hx rfl (hb hby at_120) rfl ?_
  show Steps p.tables e below (T0.setTop (mkF m 121 (lv9 j0 j2 j4 j6 i8 i9 i10 i11 i12 i13 i14 i15 i16 i17 i18) [(.long (i11.toInt64)), (.long (9223372036854775807 : Int64)), (.long j0)])) _
  refine XS.lsub X0.here hx rfl (hb hby at_121) rfl ?_
  show Steps p.tables e below (T0.setTop (mkF m 122 (lv9 j0 j2 j4 j6 i8 i9 i10 i11 i12 i13 i14 i15 i16 i17 i18) [(.long ((9223372036854775807 : Int64) - (i11.toInt64))), (.long j0)])) _
  refine XS.lcmp X0.here hx rfl (hb hby at_122) rfl ?_
  show Steps p.tables e below (T0.setTop (mkF m 123 (lv9 j0 j2 j4 j6 i8 i9 i10 i11 i12 i13 i14 i15 i16 i17 i18) [(.int (lcmpW j0 ((9223372036854775807 : Int64) - (i11.toInt64))))])) _
  refine XS.ifNo X0.here hx rfl (hb hby at_123) rfl ((if0 _ _).trans (tlt hc123).2.2.2) ?_
  show Steps p.tables e below (T0.setTop (mkF m 126 (lv9 j0 j2 j4 j6 i8 i9 i10 i11 i12 i13 i14 i15 i16 i17 i18) [])) _
  refine X0.ldc2Long hx hown (mvT hZ (hw _ (List.mem_of_getElem? (i := 0) rfl))) (g := (mkF m 126 (lv9 j0 j2 j4 j6 i8 i9 i10 i11 i12 i13 i14 i15 i16 i17 i18) [])) rfl (hb hby at_126) _ ?_
  show Steps p.tables e below (T0.setTop (mkF m 129 (lv9 j0 j2 j4 j6 i8 i9 i10 i11 i12 i13 i14 i15 i16 i17 i18) [(.long (9223372036854775807 : Int64))])) _
  refine XS.iload X0.here hx rfl (hb hby at_129) rfl ?_
  show Steps p.tables e below (T0.setTop (mkF m 131 (lv9 j0 j2 j4 j6 i8 i9 i10 i11 i12 i13 i14 i15 i16 i17 i18) [(.int i11), (.long (9223372036854775807 : Int64))])) _
  refine XS.i2l X0.here hx rfl (hb hby at_131) rfl ?_
  show Steps p.tables e below (T0.setTop (mkF m 132 (lv9 j0 j2 j4 j6 i8 i9 i10 i11 i12 i13 i14 i15 i16 i17 i18) [(.long (i11.toInt64)), (.long (9223372036854775807 : Int64))])) _
  refine XS.lsub X0.here hx rfl (hb hby at_132) rfl ?_
  show Steps p.tables e below (T0.setTop (mkF m 133 (lv9 j0 j2 j4 j6 i8 i9 i10 i11 i12 i13 i14 i15 i16 i17 i18) [(.long ((9223372036854775807 : Int64) - (i11.toInt64)))])) _
  refine XS.goto X0.here hx rfl (pc0 := 133) (pc' := 137) rfl (hb hby at_133) (by decide) (by decide) ?_
  show Steps p.tables e below (T0.setTop (mkF m 137 (lv9 j0 j2 j4 j6 i8 i9 i10 i11 i12 i13 i14 i15 i16 i17 i18) [(.long ((9223372036854775807 : Int64) - (i11.toInt64)))])) _
  refine XS.lstore X0.here hx rfl (hb hby at_137) rfl (l' := (lv10 j0 j2 j4 j6 i8 i9 i10 i11 i12 i13 i14 i15 i16 i17 i18 ((9223372036854775807 : Int64) - (i11.toInt64)))) rfl ?_
  exact kt
set_option maxRecDepth 65536 in
set_option maxHeartbeats 40000000 in
theorem qGt {p : Program} {l : Launch} {e : Env} {R : Room} {s : State} {m : MethodId} {args : Array Value} {below : List Frame} {meth : Method} {c : Code} {T0 : State} {locs : List Loc} {cells slots : Nat} {Z : State} {a0 : Array Value} {h0 : Heap} (j0 : Int64) (j2 : Int64) (j4 : Int64) (j6 : Int64) (i8 : Int32) (i9 : Int32) (i10 : Int32) (i11 : Int32) (i12 : Int32) (i13 : Int32) (i14 : Int32) (i15 : Int32) (i16 : Int32) (i17 : Int32) (i18 : Int32)
    (X0 : Stand p l e R s m args below meth c T0 locs cells slots) (hx : p.tables.exec = Jvm.exec) (hZ : Z.Warmed39 s.vm) (hw : ∀ d ∈ tables_1, d.before a0 Z = true) (hby : c.code = code) (hml : c.maxLocals = 43) (hown : s.vm.findClass "com/example/fairjoin/fairjoin/operator/DirectKeysSlotPinLaw" = some m.cls) (e0 : T0.heap = h0) (hc123 : ¬ ((0 : Int32) < (lcmpW j0 ((9223372036854775807 : Int64) - (i11.toInt64))))) :
    ∃ (T' : State), Stand p l e R s m args below meth c T' locs cells slots ∧ T'.heap = h0 ∧
      ∀ target, Steps p.tables e below (T'.setTop (mkF m 139 (lv10 j0 j2 j4 j6 i8 i9 i10 i11 i12 i13 i14 i15 i16 i17 i18 j0) [])) target → Steps p.tables e below (T0.setTop (mkF m 114 (lv9 j0 j2 j4 j6 i8 i9 i10 i11 i12 i13 i14 i15 i16 i17 i18) [])) target := by
  refine ⟨T0, X0, e0, fun target kt => ?_⟩
  show Steps p.tables e below (T0.setTop (mkF m 114 (lv9 j0 j2 j4 j6 i8 i9 i10 i11 i12 i13 i14 i15 i16 i17 i18) [])) _
  refine XS.lloadN X0.here hx rfl (hb hby at_114) rfl ?_
  show Steps p.tables e below (T0.setTop (mkF m 115 (lv9 j0 j2 j4 j6 i8 i9 i10 i11 i12 i13 i14 i15 i16 i17 i18) [(.long j0)])) _
  refine X0.ldc2Long hx hown (mvT hZ (hw _ (List.mem_of_getElem? (i := 0) rfl))) (g := (mkF m 115 (lv9 j0 j2 j4 j6 i8 i9 i10 i11 i12 i13 i14 i15 i16 i17 i18) [(.long j0)])) rfl (hb hby at_115) _ ?_
  show Steps p.tables e below (T0.setTop (mkF m 118 (lv9 j0 j2 j4 j6 i8 i9 i10 i11 i12 i13 i14 i15 i16 i17 i18) [(.long (9223372036854775807 : Int64)), (.long j0)])) _
  refine XS.iload X0.here hx rfl (hb hby at_118) rfl ?_
  show Steps p.tables e below (T0.setTop (mkF m 120 (lv9 j0 j2 j4 j6 i8 i9 i10 i11 i12 i13 i14 i15 i16 i17 i18) [(.int i11), (.long (9223372036854775807 : Int64)), (.long j0)])) _
  refine XS.i2l X0.here hx rfl (hb hby at_120) rfl ?_
  show Steps p.tables e below (T0.setTop (mkF m 121 (lv9 j0 j2 j4 j6 i8 i9 i10 i11 i12 i13 i14 i15 i16 i17 i18) [(.long (i11.toInt64)), (.long (9223372036854775807 : Int64)), (.long j0)])) _
  refine XS.lsub X0.here hx rfl (hb hby at_121) rfl ?_
  show Steps p.tables e below (T0.setTop (mkF m 122 (lv9 j0 j2 j4 j6 i8 i9 i10 i11 i12 i13 i14 i15 i16 i17 i18) [(.long ((9223372036854775807 : Int64) - (i11.toInt64))), (.long j0)])) _
  refine XS.lcmp X0.here hx rfl (hb hby at_122) rfl ?_
  show Steps p.tables e below (T0.setTop (mkF m 123 (lv9 j0 j2 j4 j6 i8 i9 i10 i11 i12 i13 i14 i15 i16 i17 i18) [(.int (lcmpW j0 ((9223372036854775807 : Int64) - (i11.toInt64))))])) _
  refine XS.ifYes X0.here hx rfl (pc0 := 123) (pc' := 136) rfl (hb hby at_123) rfl ((if0 _ _).trans (flt hc123).2.2.2) (by decide) (by decide) ?_
  show Steps p.tables e below (T0.setTop (mkF m 136 (lv9 j0 j2 j4 j6 i8 i9 i10 i11 i12 i13 i14 i15 i16 i17 i18) [])) _
  refine XS.lloadN X0.here hx rfl (hb hby at_136) rfl ?_
  show Steps p.tables e below (T0.setTop (mkF m 137 (lv9 j0 j2 j4 j6 i8 i9 i10 i11 i12 i13 i14 i15 i16 i17 i18) [(.long j0)])) _
  refine XS.lstore X0.here hx rfl (hb hby at_137) rfl (l' := (lv10 j0 j2 j4 j6 i8 i9 i10 i11 i12 i13 i14 i15 i16 i17 i18 j0)) rfl ?_
  exact kt
set_option maxRecDepth 65536 in
set_option maxHeartbeats 40000000 in
theorem qG {R : Room} {cells slots : Nat} {p : Program} {l : Launch} {e : Env} {s : State} {m : MethodId} {args : Array Value} {below : List Frame} {meth : Method} {c : Code} {T0 : State} {locs : List Loc} {Z : State} {a0 : Array Value} {h0 : Heap} (j0 : Int64) (j2 : Int64) (j4 : Int64) (j6 : Int64) (i8 : Int32) (i9 : Int32) (i10 : Int32) (d : Nat) (hd : d ≤ 3) (i12 : Int32) (i13 : Int32) (i14 : Int32) (i15 : Int32) (i16 : Int32) (i17 : Int32) (i18 : Int32)
    (X0 : Stand p l e R s m args below meth c T0 locs cells slots) (hx : p.tables.exec = Jvm.exec) (hZ : Z.Warmed39 s.vm) (hw : ∀ d ∈ tables_1, d.before a0 Z = true) (hby : c.code = code) (hml : c.maxLocals = 43) (hown : s.vm.findClass "com/example/fairjoin/fairjoin/operator/DirectKeysSlotPinLaw" = some m.cls) (e0 : T0.heap = h0) :
    ∃ (v : Int64) (T' : State), v.toInt + (d : Int) ≤ 9223372036854775807 ∧ Stand p l e R s m args below meth c T' locs cells slots ∧ T'.heap = h0 ∧
      ∀ target, Steps p.tables e below (T'.setTop (mkF m 139 (lv10 j0 j2 j4 j6 i8 i9 i10 (Int32.ofNat d) i12 i13 i14 i15 i16 i17 i18 v) [])) target → Steps p.tables e below (T0.setTop (mkF m 114 (lv9 j0 j2 j4 j6 i8 i9 i10 (Int32.ofNat d) i12 i13 i14 i15 i16 i17 i18) [])) target := by
  by_cases hc : (0 : Int32) < (lcmpW j0 ((9223372036854775807 : Int64) - ((Int32.ofNat d).toInt64)))
  · obtain ⟨T1, X1, e1, st1⟩ := qGf j0 j2 j4 j6 i8 i9 i10 (Int32.ofNat d) i12 i13 i14 i15 i16 i17 i18 X0 hx hZ hw hby hml hown e0 hc
    exact ⟨_, T1, own_top d hd, X1, e1, st1⟩
  · obtain ⟨T1, X1, e1, st1⟩ := qGt j0 j2 j4 j6 i8 i9 i10 (Int32.ofNat d) i12 i13 i14 i15 i16 i17 i18 X0 hx hZ hw hby hml hown e0 hc
    exact ⟨_, T1, own_low _ d hd hc, X1, e1, st1⟩
set_option maxRecDepth 65536 in
set_option maxHeartbeats 40000000 in
theorem qH {p : Program} {l : Launch} {e : Env} {R : Room} {s : State} {m : MethodId} {args : Array Value} {below : List Frame} {meth : Method} {c : Code} {T0 : State} {locs : List Loc} {cells slots : Nat} {Z : State} {a0 : Array Value} {h0 : Heap} (j0 : Int64) (j2 : Int64) (j4 : Int64) (j6 : Int64) (i8 : Int32) (i9 : Int32) (i10 : Int32) (i11 : Int32) (i12 : Int32) (i13 : Int32) (i14 : Int32) (i15 : Int32) (i16 : Int32) (i17 : Int32) (i18 : Int32) (j19 : Int64)
    (X0 : Stand p l e R s m args below meth c T0 locs cells slots) (hx : p.tables.exec = Jvm.exec) (hZ : Z.Warmed39 s.vm) (hw : ∀ d ∈ tables_1, d.before a0 Z = true) (hby : c.code = code) (hml : c.maxLocals = 43) (hown : s.vm.findClass "com/example/fairjoin/fairjoin/operator/DirectKeysSlotPinLaw" = some m.cls) (e0 : T0.heap = h0) :
    ∃ (T' : State), Stand p l e R s m args below meth c T' locs cells slots ∧ T'.heap = h0 ∧
      ∀ target, Steps p.tables e below (T'.setTop (mkF m 147 (lv11 j0 j2 j4 j6 i8 i9 i10 i11 i12 i13 i14 i15 i16 i17 i18 j19 (j19 + (i11.toInt64))) [])) target → Steps p.tables e below (T0.setTop (mkF m 139 (lv10 j0 j2 j4 j6 i8 i9 i10 i11 i12 i13 i14 i15 i16 i17 i18 j19) [])) target := by
  refine ⟨T0, X0, e0, fun target kt => ?_⟩
  show Steps p.tables e below (T0.setTop (mkF m 139 (lv10 j0 j2 j4 j6 i8 i9 i10 i11 i12 i13 i14 i15 i16 i17 i18 j19) [])) _
  refine XS.lload X0.here hx rfl (hb hby at_139) rfl ?_
  show Steps p.tables e below (T0.setTop (mkF m 141 (lv10 j0 j2 j4 j6 i8 i9 i10 i11 i12 i13 i14 i15 i16 i17 i18 j19) [(.long j19)])) _
  refine XS.iload X0.here hx rfl (hb hby at_141) rfl ?_
  show Steps p.tables e below (T0.setTop (mkF m 143 (lv10 j0 j2 j4 j6 i8 i9 i10 i11 i12 i13 i14 i15 i16 i17 i18 j19) [(.int i11), (.long j19)])) _
  refine XS.i2l X0.here hx rfl (hb hby at_143) rfl ?_
  show Steps p.tables e below (T0.setTop (mkF m 144 (lv10 j0 j2 j4 j6 i8 i9 i10 i11 i12 i13 i14 i15 i16 i17 i18 j19) [(.long (i11.toInt64)), (.long j19)])) _
  refine XS.ladd X0.here hx rfl (hb hby at_144) rfl ?_
  show Steps p.tables e below (T0.setTop (mkF m 145 (lv10 j0 j2 j4 j6 i8 i9 i10 i11 i12 i13 i14 i15 i16 i17 i18 j19) [(.long (j19 + (i11.toInt64)))])) _
  refine XS.lstore X0.here hx rfl (hb hby at_145) rfl (l' := (lv11 j0 j2 j4 j6 i8 i9 i10 i11 i12 i13 i14 i15 i16 i17 i18 j19 (j19 + (i11.toInt64)))) rfl ?_
  exact kt
set_option maxRecDepth 65536 in
set_option maxHeartbeats 40000000 in
theorem qIf {p : Program} {l : Launch} {e : Env} {R : Room} {s : State} {m : MethodId} {args : Array Value} {below : List Frame} {meth : Method} {c : Code} {T0 : State} {locs : List Loc} {cells slots : Nat} {Z : State} {a0 : Array Value} {h0 : Heap} (j0 : Int64) (j2 : Int64) (j4 : Int64) (j6 : Int64) (i8 : Int32) (i9 : Int32) (i10 : Int32) (i11 : Int32) (i12 : Int32) (i13 : Int32) (i14 : Int32) (i15 : Int32) (i16 : Int32) (i17 : Int32) (i18 : Int32) (j19 : Int64) (j21 : Int64)
    (X0 : Stand p l e R s m args below meth c T0 locs cells slots) (hx : p.tables.exec = Jvm.exec) (hZ : Z.Warmed39 s.vm) (hw : ∀ d ∈ tables_1, d.before a0 Z = true) (hby : c.code = code) (hml : c.maxLocals = 43) (hown : s.vm.findClass "com/example/fairjoin/fairjoin/operator/DirectKeysSlotPinLaw" = some m.cls) (e0 : T0.heap = h0) (hc156 : (0 : Int32) < (lcmpW j2 ((9223372036854775807 : Int64) - (i12.toInt64)))) :
    ∃ (T' : State), Stand p l e R s m args below meth c T' locs cells slots ∧ T'.heap = h0 ∧
      ∀ target, Steps p.tables e below (T'.setTop (mkF m 172 (lv12 j0 j2 j4 j6 i8 i9 i10 i11 i12 i13 i14 i15 i16 i17 i18 j19 j21 ((9223372036854775807 : Int64) - (i12.toInt64))) [])) target → Steps p.tables e below (T0.setTop (mkF m 147 (lv11 j0 j2 j4 j6 i8 i9 i10 i11 i12 i13 i14 i15 i16 i17 i18 j19 j21) [])) target := by
  refine ⟨T0, X0, e0, fun target kt => ?_⟩
  show Steps p.tables e below (T0.setTop (mkF m 147 (lv11 j0 j2 j4 j6 i8 i9 i10 i11 i12 i13 i14 i15 i16 i17 i18 j19 j21) [])) _
  refine XS.lloadN X0.here hx rfl (hb hby at_147) rfl ?_
  show Steps p.tables e below (T0.setTop (mkF m 148 (lv11 j0 j2 j4 j6 i8 i9 i10 i11 i12 i13 i14 i15 i16 i17 i18 j19 j21) [(.long j2)])) _
  refine X0.ldc2Long hx hown (mvT hZ (hw _ (List.mem_of_getElem? (i := 0) rfl))) (g := (mkF m 148 (lv11 j0 j2 j4 j6 i8 i9 i10 i11 i12 i13 i14 i15 i16 i17 i18 j19 j21) [(.long j2)])) rfl (hb hby at_148) _ ?_
  show Steps p.tables e below (T0.setTop (mkF m 151 (lv11 j0 j2 j4 j6 i8 i9 i10 i11 i12 i13 i14 i15 i16 i17 i18 j19 j21) [(.long (9223372036854775807 : Int64)), (.long j2)])) _
  refine XS.iload X0.here hx rfl (hb hby at_151) rfl ?_
  show Steps p.tables e below (T0.setTop (mkF m 153 (lv11 j0 j2 j4 j6 i8 i9 i10 i11 i12 i13 i14 i15 i16 i17 i18 j19 j21) [(.int i12), (.long (9223372036854775807 : Int64)), (.long j2)])) _
  refine XS.i2l X0.here hx rfl (hb hby at_153) rfl ?_
  show Steps p.tables e below (T0.setTop (mkF m 154 (lv11 j0 j2 j4 j6 i8 i9 i10 i11 i12 i13 i14 i15 i16 i17 i18 j19 j21) [(.long (i12.toInt64)), (.long (9223372036854775807 : Int64)), (.long j2)])) _
  refine XS.lsub X0.here hx rfl (hb hby at_154) rfl ?_
  show Steps p.tables e below (T0.setTop (mkF m 155 (lv11 j0 j2 j4 j6 i8 i9 i10 i11 i12 i13 i14 i15 i16 i17 i18 j19 j21) [(.long ((9223372036854775807 : Int64) - (i12.toInt64))), (.long j2)])) _
  refine XS.lcmp X0.here hx rfl (hb hby at_155) rfl ?_
  show Steps p.tables e below (T0.setTop (mkF m 156 (lv11 j0 j2 j4 j6 i8 i9 i10 i11 i12 i13 i14 i15 i16 i17 i18 j19 j21) [(.int (lcmpW j2 ((9223372036854775807 : Int64) - (i12.toInt64))))])) _
  refine XS.ifNo X0.here hx rfl (hb hby at_156) rfl ((if0 _ _).trans (tlt hc156).2.2.2) ?_
  show Steps p.tables e below (T0.setTop (mkF m 159 (lv11 j0 j2 j4 j6 i8 i9 i10 i11 i12 i13 i14 i15 i16 i17 i18 j19 j21) [])) _
  refine X0.ldc2Long hx hown (mvT hZ (hw _ (List.mem_of_getElem? (i := 0) rfl))) (g := (mkF m 159 (lv11 j0 j2 j4 j6 i8 i9 i10 i11 i12 i13 i14 i15 i16 i17 i18 j19 j21) [])) rfl (hb hby at_159) _ ?_
  show Steps p.tables e below (T0.setTop (mkF m 162 (lv11 j0 j2 j4 j6 i8 i9 i10 i11 i12 i13 i14 i15 i16 i17 i18 j19 j21) [(.long (9223372036854775807 : Int64))])) _
  refine XS.iload X0.here hx rfl (hb hby at_162) rfl ?_
  show Steps p.tables e below (T0.setTop (mkF m 164 (lv11 j0 j2 j4 j6 i8 i9 i10 i11 i12 i13 i14 i15 i16 i17 i18 j19 j21) [(.int i12), (.long (9223372036854775807 : Int64))])) _
  refine XS.i2l X0.here hx rfl (hb hby at_164) rfl ?_
  show Steps p.tables e below (T0.setTop (mkF m 165 (lv11 j0 j2 j4 j6 i8 i9 i10 i11 i12 i13 i14 i15 i16 i17 i18 j19 j21) [(.long (i12.toInt64)), (.long (9223372036854775807 : Int64))])) _
  refine XS.lsub X0.here hx rfl (hb hby at_165) rfl ?_
  show Steps p.tables e below (T0.setTop (mkF m 166 (lv11 j0 j2 j4 j6 i8 i9 i10 i11 i12 i13 i14 i15 i16 i17 i18 j19 j21) [(.long ((9223372036854775807 : Int64) - (i12.toInt64)))])) _
  refine XS.goto X0.here hx rfl (pc0 := 166) (pc' := 170) rfl (hb hby at_166) (by decide) (by decide) ?_
  show Steps p.tables e below (T0.setTop (mkF m 170 (lv11 j0 j2 j4 j6 i8 i9 i10 i11 i12 i13 i14 i15 i16 i17 i18 j19 j21) [(.long ((9223372036854775807 : Int64) - (i12.toInt64)))])) _
  refine XS.lstore X0.here hx rfl (hb hby at_170) rfl (l' := (lv12 j0 j2 j4 j6 i8 i9 i10 i11 i12 i13 i14 i15 i16 i17 i18 j19 j21 ((9223372036854775807 : Int64) - (i12.toInt64)))) rfl ?_
  exact kt
set_option maxRecDepth 65536 in
set_option maxHeartbeats 40000000 in
theorem qIt {p : Program} {l : Launch} {e : Env} {R : Room} {s : State} {m : MethodId} {args : Array Value} {below : List Frame} {meth : Method} {c : Code} {T0 : State} {locs : List Loc} {cells slots : Nat} {Z : State} {a0 : Array Value} {h0 : Heap} (j0 : Int64) (j2 : Int64) (j4 : Int64) (j6 : Int64) (i8 : Int32) (i9 : Int32) (i10 : Int32) (i11 : Int32) (i12 : Int32) (i13 : Int32) (i14 : Int32) (i15 : Int32) (i16 : Int32) (i17 : Int32) (i18 : Int32) (j19 : Int64) (j21 : Int64)
    (X0 : Stand p l e R s m args below meth c T0 locs cells slots) (hx : p.tables.exec = Jvm.exec) (hZ : Z.Warmed39 s.vm) (hw : ∀ d ∈ tables_1, d.before a0 Z = true) (hby : c.code = code) (hml : c.maxLocals = 43) (hown : s.vm.findClass "com/example/fairjoin/fairjoin/operator/DirectKeysSlotPinLaw" = some m.cls) (e0 : T0.heap = h0) (hc156 : ¬ ((0 : Int32) < (lcmpW j2 ((9223372036854775807 : Int64) - (i12.toInt64))))) :
    ∃ (T' : State), Stand p l e R s m args below meth c T' locs cells slots ∧ T'.heap = h0 ∧
      ∀ target, Steps p.tables e below (T'.setTop (mkF m 172 (lv12 j0 j2 j4 j6 i8 i9 i10 i11 i12 i13 i14 i15 i16 i17 i18 j19 j21 j2) [])) target → Steps p.tables e below (T0.setTop (mkF m 147 (lv11 j0 j2 j4 j6 i8 i9 i10 i11 i12 i13 i14 i15 i16 i17 i18 j19 j21) [])) target := by
  refine ⟨T0, X0, e0, fun target kt => ?_⟩
  show Steps p.tables e below (T0.setTop (mkF m 147 (lv11 j0 j2 j4 j6 i8 i9 i10 i11 i12 i13 i14 i15 i16 i17 i18 j19 j21) [])) _
  refine XS.lloadN X0.here hx rfl (hb hby at_147) rfl ?_
  show Steps p.tables e below (T0.setTop (mkF m 148 (lv11 j0 j2 j4 j6 i8 i9 i10 i11 i12 i13 i14 i15 i16 i17 i18 j19 j21) [(.long j2)])) _
  refine X0.ldc2Long hx hown (mvT hZ (hw _ (List.mem_of_getElem? (i := 0) rfl))) (g := (mkF m 148 (lv11 j0 j2 j4 j6 i8 i9 i10 i11 i12 i13 i14 i15 i16 i17 i18 j19 j21) [(.long j2)])) rfl (hb hby at_148) _ ?_
  show Steps p.tables e below (T0.setTop (mkF m 151 (lv11 j0 j2 j4 j6 i8 i9 i10 i11 i12 i13 i14 i15 i16 i17 i18 j19 j21) [(.long (9223372036854775807 : Int64)), (.long j2)])) _
  refine XS.iload X0.here hx rfl (hb hby at_151) rfl ?_
  show Steps p.tables e below (T0.setTop (mkF m 153 (lv11 j0 j2 j4 j6 i8 i9 i10 i11 i12 i13 i14 i15 i16 i17 i18 j19 j21) [(.int i12), (.long (9223372036854775807 : Int64)), (.long j2)])) _
  refine XS.i2l X0.here hx rfl (hb hby at_153) rfl ?_
  show Steps p.tables e below (T0.setTop (mkF m 154 (lv11 j0 j2 j4 j6 i8 i9 i10 i11 i12 i13 i14 i15 i16 i17 i18 j19 j21) [(.long (i12.toInt64)), (.long (9223372036854775807 : Int64)), (.long j2)])) _
  refine XS.lsub X0.here hx rfl (hb hby at_154) rfl ?_
  show Steps p.tables e below (T0.setTop (mkF m 155 (lv11 j0 j2 j4 j6 i8 i9 i10 i11 i12 i13 i14 i15 i16 i17 i18 j19 j21) [(.long ((9223372036854775807 : Int64) - (i12.toInt64))), (.long j2)])) _
  refine XS.lcmp X0.here hx rfl (hb hby at_155) rfl ?_
  show Steps p.tables e below (T0.setTop (mkF m 156 (lv11 j0 j2 j4 j6 i8 i9 i10 i11 i12 i13 i14 i15 i16 i17 i18 j19 j21) [(.int (lcmpW j2 ((9223372036854775807 : Int64) - (i12.toInt64))))])) _
  refine XS.ifYes X0.here hx rfl (pc0 := 156) (pc' := 169) rfl (hb hby at_156) rfl ((if0 _ _).trans (flt hc156).2.2.2) (by decide) (by decide) ?_
  show Steps p.tables e below (T0.setTop (mkF m 169 (lv11 j0 j2 j4 j6 i8 i9 i10 i11 i12 i13 i14 i15 i16 i17 i18 j19 j21) [])) _
  refine XS.lloadN X0.here hx rfl (hb hby at_169) rfl ?_
  show Steps p.tables e below (T0.setTop (mkF m 170 (lv11 j0 j2 j4 j6 i8 i9 i10 i11 i12 i13 i14 i15 i16 i17 i18 j19 j21) [(.long j2)])) _
  refine XS.lstore X0.here hx rfl (hb hby at_170) rfl (l' := (lv12 j0 j2 j4 j6 i8 i9 i10 i11 i12 i13 i14 i15 i16 i17 i18 j19 j21 j2)) rfl ?_
  exact kt
set_option maxRecDepth 65536 in
set_option maxHeartbeats 40000000 in
theorem qI {R : Room} {cells slots : Nat} {p : Program} {l : Launch} {e : Env} {s : State} {m : MethodId} {args : Array Value} {below : List Frame} {meth : Method} {c : Code} {T0 : State} {locs : List Loc} {Z : State} {a0 : Array Value} {h0 : Heap} (j0 : Int64) (j2 : Int64) (j4 : Int64) (j6 : Int64) (i8 : Int32) (i9 : Int32) (i10 : Int32) (i11 : Int32) (d : Nat) (hd : d ≤ 3) (i13 : Int32) (i14 : Int32) (i15 : Int32) (i16 : Int32) (i17 : Int32) (i18 : Int32) (j19 : Int64) (j21 : Int64)
    (X0 : Stand p l e R s m args below meth c T0 locs cells slots) (hx : p.tables.exec = Jvm.exec) (hZ : Z.Warmed39 s.vm) (hw : ∀ d ∈ tables_1, d.before a0 Z = true) (hby : c.code = code) (hml : c.maxLocals = 43) (hown : s.vm.findClass "com/example/fairjoin/fairjoin/operator/DirectKeysSlotPinLaw" = some m.cls) (e0 : T0.heap = h0) :
    ∃ (v : Int64) (T' : State), v.toInt + (d : Int) ≤ 9223372036854775807 ∧ Stand p l e R s m args below meth c T' locs cells slots ∧ T'.heap = h0 ∧
      ∀ target, Steps p.tables e below (T'.setTop (mkF m 172 (lv12 j0 j2 j4 j6 i8 i9 i10 i11 (Int32.ofNat d) i13 i14 i15 i16 i17 i18 j19 j21 v) [])) target → Steps p.tables e below (T0.setTop (mkF m 147 (lv11 j0 j2 j4 j6 i8 i9 i10 i11 (Int32.ofNat d) i13 i14 i15 i16 i17 i18 j19 j21) [])) target := by
  by_cases hc : (0 : Int32) < (lcmpW j2 ((9223372036854775807 : Int64) - ((Int32.ofNat d).toInt64)))
  · obtain ⟨T1, X1, e1, st1⟩ := qIf j0 j2 j4 j6 i8 i9 i10 i11 (Int32.ofNat d) i13 i14 i15 i16 i17 i18 j19 j21 X0 hx hZ hw hby hml hown e0 hc
    exact ⟨_, T1, own_top d hd, X1, e1, st1⟩
  · obtain ⟨T1, X1, e1, st1⟩ := qIt j0 j2 j4 j6 i8 i9 i10 i11 (Int32.ofNat d) i13 i14 i15 i16 i17 i18 j19 j21 X0 hx hZ hw hby hml hown e0 hc
    exact ⟨_, T1, own_low _ d hd hc, X1, e1, st1⟩
set_option maxRecDepth 65536 in
set_option maxHeartbeats 40000000 in
theorem qJ {p : Program} {l : Launch} {e : Env} {R : Room} {s : State} {m : MethodId} {args : Array Value} {below : List Frame} {meth : Method} {c : Code} {T0 : State} {locs : List Loc} {cells slots : Nat} {Z : State} {a0 : Array Value} {h0 : Heap} (j0 : Int64) (j2 : Int64) (j4 : Int64) (j6 : Int64) (i8 : Int32) (i9 : Int32) (i10 : Int32) (i11 : Int32) (i12 : Int32) (i13 : Int32) (i14 : Int32) (i15 : Int32) (i16 : Int32) (i17 : Int32) (i18 : Int32) (j19 : Int64) (j21 : Int64) (j23 : Int64)
    (X0 : Stand p l e R s m args below meth c T0 locs cells slots) (hx : p.tables.exec = Jvm.exec) (hZ : Z.Warmed39 s.vm) (hw : ∀ d ∈ tables_1, d.before a0 Z = true) (hby : c.code = code) (hml : c.maxLocals = 43) (hown : s.vm.findClass "com/example/fairjoin/fairjoin/operator/DirectKeysSlotPinLaw" = some m.cls) (e0 : T0.heap = h0) :
    ∃ (T' : State), Stand p l e R s m args below meth c T' locs cells slots ∧ T'.heap = h0 ∧
      ∀ target, Steps p.tables e below (T'.setTop (mkF m 180 (lv13 j0 j2 j4 j6 i8 i9 i10 i11 i12 i13 i14 i15 i16 i17 i18 j19 j21 j23 (j23 + (i12.toInt64))) [])) target → Steps p.tables e below (T0.setTop (mkF m 172 (lv12 j0 j2 j4 j6 i8 i9 i10 i11 i12 i13 i14 i15 i16 i17 i18 j19 j21 j23) [])) target := by
  refine ⟨T0, X0, e0, fun target kt => ?_⟩
  show Steps p.tables e below (T0.setTop (mkF m 172 (lv12 j0 j2 j4 j6 i8 i9 i10 i11 i12 i13 i14 i15 i16 i17 i18 j19 j21 j23) [])) _
  refine XS.lload X0.here hx rfl (hb hby at_172) rfl ?_
  show Steps p.tables e below (T0.setTop (mkF m 174 (lv12 j0 j2 j4 j6 i8 i9 i10 i11 i12 i13 i14 i15 i16 i17 i18 j19 j21 j23) [(.long j23)])) _
  refine XS.iload X0.here hx rfl (hb hby at_174) rfl ?_
  show Steps p.tables e below (T0.setTop (mkF m 176 (lv12 j0 j2 j4 j6 i8 i9 i10 i11 i12 i13 i14 i15 i16 i17 i18 j19 j21 j23) [(.int i12), (.long j23)])) _
  refine XS.i2l X0.here hx rfl (hb hby at_176) rfl ?_
  show Steps p.tables e below (T0.setTop (mkF m 177 (lv12 j0 j2 j4 j6 i8 i9 i10 i11 i12 i13 i14 i15 i16 i17 i18 j19 j21 j23) [(.long (i12.toInt64)), (.long j23)])) _
  refine XS.ladd X0.here hx rfl (hb hby at_177) rfl ?_
  show Steps p.tables e below (T0.setTop (mkF m 178 (lv12 j0 j2 j4 j6 i8 i9 i10 i11 i12 i13 i14 i15 i16 i17 i18 j19 j21 j23) [(.long (j23 + (i12.toInt64)))])) _
  refine XS.lstore X0.here hx rfl (hb hby at_178) rfl (l' := (lv13 j0 j2 j4 j6 i8 i9 i10 i11 i12 i13 i14 i15 i16 i17 i18 j19 j21 j23 (j23 + (i12.toInt64)))) rfl ?_
  exact kt
set_option maxRecDepth 65536 in
set_option maxHeartbeats 40000000 in
theorem qKf {p : Program} {l : Launch} {e : Env} {R : Room} {s : State} {m : MethodId} {args : Array Value} {below : List Frame} {meth : Method} {c : Code} {T0 : State} {locs : List Loc} {cells slots : Nat} {Z : State} {a0 : Array Value} {h0 : Heap} (j0 : Int64) (j2 : Int64) (j4 : Int64) (j6 : Int64) (i8 : Int32) (i9 : Int32) (i10 : Int32) (i11 : Int32) (i12 : Int32) (i13 : Int32) (i14 : Int32) (i15 : Int32) (i16 : Int32) (i17 : Int32) (i18 : Int32) (j19 : Int64) (j21 : Int64) (j23 : Int64) (j25 : Int64)
    (X0 : Stand p l e R s m args below meth c T0 locs cells slots) (hx : p.tables.exec = Jvm.exec) (hZ : Z.Warmed39 s.vm) (hw : ∀ d ∈ tables_1, d.before a0 Z = true) (hby : c.code = code) (hml : c.maxLocals = 43) (hown : s.vm.findClass "com/example/fairjoin/fairjoin/operator/DirectKeysSlotPinLaw" = some m.cls) (e0 : T0.heap = h0) (hc182 : ¬ (i13 = (0 : Int32))) :
    ∃ (T' : State), Stand p l e R s m args below meth c T' locs cells slots ∧ T'.heap = h0 ∧
      ∀ target, Steps p.tables e below (T'.setTop (mkF m 198 (lv14 j0 j2 j4 j6 i8 i9 i10 i11 i12 i13 i14 i15 i16 i17 i18 j19 j21 j23 j25 j4) [])) target → Steps p.tables e below (T0.setTop (mkF m 180 (lv13 j0 j2 j4 j6 i8 i9 i10 i11 i12 i13 i14 i15 i16 i17 i18 j19 j21 j23 j25) [])) target := by
  refine ⟨T0, X0, e0, fun target kt => ?_⟩
  show Steps p.tables e below (T0.setTop (mkF m 180 (lv13 j0 j2 j4 j6 i8 i9 i10 i11 i12 i13 i14 i15 i16 i17 i18 j19 j21 j23 j25) [])) _
  refine XS.iload X0.here hx rfl (hb hby at_180) rfl ?_
  show Steps p.tables e below (T0.setTop (mkF m 182 (lv13 j0 j2 j4 j6 i8 i9 i10 i11 i12 i13 i14 i15 i16 i17 i18 j19 j21 j23 j25) [(.int i13)])) _
  refine XS.ifNo X0.here hx rfl (hb hby at_182) rfl ((if0 _ _).trans (feq hc182).1) ?_
  show Steps p.tables e below (T0.setTop (mkF m 185 (lv13 j0 j2 j4 j6 i8 i9 i10 i11 i12 i13 i14 i15 i16 i17 i18 j19 j21 j23 j25) [])) _
  refine XS.lload X0.here hx rfl (hb hby at_185) rfl ?_
  show Steps p.tables e below (T0.setTop (mkF m 187 (lv13 j0 j2 j4 j6 i8 i9 i10 i11 i12 i13 i14 i15 i16 i17 i18 j19 j21 j23 j25) [(.long j4)])) _
  refine XS.goto X0.here hx rfl (pc0 := 187) (pc' := 196) rfl (hb hby at_187) (by decide) (by decide) ?_
  show Steps p.tables e below (T0.setTop (mkF m 196 (lv13 j0 j2 j4 j6 i8 i9 i10 i11 i12 i13 i14 i15 i16 i17 i18 j19 j21 j23 j25) [(.long j4)])) _
  refine XS.lstore X0.here hx rfl (hb hby at_196) rfl (l' := (lv14 j0 j2 j4 j6 i8 i9 i10 i11 i12 i13 i14 i15 i16 i17 i18 j19 j21 j23 j25 j4)) rfl ?_
  exact kt
set_option maxRecDepth 65536 in
set_option maxHeartbeats 40000000 in
theorem qKt {p : Program} {l : Launch} {e : Env} {R : Room} {s : State} {m : MethodId} {args : Array Value} {below : List Frame} {meth : Method} {c : Code} {T0 : State} {locs : List Loc} {cells slots : Nat} {Z : State} {a0 : Array Value} {h0 : Heap} (j0 : Int64) (j2 : Int64) (j4 : Int64) (j6 : Int64) (i8 : Int32) (i9 : Int32) (i10 : Int32) (i11 : Int32) (i12 : Int32) (i13 : Int32) (i14 : Int32) (i15 : Int32) (i16 : Int32) (i17 : Int32) (i18 : Int32) (j19 : Int64) (j21 : Int64) (j23 : Int64) (j25 : Int64)
    (X0 : Stand p l e R s m args below meth c T0 locs cells slots) (hx : p.tables.exec = Jvm.exec) (hZ : Z.Warmed39 s.vm) (hw : ∀ d ∈ tables_1, d.before a0 Z = true) (hby : c.code = code) (hml : c.maxLocals = 43) (hown : s.vm.findClass "com/example/fairjoin/fairjoin/operator/DirectKeysSlotPinLaw" = some m.cls) (e0 : T0.heap = h0) (hc182 : i13 = (0 : Int32)) :
    ∃ (T' : State), Stand p l e R s m args below meth c T' locs cells slots ∧ T'.heap = h0 ∧
      ∀ target, Steps p.tables e below (T'.setTop (mkF m 198 (lv14 j0 j2 j4 j6 i8 i9 i10 i11 i12 i13 i14 i15 i16 i17 i18 j19 j21 j23 j25 (j19 + (i16.toInt64))) [])) target → Steps p.tables e below (T0.setTop (mkF m 180 (lv13 j0 j2 j4 j6 i8 i9 i10 i11 i12 i13 i14 i15 i16 i17 i18 j19 j21 j23 j25) [])) target := by
  refine ⟨T0, X0, e0, fun target kt => ?_⟩
  show Steps p.tables e below (T0.setTop (mkF m 180 (lv13 j0 j2 j4 j6 i8 i9 i10 i11 i12 i13 i14 i15 i16 i17 i18 j19 j21 j23 j25) [])) _
  refine XS.iload X0.here hx rfl (hb hby at_180) rfl ?_
  show Steps p.tables e below (T0.setTop (mkF m 182 (lv13 j0 j2 j4 j6 i8 i9 i10 i11 i12 i13 i14 i15 i16 i17 i18 j19 j21 j23 j25) [(.int i13)])) _
  refine XS.ifYes X0.here hx rfl (pc0 := 182) (pc' := 190) rfl (hb hby at_182) rfl ((if0 _ _).trans (teq hc182).1) (by decide) (by decide) ?_
  show Steps p.tables e below (T0.setTop (mkF m 190 (lv13 j0 j2 j4 j6 i8 i9 i10 i11 i12 i13 i14 i15 i16 i17 i18 j19 j21 j23 j25) [])) _
  refine XS.lload X0.here hx rfl (hb hby at_190) rfl ?_
  show Steps p.tables e below (T0.setTop (mkF m 192 (lv13 j0 j2 j4 j6 i8 i9 i10 i11 i12 i13 i14 i15 i16 i17 i18 j19 j21 j23 j25) [(.long j19)])) _
  refine XS.iload X0.here hx rfl (hb hby at_192) rfl ?_
  show Steps p.tables e below (T0.setTop (mkF m 194 (lv13 j0 j2 j4 j6 i8 i9 i10 i11 i12 i13 i14 i15 i16 i17 i18 j19 j21 j23 j25) [(.int i16), (.long j19)])) _
  refine XS.i2l X0.here hx rfl (hb hby at_194) rfl ?_
  show Steps p.tables e below (T0.setTop (mkF m 195 (lv13 j0 j2 j4 j6 i8 i9 i10 i11 i12 i13 i14 i15 i16 i17 i18 j19 j21 j23 j25) [(.long (i16.toInt64)), (.long j19)])) _
  refine XS.ladd X0.here hx rfl (hb hby at_195) rfl ?_
  show Steps p.tables e below (T0.setTop (mkF m 196 (lv13 j0 j2 j4 j6 i8 i9 i10 i11 i12 i13 i14 i15 i16 i17 i18 j19 j21 j23 j25) [(.long (j19 + (i16.toInt64)))])) _
  refine XS.lstore X0.here hx rfl (hb hby at_196) rfl (l' := (lv14 j0 j2 j4 j6 i8 i9 i10 i11 i12 i13 i14 i15 i16 i17 i18 j19 j21 j23 j25 (j19 + (i16.toInt64)))) rfl ?_
  exact kt
set_option maxRecDepth 65536 in
set_option maxHeartbeats 40000000 in
theorem qK {R : Room} {cells slots : Nat} {p : Program} {l : Launch} {e : Env} {s : State} {m : MethodId} {args : Array Value} {below : List Frame} {meth : Method} {c : Code} {T0 : State} {locs : List Loc} {Z : State} {a0 : Array Value} {h0 : Heap} (j0 : Int64) (j2 : Int64) (j4 : Int64) (j6 : Int64) (i8 : Int32) (i9 : Int32) (i10 : Int32) (i11 : Int32) (i12 : Int32) (i13 : Int32) (i14 : Int32) (i15 : Int32) (i16 : Int32) (i17 : Int32) (i18 : Int32) (j19 : Int64) (j21 : Int64) (j23 : Int64) (j25 : Int64)
    (X0 : Stand p l e R s m args below meth c T0 locs cells slots) (hx : p.tables.exec = Jvm.exec) (hZ : Z.Warmed39 s.vm) (hw : ∀ d ∈ tables_1, d.before a0 Z = true) (hby : c.code = code) (hml : c.maxLocals = 43) (hown : s.vm.findClass "com/example/fairjoin/fairjoin/operator/DirectKeysSlotPinLaw" = some m.cls) (e0 : T0.heap = h0) :
    ∃ (v : Int64) (T' : State), Stand p l e R s m args below meth c T' locs cells slots ∧ T'.heap = h0 ∧
      ∀ target, Steps p.tables e below (T'.setTop (mkF m 198 (lv14 j0 j2 j4 j6 i8 i9 i10 i11 i12 i13 i14 i15 i16 i17 i18 j19 j21 j23 j25 v) [])) target → Steps p.tables e below (T0.setTop (mkF m 180 (lv13 j0 j2 j4 j6 i8 i9 i10 i11 i12 i13 i14 i15 i16 i17 i18 j19 j21 j23 j25) [])) target := by
  by_cases hc : i13 = (0 : Int32)
  · obtain ⟨T1, X1, e1, st1⟩ := qKt j0 j2 j4 j6 i8 i9 i10 i11 i12 i13 i14 i15 i16 i17 i18 j19 j21 j23 j25 X0 hx hZ hw hby hml hown e0 hc
    exact ⟨_, T1, X1, e1, st1⟩
  · obtain ⟨T1, X1, e1, st1⟩ := qKf j0 j2 j4 j6 i8 i9 i10 i11 i12 i13 i14 i15 i16 i17 i18 j19 j21 j23 j25 X0 hx hZ hw hby hml hown e0 hc
    exact ⟨_, T1, X1, e1, st1⟩
set_option maxRecDepth 65536 in
set_option maxHeartbeats 40000000 in
theorem qLf {p : Program} {l : Launch} {e : Env} {R : Room} {s : State} {m : MethodId} {args : Array Value} {below : List Frame} {meth : Method} {c : Code} {T0 : State} {locs : List Loc} {cells slots : Nat} {Z : State} {a0 : Array Value} {h0 : Heap} (j0 : Int64) (j2 : Int64) (j4 : Int64) (j6 : Int64) (i8 : Int32) (i9 : Int32) (i10 : Int32) (i11 : Int32) (i12 : Int32) (i13 : Int32) (i14 : Int32) (i15 : Int32) (i16 : Int32) (i17 : Int32) (i18 : Int32) (j19 : Int64) (j21 : Int64) (j23 : Int64) (j25 : Int64) (j27 : Int64)
    (X0 : Stand p l e R s m args below meth c T0 locs cells slots) (hx : p.tables.exec = Jvm.exec) (hZ : Z.Warmed39 s.vm) (hw : ∀ d ∈ tables_1, d.before a0 Z = true) (hby : c.code = code) (hml : c.maxLocals = 43) (hown : s.vm.findClass "com/example/fairjoin/fairjoin/operator/DirectKeysSlotPinLaw" = some m.cls) (e0 : T0.heap = h0) (hc200 : ¬ (i14 = (0 : Int32))) :
    ∃ (T' : State), Stand p l e R s m args below meth c T' locs cells slots ∧ T'.heap = h0 ∧
      ∀ target, Steps p.tables e below (T'.setTop (mkF m 216 (lv15 j0 j2 j4 j6 i8 i9 i10 i11 i12 i13 i14 i15 i16 i17 i18 j19 j21 j23 j25 j27 j6) [])) target → Steps p.tables e below (T0.setTop (mkF m 198 (lv14 j0 j2 j4 j6 i8 i9 i10 i11 i12 i13 i14 i15 i16 i17 i18 j19 j21 j23 j25 j27) [])) target := by
  refine ⟨T0, X0, e0, fun target kt => ?_⟩
  show Steps p.tables e below (T0.setTop (mkF m 198 (lv14 j0 j2 j4 j6 i8 i9 i10 i11 i12 i13 i14 i15 i16 i17 i18 j19 j21 j23 j25 j27) [])) _
  refine XS.iload X0.here hx rfl (hb hby at_198) rfl ?_
  show Steps p.tables e below (T0.setTop (mkF m 200 (lv14 j0 j2 j4 j6 i8 i9 i10 i11 i12 i13 i14 i15 i16 i17 i18 j19 j21 j23 j25 j27) [(.int i14)])) _
  refine XS.ifNo X0.here hx rfl (hb hby at_200) rfl ((if0 _ _).trans (feq hc200).1) ?_
  show Steps p.tables e below (T0.setTop (mkF m 203 (lv14 j0 j2 j4 j6 i8 i9 i10 i11 i12 i13 i14 i15 i16 i17 i18 j19 j21 j23 j25 j27) [])) _
  refine XS.lload X0.here hx rfl (hb hby at_203) rfl ?_
  show Steps p.tables e below (T0.setTop (mkF m 205 (lv14 j0 j2 j4 j6 i8 i9 i10 i11 i12 i13 i14 i15 i16 i17 i18 j19 j21 j23 j25 j27) [(.long j6)])) _
  refine XS.goto X0.here hx rfl (pc0 := 205) (pc' := 214) rfl (hb hby at_205) (by decide) (by decide) ?_
  show Steps p.tables e below (T0.setTop (mkF m 214 (lv14 j0 j2 j4 j6 i8 i9 i10 i11 i12 i13 i14 i15 i16 i17 i18 j19 j21 j23 j25 j27) [(.long j6)])) _
  refine XS.lstore X0.here hx rfl (hb hby at_214) rfl (l' := (lv15 j0 j2 j4 j6 i8 i9 i10 i11 i12 i13 i14 i15 i16 i17 i18 j19 j21 j23 j25 j27 j6)) rfl ?_
  exact kt
set_option maxRecDepth 65536 in
set_option maxHeartbeats 40000000 in
theorem qLt {p : Program} {l : Launch} {e : Env} {R : Room} {s : State} {m : MethodId} {args : Array Value} {below : List Frame} {meth : Method} {c : Code} {T0 : State} {locs : List Loc} {cells slots : Nat} {Z : State} {a0 : Array Value} {h0 : Heap} (j0 : Int64) (j2 : Int64) (j4 : Int64) (j6 : Int64) (i8 : Int32) (i9 : Int32) (i10 : Int32) (i11 : Int32) (i12 : Int32) (i13 : Int32) (i14 : Int32) (i15 : Int32) (i16 : Int32) (i17 : Int32) (i18 : Int32) (j19 : Int64) (j21 : Int64) (j23 : Int64) (j25 : Int64) (j27 : Int64)
    (X0 : Stand p l e R s m args below meth c T0 locs cells slots) (hx : p.tables.exec = Jvm.exec) (hZ : Z.Warmed39 s.vm) (hw : ∀ d ∈ tables_1, d.before a0 Z = true) (hby : c.code = code) (hml : c.maxLocals = 43) (hown : s.vm.findClass "com/example/fairjoin/fairjoin/operator/DirectKeysSlotPinLaw" = some m.cls) (e0 : T0.heap = h0) (hc200 : i14 = (0 : Int32)) :
    ∃ (T' : State), Stand p l e R s m args below meth c T' locs cells slots ∧ T'.heap = h0 ∧
      ∀ target, Steps p.tables e below (T'.setTop (mkF m 216 (lv15 j0 j2 j4 j6 i8 i9 i10 i11 i12 i13 i14 i15 i16 i17 i18 j19 j21 j23 j25 j27 (j23 + (i17.toInt64))) [])) target → Steps p.tables e below (T0.setTop (mkF m 198 (lv14 j0 j2 j4 j6 i8 i9 i10 i11 i12 i13 i14 i15 i16 i17 i18 j19 j21 j23 j25 j27) [])) target := by
  refine ⟨T0, X0, e0, fun target kt => ?_⟩
  show Steps p.tables e below (T0.setTop (mkF m 198 (lv14 j0 j2 j4 j6 i8 i9 i10 i11 i12 i13 i14 i15 i16 i17 i18 j19 j21 j23 j25 j27) [])) _
  refine XS.iload X0.here hx rfl (hb hby at_198) rfl ?_
  show Steps p.tables e below (T0.setTop (mkF m 200 (lv14 j0 j2 j4 j6 i8 i9 i10 i11 i12 i13 i14 i15 i16 i17 i18 j19 j21 j23 j25 j27) [(.int i14)])) _
  refine XS.ifYes X0.here hx rfl (pc0 := 200) (pc' := 208) rfl (hb hby at_200) rfl ((if0 _ _).trans (teq hc200).1) (by decide) (by decide) ?_
  show Steps p.tables e below (T0.setTop (mkF m 208 (lv14 j0 j2 j4 j6 i8 i9 i10 i11 i12 i13 i14 i15 i16 i17 i18 j19 j21 j23 j25 j27) [])) _
  refine XS.lload X0.here hx rfl (hb hby at_208) rfl ?_
  show Steps p.tables e below (T0.setTop (mkF m 210 (lv14 j0 j2 j4 j6 i8 i9 i10 i11 i12 i13 i14 i15 i16 i17 i18 j19 j21 j23 j25 j27) [(.long j23)])) _
  refine XS.iload X0.here hx rfl (hb hby at_210) rfl ?_
  show Steps p.tables e below (T0.setTop (mkF m 212 (lv14 j0 j2 j4 j6 i8 i9 i10 i11 i12 i13 i14 i15 i16 i17 i18 j19 j21 j23 j25 j27) [(.int i17), (.long j23)])) _
  refine XS.i2l X0.here hx rfl (hb hby at_212) rfl ?_
  show Steps p.tables e below (T0.setTop (mkF m 213 (lv14 j0 j2 j4 j6 i8 i9 i10 i11 i12 i13 i14 i15 i16 i17 i18 j19 j21 j23 j25 j27) [(.long (i17.toInt64)), (.long j23)])) _
  refine XS.ladd X0.here hx rfl (hb hby at_213) rfl ?_
  show Steps p.tables e below (T0.setTop (mkF m 214 (lv14 j0 j2 j4 j6 i8 i9 i10 i11 i12 i13 i14 i15 i16 i17 i18 j19 j21 j23 j25 j27) [(.long (j23 + (i17.toInt64)))])) _
  refine XS.lstore X0.here hx rfl (hb hby at_214) rfl (l' := (lv15 j0 j2 j4 j6 i8 i9 i10 i11 i12 i13 i14 i15 i16 i17 i18 j19 j21 j23 j25 j27 (j23 + (i17.toInt64)))) rfl ?_
  exact kt
set_option maxRecDepth 65536 in
set_option maxHeartbeats 40000000 in
theorem qL {R : Room} {cells slots : Nat} {p : Program} {l : Launch} {e : Env} {s : State} {m : MethodId} {args : Array Value} {below : List Frame} {meth : Method} {c : Code} {T0 : State} {locs : List Loc} {Z : State} {a0 : Array Value} {h0 : Heap} (j0 : Int64) (j2 : Int64) (j4 : Int64) (j6 : Int64) (i8 : Int32) (i9 : Int32) (i10 : Int32) (i11 : Int32) (i12 : Int32) (i13 : Int32) (i14 : Int32) (i15 : Int32) (i16 : Int32) (i17 : Int32) (i18 : Int32) (j19 : Int64) (j21 : Int64) (j23 : Int64) (j25 : Int64) (j27 : Int64)
    (X0 : Stand p l e R s m args below meth c T0 locs cells slots) (hx : p.tables.exec = Jvm.exec) (hZ : Z.Warmed39 s.vm) (hw : ∀ d ∈ tables_1, d.before a0 Z = true) (hby : c.code = code) (hml : c.maxLocals = 43) (hown : s.vm.findClass "com/example/fairjoin/fairjoin/operator/DirectKeysSlotPinLaw" = some m.cls) (e0 : T0.heap = h0) :
    ∃ (v : Int64) (T' : State), Stand p l e R s m args below meth c T' locs cells slots ∧ T'.heap = h0 ∧
      ∀ target, Steps p.tables e below (T'.setTop (mkF m 216 (lv15 j0 j2 j4 j6 i8 i9 i10 i11 i12 i13 i14 i15 i16 i17 i18 j19 j21 j23 j25 j27 v) [])) target → Steps p.tables e below (T0.setTop (mkF m 198 (lv14 j0 j2 j4 j6 i8 i9 i10 i11 i12 i13 i14 i15 i16 i17 i18 j19 j21 j23 j25 j27) [])) target := by
  by_cases hc : i14 = (0 : Int32)
  · obtain ⟨T1, X1, e1, st1⟩ := qLt j0 j2 j4 j6 i8 i9 i10 i11 i12 i13 i14 i15 i16 i17 i18 j19 j21 j23 j25 j27 X0 hx hZ hw hby hml hown e0 hc
    exact ⟨_, T1, X1, e1, st1⟩
  · obtain ⟨T1, X1, e1, st1⟩ := qLf j0 j2 j4 j6 i8 i9 i10 i11 i12 i13 i14 i15 i16 i17 i18 j19 j21 j23 j25 j27 X0 hx hZ hw hby hml hown e0 hc
    exact ⟨_, T1, X1, e1, st1⟩
set_option maxRecDepth 65536 in
set_option maxHeartbeats 40000000 in
theorem qMf {p : Program} {l : Launch} {e : Env} {R : Room} {s : State} {m : MethodId} {args : Array Value} {below : List Frame} {meth : Method} {c : Code} {T0 : State} {locs : List Loc} {cells slots : Nat} {Z : State} {a0 : Array Value} {h0 : Heap} (j0 : Int64) (j2 : Int64) (j4 : Int64) (j6 : Int64) (i8 : Int32) (i9 : Int32) (i10 : Int32) (i11 : Int32) (i12 : Int32) (i13 : Int32) (i14 : Int32) (i15 : Int32) (i16 : Int32) (i17 : Int32) (i18 : Int32) (j19 : Int64) (j21 : Int64) (j23 : Int64) (j25 : Int64) (j27 : Int64) (j29 : Int64)
    (X0 : Stand p l e R s m args below meth c T0 locs cells slots) (hx : p.tables.exec = Jvm.exec) (hZ : Z.Warmed39 s.vm) (hw : ∀ d ∈ tables_1, d.before a0 Z = true) (hby : c.code = code) (hml : c.maxLocals = 43) (hown : s.vm.findClass "com/example/fairjoin/fairjoin/operator/DirectKeysSlotPinLaw" = some m.cls) (e0 : T0.heap = h0) (hc218 : ¬ (i15 = (0 : Int32))) :
    ∃ (T' : State), Stand p l e R s m args below meth c T' locs cells slots ∧ T'.heap = h0 ∧
      ∀ target, Steps p.tables e below (T'.setTop (mkF m 229 (lv16 j0 j2 j4 j6 i8 i9 i10 i11 i12 i13 i14 i15 i16 i17 i18 j19 j21 j23 j25 j27 j29 j29) [])) target → Steps p.tables e below (T0.setTop (mkF m 216 (lv15 j0 j2 j4 j6 i8 i9 i10 i11 i12 i13 i14 i15 i16 i17 i18 j19 j21 j23 j25 j27 j29) [])) target := by
  refine ⟨T0, X0, e0, fun target kt => ?_⟩
  show Steps p.tables e below (T0.setTop (mkF m 216 (lv15 j0 j2 j4 j6 i8 i9 i10 i11 i12 i13 i14 i15 i16 i17 i18 j19 j21 j23 j25 j27 j29) [])) _
  refine XS.iload X0.here hx rfl (hb hby at_216) rfl ?_
  show Steps p.tables e below (T0.setTop (mkF m 218 (lv15 j0 j2 j4 j6 i8 i9 i10 i11 i12 i13 i14 i15 i16 i17 i18 j19 j21 j23 j25 j27 j29) [(.int i15)])) _
  refine XS.ifNo X0.here hx rfl (hb hby at_218) rfl ((if0 _ _).trans (feq hc218).1) ?_
  show Steps p.tables e below (T0.setTop (mkF m 221 (lv15 j0 j2 j4 j6 i8 i9 i10 i11 i12 i13 i14 i15 i16 i17 i18 j19 j21 j23 j25 j27 j29) [])) _
  refine XS.lload X0.here hx rfl (hb hby at_221) rfl ?_
  show Steps p.tables e below (T0.setTop (mkF m 223 (lv15 j0 j2 j4 j6 i8 i9 i10 i11 i12 i13 i14 i15 i16 i17 i18 j19 j21 j23 j25 j27 j29) [(.long j29)])) _
  refine XS.goto X0.here hx rfl (pc0 := 223) (pc' := 227) rfl (hb hby at_223) (by decide) (by decide) ?_
  show Steps p.tables e below (T0.setTop (mkF m 227 (lv15 j0 j2 j4 j6 i8 i9 i10 i11 i12 i13 i14 i15 i16 i17 i18 j19 j21 j23 j25 j27 j29) [(.long j29)])) _
  refine XS.lstore X0.here hx rfl (hb hby at_227) rfl (l' := (lv16 j0 j2 j4 j6 i8 i9 i10 i11 i12 i13 i14 i15 i16 i17 i18 j19 j21 j23 j25 j27 j29 j29)) rfl ?_
  exact kt
set_option maxRecDepth 65536 in
set_option maxHeartbeats 40000000 in
theorem qMt {p : Program} {l : Launch} {e : Env} {R : Room} {s : State} {m : MethodId} {args : Array Value} {below : List Frame} {meth : Method} {c : Code} {T0 : State} {locs : List Loc} {cells slots : Nat} {Z : State} {a0 : Array Value} {h0 : Heap} (j0 : Int64) (j2 : Int64) (j4 : Int64) (j6 : Int64) (i8 : Int32) (i9 : Int32) (i10 : Int32) (i11 : Int32) (i12 : Int32) (i13 : Int32) (i14 : Int32) (i15 : Int32) (i16 : Int32) (i17 : Int32) (i18 : Int32) (j19 : Int64) (j21 : Int64) (j23 : Int64) (j25 : Int64) (j27 : Int64) (j29 : Int64)
    (X0 : Stand p l e R s m args below meth c T0 locs cells slots) (hx : p.tables.exec = Jvm.exec) (hZ : Z.Warmed39 s.vm) (hw : ∀ d ∈ tables_1, d.before a0 Z = true) (hby : c.code = code) (hml : c.maxLocals = 43) (hown : s.vm.findClass "com/example/fairjoin/fairjoin/operator/DirectKeysSlotPinLaw" = some m.cls) (e0 : T0.heap = h0) (hc218 : i15 = (0 : Int32)) :
    ∃ (T' : State), Stand p l e R s m args below meth c T' locs cells slots ∧ T'.heap = h0 ∧
      ∀ target, Steps p.tables e below (T'.setTop (mkF m 229 (lv16 j0 j2 j4 j6 i8 i9 i10 i11 i12 i13 i14 i15 i16 i17 i18 j19 j21 j23 j25 j27 j29 j2) [])) target → Steps p.tables e below (T0.setTop (mkF m 216 (lv15 j0 j2 j4 j6 i8 i9 i10 i11 i12 i13 i14 i15 i16 i17 i18 j19 j21 j23 j25 j27 j29) [])) target := by
  refine ⟨T0, X0, e0, fun target kt => ?_⟩
  show Steps p.tables e below (T0.setTop (mkF m 216 (lv15 j0 j2 j4 j6 i8 i9 i10 i11 i12 i13 i14 i15 i16 i17 i18 j19 j21 j23 j25 j27 j29) [])) _
  refine XS.iload X0.here hx rfl (hb hby at_216) rfl ?_
  show Steps p.tables e below (T0.setTop (mkF m 218 (lv15 j0 j2 j4 j6 i8 i9 i10 i11 i12 i13 i14 i15 i16 i17 i18 j19 j21 j23 j25 j27 j29) [(.int i15)])) _
  refine XS.ifYes X0.here hx rfl (pc0 := 218) (pc' := 226) rfl (hb hby at_218) rfl ((if0 _ _).trans (teq hc218).1) (by decide) (by decide) ?_
  show Steps p.tables e below (T0.setTop (mkF m 226 (lv15 j0 j2 j4 j6 i8 i9 i10 i11 i12 i13 i14 i15 i16 i17 i18 j19 j21 j23 j25 j27 j29) [])) _
  refine XS.lloadN X0.here hx rfl (hb hby at_226) rfl ?_
  show Steps p.tables e below (T0.setTop (mkF m 227 (lv15 j0 j2 j4 j6 i8 i9 i10 i11 i12 i13 i14 i15 i16 i17 i18 j19 j21 j23 j25 j27 j29) [(.long j2)])) _
  refine XS.lstore X0.here hx rfl (hb hby at_227) rfl (l' := (lv16 j0 j2 j4 j6 i8 i9 i10 i11 i12 i13 i14 i15 i16 i17 i18 j19 j21 j23 j25 j27 j29 j2)) rfl ?_
  exact kt
set_option maxRecDepth 65536 in
set_option maxHeartbeats 40000000 in
theorem qM {R : Room} {cells slots : Nat} {p : Program} {l : Launch} {e : Env} {s : State} {m : MethodId} {args : Array Value} {below : List Frame} {meth : Method} {c : Code} {T0 : State} {locs : List Loc} {Z : State} {a0 : Array Value} {h0 : Heap} (j0 : Int64) (j2 : Int64) (j4 : Int64) (j6 : Int64) (i8 : Int32) (i9 : Int32) (i10 : Int32) (i11 : Int32) (i12 : Int32) (i13 : Int32) (i14 : Int32) (i15 : Int32) (i16 : Int32) (i17 : Int32) (i18 : Int32) (j19 : Int64) (j21 : Int64) (j23 : Int64) (j25 : Int64) (j27 : Int64) (j29 : Int64)
    (X0 : Stand p l e R s m args below meth c T0 locs cells slots) (hx : p.tables.exec = Jvm.exec) (hZ : Z.Warmed39 s.vm) (hw : ∀ d ∈ tables_1, d.before a0 Z = true) (hby : c.code = code) (hml : c.maxLocals = 43) (hown : s.vm.findClass "com/example/fairjoin/fairjoin/operator/DirectKeysSlotPinLaw" = some m.cls) (e0 : T0.heap = h0) :
    ∃ (v : Int64) (T' : State), Stand p l e R s m args below meth c T' locs cells slots ∧ T'.heap = h0 ∧
      ∀ target, Steps p.tables e below (T'.setTop (mkF m 229 (lv16 j0 j2 j4 j6 i8 i9 i10 i11 i12 i13 i14 i15 i16 i17 i18 j19 j21 j23 j25 j27 j29 v) [])) target → Steps p.tables e below (T0.setTop (mkF m 216 (lv15 j0 j2 j4 j6 i8 i9 i10 i11 i12 i13 i14 i15 i16 i17 i18 j19 j21 j23 j25 j27 j29) [])) target := by
  by_cases hc : i15 = (0 : Int32)
  · obtain ⟨T1, X1, e1, st1⟩ := qMt j0 j2 j4 j6 i8 i9 i10 i11 i12 i13 i14 i15 i16 i17 i18 j19 j21 j23 j25 j27 j29 X0 hx hZ hw hby hml hown e0 hc
    exact ⟨_, T1, X1, e1, st1⟩
  · obtain ⟨T1, X1, e1, st1⟩ := qMf j0 j2 j4 j6 i8 i9 i10 i11 i12 i13 i14 i15 i16 i17 i18 j19 j21 j23 j25 j27 j29 X0 hx hZ hw hby hml hown e0 hc
    exact ⟨_, T1, X1, e1, st1⟩
set_option maxRecDepth 65536 in
set_option maxHeartbeats 40000000 in
theorem qN {p : Program} {l : Launch} {e : Env} {s : State} {m : MethodId} {args : Array Value} {below : List Frame} {meth : Method} {c : Code} {T0 : State} {locs : List Loc} {Z : State} {a0 : Array Value} {h0 : Heap} (j0 : Int64) (j2 : Int64) (j4 : Int64) (j6 : Int64) (i8 : Int32) (i9 : Int32) (i10 : Int32) (d : Nat) (hd : d ≤ 3) (e' : Nat) (he' : e' ≤ 3) (i13 : Int32) (i14 : Int32) (i15 : Int32) (i16 : Int32) (i17 : Int32) (i18 : Int32) (j19 : Int64) (j23 : Int64) (j27 : Int64) (j29 : Int64) (j31 : Int64) (w1 : j19.toInt + (d : Int) ≤ 9223372036854775807) (w2 : j23.toInt + (e' : Int) ≤ 9223372036854775807) (n0 : Nat)
    (X0 : Stand p l e room_1 s m args below meth c T0 locs 0 0) (hx : p.tables.exec = Jvm.exec) (hZ : Z.Warmed39 s.vm) (hw : ∀ d ∈ tables_1, d.before a0 Z = true) (hby : c.code = code) (hml : c.maxLocals = 43) (hown : s.vm.findClass "com/example/fairjoin/fairjoin/operator/DirectKeysSlotPinLaw" = some m.cls) (e0 : T0.heap = h0) (N0 : Fr n0 locs) (Z0 : n0 ≤ h0.size) :
    ∃ (T' : State) (h' : Heap) (locs' : List Loc) (b7 b9 t10 : Addr), Stand p l e room_1 s m args below meth c T' locs' 3 13 ∧ T'.heap = h' ∧ Fr n0 locs' ∧ n0 ≤ h'.size ∧ n0 ≤ b9 ∧ b7 ≠ b9 ∧ DK Z h' b9 2 j19 (j19 + (Int32.ofNat d).toInt64) j23 (j23 + (Int32.ofNat e').toInt64) 0 0 0 1 (.ref t10) 0 .null ∧ OwA Z h' b7 .long 1 (fun _ => .long j19) ∧
      ∀ target, Steps p.tables e below (T'.setTop (mkF m 270 (lv17 j0 j2 j4 j6 i8 i9 i10 (Int32.ofNat d) (Int32.ofNat e') i13 i14 i15 i16 i17 i18 j19 (j19 + (Int32.ofNat d).toInt64) j23 (j23 + (Int32.ofNat e').toInt64) j27 j29 j31 b7 b9 (0 : Int32)) [])) target → Steps p.tables e below (T0.setTop (mkF m 229 (lv16 j0 j2 j4 j6 i8 i9 i10 (Int32.ofNat d) (Int32.ofNat e') i13 i14 i15 i16 i17 i18 j19 (j19 + (Int32.ofNat d).toInt64) j23 (j23 + (Int32.ofNat e').toInt64) j27 j29 j31) [])) target := by
  obtain ⟨T7, h7, k7, X7, e7, E7, A7, st7⟩ := newP X0 hx hZ (hw _ (List.mem_of_getElem? (i := 1) rfl)) e0 (g := (mkF m 230 (lv16 j0 j2 j4 j6 i8 i9 i10 (Int32.ofNat d) (Int32.ofNat e') i13 i14 i15 i16 i17 i18 j19 (j19 + (Int32.ofNat d).toInt64) j23 (j23 + (Int32.ofNat e').toInt64) j27 j29 j31) [(.int (1 : Int32))])) rfl (hb hby at_230) rfl (by decide) (cap := 1) (by decide) (by decide) (by decide) (by decide)
  obtain ⟨b7, g7⟩ : ∃ z, z = h0.size := ⟨_, rfl⟩
  rw [← g7] at A7 st7
  have V_b7 : Arv Z h7 b7 k7 .long (1 : Int32) [(.long (0 : Int64))] (.long (0 : Int64)) := (Arv.new A7 (by decide)).pad (pad_rep [] (.long (0 : Int64)) 1)
  have g_b7 : n0 ≤ b7 := Nat.le_trans Z0 (Nat.le_of_eq g7.symm)
  have sz_b7 : h0.size ≤ b7 := (Nat.le_trans (Keep.refl h0 []).1 (Nat.le_of_eq g7.symm))
  have K7 : Keep h0 h7 [] := (Keep.refl h0 []).ext E7
  obtain ⟨cl_b7_236, Ar_b7, q_b7, S_b7, N_b7, H_b7, G_b7⟩ := V_b7
  have hin236 : ¬ ((0 : Int32) < 0 ∨ cl_b7_236.slots.size ≤ ((0 : Int32)).toNatClampNeg) := inb_of S_b7 ⟨by decide, by decide⟩
  obtain ⟨T8, h8, X8, e8, W8, st8⟩ := stJ X7 hx hZ e7 Ar_b7 (j := (0 : Int32)) hin236 (g := (mkF m 236 (lv16 j0 j2 j4 j6 i8 i9 i10 (Int32.ofNat d) (Int32.ofNat e') i13 i14 i15 i16 i17 i18 j19 (j19 + (Int32.ofNat d).toInt64) j23 (j23 + (Int32.ofNat e').toInt64) j27 j29 j31) [(.long j19), (.int (0 : Int32)), (.ref b7), (.ref b7)])) rfl rfl (hb hby at_236)
  have V_b7_8 := Arv.set Ar_b7 q_b7 S_b7 N_b7 H_b7 G_b7 rfl W8 0 rfl (Nat.le_of_ble_eq_true rfl)
  have K8 : Keep h0 h8 [] := K7.wr W8 (Or.inr sz_b7)
  have N8 := Fr.snoc X8 N0 g_b7
  obtain ⟨T9, h9, X9, e9, E9, A9, D9, -, st9⟩ := newO X8 hx hZ hown (hw _ (List.mem_of_getElem? (i := 2) rfl)) (hw _ (List.mem_of_getElem? (i := 3) rfl)) (hw _ (List.mem_of_getElem? (i := 4) rfl)) e8 (g := (mkF m 239 (lv18 j0 j2 j4 j6 i8 i9 i10 (Int32.ofNat d) (Int32.ofNat e') i13 i14 i15 i16 i17 i18 j19 (j19 + (Int32.ofNat d).toInt64) j23 (j23 + (Int32.ofNat e').toInt64) j27 j29 j31 b7) [])) rfl (hb hby at_239) (by decide) (by decide)
  obtain ⟨b9, g9⟩ : ∃ z, z = h8.size := ⟨_, rfl⟩
  rw [← g9] at A9 D9 st9
  have F_leastFirst_b9 := D9 (Or.inl (hw _ (List.mem_of_getElem? (i := 13) rfl))) (ty := .long) (by decide)
  have F_greatestFirst_b9 := D9 (Or.inl (hw _ (List.mem_of_getElem? (i := 16) rfl))) (ty := .long) (by decide)
  have F_leastSecond_b9 := D9 (Or.inl (hw _ (List.mem_of_getElem? (i := 18) rfl))) (ty := .long) (by decide)
  have F_greatestSecond_b9 := D9 (Or.inl (hw _ (List.mem_of_getElem? (i := 20) rfl))) (ty := .long) (by decide)
  have F_secondSpan_b9 := D9 (Or.inl (hw _ (List.mem_of_getElem? (i := 22) rfl))) (ty := .long) (by decide)
  have F_numbers_b9 := D9 (Or.inl (hw _ (List.mem_of_getElem? (i := 25) rfl))) (ty := (.array .int)) (by decide)
  have F_width_b9 := D9 (Or.inr (hw _ (List.mem_of_getElem? (i := 27) rfl))) (ty := .int) (by decide)
  have F_byFirst_b9 := D9 (Or.inl (hw _ (List.mem_of_getElem? (i := 68) rfl))) (ty := .boolean) (by decide)
  have F_firstBase_b9 := D9 (Or.inl (hw _ (List.mem_of_getElem? (i := 70) rfl))) (ty := .long) (by decide)
  have F_firstSpan_b9 := D9 (Or.inl (hw _ (List.mem_of_getElem? (i := 72) rfl))) (ty := .long) (by decide)
  have F_secondBase_b9 := D9 (Or.inl (hw _ (List.mem_of_getElem? (i := 74) rfl))) (ty := .long) (by decide)
  have F_seconds_b9 := D9 (Or.inl (hw _ (List.mem_of_getElem? (i := 76) rfl))) (ty := (.array .long)) (by decide)
  have g_b9 : n0 ≤ b9 := Nat.le_trans (Nat.le_trans (Nat.le_trans Z0 E7.1) (Keep.of_wr W8).1) (Nat.le_of_eq g9.symm)
  have sz_b9 : h0.size ≤ b9 := (Nat.le_trans K8.1 (Nat.le_of_eq g9.symm))
  have Z9 : n0 ≤ h9.size := Nat.le_trans (Nat.le_trans Z0 K8.1) E9.1
  have B8 : OwA Z h8 b7 .long 1 (fun _ => .long j19) := by
    obtain ⟨cl_b7, Ar_b7, q_b7, S_b7, N_b7, H_b7, G_b7⟩ := V_b7_8
    refine ⟨cl_b7, Ar_b7, S_b7, fun j hj => ?_⟩
    rw [H_b7 j (by rw [S_b7]; exact hj)]
    have hj' : j = 0 := by omega
    subst hj'; rfl
  have hne79 : b7 ≠ b9 := fun u => by
    have q := owa_lt B8
    rw [u, g9] at q; exact Nat.lt_irrefl _ q
  have D9' : DK Z h9 b9 0 0 0 0 0 0 0 0 0 .null 0 .null := ⟨A9, F_width_b9, F_leastFirst_b9, F_greatestFirst_b9, F_leastSecond_b9, F_greatestSecond_b9, F_firstBase_b9, F_firstSpan_b9, F_secondBase_b9, F_secondSpan_b9, F_numbers_b9, F_byFirst_b9, F_seconds_b9⟩
  obtain ⟨_, _, ⟨T10, L10, k10, n10⟩, -, X10, ⟨Lc10, hQ10, l10, y10, z10⟩, st10⟩ := X9.specialBack hx (y := (⟨"com/example/fairjoin/fairjoin/operator/DirectKeys", "<init>", "(I)V"⟩ : MethodName)) rfl hown (mvT hZ (hw _ (List.mem_of_getElem? (i := 5) rfl))) (mvT hZ (hw _ (List.mem_of_getElem? (i := 6) rfl))) (mvT hZ (hw _ (List.mem_of_getElem? (i := 7) rfl))) (by decide) (backOf (W := 1) (rm1 l Z a0 hw [] b9 (2 : Int32) h9 n0 Z9 g_b9 D9') hZ (hw _ (List.mem_of_getElem? (i := 7) rfl)) (hw _ (List.mem_of_getElem? (i := 4) rfl)) (by decide) (by decide)) (g := (mkF m 244 (lv18 j0 j2 j4 j6 i8 i9 i10 (Int32.ofNat d) (Int32.ofNat e') i13 i14 i15 i16 i17 i18 j19 (j19 + (Int32.ofNat d).toInt64) j23 (j23 + (Int32.ofNat e').toInt64) j27 j29 j31 b7) [(.int (2 : Int32)), (.ref b9), (.ref b9)])) rfl (by rw [hml]; rfl) (Steps.refl _) (a := b9) (argsL := [(.int (2 : Int32))]) (rest := [(.ref b9)]) (lenOf pd_0_0 rfl) rfl (by show 2 * 0 + _ ≤ _; exact Nat.le_of_eq rfl) (hb hby at_244) (fun _ _ => ⟨rfl, e9, (by decide : 2 + 1 ≤ _), (by decide : 13 + 0 ≤ _)⟩)
  dsimp only [Pt.U, Pt.locs, Pt.cells, Pt.slots] at X10 l10 y10 z10 st10 hQ10
  subst l10 y10 z10
  obtain ⟨rfl, N10q, K10q, t10, D10⟩ := hQ10
  have Z10 : n0 ≤ T10.heap.size := Nat.le_trans Z9 K10q.1
  have N10 := Fr.app N8 N10q
  obtain ⟨cq11, kq11, q11a, q11b, q11c⟩ := isOf hZ rfl D10.1
  obtain ⟨_, _, ⟨T11, L11, k11, n11⟩, -, X11, ⟨Lc11, hQ11, l11, y11, z11⟩, st11⟩ := X10.virtualBack hx (y := (⟨"com/example/fairjoin/fairjoin/operator/DirectKeys", "held", "(JJ)V"⟩ : MethodName)) (z := (⟨"com/example/fairjoin/fairjoin/operator/DirectKeys", "held", "(JJ)V"⟩ : MethodName)) hown (mvT hZ (hw _ (List.mem_of_getElem? (i := 28) rfl))) (mvT hZ (hw _ (List.mem_of_getElem? (i := 29) rfl))) (notFace_of_selects (args := #[]) (mvT hZ (hw _ (List.mem_of_getElem? (i := 31) rfl)))) (mvT hZ (hw _ (List.mem_of_getElem? (i := 31) rfl))) (mvT hZ (hw _ (List.mem_of_getElem? (i := 30) rfl))) (by decide) (backOf (W := 0) (rm3 l Z a0 hw [] b9 (j19 + (Int32.ofNat d).toInt64) (j23 + (Int32.ofNat e').toInt64) (2 : Int32) (9223372036854775807 : Int64) (-9223372036854775808 : Int64) (9223372036854775807 : Int64) (-9223372036854775808 : Int64) 0 0 0 1 (.ref t10) 0 .null T10.heap n0 Z10 g_b9 D10) hZ (hw _ (List.mem_of_getElem? (i := 32) rfl)) (hw _ (List.mem_of_getElem? (i := 4) rfl)) (by decide) (by decide)) q11a q11c (g := (mkF m 255 (lv19 j0 j2 j4 j6 i8 i9 i10 (Int32.ofNat d) (Int32.ofNat e') i13 i14 i15 i16 i17 i18 j19 (j19 + (Int32.ofNat d).toInt64) j23 (j23 + (Int32.ofNat e').toInt64) j27 j29 j31 b7 b9) [(.long (j23 + (Int32.ofNat e').toInt64)), (.long (j19 + (Int32.ofNat d).toInt64)), (.ref b9)])) rfl (by rw [hml]; rfl) (Steps.refl _) (argsL := [(.long (j19 + (Int32.ofNat d).toInt64)), (.long (j23 + (Int32.ofNat e').toInt64))]) (rest := []) (lenOf pd_0_2 rfl) rfl (by show 2 * 0 + _ ≤ _; exact Nat.le_of_eq rfl) (hb hby at_255) (fun _ _ => ⟨rfl, rfl, (by decide : 3 + 0 ≤ _), (by decide : 13 + 0 ≤ _)⟩)
  dsimp only [Pt.U, Pt.locs, Pt.cells, Pt.slots] at X11 l11 y11 z11 st11 hQ11
  subst l11 y11 z11
  obtain ⟨rfl, N11q, K11q, D11⟩ := hQ11
  have Z11 : n0 ≤ T11.heap.size := Nat.le_trans Z10 K11q.1
  have N11 := Fr.app N10 N11q
  obtain ⟨cq12, kq12, q12a, q12b, q12c⟩ := isOf hZ rfl D11.1
  obtain ⟨_, _, ⟨T12, L12, k12, n12⟩, -, X12, ⟨Lc12, hQ12, l12, y12, z12⟩, st12⟩ := X11.virtualBack hx (y := (⟨"com/example/fairjoin/fairjoin/operator/DirectKeys", "held", "(JJ)V"⟩ : MethodName)) (z := (⟨"com/example/fairjoin/fairjoin/operator/DirectKeys", "held", "(JJ)V"⟩ : MethodName)) hown (mvT hZ (hw _ (List.mem_of_getElem? (i := 28) rfl))) (mvT hZ (hw _ (List.mem_of_getElem? (i := 29) rfl))) (notFace_of_selects (args := #[]) (mvT hZ (hw _ (List.mem_of_getElem? (i := 31) rfl)))) (mvT hZ (hw _ (List.mem_of_getElem? (i := 31) rfl))) (mvT hZ (hw _ (List.mem_of_getElem? (i := 30) rfl))) (by decide) (backOf (W := 0) (rm3 l Z a0 hw [] b9 j19 j23 (2 : Int32) (own_mn (9223372036854775807 : Int64) (j19 + (Int32.ofNat d).toInt64)) (own_mx (-9223372036854775808 : Int64) (j19 + (Int32.ofNat d).toInt64)) (own_mn (9223372036854775807 : Int64) (j23 + (Int32.ofNat e').toInt64)) (own_mx (-9223372036854775808 : Int64) (j23 + (Int32.ofNat e').toInt64)) 0 0 0 1 (.ref t10) 0 .null T11.heap n0 Z11 g_b9 D11) hZ (hw _ (List.mem_of_getElem? (i := 32) rfl)) (hw _ (List.mem_of_getElem? (i := 4) rfl)) (by decide) (by decide)) q12a q12c (g := (mkF m 264 (lv19 j0 j2 j4 j6 i8 i9 i10 (Int32.ofNat d) (Int32.ofNat e') i13 i14 i15 i16 i17 i18 j19 (j19 + (Int32.ofNat d).toInt64) j23 (j23 + (Int32.ofNat e').toInt64) j27 j29 j31 b7 b9) [(.long j23), (.long j19), (.ref b9)])) rfl (by rw [hml]; rfl) (Steps.refl _) (argsL := [(.long j19), (.long j23)]) (rest := []) (lenOf pd_0_2 rfl) rfl (by show 2 * 0 + _ ≤ _; exact Nat.le_of_eq rfl) (hb hby at_264) (fun _ _ => ⟨rfl, rfl, (by decide : 3 + 0 ≤ _), (by decide : 13 + 0 ≤ _)⟩)
  dsimp only [Pt.U, Pt.locs, Pt.cells, Pt.slots] at X12 l12 y12 z12 st12 hQ12
  subst l12 y12 z12
  obtain ⟨rfl, N12q, K12q, D12⟩ := hQ12
  have Z12 : n0 ≤ T12.heap.size := Nat.le_trans Z11 K12q.1
  have B12 := owa_keep (owa_keep (owa_keep (owa_ext B8 E9) K10q (by simpa using hne79)) K11q (by simpa using hne79)) K12q (by simpa using hne79)
  have N12 := Fr.app N11 N12q
  rw [own_bmin _ d hd w1, own_bmax _ d hd w1, own_bmin _ e' he' w2, own_bmax _ e' he' w2] at D12
  refine ⟨T12, _, _, b7, b9, t10, X12, rfl, N12, Z12, g_b9, hne79, D12, B12, fun target kt => ?_⟩
  show Steps p.tables e below (T0.setTop (mkF m 229 (lv16 j0 j2 j4 j6 i8 i9 i10 (Int32.ofNat d) (Int32.ofNat e') i13 i14 i15 i16 i17 i18 j19 (j19 + (Int32.ofNat d).toInt64) j23 (j23 + (Int32.ofNat e').toInt64) j27 j29 j31) [])) _
  refine XS.iconst X0.here hx rfl (hb hby at_229) ?_
  show Steps p.tables e below (T0.setTop (mkF m 230 (lv16 j0 j2 j4 j6 i8 i9 i10 (Int32.ofNat d) (Int32.ofNat e') i13 i14 i15 i16 i17 i18 j19 (j19 + (Int32.ofNat d).toInt64) j23 (j23 + (Int32.ofNat e').toInt64) j27 j29 j31) [(.int (1 : Int32))])) _
  refine st7 _ ?_
  show Steps p.tables e below (T7.setTop (mkF m 232 (lv16 j0 j2 j4 j6 i8 i9 i10 (Int32.ofNat d) (Int32.ofNat e') i13 i14 i15 i16 i17 i18 j19 (j19 + (Int32.ofNat d).toInt64) j23 (j23 + (Int32.ofNat e').toInt64) j27 j29 j31) [(.ref b7)])) _
  refine XS.dup X7.here hx rfl (hb hby at_232) rfl rfl ?_
  show Steps p.tables e below (T7.setTop (mkF m 233 (lv16 j0 j2 j4 j6 i8 i9 i10 (Int32.ofNat d) (Int32.ofNat e') i13 i14 i15 i16 i17 i18 j19 (j19 + (Int32.ofNat d).toInt64) j23 (j23 + (Int32.ofNat e').toInt64) j27 j29 j31) [(.ref b7), (.ref b7)])) _
  refine XS.iconst X7.here hx rfl (hb hby at_233) ?_
  show Steps p.tables e below (T7.setTop (mkF m 234 (lv16 j0 j2 j4 j6 i8 i9 i10 (Int32.ofNat d) (Int32.ofNat e') i13 i14 i15 i16 i17 i18 j19 (j19 + (Int32.ofNat d).toInt64) j23 (j23 + (Int32.ofNat e').toInt64) j27 j29 j31) [(.int (0 : Int32)), (.ref b7), (.ref b7)])) _
  refine XS.lload X7.here hx rfl (hb hby at_234) rfl ?_
  show Steps p.tables e below (T7.setTop (mkF m 236 (lv16 j0 j2 j4 j6 i8 i9 i10 (Int32.ofNat d) (Int32.ofNat e') i13 i14 i15 i16 i17 i18 j19 (j19 + (Int32.ofNat d).toInt64) j23 (j23 + (Int32.ofNat e').toInt64) j27 j29 j31) [(.long j19), (.int (0 : Int32)), (.ref b7), (.ref b7)])) _
  refine st8 _ ?_
  show Steps p.tables e below (T8.setTop (mkF m 237 (lv16 j0 j2 j4 j6 i8 i9 i10 (Int32.ofNat d) (Int32.ofNat e') i13 i14 i15 i16 i17 i18 j19 (j19 + (Int32.ofNat d).toInt64) j23 (j23 + (Int32.ofNat e').toInt64) j27 j29 j31) [(.ref b7)])) _
  refine XS.astore X8.here hx rfl (hb hby at_237) rfl rfl (l' := (lv18 j0 j2 j4 j6 i8 i9 i10 (Int32.ofNat d) (Int32.ofNat e') i13 i14 i15 i16 i17 i18 j19 (j19 + (Int32.ofNat d).toInt64) j23 (j23 + (Int32.ofNat e').toInt64) j27 j29 j31 b7)) rfl ?_
  show Steps p.tables e below (T8.setTop (mkF m 239 (lv18 j0 j2 j4 j6 i8 i9 i10 (Int32.ofNat d) (Int32.ofNat e') i13 i14 i15 i16 i17 i18 j19 (j19 + (Int32.ofNat d).toInt64) j23 (j23 + (Int32.ofNat e').toInt64) j27 j29 j31 b7) [])) _
  refine st9 _ ?_
  show Steps p.tables e below (T9.setTop (mkF m 242 (lv18 j0 j2 j4 j6 i8 i9 i10 (Int32.ofNat d) (Int32.ofNat e') i13 i14 i15 i16 i17 i18 j19 (j19 + (Int32.ofNat d).toInt64) j23 (j23 + (Int32.ofNat e').toInt64) j27 j29 j31 b7) [(.ref b9)])) _
  refine XS.dup X9.here hx rfl (hb hby at_242) rfl rfl ?_
  show Steps p.tables e below (T9.setTop (mkF m 243 (lv18 j0 j2 j4 j6 i8 i9 i10 (Int32.ofNat d) (Int32.ofNat e') i13 i14 i15 i16 i17 i18 j19 (j19 + (Int32.ofNat d).toInt64) j23 (j23 + (Int32.ofNat e').toInt64) j27 j29 j31 b7) [(.ref b9), (.ref b9)])) _
  refine XS.iconst X9.here hx rfl (hb hby at_243) ?_
  show Steps p.tables e below (T9.setTop (mkF m 244 (lv18 j0 j2 j4 j6 i8 i9 i10 (Int32.ofNat d) (Int32.ofNat e') i13 i14 i15 i16 i17 i18 j19 (j19 + (Int32.ofNat d).toInt64) j23 (j23 + (Int32.ofNat e').toInt64) j27 j29 j31 b7) [(.int (2 : Int32)), (.ref b9), (.ref b9)])) _
  refine st10.trans ?_
  show Steps p.tables e below (T10.setTop (mkF m 247 (lv18 j0 j2 j4 j6 i8 i9 i10 (Int32.ofNat d) (Int32.ofNat e') i13 i14 i15 i16 i17 i18 j19 (j19 + (Int32.ofNat d).toInt64) j23 (j23 + (Int32.ofNat e').toInt64) j27 j29 j31 b7) [(.ref b9)])) _
  refine XS.astore X10.here hx rfl (hb hby at_247) rfl rfl (l' := (lv19 j0 j2 j4 j6 i8 i9 i10 (Int32.ofNat d) (Int32.ofNat e') i13 i14 i15 i16 i17 i18 j19 (j19 + (Int32.ofNat d).toInt64) j23 (j23 + (Int32.ofNat e').toInt64) j27 j29 j31 b7 b9)) rfl ?_
  show Steps p.tables e below (T10.setTop (mkF m 249 (lv19 j0 j2 j4 j6 i8 i9 i10 (Int32.ofNat d) (Int32.ofNat e') i13 i14 i15 i16 i17 i18 j19 (j19 + (Int32.ofNat d).toInt64) j23 (j23 + (Int32.ofNat e').toInt64) j27 j29 j31 b7 b9) [])) _
  refine XS.aload X10.here hx rfl (hb hby at_249) rfl rfl ?_
  show Steps p.tables e below (T10.setTop (mkF m 251 (lv19 j0 j2 j4 j6 i8 i9 i10 (Int32.ofNat d) (Int32.ofNat e') i13 i14 i15 i16 i17 i18 j19 (j19 + (Int32.ofNat d).toInt64) j23 (j23 + (Int32.ofNat e').toInt64) j27 j29 j31 b7 b9) [(.ref b9)])) _
  refine XS.lload X10.here hx rfl (hb hby at_251) rfl ?_
  show Steps p.tables e below (T10.setTop (mkF m 253 (lv19 j0 j2 j4 j6 i8 i9 i10 (Int32.ofNat d) (Int32.ofNat e') i13 i14 i15 i16 i17 i18 j19 (j19 + (Int32.ofNat d).toInt64) j23 (j23 + (Int32.ofNat e').toInt64) j27 j29 j31 b7 b9) [(.long (j19 + (Int32.ofNat d).toInt64)), (.ref b9)])) _
  refine XS.lload X10.here hx rfl (hb hby at_253) rfl ?_
  show Steps p.tables e below (T10.setTop (mkF m 255 (lv19 j0 j2 j4 j6 i8 i9 i10 (Int32.ofNat d) (Int32.ofNat e') i13 i14 i15 i16 i17 i18 j19 (j19 + (Int32.ofNat d).toInt64) j23 (j23 + (Int32.ofNat e').toInt64) j27 j29 j31 b7 b9) [(.long (j23 + (Int32.ofNat e').toInt64)), (.long (j19 + (Int32.ofNat d).toInt64)), (.ref b9)])) _
  refine st11.trans ?_
  show Steps p.tables e below (T11.setTop (mkF m 258 (lv19 j0 j2 j4 j6 i8 i9 i10 (Int32.ofNat d) (Int32.ofNat e') i13 i14 i15 i16 i17 i18 j19 (j19 + (Int32.ofNat d).toInt64) j23 (j23 + (Int32.ofNat e').toInt64) j27 j29 j31 b7 b9) [])) _
  refine XS.aload X11.here hx rfl (hb hby at_258) rfl rfl ?_
  show Steps p.tables e below (T11.setTop (mkF m 260 (lv19 j0 j2 j4 j6 i8 i9 i10 (Int32.ofNat d) (Int32.ofNat e') i13 i14 i15 i16 i17 i18 j19 (j19 + (Int32.ofNat d).toInt64) j23 (j23 + (Int32.ofNat e').toInt64) j27 j29 j31 b7 b9) [(.ref b9)])) _
  refine XS.lload X11.here hx rfl (hb hby at_260) rfl ?_
  show Steps p.tables e below (T11.setTop (mkF m 262 (lv19 j0 j2 j4 j6 i8 i9 i10 (Int32.ofNat d) (Int32.ofNat e') i13 i14 i15 i16 i17 i18 j19 (j19 + (Int32.ofNat d).toInt64) j23 (j23 + (Int32.ofNat e').toInt64) j27 j29 j31 b7 b9) [(.long j19), (.ref b9)])) _
  refine XS.lload X11.here hx rfl (hb hby at_262) rfl ?_
  show Steps p.tables e below (T11.setTop (mkF m 264 (lv19 j0 j2 j4 j6 i8 i9 i10 (Int32.ofNat d) (Int32.ofNat e') i13 i14 i15 i16 i17 i18 j19 (j19 + (Int32.ofNat d).toInt64) j23 (j23 + (Int32.ofNat e').toInt64) j27 j29 j31 b7 b9) [(.long j23), (.long j19), (.ref b9)])) _
  refine st12.trans ?_
  show Steps p.tables e below (T12.setTop (mkF m 267 (lv19 j0 j2 j4 j6 i8 i9 i10 (Int32.ofNat d) (Int32.ofNat e') i13 i14 i15 i16 i17 i18 j19 (j19 + (Int32.ofNat d).toInt64) j23 (j23 + (Int32.ofNat e').toInt64) j27 j29 j31 b7 b9) [])) _
  refine XS.iconst X12.here hx rfl (hb hby at_267) ?_
  show Steps p.tables e below (T12.setTop (mkF m 268 (lv19 j0 j2 j4 j6 i8 i9 i10 (Int32.ofNat d) (Int32.ofNat e') i13 i14 i15 i16 i17 i18 j19 (j19 + (Int32.ofNat d).toInt64) j23 (j23 + (Int32.ofNat e').toInt64) j27 j29 j31 b7 b9) [(.int (0 : Int32))])) _
  refine XS.istore X12.here hx rfl (hb hby at_268) rfl (l' := (lv17 j0 j2 j4 j6 i8 i9 i10 (Int32.ofNat d) (Int32.ofNat e') i13 i14 i15 i16 i17 i18 j19 (j19 + (Int32.ofNat d).toInt64) j23 (j23 + (Int32.ofNat e').toInt64) j27 j29 j31 b7 b9 (0 : Int32))) rfl ?_
  exact kt
set_option maxRecDepth 65536 in
set_option maxHeartbeats 40000000 in
theorem sPa {p : Program} {l : Launch} {e : Env} {R : Room} {s : State} {m : MethodId} {args : Array Value} {below : List Frame} {meth : Method} {c : Code} {T0 : State} {locs : List Loc} {cells slots : Nat} {Z : State} {a0 : Array Value} {h0 : Heap} (j0 : Int64) (j2 : Int64) (j4 : Int64) (j6 : Int64) (i8 : Int32) (i9 : Int32) (i10 : Int32) (i11 : Int32) (i12 : Int32) (i13 : Int32) (i14 : Int32) (i15 : Int32) (i16 : Int32) (i17 : Int32) (i18 : Int32) (j19 : Int64) (j21 : Int64) (j23 : Int64) (j25 : Int64) (j27 : Int64) (j29 : Int64) (j31 : Int64) (o33 : Addr) (o34 : Addr) (i35 : Int32)
    (X0 : Stand p l e R s m args below meth c T0 locs cells slots) (hx : p.tables.exec = Jvm.exec) (hZ : Z.Warmed39 s.vm) (hw : ∀ d ∈ tables_1, d.before a0 Z = true) (hby : c.code = code) (hml : c.maxLocals = 43) (hown : s.vm.findClass "com/example/fairjoin/fairjoin/operator/DirectKeysSlotPinLaw" = some m.cls) (e0 : T0.heap = h0) (hc330 : i18 = (0 : Int32)) :
    ∃ (T' : State), Stand p l e R s m args below meth c T' locs cells slots ∧ T'.heap = h0 ∧
      ∀ target, Steps p.tables e below (T'.setTop (mkF m 345 (lv20 j0 j2 j4 j6 i8 i9 i10 i11 i12 i13 i14 i15 i16 i17 i18 j19 j21 j23 j25 j27 j29 j31 o33 o34 i35 (0 : Int32)) [])) target → Steps p.tables e below (T0.setTop (mkF m 328 (lv17 j0 j2 j4 j6 i8 i9 i10 i11 i12 i13 i14 i15 i16 i17 i18 j19 j21 j23 j25 j27 j29 j31 o33 o34 i35) [])) target := by
  refine ⟨T0, X0, e0, fun target kt => ?_⟩
  show Steps p.tables e below (T0.setTop (mkF m 328 (lv17 j0 j2 j4 j6 i8 i9 i10 i11 i12 i13 i14 i15 i16 i17 i18 j19 j21 j23 j25 j27 j29 j31 o33 o34 i35) [])) _
  refine XS.iload X0.here hx rfl (hb hby at_328) rfl ?_
  show Steps p.tables e below (T0.setTop (mkF m 330 (lv17 j0 j2 j4 j6 i8 i9 i10 i11 i12 i13 i14 i15 i16 i17 i18 j19 j21 j23 j25 j27 j29 j31 o33 o34 i35) [(.int i18)])) _
  refine XS.ifYes X0.here hx rfl (pc0 := 330) (pc' := 342) rfl (hb hby at_330) rfl ((if0 _ _).trans (teq hc330).1) (by decide) (by decide) ?_
  show Steps p.tables e below (T0.setTop (mkF m 342 (lv17 j0 j2 j4 j6 i8 i9 i10 i11 i12 i13 i14 i15 i16 i17 i18 j19 j21 j23 j25 j27 j29 j31 o33 o34 i35) [])) _
  refine XS.iconst X0.here hx rfl (hb hby at_342) ?_
  show Steps p.tables e below (T0.setTop (mkF m 343 (lv17 j0 j2 j4 j6 i8 i9 i10 i11 i12 i13 i14 i15 i16 i17 i18 j19 j21 j23 j25 j27 j29 j31 o33 o34 i35) [(.int (0 : Int32))])) _
  refine XS.istore X0.here hx rfl (hb hby at_343) rfl (l' := (lv20 j0 j2 j4 j6 i8 i9 i10 i11 i12 i13 i14 i15 i16 i17 i18 j19 j21 j23 j25 j27 j29 j31 o33 o34 i35 (0 : Int32))) rfl ?_
  exact kt
set_option maxRecDepth 65536 in
set_option maxHeartbeats 40000000 in
theorem sPb {p : Program} {l : Launch} {e : Env} {R : Room} {s : State} {m : MethodId} {args : Array Value} {below : List Frame} {meth : Method} {c : Code} {T0 : State} {locs : List Loc} {cells slots : Nat} {Z : State} {a0 : Array Value} {h0 : Heap} (j0 : Int64) (j2 : Int64) (j4 : Int64) (j6 : Int64) (i8 : Int32) (i9 : Int32) (i10 : Int32) (i11 : Int32) (i12 : Int32) (i13 : Int32) (i14 : Int32) (i15 : Int32) (i16 : Int32) (i17 : Int32) (i18 : Int32) (j19 : Int64) (j21 : Int64) (j23 : Int64) (j25 : Int64) (j27 : Int64) (j29 : Int64) (j31 : Int64) (o33 : Addr) (o34 : Addr) (i35 : Int32)
    (X0 : Stand p l e R s m args below meth c T0 locs cells slots) (hx : p.tables.exec = Jvm.exec) (hZ : Z.Warmed39 s.vm) (hw : ∀ d ∈ tables_1, d.before a0 Z = true) (hby : c.code = code) (hml : c.maxLocals = 43) (hown : s.vm.findClass "com/example/fairjoin/fairjoin/operator/DirectKeysSlotPinLaw" = some m.cls) (e0 : T0.heap = h0) (hc330 : ¬ (i18 = (0 : Int32))) (hc335 : ¬ ((0 : Int32) < i35)) :
    ∃ (T' : State), Stand p l e R s m args below meth c T' locs cells slots ∧ T'.heap = h0 ∧
      ∀ target, Steps p.tables e below (T'.setTop (mkF m 345 (lv20 j0 j2 j4 j6 i8 i9 i10 i11 i12 i13 i14 i15 i16 i17 i18 j19 j21 j23 j25 j27 j29 j31 o33 o34 i35 (0 : Int32)) [])) target → Steps p.tables e below (T0.setTop (mkF m 328 (lv17 j0 j2 j4 j6 i8 i9 i10 i11 i12 i13 i14 i15 i16 i17 i18 j19 j21 j23 j25 j27 j29 j31 o33 o34 i35) [])) target := by
  refine ⟨T0, X0, e0, fun target kt => ?_⟩
  show Steps p.tables e below (T0.setTop (mkF m 328 (lv17 j0 j2 j4 j6 i8 i9 i10 i11 i12 i13 i14 i15 i16 i17 i18 j19 j21 j23 j25 j27 j29 j31 o33 o34 i35) [])) _
  refine XS.iload X0.here hx rfl (hb hby at_328) rfl ?_
  show Steps p.tables e below (T0.setTop (mkF m 330 (lv17 j0 j2 j4 j6 i8 i9 i10 i11 i12 i13 i14 i15 i16 i17 i18 j19 j21 j23 j25 j27 j29 j31 o33 o34 i35) [(.int i18)])) _
  refine XS.ifNo X0.here hx rfl (hb hby at_330) rfl ((if0 _ _).trans (feq hc330).1) ?_
  show Steps p.tables e below (T0.setTop (mkF m 333 (lv17 j0 j2 j4 j6 i8 i9 i10 i11 i12 i13 i14 i15 i16 i17 i18 j19 j21 j23 j25 j27 j29 j31 o33 o34 i35) [])) _
  refine XS.iload X0.here hx rfl (hb hby at_333) rfl ?_
  show Steps p.tables e below (T0.setTop (mkF m 335 (lv17 j0 j2 j4 j6 i8 i9 i10 i11 i12 i13 i14 i15 i16 i17 i18 j19 j21 j23 j25 j27 j29 j31 o33 o34 i35) [(.int i35)])) _
  refine XS.ifYes X0.here hx rfl (pc0 := 335) (pc' := 342) rfl (hb hby at_335) rfl ((if0 _ _).trans (flt hc335).2.2.2) (by decide) (by decide) ?_
  show Steps p.tables e below (T0.setTop (mkF m 342 (lv17 j0 j2 j4 j6 i8 i9 i10 i11 i12 i13 i14 i15 i16 i17 i18 j19 j21 j23 j25 j27 j29 j31 o33 o34 i35) [])) _
  refine XS.iconst X0.here hx rfl (hb hby at_342) ?_
  show Steps p.tables e below (T0.setTop (mkF m 343 (lv17 j0 j2 j4 j6 i8 i9 i10 i11 i12 i13 i14 i15 i16 i17 i18 j19 j21 j23 j25 j27 j29 j31 o33 o34 i35) [(.int (0 : Int32))])) _
  refine XS.istore X0.here hx rfl (hb hby at_343) rfl (l' := (lv20 j0 j2 j4 j6 i8 i9 i10 i11 i12 i13 i14 i15 i16 i17 i18 j19 j21 j23 j25 j27 j29 j31 o33 o34 i35 (0 : Int32))) rfl ?_
  exact kt
set_option maxRecDepth 65536 in
set_option maxHeartbeats 40000000 in
theorem sPc {p : Program} {l : Launch} {e : Env} {R : Room} {s : State} {m : MethodId} {args : Array Value} {below : List Frame} {meth : Method} {c : Code} {T0 : State} {locs : List Loc} {cells slots : Nat} {Z : State} {a0 : Array Value} {h0 : Heap} (j0 : Int64) (j2 : Int64) (j4 : Int64) (j6 : Int64) (i8 : Int32) (i9 : Int32) (i10 : Int32) (i11 : Int32) (i12 : Int32) (i13 : Int32) (i14 : Int32) (i15 : Int32) (i16 : Int32) (i17 : Int32) (i18 : Int32) (j19 : Int64) (j21 : Int64) (j23 : Int64) (j25 : Int64) (j27 : Int64) (j29 : Int64) (j31 : Int64) (o33 : Addr) (o34 : Addr) (i35 : Int32)
    (X0 : Stand p l e R s m args below meth c T0 locs cells slots) (hx : p.tables.exec = Jvm.exec) (hZ : Z.Warmed39 s.vm) (hw : ∀ d ∈ tables_1, d.before a0 Z = true) (hby : c.code = code) (hml : c.maxLocals = 43) (hown : s.vm.findClass "com/example/fairjoin/fairjoin/operator/DirectKeysSlotPinLaw" = some m.cls) (e0 : T0.heap = h0) (hc330 : ¬ (i18 = (0 : Int32))) (hc335 : (0 : Int32) < i35) :
    ∃ (T' : State), Stand p l e R s m args below meth c T' locs cells slots ∧ T'.heap = h0 ∧
      ∀ target, Steps p.tables e below (T'.setTop (mkF m 345 (lv20 j0 j2 j4 j6 i8 i9 i10 i11 i12 i13 i14 i15 i16 i17 i18 j19 j21 j23 j25 j27 j29 j31 o33 o34 i35 (1 : Int32)) [])) target → Steps p.tables e below (T0.setTop (mkF m 328 (lv17 j0 j2 j4 j6 i8 i9 i10 i11 i12 i13 i14 i15 i16 i17 i18 j19 j21 j23 j25 j27 j29 j31 o33 o34 i35) [])) target := by
  refine ⟨T0, X0, e0, fun target kt => ?_⟩
  show Steps p.tables e below (T0.setTop (mkF m 328 (lv17 j0 j2 j4 j6 i8 i9 i10 i11 i12 i13 i14 i15 i16 i17 i18 j19 j21 j23 j25 j27 j29 j31 o33 o34 i35) [])) _
  refine XS.iload X0.here hx rfl (hb hby at_328) rfl ?_
  show Steps p.tables e below (T0.setTop (mkF m 330 (lv17 j0 j2 j4 j6 i8 i9 i10 i11 i12 i13 i14 i15 i16 i17 i18 j19 j21 j23 j25 j27 j29 j31 o33 o34 i35) [(.int i18)])) _
  refine XS.ifNo X0.here hx rfl (hb hby at_330) rfl ((if0 _ _).trans (feq hc330).1) ?_
  show Steps p.tables e below (T0.setTop (mkF m 333 (lv17 j0 j2 j4 j6 i8 i9 i10 i11 i12 i13 i14 i15 i16 i17 i18 j19 j21 j23 j25 j27 j29 j31 o33 o34 i35) [])) _
  refine XS.iload X0.here hx rfl (hb hby at_333) rfl ?_
  show Steps p.tables e below (T0.setTop (mkF m 335 (lv17 j0 j2 j4 j6 i8 i9 i10 i11 i12 i13 i14 i15 i16 i17 i18 j19 j21 j23 j25 j27 j29 j31 o33 o34 i35) [(.int i35)])) _
  refine XS.ifNo X0.here hx rfl (hb hby at_335) rfl ((if0 _ _).trans (tlt hc335).2.2.2) ?_
  show Steps p.tables e below (T0.setTop (mkF m 338 (lv17 j0 j2 j4 j6 i8 i9 i10 i11 i12 i13 i14 i15 i16 i17 i18 j19 j21 j23 j25 j27 j29 j31 o33 o34 i35) [])) _
  refine XS.iconst X0.here hx rfl (hb hby at_338) ?_
  show Steps p.tables e below (T0.setTop (mkF m 339 (lv17 j0 j2 j4 j6 i8 i9 i10 i11 i12 i13 i14 i15 i16 i17 i18 j19 j21 j23 j25 j27 j29 j31 o33 o34 i35) [(.int (1 : Int32))])) _
  refine XS.goto X0.here hx rfl (pc0 := 339) (pc' := 343) rfl (hb hby at_339) (by decide) (by decide) ?_
  show Steps p.tables e below (T0.setTop (mkF m 343 (lv17 j0 j2 j4 j6 i8 i9 i10 i11 i12 i13 i14 i15 i16 i17 i18 j19 j21 j23 j25 j27 j29 j31 o33 o34 i35) [(.int (1 : Int32))])) _
  refine XS.istore X0.here hx rfl (hb hby at_343) rfl (l' := (lv20 j0 j2 j4 j6 i8 i9 i10 i11 i12 i13 i14 i15 i16 i17 i18 j19 j21 j23 j25 j27 j29 j31 o33 o34 i35 (1 : Int32))) rfl ?_
  exact kt
set_option maxRecDepth 65536 in
set_option maxHeartbeats 40000000 in
theorem sKa {p : Program} {l : Launch} {e : Env} {R : Room} {s : State} {m : MethodId} {args : Array Value} {below : List Frame} {meth : Method} {c : Code} {T0 : State} {locs : List Loc} {cells slots : Nat} {Z : State} {a0 : Array Value} {h0 : Heap} (j0 : Int64) (j2 : Int64) (j4 : Int64) (j6 : Int64) (i8 : Int32) (i9 : Int32) (i10 : Int32) (i11 : Int32) (i12 : Int32) (i13 : Int32) (i14 : Int32) (i15 : Int32) (i16 : Int32) (i17 : Int32) (i18 : Int32) (j19 : Int64) (j21 : Int64) (j23 : Int64) (j25 : Int64) (j27 : Int64) (j29 : Int64) (j31 : Int64) (o33 : Addr) (o34 : Addr) (i35 : Int32) (i36 : Int32)
    (X0 : Stand p l e R s m args below meth c T0 locs cells slots) (hx : p.tables.exec = Jvm.exec) (hZ : Z.Warmed39 s.vm) (hw : ∀ d ∈ tables_1, d.before a0 Z = true) (hby : c.code = code) (hml : c.maxLocals = 43) (hown : s.vm.findClass "com/example/fairjoin/fairjoin/operator/DirectKeysSlotPinLaw" = some m.cls) (e0 : T0.heap = h0) (hc347 : ¬ ((0 : Int32) < i35)) :
    ∃ (T' : State), Stand p l e R s m args below meth c T' locs cells slots ∧ T'.heap = h0 ∧
      ∀ target, Steps p.tables e below (T'.setTop (mkF m 365 (lv21 j0 j2 j4 j6 i8 i9 i10 i11 i12 i13 i14 i15 i16 i17 i18 j19 j21 j23 j25 j27 j29 j31 o33 o34 i35 i36 (0 : Int32)) [])) target → Steps p.tables e below (T0.setTop (mkF m 345 (lv20 j0 j2 j4 j6 i8 i9 i10 i11 i12 i13 i14 i15 i16 i17 i18 j19 j21 j23 j25 j27 j29 j31 o33 o34 i35 i36) [])) target := by
  refine ⟨T0, X0, e0, fun target kt => ?_⟩
  show Steps p.tables e below (T0.setTop (mkF m 345 (lv20 j0 j2 j4 j6 i8 i9 i10 i11 i12 i13 i14 i15 i16 i17 i18 j19 j21 j23 j25 j27 j29 j31 o33 o34 i35 i36) [])) _
  refine XS.iload X0.here hx rfl (hb hby at_345) rfl ?_
  show Steps p.tables e below (T0.setTop (mkF m 347 (lv20 j0 j2 j4 j6 i8 i9 i10 i11 i12 i13 i14 i15 i16 i17 i18 j19 j21 j23 j25 j27 j29 j31 o33 o34 i35 i36) [(.int i35)])) _
  refine XS.ifYes X0.here hx rfl (pc0 := 347) (pc' := 362) rfl (hb hby at_347) rfl ((if0 _ _).trans (flt hc347).2.2.2) (by decide) (by decide) ?_
  show Steps p.tables e below (T0.setTop (mkF m 362 (lv20 j0 j2 j4 j6 i8 i9 i10 i11 i12 i13 i14 i15 i16 i17 i18 j19 j21 j23 j25 j27 j29 j31 o33 o34 i35 i36) [])) _
  refine XS.iconst X0.here hx rfl (hb hby at_362) ?_
  show Steps p.tables e below (T0.setTop (mkF m 363 (lv20 j0 j2 j4 j6 i8 i9 i10 i11 i12 i13 i14 i15 i16 i17 i18 j19 j21 j23 j25 j27 j29 j31 o33 o34 i35 i36) [(.int (0 : Int32))])) _
  refine XS.istore X0.here hx rfl (hb hby at_363) rfl (l' := (lv21 j0 j2 j4 j6 i8 i9 i10 i11 i12 i13 i14 i15 i16 i17 i18 j19 j21 j23 j25 j27 j29 j31 o33 o34 i35 i36 (0 : Int32))) rfl ?_
  exact kt
set_option maxRecDepth 65536 in
set_option maxHeartbeats 40000000 in
theorem sKb {p : Program} {l : Launch} {e : Env} {R : Room} {s : State} {m : MethodId} {args : Array Value} {below : List Frame} {meth : Method} {c : Code} {T0 : State} {locs : List Loc} {cells slots : Nat} {Z : State} {a0 : Array Value} {h0 : Heap} (j0 : Int64) (j2 : Int64) (j4 : Int64) (j6 : Int64) (i8 : Int32) (i9 : Int32) (i10 : Int32) (i11 : Int32) (i12 : Int32) (i13 : Int32) (i14 : Int32) (i15 : Int32) (i16 : Int32) (i17 : Int32) (i18 : Int32) (j19 : Int64) (j21 : Int64) (j23 : Int64) (j25 : Int64) (j27 : Int64) (j29 : Int64) (j31 : Int64) (o33 : Addr) (o34 : Addr) (i35 : Int32) (i36 : Int32)
    (X0 : Stand p l e R s m args below meth c T0 locs cells slots) (hx : p.tables.exec = Jvm.exec) (hZ : Z.Warmed39 s.vm) (hw : ∀ d ∈ tables_1, d.before a0 Z = true) (hby : c.code = code) (hml : c.maxLocals = 43) (hown : s.vm.findClass "com/example/fairjoin/fairjoin/operator/DirectKeysSlotPinLaw" = some m.cls) (e0 : T0.heap = h0) (hc347 : (0 : Int32) < i35) (hnz358 : ¬ (i35 = (0 : Int32))) :
    ∃ (T' : State), Stand p l e R s m args below meth c T' locs cells slots ∧ T'.heap = h0 ∧
      ∀ target, Steps p.tables e below (T'.setTop (mkF m 365 (lv21 j0 j2 j4 j6 i8 i9 i10 i11 i12 i13 i14 i15 i16 i17 i18 j19 j21 j23 j25 j27 j29 j31 o33 o34 i35 i36 ((i9 &&& (255 : Int32)) % i35)) [])) target → Steps p.tables e below (T0.setTop (mkF m 345 (lv20 j0 j2 j4 j6 i8 i9 i10 i11 i12 i13 i14 i15 i16 i17 i18 j19 j21 j23 j25 j27 j29 j31 o33 o34 i35 i36) [])) target := by
  refine ⟨T0, X0, e0, fun target kt => ?_⟩
  show Steps p.tables e below (T0.setTop (mkF m 345 (lv20 j0 j2 j4 j6 i8 i9 i10 i11 i12 i13 i14 i15 i16 i17 i18 j19 j21 j23 j25 j27 j29 j31 o33 o34 i35 i36) [])) _
  refine XS.iload X0.here hx rfl (hb hby at_345) rfl ?_
  show Steps p.tables e below (T0.setTop (mkF m 347 (lv20 j0 j2 j4 j6 i8 i9 i10 i11 i12 i13 i14 i15 i16 i17 i18 j19 j21 j23 j25 j27 j29 j31 o33 o34 i35 i36) [(.int i35)])) _
  refine XS.ifNo X0.here hx rfl (hb hby at_347) rfl ((if0 _ _).trans (tlt hc347).2.2.2) ?_
  show Steps p.tables e below (T0.setTop (mkF m 350 (lv20 j0 j2 j4 j6 i8 i9 i10 i11 i12 i13 i14 i15 i16 i17 i18 j19 j21 j23 j25 j27 j29 j31 o33 o34 i35 i36) [])) _
  refine XS.iload X0.here hx rfl (hb hby at_350) rfl ?_
  show Steps p.tables e below (T0.setTop (mkF m 352 (lv20 j0 j2 j4 j6 i8 i9 i10 i11 i12 i13 i14 i15 i16 i17 i18 j19 j21 j23 j25 j27 j29 j31 o33 o34 i35 i36) [(.int i9)])) _
  refine XS.sipush X0.here hx rfl (hb hby at_352) ?_
  show Steps p.tables e below (T0.setTop (mkF m 355 (lv20 j0 j2 j4 j6 i8 i9 i10 i11 i12 i13 i14 i15 i16 i17 i18 j19 j21 j23 j25 j27 j29 j31 o33 o34 i35 i36) [(.int (255 : Int32)), (.int i9)])) _
  refine XS.iand X0.here hx rfl (hb hby at_355) rfl ?_
  show Steps p.tables e below (T0.setTop (mkF m 356 (lv20 j0 j2 j4 j6 i8 i9 i10 i11 i12 i13 i14 i15 i16 i17 i18 j19 j21 j23 j25 j27 j29 j31 o33 o34 i35 i36) [(.int (i9 &&& (255 : Int32)))])) _
  refine XS.iload X0.here hx rfl (hb hby at_356) rfl ?_
  show Steps p.tables e below (T0.setTop (mkF m 358 (lv20 j0 j2 j4 j6 i8 i9 i10 i11 i12 i13 i14 i15 i16 i17 i18 j19 j21 j23 j25 j27 j29 j31 o33 o34 i35 i36) [(.int i35), (.int (i9 &&& (255 : Int32)))])) _
  refine iremM X0 hx rfl (hb hby at_358) rfl hnz358 ?_
  show Steps p.tables e below (T0.setTop (mkF m 359 (lv20 j0 j2 j4 j6 i8 i9 i10 i11 i12 i13 i14 i15 i16 i17 i18 j19 j21 j23 j25 j27 j29 j31 o33 o34 i35 i36) [(.int ((i9 &&& (255 : Int32)) % i35))])) _
  refine XS.goto X0.here hx rfl (pc0 := 359) (pc' := 363) rfl (hb hby at_359) (by decide) (by decide) ?_
  show Steps p.tables e below (T0.setTop (mkF m 363 (lv20 j0 j2 j4 j6 i8 i9 i10 i11 i12 i13 i14 i15 i16 i17 i18 j19 j21 j23 j25 j27 j29 j31 o33 o34 i35 i36) [(.int ((i9 &&& (255 : Int32)) % i35))])) _
  refine XS.istore X0.here hx rfl (hb hby at_363) rfl (l' := (lv21 j0 j2 j4 j6 i8 i9 i10 i11 i12 i13 i14 i15 i16 i17 i18 j19 j21 j23 j25 j27 j29 j31 o33 o34 i35 i36 ((i9 &&& (255 : Int32)) % i35))) rfl ?_
  exact kt
set_option maxRecDepth 65536 in
set_option maxHeartbeats 40000000 in
theorem sNa {p : Program} {l : Launch} {e : Env} {R : Room} {s : State} {m : MethodId} {args : Array Value} {below : List Frame} {meth : Method} {c : Code} {T0 : State} {locs : List Loc} {cells slots : Nat} {Z : State} {a0 : Array Value} {h0 : Heap} (j0 : Int64) (j2 : Int64) (j4 : Int64) (j6 : Int64) (i8 : Int32) (i9 : Int32) (i10 : Int32) (i11 : Int32) (i12 : Int32) (i13 : Int32) (i14 : Int32) (i15 : Int32) (i16 : Int32) (i17 : Int32) (i18 : Int32) (j19 : Int64) (j21 : Int64) (j23 : Int64) (j25 : Int64) (j27 : Int64) (j29 : Int64) (j31 : Int64) (o33 : Addr) (o34 : Addr) (i35 : Int32) (i36 : Int32) (i37 : Int32)
    (X0 : Stand p l e R s m args below meth c T0 locs cells slots) (hx : p.tables.exec = Jvm.exec) (hZ : Z.Warmed39 s.vm) (hw : ∀ d ∈ tables_1, d.before a0 Z = true) (hby : c.code = code) (hml : c.maxLocals = 43) (hown : s.vm.findClass "com/example/fairjoin/fairjoin/operator/DirectKeysSlotPinLaw" = some m.cls) (e0 : T0.heap = h0) :
    ∃ (T' : State), Stand p l e R s m args below meth c T' locs cells slots ∧ T'.heap = h0 ∧
      ∀ target, Steps p.tables e below (T'.setTop (mkF m 375 (lv22 j0 j2 j4 j6 i8 i9 i10 i11 i12 i13 i14 i15 i16 i17 i18 j19 j21 j23 j25 j27 j29 j31 o33 o34 i35 i36 i37 (((i9.toUInt32 >>> ((8 : Int32) &&& 31).toUInt32).toInt32) &&& (65535 : Int32))) [])) target → Steps p.tables e below (T0.setTop (mkF m 365 (lv21 j0 j2 j4 j6 i8 i9 i10 i11 i12 i13 i14 i15 i16 i17 i18 j19 j21 j23 j25 j27 j29 j31 o33 o34 i35 i36 i37) [])) target := by
  refine ⟨T0, X0, e0, fun target kt => ?_⟩
  show Steps p.tables e below (T0.setTop (mkF m 365 (lv21 j0 j2 j4 j6 i8 i9 i10 i11 i12 i13 i14 i15 i16 i17 i18 j19 j21 j23 j25 j27 j29 j31 o33 o34 i35 i36 i37) [])) _
  refine XS.iload X0.here hx rfl (hb hby at_365) rfl ?_
  show Steps p.tables e below (T0.setTop (mkF m 367 (lv21 j0 j2 j4 j6 i8 i9 i10 i11 i12 i13 i14 i15 i16 i17 i18 j19 j21 j23 j25 j27 j29 j31 o33 o34 i35 i36 i37) [(.int i9)])) _
  refine XS.bipush X0.here hx rfl (hb hby at_367) ?_
  show Steps p.tables e below (T0.setTop (mkF m 369 (lv21 j0 j2 j4 j6 i8 i9 i10 i11 i12 i13 i14 i15 i16 i17 i18 j19 j21 j23 j25 j27 j29 j31 o33 o34 i35 i36 i37) [(.int (8 : Int32)), (.int i9)])) _
  refine XS.iushr X0.here hx rfl (hb hby at_369) rfl ?_
  show Steps p.tables e below (T0.setTop (mkF m 370 (lv21 j0 j2 j4 j6 i8 i9 i10 i11 i12 i13 i14 i15 i16 i17 i18 j19 j21 j23 j25 j27 j29 j31 o33 o34 i35 i36 i37) [(.int ((i9.toUInt32 >>> ((8 : Int32) &&& 31).toUInt32).toInt32))])) _
  refine X0.ldcInt hx hown (mvT hZ (hw _ (List.mem_of_getElem? (i := 77) rfl))) (g := (mkF m 370 (lv21 j0 j2 j4 j6 i8 i9 i10 i11 i12 i13 i14 i15 i16 i17 i18 j19 j21 j23 j25 j27 j29 j31 o33 o34 i35 i36 i37) [(.int ((i9.toUInt32 >>> ((8 : Int32) &&& 31).toUInt32).toInt32))])) rfl (hb hby at_370) _ ?_
  show Steps p.tables e below (T0.setTop (mkF m 372 (lv21 j0 j2 j4 j6 i8 i9 i10 i11 i12 i13 i14 i15 i16 i17 i18 j19 j21 j23 j25 j27 j29 j31 o33 o34 i35 i36 i37) [(.int (65535 : Int32)), (.int ((i9.toUInt32 >>> ((8 : Int32) &&& 31).toUInt32).toInt32))])) _
  refine XS.iand X0.here hx rfl (hb hby at_372) rfl ?_
  show Steps p.tables e below (T0.setTop (mkF m 373 (lv21 j0 j2 j4 j6 i8 i9 i10 i11 i12 i13 i14 i15 i16 i17 i18 j19 j21 j23 j25 j27 j29 j31 o33 o34 i35 i36 i37) [(.int (((i9.toUInt32 >>> ((8 : Int32) &&& 31).toUInt32).toInt32) &&& (65535 : Int32)))])) _
  refine XS.istore X0.here hx rfl (hb hby at_373) rfl (l' := (lv22 j0 j2 j4 j6 i8 i9 i10 i11 i12 i13 i14 i15 i16 i17 i18 j19 j21 j23 j25 j27 j29 j31 o33 o34 i35 i36 i37 (((i9.toUInt32 >>> ((8 : Int32) &&& 31).toUInt32).toInt32) &&& (65535 : Int32)))) rfl ?_
  exact kt
set_option maxRecDepth 65536 in
set_option maxHeartbeats 40000000 in
theorem sUa {p : Program} {l : Launch} {e : Env} {R : Room} {s : State} {m : MethodId} {args : Array Value} {below : List Frame} {meth : Method} {c : Code} {T0 : State} {locs : List Loc} {cells slots : Nat} {Z : State} {a0 : Array Value} {h0 : Heap} (j0 : Int64) (j2 : Int64) (j4 : Int64) (j6 : Int64) (i8 : Int32) (i9 : Int32) (i10 : Int32) (i11 : Int32) (i12 : Int32) (i13 : Int32) (i14 : Int32) (i15 : Int32) (i16 : Int32) (i17 : Int32) (i18 : Int32) (j19 : Int64) (j21 : Int64) (j23 : Int64) (j25 : Int64) (j27 : Int64) (j29 : Int64) (j31 : Int64) (o33 : Addr) (o34 : Addr) (i35 : Int32) (i36 : Int32) (i37 : Int32) (i38 : Int32)
    (X0 : Stand p l e R s m args below meth c T0 locs cells slots) (hx : p.tables.exec = Jvm.exec) (hZ : Z.Warmed39 s.vm) (hw : ∀ d ∈ tables_1, d.before a0 Z = true) (hby : c.code = code) (hml : c.maxLocals = 43) (hown : s.vm.findClass "com/example/fairjoin/fairjoin/operator/DirectKeysSlotPinLaw" = some m.cls) (e0 : T0.heap = h0) (hc377 : i36 = (0 : Int32)) :
    ∃ (T' : State), Stand p l e R s m args below meth c T' locs cells slots ∧ T'.heap = h0 ∧
      ∀ target, Steps p.tables e below (T'.setTop (mkF m 391 (lv22 j0 j2 j4 j6 i8 i9 i10 i11 i12 i13 i14 i15 i16 i17 i18 j19 j21 j23 j25 j27 j29 j31 o33 o34 i35 i36 i37 i38) [])) target → Steps p.tables e below (T0.setTop (mkF m 375 (lv22 j0 j2 j4 j6 i8 i9 i10 i11 i12 i13 i14 i15 i16 i17 i18 j19 j21 j23 j25 j27 j29 j31 o33 o34 i35 i36 i37 i38) [])) target := by
  refine ⟨T0, X0, e0, fun target kt => ?_⟩
  show Steps p.tables e below (T0.setTop (mkF m 375 (lv22 j0 j2 j4 j6 i8 i9 i10 i11 i12 i13 i14 i15 i16 i17 i18 j19 j21 j23 j25 j27 j29 j31 o33 o34 i35 i36 i37 i38) [])) _
  refine XS.iload X0.here hx rfl (hb hby at_375) rfl ?_
  show Steps p.tables e below (T0.setTop (mkF m 377 (lv22 j0 j2 j4 j6 i8 i9 i10 i11 i12 i13 i14 i15 i16 i17 i18 j19 j21 j23 j25 j27 j29 j31 o33 o34 i35 i36 i37 i38) [(.int i36)])) _
  refine XS.ifYes X0.here hx rfl (pc0 := 377) (pc' := 391) rfl (hb hby at_377) rfl ((if0 _ _).trans (teq hc377).1) (by decide) (by decide) ?_
  exact kt
set_option maxRecDepth 65536 in
set_option maxHeartbeats 40000000 in
theorem sFa {p : Program} {l : Launch} {e : Env} {R : Room} {s : State} {m : MethodId} {args : Array Value} {below : List Frame} {meth : Method} {c : Code} {T0 : State} {locs : List Loc} {cells slots : Nat} {Z : State} {a0 : Array Value} {h0 : Heap} (j0 : Int64) (j2 : Int64) (j4 : Int64) (j6 : Int64) (i8 : Int32) (i9 : Int32) (i10 : Int32) (i11 : Int32) (i12 : Int32) (i13 : Int32) (i14 : Int32) (i15 : Int32) (i16 : Int32) (i17 : Int32) (i18 : Int32) (j19 : Int64) (j21 : Int64) (j23 : Int64) (j25 : Int64) (j27 : Int64) (j29 : Int64) (j31 : Int64) (o33 : Addr) (o34 : Addr) (i35 : Int32) (i36 : Int32) (i37 : Int32) (i38 : Int32)
    (X0 : Stand p l e R s m args below meth c T0 locs cells slots) (hx : p.tables.exec = Jvm.exec) (hZ : Z.Warmed39 s.vm) (hw : ∀ d ∈ tables_1, d.before a0 Z = true) (hby : c.code = code) (hml : c.maxLocals = 43) (hown : s.vm.findClass "com/example/fairjoin/fairjoin/operator/DirectKeysSlotPinLaw" = some m.cls) (e0 : T0.heap = h0) (hc396 : (0 : Int32) < (lcmpW j19 j27)) :
    ∃ (T' : State), Stand p l e R s m args below meth c T' locs cells slots ∧ T'.heap = h0 ∧
      ∀ target, Steps p.tables e below (T'.setTop (mkF m 414 (lv23 j0 j2 j4 j6 i8 i9 i10 i11 i12 i13 i14 i15 i16 i17 i18 j19 j21 j23 j25 j27 j29 j31 o33 o34 i35 i36 i37 i38 (0 : Int32)) [])) target → Steps p.tables e below (T0.setTop (mkF m 391 (lv22 j0 j2 j4 j6 i8 i9 i10 i11 i12 i13 i14 i15 i16 i17 i18 j19 j21 j23 j25 j27 j29 j31 o33 o34 i35 i36 i37 i38) [])) target := by
  refine ⟨T0, X0, e0, fun target kt => ?_⟩
  show Steps p.tables e below (T0.setTop (mkF m 391 (lv22 j0 j2 j4 j6 i8 i9 i10 i11 i12 i13 i14 i15 i16 i17 i18 j19 j21 j23 j25 j27 j29 j31 o33 o34 i35 i36 i37 i38) [])) _
  refine XS.lload X0.here hx rfl (hb hby at_391) rfl ?_
  show Steps p.tables e below (T0.setTop (mkF m 393 (lv22 j0 j2 j4 j6 i8 i9 i10 i11 i12 i13 i14 i15 i16 i17 i18 j19 j21 j23 j25 j27 j29 j31 o33 o34 i35 i36 i37 i38) [(.long j19)])) _
  refine XS.lload X0.here hx rfl (hb hby at_393) rfl ?_
  show Steps p.tables e below (T0.setTop (mkF m 395 (lv22 j0 j2 j4 j6 i8 i9 i10 i11 i12 i13 i14 i15 i16 i17 i18 j19 j21 j23 j25 j27 j29 j31 o33 o34 i35 i36 i37 i38) [(.long j27), (.long j19)])) _
  refine XS.lcmp X0.here hx rfl (hb hby at_395) rfl ?_
  show Steps p.tables e below (T0.setTop (mkF m 396 (lv22 j0 j2 j4 j6 i8 i9 i10 i11 i12 i13 i14 i15 i16 i17 i18 j19 j21 j23 j25 j27 j29 j31 o33 o34 i35 i36 i37 i38) [(.int (lcmpW j19 j27))])) _
  refine XS.ifYes X0.here hx rfl (pc0 := 396) (pc' := 411) rfl (hb hby at_396) rfl ((if0 _ _).trans (tlt hc396).2.2.1) (by decide) (by decide) ?_
  show Steps p.tables e below (T0.setTop (mkF m 411 (lv22 j0 j2 j4 j6 i8 i9 i10 i11 i12 i13 i14 i15 i16 i17 i18 j19 j21 j23 j25 j27 j29 j31 o33 o34 i35 i36 i37 i38) [])) _
  refine XS.iconst X0.here hx rfl (hb hby at_411) ?_
  show Steps p.tables e below (T0.setTop (mkF m 412 (lv22 j0 j2 j4 j6 i8 i9 i10 i11 i12 i13 i14 i15 i16 i17 i18 j19 j21 j23 j25 j27 j29 j31 o33 o34 i35 i36 i37 i38) [(.int (0 : Int32))])) _
  refine XS.istore X0.here hx rfl (hb hby at_412) rfl (l' := (lv23 j0 j2 j4 j6 i8 i9 i10 i11 i12 i13 i14 i15 i16 i17 i18 j19 j21 j23 j25 j27 j29 j31 o33 o34 i35 i36 i37 i38 (0 : Int32))) rfl ?_
  exact kt
set_option maxRecDepth 65536 in
set_option maxHeartbeats 40000000 in
theorem sFb {p : Program} {l : Launch} {e : Env} {R : Room} {s : State} {m : MethodId} {args : Array Value} {below : List Frame} {meth : Method} {c : Code} {T0 : State} {locs : List Loc} {cells slots : Nat} {Z : State} {a0 : Array Value} {h0 : Heap} (j0 : Int64) (j2 : Int64) (j4 : Int64) (j6 : Int64) (i8 : Int32) (i9 : Int32) (i10 : Int32) (i11 : Int32) (i12 : Int32) (i13 : Int32) (i14 : Int32) (i15 : Int32) (i16 : Int32) (i17 : Int32) (i18 : Int32) (j19 : Int64) (j21 : Int64) (j23 : Int64) (j25 : Int64) (j27 : Int64) (j29 : Int64) (j31 : Int64) (o33 : Addr) (o34 : Addr) (i35 : Int32) (i36 : Int32) (i37 : Int32) (i38 : Int32)
    (X0 : Stand p l e R s m args below meth c T0 locs cells slots) (hx : p.tables.exec = Jvm.exec) (hZ : Z.Warmed39 s.vm) (hw : ∀ d ∈ tables_1, d.before a0 Z = true) (hby : c.code = code) (hml : c.maxLocals = 43) (hown : s.vm.findClass "com/example/fairjoin/fairjoin/operator/DirectKeysSlotPinLaw" = some m.cls) (e0 : T0.heap = h0) (hc396 : ¬ ((0 : Int32) < (lcmpW j19 j27))) (hc404 : (0 : Int32) < (lcmpW j27 j21)) :
    ∃ (T' : State), Stand p l e R s m args below meth c T' locs cells slots ∧ T'.heap = h0 ∧
      ∀ target, Steps p.tables e below (T'.setTop (mkF m 414 (lv23 j0 j2 j4 j6 i8 i9 i10 i11 i12 i13 i14 i15 i16 i17 i18 j19 j21 j23 j25 j27 j29 j31 o33 o34 i35 i36 i37 i38 (0 : Int32)) [])) target → Steps p.tables e below (T0.setTop (mkF m 391 (lv22 j0 j2 j4 j6 i8 i9 i10 i11 i12 i13 i14 i15 i16 i17 i18 j19 j21 j23 j25 j27 j29 j31 o33 o34 i35 i36 i37 i38) [])) target := by
  refine ⟨T0, X0, e0, fun target kt => ?_⟩
  show Steps p.tables e below (T0.setTop (mkF m 391 (lv22 j0 j2 j4 j6 i8 i9 i10 i11 i12 i13 i14 i15 i16 i17 i18 j19 j21 j23 j25 j27 j29 j31 o33 o34 i35 i36 i37 i38) [])) _
  refine XS.lload X0.here hx rfl (hb hby at_391) rfl ?_
  show Steps p.tables e below (T0.setTop (mkF m 393 (lv22 j0 j2 j4 j6 i8 i9 i10 i11 i12 i13 i14 i15 i16 i17 i18 j19 j21 j23 j25 j27 j29 j31 o33 o34 i35 i36 i37 i38) [(.long j19)])) _
  refine XS.lload X0.here hx rfl (hb hby at_393) rfl ?_
  show Steps p.tables e below (T0.setTop (mkF m 395 (lv22 j0 j2 j4 j6 i8 i9 i10 i11 i12 i13 i14 i15 i16 i17 i18 j19 j21 j23 j25 j27 j29 j31 o33 o34 i35 i36 i37 i38) [(.long j27), (.long j19)])) _
  refine XS.lcmp X0.here hx rfl (hb hby at_395) rfl ?_
  show Steps p.tables e below (T0.setTop (mkF m 396 (lv22 j0 j2 j4 j6 i8 i9 i10 i11 i12 i13 i14 i15 i16 i17 i18 j19 j21 j23 j25 j27 j29 j31 o33 o34 i35 i36 i37 i38) [(.int (lcmpW j19 j27))])) _
  refine XS.ifNo X0.here hx rfl (hb hby at_396) rfl ((if0 _ _).trans (flt hc396).2.2.1) ?_
  show Steps p.tables e below (T0.setTop (mkF m 399 (lv22 j0 j2 j4 j6 i8 i9 i10 i11 i12 i13 i14 i15 i16 i17 i18 j19 j21 j23 j25 j27 j29 j31 o33 o34 i35 i36 i37 i38) [])) _
  refine XS.lload X0.here hx rfl (hb hby at_399) rfl ?_
  show Steps p.tables e below (T0.setTop (mkF m 401 (lv22 j0 j2 j4 j6 i8 i9 i10 i11 i12 i13 i14 i15 i16 i17 i18 j19 j21 j23 j25 j27 j29 j31 o33 o34 i35 i36 i37 i38) [(.long j27)])) _
  refine XS.lload X0.here hx rfl (hb hby at_401) rfl ?_
  show Steps p.tables e below (T0.setTop (mkF m 403 (lv22 j0 j2 j4 j6 i8 i9 i10 i11 i12 i13 i14 i15 i16 i17 i18 j19 j21 j23 j25 j27 j29 j31 o33 o34 i35 i36 i37 i38) [(.long j21), (.long j27)])) _
  refine XS.lcmp X0.here hx rfl (hb hby at_403) rfl ?_
  show Steps p.tables e below (T0.setTop (mkF m 404 (lv22 j0 j2 j4 j6 i8 i9 i10 i11 i12 i13 i14 i15 i16 i17 i18 j19 j21 j23 j25 j27 j29 j31 o33 o34 i35 i36 i37 i38) [(.int (lcmpW j27 j21))])) _
  refine XS.ifYes X0.here hx rfl (pc0 := 404) (pc' := 411) rfl (hb hby at_404) rfl ((if0 _ _).trans (tlt hc404).2.2.1) (by decide) (by decide) ?_
  show Steps p.tables e below (T0.setTop (mkF m 411 (lv22 j0 j2 j4 j6 i8 i9 i10 i11 i12 i13 i14 i15 i16 i17 i18 j19 j21 j23 j25 j27 j29 j31 o33 o34 i35 i36 i37 i38) [])) _
  refine XS.iconst X0.here hx rfl (hb hby at_411) ?_
  show Steps p.tables e below (T0.setTop (mkF m 412 (lv22 j0 j2 j4 j6 i8 i9 i10 i11 i12 i13 i14 i15 i16 i17 i18 j19 j21 j23 j25 j27 j29 j31 o33 o34 i35 i36 i37 i38) [(.int (0 : Int32))])) _
  refine XS.istore X0.here hx rfl (hb hby at_412) rfl (l' := (lv23 j0 j2 j4 j6 i8 i9 i10 i11 i12 i13 i14 i15 i16 i17 i18 j19 j21 j23 j25 j27 j29 j31 o33 o34 i35 i36 i37 i38 (0 : Int32))) rfl ?_
  exact kt
set_option maxRecDepth 65536 in
set_option maxHeartbeats 40000000 in
theorem sFc {p : Program} {l : Launch} {e : Env} {R : Room} {s : State} {m : MethodId} {args : Array Value} {below : List Frame} {meth : Method} {c : Code} {T0 : State} {locs : List Loc} {cells slots : Nat} {Z : State} {a0 : Array Value} {h0 : Heap} (j0 : Int64) (j2 : Int64) (j4 : Int64) (j6 : Int64) (i8 : Int32) (i9 : Int32) (i10 : Int32) (i11 : Int32) (i12 : Int32) (i13 : Int32) (i14 : Int32) (i15 : Int32) (i16 : Int32) (i17 : Int32) (i18 : Int32) (j19 : Int64) (j21 : Int64) (j23 : Int64) (j25 : Int64) (j27 : Int64) (j29 : Int64) (j31 : Int64) (o33 : Addr) (o34 : Addr) (i35 : Int32) (i36 : Int32) (i37 : Int32) (i38 : Int32)
    (X0 : Stand p l e R s m args below meth c T0 locs cells slots) (hx : p.tables.exec = Jvm.exec) (hZ : Z.Warmed39 s.vm) (hw : ∀ d ∈ tables_1, d.before a0 Z = true) (hby : c.code = code) (hml : c.maxLocals = 43) (hown : s.vm.findClass "com/example/fairjoin/fairjoin/operator/DirectKeysSlotPinLaw" = some m.cls) (e0 : T0.heap = h0) (hc396 : ¬ ((0 : Int32) < (lcmpW j19 j27))) (hc404 : ¬ ((0 : Int32) < (lcmpW j27 j21))) :
    ∃ (T' : State), Stand p l e R s m args below meth c T' locs cells slots ∧ T'.heap = h0 ∧
      ∀ target, Steps p.tables e below (T'.setTop (mkF m 414 (lv23 j0 j2 j4 j6 i8 i9 i10 i11 i12 i13 i14 i15 i16 i17 i18 j19 j21 j23 j25 j27 j29 j31 o33 o34 i35 i36 i37 i38 (1 : Int32)) [])) target → Steps p.tables e below (T0.setTop (mkF m 391 (lv22 j0 j2 j4 j6 i8 i9 i10 i11 i12 i13 i14 i15 i16 i17 i18 j19 j21 j23 j25 j27 j29 j31 o33 o34 i35 i36 i37 i38) [])) target := by
  refine ⟨T0, X0, e0, fun target kt => ?_⟩
  show Steps p.tables e below (T0.setTop (mkF m 391 (lv22 j0 j2 j4 j6 i8 i9 i10 i11 i12 i13 i14 i15 i16 i17 i18 j19 j21 j23 j25 j27 j29 j31 o33 o34 i35 i36 i37 i38) [])) _
  refine XS.lload X0.here hx rfl (hb hby at_391) rfl ?_
  show Steps p.tables e below (T0.setTop (mkF m 393 (lv22 j0 j2 j4 j6 i8 i9 i10 i11 i12 i13 i14 i15 i16 i17 i18 j19 j21 j23 j25 j27 j29 j31 o33 o34 i35 i36 i37 i38) [(.long j19)])) _
  refine XS.lload X0.here hx rfl (hb hby at_393) rfl ?_
  show Steps p.tables e below (T0.setTop (mkF m 395 (lv22 j0 j2 j4 j6 i8 i9 i10 i11 i12 i13 i14 i15 i16 i17 i18 j19 j21 j23 j25 j27 j29 j31 o33 o34 i35 i36 i37 i38) [(.long j27), (.long j19)])) _
  refine XS.lcmp X0.here hx rfl (hb hby at_395) rfl ?_
  show Steps p.tables e below (T0.setTop (mkF m 396 (lv22 j0 j2 j4 j6 i8 i9 i10 i11 i12 i13 i14 i15 i16 i17 i18 j19 j21 j23 j25 j27 j29 j31 o33 o34 i35 i36 i37 i38) [(.int (lcmpW j19 j27))])) _
  refine XS.ifNo X0.here hx rfl (hb hby at_396) rfl ((if0 _ _).trans (flt hc396).2.2.1) ?_
  show Steps p.tables e below (T0.setTop (mkF m 399 (lv22 j0 j2 j4 j6 i8 i9 i10 i11 i12 i13 i14 i15 i16 i17 i18 j19 j21 j23 j25 j27 j29 j31 o33 o34 i35 i36 i37 i38) [])) _
  refine XS.lload X0.here hx rfl (hb hby at_399) rfl ?_
  show Steps p.tables e below (T0.setTop (mkF m 401 (lv22 j0 j2 j4 j6 i8 i9 i10 i11 i12 i13 i14 i15 i16 i17 i18 j19 j21 j23 j25 j27 j29 j31 o33 o34 i35 i36 i37 i38) [(.long j27)])) _
  refine XS.lload X0.here hx rfl (hb hby at_401) rfl ?_
  show Steps p.tables e below (T0.setTop (mkF m 403 (lv22 j0 j2 j4 j6 i8 i9 i10 i11 i12 i13 i14 i15 i16 i17 i18 j19 j21 j23 j25 j27 j29 j31 o33 o34 i35 i36 i37 i38) [(.long j21), (.long j27)])) _
  refine XS.lcmp X0.here hx rfl (hb hby at_403) rfl ?_
  show Steps p.tables e below (T0.setTop (mkF m 404 (lv22 j0 j2 j4 j6 i8 i9 i10 i11 i12 i13 i14 i15 i16 i17 i18 j19 j21 j23 j25 j27 j29 j31 o33 o34 i35 i36 i37 i38) [(.int (lcmpW j27 j21))])) _
  refine XS.ifNo X0.here hx rfl (hb hby at_404) rfl ((if0 _ _).trans (flt hc404).2.2.1) ?_
  show Steps p.tables e below (T0.setTop (mkF m 407 (lv22 j0 j2 j4 j6 i8 i9 i10 i11 i12 i13 i14 i15 i16 i17 i18 j19 j21 j23 j25 j27 j29 j31 o33 o34 i35 i36 i37 i38) [])) _
  refine XS.iconst X0.here hx rfl (hb hby at_407) ?_
  show Steps p.tables e below (T0.setTop (mkF m 408 (lv22 j0 j2 j4 j6 i8 i9 i10 i11 i12 i13 i14 i15 i16 i17 i18 j19 j21 j23 j25 j27 j29 j31 o33 o34 i35 i36 i37 i38) [(.int (1 : Int32))])) _
  refine XS.goto X0.here hx rfl (pc0 := 408) (pc' := 412) rfl (hb hby at_408) (by decide) (by decide) ?_
  show Steps p.tables e below (T0.setTop (mkF m 412 (lv22 j0 j2 j4 j6 i8 i9 i10 i11 i12 i13 i14 i15 i16 i17 i18 j19 j21 j23 j25 j27 j29 j31 o33 o34 i35 i36 i37 i38) [(.int (1 : Int32))])) _
  refine XS.istore X0.here hx rfl (hb hby at_412) rfl (l' := (lv23 j0 j2 j4 j6 i8 i9 i10 i11 i12 i13 i14 i15 i16 i17 i18 j19 j21 j23 j25 j27 j29 j31 o33 o34 i35 i36 i37 i38 (1 : Int32))) rfl ?_
  exact kt
set_option maxRecDepth 65536 in
set_option maxHeartbeats 40000000 in
theorem sSa {p : Program} {l : Launch} {e : Env} {R : Room} {s : State} {m : MethodId} {args : Array Value} {below : List Frame} {meth : Method} {c : Code} {T0 : State} {locs : List Loc} {cells slots : Nat} {Z : State} {a0 : Array Value} {h0 : Heap} (j0 : Int64) (j2 : Int64) (j4 : Int64) (j6 : Int64) (i8 : Int32) (i9 : Int32) (i10 : Int32) (i11 : Int32) (i12 : Int32) (i13 : Int32) (i14 : Int32) (i15 : Int32) (i16 : Int32) (i17 : Int32) (i18 : Int32) (j19 : Int64) (j21 : Int64) (j23 : Int64) (j25 : Int64) (j27 : Int64) (j29 : Int64) (j31 : Int64) (o33 : Addr) (o34 : Addr) (i35 : Int32) (i36 : Int32) (i37 : Int32) (i38 : Int32) (i39 : Int32)
    (X0 : Stand p l e R s m args below meth c T0 locs cells slots) (hx : p.tables.exec = Jvm.exec) (hZ : Z.Warmed39 s.vm) (hw : ∀ d ∈ tables_1, d.before a0 Z = true) (hby : c.code = code) (hml : c.maxLocals = 43) (hown : s.vm.findClass "com/example/fairjoin/fairjoin/operator/DirectKeysSlotPinLaw" = some m.cls) (e0 : T0.heap = h0) (hc419 : (0 : Int32) < (lcmpW j23 j29)) :
    ∃ (T' : State), Stand p l e R s m args below meth c T' locs cells slots ∧ T'.heap = h0 ∧
      ∀ target, Steps p.tables e below (T'.setTop (mkF m 437 (lv24 j0 j2 j4 j6 i8 i9 i10 i11 i12 i13 i14 i15 i16 i17 i18 j19 j21 j23 j25 j27 j29 j31 o33 o34 i35 i36 i37 i38 i39 (0 : Int32)) [])) target → Steps p.tables e below (T0.setTop (mkF m 414 (lv23 j0 j2 j4 j6 i8 i9 i10 i11 i12 i13 i14 i15 i16 i17 i18 j19 j21 j23 j25 j27 j29 j31 o33 o34 i35 i36 i37 i38 i39) [])) target := by
  refine ⟨T0, X0, e0, fun target kt => ?_⟩
  show Steps p.tables e below (T0.setTop (mkF m 414 (lv23 j0 j2 j4 j6 i8 i9 i10 i11 i12 i13 i14 i15 i16 i17 i18 j19 j21 j23 j25 j27 j29 j31 o33 o34 i35 i36 i37 i38 i39) [])) _
  refine XS.lload X0.here hx rfl (hb hby at_414) rfl ?_
  show Steps p.tables e below (T0.setTop (mkF m 416 (lv23 j0 j2 j4 j6 i8 i9 i10 i11 i12 i13 i14 i15 i16 i17 i18 j19 j21 j23 j25 j27 j29 j31 o33 o34 i35 i36 i37 i38 i39) [(.long j23)])) _
  refine XS.lload X0.here hx rfl (hb hby at_416) rfl ?_
  show Steps p.tables e below (T0.setTop (mkF m 418 (lv23 j0 j2 j4 j6 i8 i9 i10 i11 i12 i13 i14 i15 i16 i17 i18 j19 j21 j23 j25 j27 j29 j31 o33 o34 i35 i36 i37 i38 i39) [(.long j29), (.long j23)])) _
  refine XS.lcmp X0.here hx rfl (hb hby at_418) rfl ?_
  show Steps p.tables e below (T0.setTop (mkF m 419 (lv23 j0 j2 j4 j6 i8 i9 i10 i11 i12 i13 i14 i15 i16 i17 i18 j19 j21 j23 j25 j27 j29 j31 o33 o34 i35 i36 i37 i38 i39) [(.int (lcmpW j23 j29))])) _
  refine XS.ifYes X0.here hx rfl (pc0 := 419) (pc' := 434) rfl (hb hby at_419) rfl ((if0 _ _).trans (tlt hc419).2.2.1) (by decide) (by decide) ?_
  show Steps p.tables e below (T0.setTop (mkF m 434 (lv23 j0 j2 j4 j6 i8 i9 i10 i11 i12 i13 i14 i15 i16 i17 i18 j19 j21 j23 j25 j27 j29 j31 o33 o34 i35 i36 i37 i38 i39) [])) _
  refine XS.iconst X0.here hx rfl (hb hby at_434) ?_
  show Steps p.tables e below (T0.setTop (mkF m 435 (lv23 j0 j2 j4 j6 i8 i9 i10 i11 i12 i13 i14 i15 i16 i17 i18 j19 j21 j23 j25 j27 j29 j31 o33 o34 i35 i36 i37 i38 i39) [(.int (0 : Int32))])) _
  refine XS.istore X0.here hx rfl (hb hby at_435) rfl (l' := (lv24 j0 j2 j4 j6 i8 i9 i10 i11 i12 i13 i14 i15 i16 i17 i18 j19 j21 j23 j25 j27 j29 j31 o33 o34 i35 i36 i37 i38 i39 (0 : Int32))) rfl ?_
  exact kt
set_option maxRecDepth 65536 in
set_option maxHeartbeats 40000000 in
theorem sSb {p : Program} {l : Launch} {e : Env} {R : Room} {s : State} {m : MethodId} {args : Array Value} {below : List Frame} {meth : Method} {c : Code} {T0 : State} {locs : List Loc} {cells slots : Nat} {Z : State} {a0 : Array Value} {h0 : Heap} (j0 : Int64) (j2 : Int64) (j4 : Int64) (j6 : Int64) (i8 : Int32) (i9 : Int32) (i10 : Int32) (i11 : Int32) (i12 : Int32) (i13 : Int32) (i14 : Int32) (i15 : Int32) (i16 : Int32) (i17 : Int32) (i18 : Int32) (j19 : Int64) (j21 : Int64) (j23 : Int64) (j25 : Int64) (j27 : Int64) (j29 : Int64) (j31 : Int64) (o33 : Addr) (o34 : Addr) (i35 : Int32) (i36 : Int32) (i37 : Int32) (i38 : Int32) (i39 : Int32)
    (X0 : Stand p l e R s m args below meth c T0 locs cells slots) (hx : p.tables.exec = Jvm.exec) (hZ : Z.Warmed39 s.vm) (hw : ∀ d ∈ tables_1, d.before a0 Z = true) (hby : c.code = code) (hml : c.maxLocals = 43) (hown : s.vm.findClass "com/example/fairjoin/fairjoin/operator/DirectKeysSlotPinLaw" = some m.cls) (e0 : T0.heap = h0) (hc419 : ¬ ((0 : Int32) < (lcmpW j23 j29))) (hc427 : (0 : Int32) < (lcmpW j29 j25)) :
    ∃ (T' : State), Stand p l e R s m args below meth c T' locs cells slots ∧ T'.heap = h0 ∧
      ∀ target, Steps p.tables e below (T'.setTop (mkF m 437 (lv24 j0 j2 j4 j6 i8 i9 i10 i11 i12 i13 i14 i15 i16 i17 i18 j19 j21 j23 j25 j27 j29 j31 o33 o34 i35 i36 i37 i38 i39 (0 : Int32)) [])) target → Steps p.tables e below (T0.setTop (mkF m 414 (lv23 j0 j2 j4 j6 i8 i9 i10 i11 i12 i13 i14 i15 i16 i17 i18 j19 j21 j23 j25 j27 j29 j31 o33 o34 i35 i36 i37 i38 i39) [])) target := by
  refine ⟨T0, X0, e0, fun target kt => ?_⟩
  show Steps p.tables e below (T0.setTop (mkF m 414 (lv23 j0 j2 j4 j6 i8 i9 i10 i11 i12 i13 i14 i15 i16 i17 i18 j19 j21 j23 j25 j27 j29 j31 o33 o34 i35 i36 i37 i38 i39) [])) _
  refine XS.lload X0.here hx rfl (hb hby at_414) rfl ?_
  show Steps p.tables e below (T0.setTop (mkF m 416 (lv23 j0 j2 j4 j6 i8 i9 i10 i11 i12 i13 i14 i15 i16 i17 i18 j19 j21 j23 j25 j27 j29 j31 o33 o34 i35 i36 i37 i38 i39) [(.long j23)])) _
  refine XS.lload X0.here hx rfl (hb hby at_416) rfl ?_
  show Steps p.tables e below (T0.setTop (mkF m 418 (lv23 j0 j2 j4 j6 i8 i9 i10 i11 i12 i13 i14 i15 i16 i17 i18 j19 j21 j23 j25 j27 j29 j31 o33 o34 i35 i36 i37 i38 i39) [(.long j29), (.long j23)])) _
  refine XS.lcmp X0.here hx rfl (hb hby at_418) rfl ?_
  show Steps p.tables e below (T0.setTop (mkF m 419 (lv23 j0 j2 j4 j6 i8 i9 i10 i11 i12 i13 i14 i15 i16 i17 i18 j19 j21 j23 j25 j27 j29 j31 o33 o34 i35 i36 i37 i38 i39) [(.int (lcmpW j23 j29))])) _
  refine XS.ifNo X0.here hx rfl (hb hby at_419) rfl ((if0 _ _).trans (flt hc419).2.2.1) ?_
  show Steps p.tables e below (T0.setTop (mkF m 422 (lv23 j0 j2 j4 j6 i8 i9 i10 i11 i12 i13 i14 i15 i16 i17 i18 j19 j21 j23 j25 j27 j29 j31 o33 o34 i35 i36 i37 i38 i39) [])) _
  refine XS.lload X0.here hx rfl (hb hby at_422) rfl ?_
  show Steps p.tables e below (T0.setTop (mkF m 424 (lv23 j0 j2 j4 j6 i8 i9 i10 i11 i12 i13 i14 i15 i16 i17 i18 j19 j21 j23 j25 j27 j29 j31 o33 o34 i35 i36 i37 i38 i39) [(.long j29)])) _
  refine XS.lload X0.here hx rfl (hb hby at_424) rfl ?_
  show Steps p.tables e below (T0.setTop (mkF m 426 (lv23 j0 j2 j4 j6 i8 i9 i10 i11 i12 i13 i14 i15 i16 i17 i18 j19 j21 j23 j25 j27 j29 j31 o33 o34 i35 i36 i37 i38 i39) [(.long j25), (.long j29)])) _
  refine XS.lcmp X0.here hx rfl (hb hby at_426) rfl ?_
  show Steps p.tables e below (T0.setTop (mkF m 427 (lv23 j0 j2 j4 j6 i8 i9 i10 i11 i12 i13 i14 i15 i16 i17 i18 j19 j21 j23 j25 j27 j29 j31 o33 o34 i35 i36 i37 i38 i39) [(.int (lcmpW j29 j25))])) _
  refine XS.ifYes X0.here hx rfl (pc0 := 427) (pc' := 434) rfl (hb hby at_427) rfl ((if0 _ _).trans (tlt hc427).2.2.1) (by decide) (by decide) ?_
  show Steps p.tables e below (T0.setTop (mkF m 434 (lv23 j0 j2 j4 j6 i8 i9 i10 i11 i12 i13 i14 i15 i16 i17 i18 j19 j21 j23 j25 j27 j29 j31 o33 o34 i35 i36 i37 i38 i39) [])) _
  refine XS.iconst X0.here hx rfl (hb hby at_434) ?_
  show Steps p.tables e below (T0.setTop (mkF m 435 (lv23 j0 j2 j4 j6 i8 i9 i10 i11 i12 i13 i14 i15 i16 i17 i18 j19 j21 j23 j25 j27 j29 j31 o33 o34 i35 i36 i37 i38 i39) [(.int (0 : Int32))])) _
  refine XS.istore X0.here hx rfl (hb hby at_435) rfl (l' := (lv24 j0 j2 j4 j6 i8 i9 i10 i11 i12 i13 i14 i15 i16 i17 i18 j19 j21 j23 j25 j27 j29 j31 o33 o34 i35 i36 i37 i38 i39 (0 : Int32))) rfl ?_
  exact kt
set_option maxRecDepth 65536 in
set_option maxHeartbeats 40000000 in
theorem sSc {p : Program} {l : Launch} {e : Env} {R : Room} {s : State} {m : MethodId} {args : Array Value} {below : List Frame} {meth : Method} {c : Code} {T0 : State} {locs : List Loc} {cells slots : Nat} {Z : State} {a0 : Array Value} {h0 : Heap} (j0 : Int64) (j2 : Int64) (j4 : Int64) (j6 : Int64) (i8 : Int32) (i9 : Int32) (i10 : Int32) (i11 : Int32) (i12 : Int32) (i13 : Int32) (i14 : Int32) (i15 : Int32) (i16 : Int32) (i17 : Int32) (i18 : Int32) (j19 : Int64) (j21 : Int64) (j23 : Int64) (j25 : Int64) (j27 : Int64) (j29 : Int64) (j31 : Int64) (o33 : Addr) (o34 : Addr) (i35 : Int32) (i36 : Int32) (i37 : Int32) (i38 : Int32) (i39 : Int32)
    (X0 : Stand p l e R s m args below meth c T0 locs cells slots) (hx : p.tables.exec = Jvm.exec) (hZ : Z.Warmed39 s.vm) (hw : ∀ d ∈ tables_1, d.before a0 Z = true) (hby : c.code = code) (hml : c.maxLocals = 43) (hown : s.vm.findClass "com/example/fairjoin/fairjoin/operator/DirectKeysSlotPinLaw" = some m.cls) (e0 : T0.heap = h0) (hc419 : ¬ ((0 : Int32) < (lcmpW j23 j29))) (hc427 : ¬ ((0 : Int32) < (lcmpW j29 j25))) :
    ∃ (T' : State), Stand p l e R s m args below meth c T' locs cells slots ∧ T'.heap = h0 ∧
      ∀ target, Steps p.tables e below (T'.setTop (mkF m 437 (lv24 j0 j2 j4 j6 i8 i9 i10 i11 i12 i13 i14 i15 i16 i17 i18 j19 j21 j23 j25 j27 j29 j31 o33 o34 i35 i36 i37 i38 i39 (1 : Int32)) [])) target → Steps p.tables e below (T0.setTop (mkF m 414 (lv23 j0 j2 j4 j6 i8 i9 i10 i11 i12 i13 i14 i15 i16 i17 i18 j19 j21 j23 j25 j27 j29 j31 o33 o34 i35 i36 i37 i38 i39) [])) target := by
  refine ⟨T0, X0, e0, fun target kt => ?_⟩
  show Steps p.tables e below (T0.setTop (mkF m 414 (lv23 j0 j2 j4 j6 i8 i9 i10 i11 i12 i13 i14 i15 i16 i17 i18 j19 j21 j23 j25 j27 j29 j31 o33 o34 i35 i36 i37 i38 i39) [])) _
  refine XS.lload X0.here hx rfl (hb hby at_414) rfl ?_
  show Steps p.tables e below (T0.setTop (mkF m 416 (lv23 j0 j2 j4 j6 i8 i9 i10 i11 i12 i13 i14 i15 i16 i17 i18 j19 j21 j23 j25 j27 j29 j31 o33 o34 i35 i36 i37 i38 i39) [(.long j23)])) _
  refine XS.lload X0.here hx rfl (hb hby at_416) rfl ?_
  show Steps p.tables e below (T0.setTop (mkF m 418 (lv23 j0 j2 j4 j6 i8 i9 i10 i11 i12 i13 i14 i15 i16 i17 i18 j19 j21 j23 j25 j27 j29 j31 o33 o34 i35 i36 i37 i38 i39) [(.long j29), (.long j23)])) _
  refine XS.lcmp X0.here hx rfl (hb hby at_418) rfl ?_
  show Steps p.tables e below (T0.setTop (mkF m 419 (lv23 j0 j2 j4 j6 i8 i9 i10 i11 i12 i13 i14 i15 i16 i17 i18 j19 j21 j23 j25 j27 j29 j31 o33 o34 i35 i36 i37 i38 i39) [(.int (lcmpW j23 j29))])) _
  refine XS.ifNo X0.here hx rfl (hb hby at_419) rfl ((if0 _ _).trans (flt hc419).2.2.1) ?_
  show Steps p.tables e below (T0.setTop (mkF m 422 (lv23 j0 j2 j4 j6 i8 i9 i10 i11 i12 i13 i14 i15 i16 i17 i18 j19 j21 j23 j25 j27 j29 j31 o33 o34 i35 i36 i37 i38 i39) [])) _
  refine XS.lload X0.here hx rfl (hb hby at_422) rfl ?_
  show Steps p.tables e below (T0.setTop (mkF m 424 (lv23 j0 j2 j4 j6 i8 i9 i10 i11 i12 i13 i14 i15 i16 i17 i18 j19 j21 j23 j25 j27 j29 j31 o33 o34 i35 i36 i37 i38 i39) [(.long j29)])) _
  refine XS.lload X0.here hx rfl (hb hby at_424) rfl ?_
  show Steps p.tables e below (T0.setTop (mkF m 426 (lv23 j0 j2 j4 j6 i8 i9 i10 i11 i12 i13 i14 i15 i16 i17 i18 j19 j21 j23 j25 j27 j29 j31 o33 o34 i35 i36 i37 i38 i39) [(.long j25), (.long j29)])) _
  refine XS.lcmp X0.here hx rfl (hb hby at_426) rfl ?_
  show Steps p.tables e below (T0.setTop (mkF m 427 (lv23 j0 j2 j4 j6 i8 i9 i10 i11 i12 i13 i14 i15 i16 i17 i18 j19 j21 j23 j25 j27 j29 j31 o33 o34 i35 i36 i37 i38 i39) [(.int (lcmpW j29 j25))])) _
  refine XS.ifNo X0.here hx rfl (hb hby at_427) rfl ((if0 _ _).trans (flt hc427).2.2.1) ?_
  show Steps p.tables e below (T0.setTop (mkF m 430 (lv23 j0 j2 j4 j6 i8 i9 i10 i11 i12 i13 i14 i15 i16 i17 i18 j19 j21 j23 j25 j27 j29 j31 o33 o34 i35 i36 i37 i38 i39) [])) _
  refine XS.iconst X0.here hx rfl (hb hby at_430) ?_
  show Steps p.tables e below (T0.setTop (mkF m 431 (lv23 j0 j2 j4 j6 i8 i9 i10 i11 i12 i13 i14 i15 i16 i17 i18 j19 j21 j23 j25 j27 j29 j31 o33 o34 i35 i36 i37 i38 i39) [(.int (1 : Int32))])) _
  refine XS.goto X0.here hx rfl (pc0 := 431) (pc' := 435) rfl (hb hby at_431) (by decide) (by decide) ?_
  show Steps p.tables e below (T0.setTop (mkF m 435 (lv23 j0 j2 j4 j6 i8 i9 i10 i11 i12 i13 i14 i15 i16 i17 i18 j19 j21 j23 j25 j27 j29 j31 o33 o34 i35 i36 i37 i38 i39) [(.int (1 : Int32))])) _
  refine XS.istore X0.here hx rfl (hb hby at_435) rfl (l' := (lv24 j0 j2 j4 j6 i8 i9 i10 i11 i12 i13 i14 i15 i16 i17 i18 j19 j21 j23 j25 j27 j29 j31 o33 o34 i35 i36 i37 i38 i39 (1 : Int32))) rfl ?_
  exact kt
set_option maxRecDepth 65536 in
set_option maxHeartbeats 40000000 in
theorem sE0 {p : Program} {l : Launch} {e : Env} {R : Room} {s : State} {m : MethodId} {args : Array Value} {below : List Frame} {meth : Method} {c : Code} {T0 : State} {locs : List Loc} {cells slots : Nat} {Z : State} {a0 : Array Value} {h0 : Heap} (j0 : Int64) (j2 : Int64) (j4 : Int64) (j6 : Int64) (i8 : Int32) (i9 : Int32) (i10 : Int32) (i11 : Int32) (i12 : Int32) (i13 : Int32) (i14 : Int32) (i15 : Int32) (i16 : Int32) (i17 : Int32) (i18 : Int32) (j19 : Int64) (j21 : Int64) (j23 : Int64) (j25 : Int64) (j27 : Int64) (j29 : Int64) (j31 : Int64) (o33 : Addr) (o34 : Addr) (i35 : Int32) (i36 : Int32) (i37 : Int32) (i38 : Int32) (i39 : Int32) (i40 : Int32)
    (X0 : Stand p l e R s m args below meth c T0 locs cells slots) (hx : p.tables.exec = Jvm.exec) (hZ : Z.Warmed39 s.vm) (hw : ∀ d ∈ tables_1, d.before a0 Z = true) (hby : c.code = code) (hml : c.maxLocals = 43) (hown : s.vm.findClass "com/example/fairjoin/fairjoin/operator/DirectKeysSlotPinLaw" = some m.cls) (e0 : T0.heap = h0) (hc439 : i10 = (0 : Int32)) :
    ∃ (T' : State), Stand p l e R s m args below meth c T' locs cells slots ∧ T'.heap = h0 ∧
      ∀ target, Steps p.tables e below (T'.setTop (mkF m 542 (lv25 j0 j2 j4 j6 i8 i9 i10 i11 i12 i13 i14 i15 i16 i17 i18 j19 j21 j23 j25 j27 j29 j31 o33 o34 i35 i36 i37 i38 i39 i40 (-1 : Int32)) [])) target → Steps p.tables e below (T0.setTop (mkF m 437 (lv24 j0 j2 j4 j6 i8 i9 i10 i11 i12 i13 i14 i15 i16 i17 i18 j19 j21 j23 j25 j27 j29 j31 o33 o34 i35 i36 i37 i38 i39 i40) [])) target := by
  refine ⟨T0, X0, e0, fun target kt => ?_⟩
  show Steps p.tables e below (T0.setTop (mkF m 437 (lv24 j0 j2 j4 j6 i8 i9 i10 i11 i12 i13 i14 i15 i16 i17 i18 j19 j21 j23 j25 j27 j29 j31 o33 o34 i35 i36 i37 i38 i39 i40) [])) _
  refine XS.iload X0.here hx rfl (hb hby at_437) rfl ?_
  show Steps p.tables e below (T0.setTop (mkF m 439 (lv24 j0 j2 j4 j6 i8 i9 i10 i11 i12 i13 i14 i15 i16 i17 i18 j19 j21 j23 j25 j27 j29 j31 o33 o34 i35 i36 i37 i38 i39 i40) [(.int i10)])) _
  refine XS.ifNo X0.here hx rfl (hb hby at_439) rfl ((if0 _ _).trans (teq hc439).2) ?_
  show Steps p.tables e below (T0.setTop (mkF m 442 (lv24 j0 j2 j4 j6 i8 i9 i10 i11 i12 i13 i14 i15 i16 i17 i18 j19 j21 j23 j25 j27 j29 j31 o33 o34 i35 i36 i37 i38 i39 i40) [])) _
  refine XS.iconst X0.here hx rfl (hb hby at_442) ?_
  show Steps p.tables e below (T0.setTop (mkF m 443 (lv24 j0 j2 j4 j6 i8 i9 i10 i11 i12 i13 i14 i15 i16 i17 i18 j19 j21 j23 j25 j27 j29 j31 o33 o34 i35 i36 i37 i38 i39 i40) [(.int (-1 : Int32))])) _
  refine XS.istore X0.here hx rfl (hb hby at_443) rfl (l' := (lv25 j0 j2 j4 j6 i8 i9 i10 i11 i12 i13 i14 i15 i16 i17 i18 j19 j21 j23 j25 j27 j29 j31 o33 o34 i35 i36 i37 i38 i39 i40 (-1 : Int32))) rfl ?_
  show Steps p.tables e below (T0.setTop (mkF m 445 (lv25 j0 j2 j4 j6 i8 i9 i10 i11 i12 i13 i14 i15 i16 i17 i18 j19 j21 j23 j25 j27 j29 j31 o33 o34 i35 i36 i37 i38 i39 i40 (-1 : Int32)) [])) _
  refine XS.goto X0.here hx rfl (pc0 := 445) (pc' := 542) rfl (hb hby at_445) (by decide) (by decide) ?_
  exact kt
set_option maxRecDepth 65536 in
set_option maxHeartbeats 40000000 in
theorem sE1a {p : Program} {l : Launch} {e : Env} {R : Room} {s : State} {m : MethodId} {args : Array Value} {below : List Frame} {meth : Method} {c : Code} {T0 : State} {locs : List Loc} {cells slots : Nat} {Z : State} {a0 : Array Value} {h0 : Heap} (j0 : Int64) (j2 : Int64) (j4 : Int64) (j6 : Int64) (i8 : Int32) (i9 : Int32) (i10 : Int32) (i11 : Int32) (i12 : Int32) (i13 : Int32) (i14 : Int32) (i15 : Int32) (i16 : Int32) (i17 : Int32) (i18 : Int32) (j19 : Int64) (j21 : Int64) (j23 : Int64) (j25 : Int64) (j27 : Int64) (j29 : Int64) (j31 : Int64) (o33 : Addr) (o34 : Addr) (i35 : Int32) (i36 : Int32) (i37 : Int32) (i38 : Int32) (i39 : Int32) (i40 : Int32)
    (X0 : Stand p l e R s m args below meth c T0 locs cells slots) (hx : p.tables.exec = Jvm.exec) (hZ : Z.Warmed39 s.vm) (hw : ∀ d ∈ tables_1, d.before a0 Z = true) (hby : c.code = code) (hml : c.maxLocals = 43) (hown : s.vm.findClass "com/example/fairjoin/fairjoin/operator/DirectKeysSlotPinLaw" = some m.cls) (e0 : T0.heap = h0) (hc439 : ¬ (i10 = (0 : Int32))) (hc451 : i10 = (1 : Int32)) (hc456 : i39 = (0 : Int32)) :
    ∃ (T' : State), Stand p l e R s m args below meth c T' locs cells slots ∧ T'.heap = h0 ∧
      ∀ target, Steps p.tables e below (T'.setTop (mkF m 542 (lv25 j0 j2 j4 j6 i8 i9 i10 i11 i12 i13 i14 i15 i16 i17 i18 j19 j21 j23 j25 j27 j29 j31 o33 o34 i35 i36 i37 i38 i39 i40 (-1 : Int32)) [])) target → Steps p.tables e below (T0.setTop (mkF m 437 (lv24 j0 j2 j4 j6 i8 i9 i10 i11 i12 i13 i14 i15 i16 i17 i18 j19 j21 j23 j25 j27 j29 j31 o33 o34 i35 i36 i37 i38 i39 i40) [])) target := by
  refine ⟨T0, X0, e0, fun target kt => ?_⟩
  show Steps p.tables e below (T0.setTop (mkF m 437 (lv24 j0 j2 j4 j6 i8 i9 i10 i11 i12 i13 i14 i15 i16 i17 i18 j19 j21 j23 j25 j27 j29 j31 o33 o34 i35 i36 i37 i38 i39 i40) [])) _
  refine XS.iload X0.here hx rfl (hb hby at_437) rfl ?_
  show Steps p.tables e below (T0.setTop (mkF m 439 (lv24 j0 j2 j4 j6 i8 i9 i10 i11 i12 i13 i14 i15 i16 i17 i18 j19 j21 j23 j25 j27 j29 j31 o33 o34 i35 i36 i37 i38 i39 i40) [(.int i10)])) _
  refine XS.ifYes X0.here hx rfl (pc0 := 439) (pc' := 448) rfl (hb hby at_439) rfl ((if0 _ _).trans (feq hc439).2) (by decide) (by decide) ?_
  show Steps p.tables e below (T0.setTop (mkF m 448 (lv24 j0 j2 j4 j6 i8 i9 i10 i11 i12 i13 i14 i15 i16 i17 i18 j19 j21 j23 j25 j27 j29 j31 o33 o34 i35 i36 i37 i38 i39 i40) [])) _
  refine XS.iload X0.here hx rfl (hb hby at_448) rfl ?_
  show Steps p.tables e below (T0.setTop (mkF m 450 (lv24 j0 j2 j4 j6 i8 i9 i10 i11 i12 i13 i14 i15 i16 i17 i18 j19 j21 j23 j25 j27 j29 j31 o33 o34 i35 i36 i37 i38 i39 i40) [(.int i10)])) _
  refine XS.iconst X0.here hx rfl (hb hby at_450) ?_
  show Steps p.tables e below (T0.setTop (mkF m 451 (lv24 j0 j2 j4 j6 i8 i9 i10 i11 i12 i13 i14 i15 i16 i17 i18 j19 j21 j23 j25 j27 j29 j31 o33 o34 i35 i36 i37 i38 i39 i40) [(.int (1 : Int32)), (.int i10)])) _
  refine XS.icmpNo X0.here hx rfl (hb hby at_451) rfl (teq hc451).2 ?_
  show Steps p.tables e below (T0.setTop (mkF m 454 (lv24 j0 j2 j4 j6 i8 i9 i10 i11 i12 i13 i14 i15 i16 i17 i18 j19 j21 j23 j25 j27 j29 j31 o33 o34 i35 i36 i37 i38 i39 i40) [])) _
  refine XS.iload X0.here hx rfl (hb hby at_454) rfl ?_
  show Steps p.tables e below (T0.setTop (mkF m 456 (lv24 j0 j2 j4 j6 i8 i9 i10 i11 i12 i13 i14 i15 i16 i17 i18 j19 j21 j23 j25 j27 j29 j31 o33 o34 i35 i36 i37 i38 i39 i40) [(.int i39)])) _
  refine XS.ifYes X0.here hx rfl (pc0 := 456) (pc' := 487) rfl (hb hby at_456) rfl ((if0 _ _).trans (teq hc456).1) (by decide) (by decide) ?_
  show Steps p.tables e below (T0.setTop (mkF m 487 (lv24 j0 j2 j4 j6 i8 i9 i10 i11 i12 i13 i14 i15 i16 i17 i18 j19 j21 j23 j25 j27 j29 j31 o33 o34 i35 i36 i37 i38 i39 i40) [])) _
  refine XS.iconst X0.here hx rfl (hb hby at_487) ?_
  show Steps p.tables e below (T0.setTop (mkF m 488 (lv24 j0 j2 j4 j6 i8 i9 i10 i11 i12 i13 i14 i15 i16 i17 i18 j19 j21 j23 j25 j27 j29 j31 o33 o34 i35 i36 i37 i38 i39 i40) [(.int (-1 : Int32))])) _
  refine XS.istore X0.here hx rfl (hb hby at_488) rfl (l' := (lv25 j0 j2 j4 j6 i8 i9 i10 i11 i12 i13 i14 i15 i16 i17 i18 j19 j21 j23 j25 j27 j29 j31 o33 o34 i35 i36 i37 i38 i39 i40 (-1 : Int32))) rfl ?_
  show Steps p.tables e below (T0.setTop (mkF m 490 (lv25 j0 j2 j4 j6 i8 i9 i10 i11 i12 i13 i14 i15 i16 i17 i18 j19 j21 j23 j25 j27 j29 j31 o33 o34 i35 i36 i37 i38 i39 i40 (-1 : Int32)) [])) _
  refine XS.goto X0.here hx rfl (pc0 := 490) (pc' := 542) rfl (hb hby at_490) (by decide) (by decide) ?_
  exact kt
set_option maxRecDepth 65536 in
set_option maxHeartbeats 40000000 in
theorem sE1b {p : Program} {l : Launch} {e : Env} {R : Room} {s : State} {m : MethodId} {args : Array Value} {below : List Frame} {meth : Method} {c : Code} {T0 : State} {locs : List Loc} {cells slots : Nat} {Z : State} {a0 : Array Value} {h0 : Heap} (j0 : Int64) (j2 : Int64) (j4 : Int64) (j6 : Int64) (i8 : Int32) (i9 : Int32) (i10 : Int32) (i11 : Int32) (i12 : Int32) (i13 : Int32) (i14 : Int32) (i15 : Int32) (i16 : Int32) (i17 : Int32) (i18 : Int32) (j19 : Int64) (j21 : Int64) (j23 : Int64) (j25 : Int64) (j27 : Int64) (j29 : Int64) (j31 : Int64) (o33 : Addr) (o34 : Addr) (i35 : Int32) (i36 : Int32) (i37 : Int32) (i38 : Int32) (i39 : Int32) (i40 : Int32)
    (X0 : Stand p l e R s m args below meth c T0 locs cells slots) (hx : p.tables.exec = Jvm.exec) (hZ : Z.Warmed39 s.vm) (hw : ∀ d ∈ tables_1, d.before a0 Z = true) (hby : c.code = code) (hml : c.maxLocals = 43) (hown : s.vm.findClass "com/example/fairjoin/fairjoin/operator/DirectKeysSlotPinLaw" = some m.cls) (e0 : T0.heap = h0) (hc439 : ¬ (i10 = (0 : Int32))) (hc451 : i10 = (1 : Int32)) (hc456 : ¬ (i39 = (0 : Int32))) (hc461 : i40 = (0 : Int32)) :
    ∃ (T' : State), Stand p l e R s m args below meth c T' locs cells slots ∧ T'.heap = h0 ∧
      ∀ target, Steps p.tables e below (T'.setTop (mkF m 542 (lv25 j0 j2 j4 j6 i8 i9 i10 i11 i12 i13 i14 i15 i16 i17 i18 j19 j21 j23 j25 j27 j29 j31 o33 o34 i35 i36 i37 i38 i39 i40 (-1 : Int32)) [])) target → Steps p.tables e below (T0.setTop (mkF m 437 (lv24 j0 j2 j4 j6 i8 i9 i10 i11 i12 i13 i14 i15 i16 i17 i18 j19 j21 j23 j25 j27 j29 j31 o33 o34 i35 i36 i37 i38 i39 i40) [])) target := by
  refine ⟨T0, X0, e0, fun target kt => ?_⟩
  show Steps p.tables e below (T0.setTop (mkF m 437 (lv24 j0 j2 j4 j6 i8 i9 i10 i11 i12 i13 i14 i15 i16 i17 i18 j19 j21 j23 j25 j27 j29 j31 o33 o34 i35 i36 i37 i38 i39 i40) [])) _
  refine XS.iload X0.here hx rfl (hb hby at_437) rfl ?_
  show Steps p.tables e below (T0.setTop (mkF m 439 (lv24 j0 j2 j4 j6 i8 i9 i10 i11 i12 i13 i14 i15 i16 i17 i18 j19 j21 j23 j25 j27 j29 j31 o33 o34 i35 i36 i37 i38 i39 i40) [(.int i10)])) _
  refine XS.ifYes X0.here hx rfl (pc0 := 439) (pc' := 448) rfl (hb hby at_439) rfl ((if0 _ _).trans (feq hc439).2) (by decide) (by decide) ?_
  show Steps p.tables e below (T0.setTop (mkF m 448 (lv24 j0 j2 j4 j6 i8 i9 i10 i11 i12 i13 i14 i15 i16 i17 i18 j19 j21 j23 j25 j27 j29 j31 o33 o34 i35 i36 i37 i38 i39 i40) [])) _
  refine XS.iload X0.here hx rfl (hb hby at_448) rfl ?_
  show Steps p.tables e below (T0.setTop (mkF m 450 (lv24 j0 j2 j4 j6 i8 i9 i10 i11 i12 i13 i14 i15 i16 i17 i18 j19 j21 j23 j25 j27 j29 j31 o33 o34 i35 i36 i37 i38 i39 i40) [(.int i10)])) _
  refine XS.iconst X0.here hx rfl (hb hby at_450) ?_
  show Steps p.tables e below (T0.setTop (mkF m 451 (lv24 j0 j2 j4 j6 i8 i9 i10 i11 i12 i13 i14 i15 i16 i17 i18 j19 j21 j23 j25 j27 j29 j31 o33 o34 i35 i36 i37 i38 i39 i40) [(.int (1 : Int32)), (.int i10)])) _
  refine XS.icmpNo X0.here hx rfl (hb hby at_451) rfl (teq hc451).2 ?_
  show Steps p.tables e below (T0.setTop (mkF m 454 (lv24 j0 j2 j4 j6 i8 i9 i10 i11 i12 i13 i14 i15 i16 i17 i18 j19 j21 j23 j25 j27 j29 j31 o33 o34 i35 i36 i37 i38 i39 i40) [])) _
  refine XS.iload X0.here hx rfl (hb hby at_454) rfl ?_
  show Steps p.tables e below (T0.setTop (mkF m 456 (lv24 j0 j2 j4 j6 i8 i9 i10 i11 i12 i13 i14 i15 i16 i17 i18 j19 j21 j23 j25 j27 j29 j31 o33 o34 i35 i36 i37 i38 i39 i40) [(.int i39)])) _
  refine XS.ifNo X0.here hx rfl (hb hby at_456) rfl ((if0 _ _).trans (feq hc456).1) ?_
  show Steps p.tables e below (T0.setTop (mkF m 459 (lv24 j0 j2 j4 j6 i8 i9 i10 i11 i12 i13 i14 i15 i16 i17 i18 j19 j21 j23 j25 j27 j29 j31 o33 o34 i35 i36 i37 i38 i39 i40) [])) _
  refine XS.iload X0.here hx rfl (hb hby at_459) rfl ?_
  show Steps p.tables e below (T0.setTop (mkF m 461 (lv24 j0 j2 j4 j6 i8 i9 i10 i11 i12 i13 i14 i15 i16 i17 i18 j19 j21 j23 j25 j27 j29 j31 o33 o34 i35 i36 i37 i38 i39 i40) [(.int i40)])) _
  refine XS.ifYes X0.here hx rfl (pc0 := 461) (pc' := 487) rfl (hb hby at_461) rfl ((if0 _ _).trans (teq hc461).1) (by decide) (by decide) ?_
  show Steps p.tables e below (T0.setTop (mkF m 487 (lv24 j0 j2 j4 j6 i8 i9 i10 i11 i12 i13 i14 i15 i16 i17 i18 j19 j21 j23 j25 j27 j29 j31 o33 o34 i35 i36 i37 i38 i39 i40) [])) _
  refine XS.iconst X0.here hx rfl (hb hby at_487) ?_
  show Steps p.tables e below (T0.setTop (mkF m 488 (lv24 j0 j2 j4 j6 i8 i9 i10 i11 i12 i13 i14 i15 i16 i17 i18 j19 j21 j23 j25 j27 j29 j31 o33 o34 i35 i36 i37 i38 i39 i40) [(.int (-1 : Int32))])) _
  refine XS.istore X0.here hx rfl (hb hby at_488) rfl (l' := (lv25 j0 j2 j4 j6 i8 i9 i10 i11 i12 i13 i14 i15 i16 i17 i18 j19 j21 j23 j25 j27 j29 j31 o33 o34 i35 i36 i37 i38 i39 i40 (-1 : Int32))) rfl ?_
  show Steps p.tables e below (T0.setTop (mkF m 490 (lv25 j0 j2 j4 j6 i8 i9 i10 i11 i12 i13 i14 i15 i16 i17 i18 j19 j21 j23 j25 j27 j29 j31 o33 o34 i35 i36 i37 i38 i39 i40 (-1 : Int32)) [])) _
  refine XS.goto X0.here hx rfl (pc0 := 490) (pc' := 542) rfl (hb hby at_490) (by decide) (by decide) ?_
  exact kt
set_option maxRecDepth 65536 in
set_option maxHeartbeats 40000000 in
theorem sE1c {p : Program} {l : Launch} {e : Env} {R : Room} {s : State} {m : MethodId} {args : Array Value} {below : List Frame} {meth : Method} {c : Code} {T0 : State} {locs : List Loc} {cells slots : Nat} {Z : State} {a0 : Array Value} {h0 : Heap} (j0 : Int64) (j2 : Int64) (j4 : Int64) (j6 : Int64) (i8 : Int32) (i9 : Int32) (i10 : Int32) (i11 : Int32) (i12 : Int32) (i13 : Int32) (i14 : Int32) (i15 : Int32) (i16 : Int32) (i17 : Int32) (i18 : Int32) (j19 : Int64) (j21 : Int64) (j23 : Int64) (j25 : Int64) (j27 : Int64) (j29 : Int64) (j31 : Int64) (o33 : Addr) (o34 : Addr) (i35 : Int32) (i36 : Int32) (i37 : Int32) (i38 : Int32) (i39 : Int32) (i40 : Int32)
    (X0 : Stand p l e R s m args below meth c T0 locs cells slots) (hx : p.tables.exec = Jvm.exec) (hZ : Z.Warmed39 s.vm) (hw : ∀ d ∈ tables_1, d.before a0 Z = true) (hby : c.code = code) (hml : c.maxLocals = 43) (hown : s.vm.findClass "com/example/fairjoin/fairjoin/operator/DirectKeysSlotPinLaw" = some m.cls) (e0 : T0.heap = h0) (hc439 : ¬ (i10 = (0 : Int32))) (hc451 : i10 = (1 : Int32)) (hc456 : ¬ (i39 = (0 : Int32))) (hc461 : ¬ (i40 = (0 : Int32))) :
    ∃ (T' : State), Stand p l e R s m args below meth c T' locs cells slots ∧ T'.heap = h0 ∧
      ∀ target, Steps p.tables e below (T'.setTop (mkF m 542 (lv25 j0 j2 j4 j6 i8 i9 i10 i11 i12 i13 i14 i15 i16 i17 i18 j19 j21 j23 j25 j27 j29 j31 o33 o34 i35 i36 i37 i38 i39 i40 ((((j27 - j19).toInt32) * (i12 + (1 : Int32))) + ((j29 - j23).toInt32))) [])) target → Steps p.tables e below (T0.setTop (mkF m 437 (lv24 j0 j2 j4 j6 i8 i9 i10 i11 i12 i13 i14 i15 i16 i17 i18 j19 j21 j23 j25 j27 j29 j31 o33 o34 i35 i36 i37 i38 i39 i40) [])) target := by
  refine ⟨T0, X0, e0, fun target kt => ?_⟩
  show Steps p.tables e below (T0.setTop (mkF m 437 (lv24 j0 j2 j4 j6 i8 i9 i10 i11 i12 i13 i14 i15 i16 i17 i18 j19 j21 j23 j25 j27 j29 j31 o33 o34 i35 i36 i37 i38 i39 i40) [])) _
  refine XS.iload X0.here hx rfl (hb hby at_437) rfl ?_
  show Steps p.tables e below (T0.setTop (mkF m 439 (lv24 j0 j2 j4 j6 i8 i9 i10 i11 i12 i13 i14 i15 i16 i17 i18 j19 j21 j23 j25 j27 j29 j31 o33 o34 i35 i36 i37 i38 i39 i40) [(.int i10)])) _
  refine XS.ifYes X0.here hx rfl (pc0 := 439) (pc' := 448) rfl (hb hby at_439) rfl ((if0 _ _).trans (feq hc439).2) (by decide) (by decide) ?_
  show Steps p.tables e below (T0.setTop (mkF m 448 (lv24 j0 j2 j4 j6 i8 i9 i10 i11 i12 i13 i14 i15 i16 i17 i18 j19 j21 j23 j25 j27 j29 j31 o33 o34 i35 i36 i37 i38 i39 i40) [])) _
  refine XS.iload X0.here hx rfl (hb hby at_448) rfl ?_
  show Steps p.tables e below (T0.setTop (mkF m 450 (lv24 j0 j2 j4 j6 i8 i9 i10 i11 i12 i13 i14 i15 i16 i17 i18 j19 j21 j23 j25 j27 j29 j31 o33 o34 i35 i36 i37 i38 i39 i40) [(.int i10)])) _
  refine XS.iconst X0.here hx rfl (hb hby at_450) ?_
  show Steps p.tables e below (T0.setTop (mkF m 451 (lv24 j0 j2 j4 j6 i8 i9 i10 i11 i12 i13 i14 i15 i16 i17 i18 j19 j21 j23 j25 j27 j29 j31 o33 o34 i35 i36 i37 i38 i39 i40) [(.int (1 : Int32)), (.int i10)])) _
  refine XS.icmpNo X0.here hx rfl (hb hby at_451) rfl (teq hc451).2 ?_
  show Steps p.tables e below (T0.setTop (mkF m 454 (lv24 j0 j2 j4 j6 i8 i9 i10 i11 i12 i13 i14 i15 i16 i17 i18 j19 j21 j23 j25 j27 j29 j31 o33 o34 i35 i36 i37 i38 i39 i40) [])) _
  refine XS.iload X0.here hx rfl (hb hby at_454) rfl ?_
  show Steps p.tables e below (T0.setTop (mkF m 456 (lv24 j0 j2 j4 j6 i8 i9 i10 i11 i12 i13 i14 i15 i16 i17 i18 j19 j21 j23 j25 j27 j29 j31 o33 o34 i35 i36 i37 i38 i39 i40) [(.int i39)])) _
  refine XS.ifNo X0.here hx rfl (hb hby at_456) rfl ((if0 _ _).trans (feq hc456).1) ?_
  show Steps p.tables e below (T0.setTop (mkF m 459 (lv24 j0 j2 j4 j6 i8 i9 i10 i11 i12 i13 i14 i15 i16 i17 i18 j19 j21 j23 j25 j27 j29 j31 o33 o34 i35 i36 i37 i38 i39 i40) [])) _
  refine XS.iload X0.here hx rfl (hb hby at_459) rfl ?_
  show Steps p.tables e below (T0.setTop (mkF m 461 (lv24 j0 j2 j4 j6 i8 i9 i10 i11 i12 i13 i14 i15 i16 i17 i18 j19 j21 j23 j25 j27 j29 j31 o33 o34 i35 i36 i37 i38 i39 i40) [(.int i40)])) _
  refine XS.ifNo X0.here hx rfl (hb hby at_461) rfl ((if0 _ _).trans (feq hc461).1) ?_
  show Steps p.tables e below (T0.setTop (mkF m 464 (lv24 j0 j2 j4 j6 i8 i9 i10 i11 i12 i13 i14 i15 i16 i17 i18 j19 j21 j23 j25 j27 j29 j31 o33 o34 i35 i36 i37 i38 i39 i40) [])) _
  refine XS.lload X0.here hx rfl (hb hby at_464) rfl ?_
  show Steps p.tables e below (T0.setTop (mkF m 466 (lv24 j0 j2 j4 j6 i8 i9 i10 i11 i12 i13 i14 i15 i16 i17 i18 j19 j21 j23 j25 j27 j29 j31 o33 o34 i35 i36 i37 i38 i39 i40) [(.long j27)])) _
  refine XS.lload X0.here hx rfl (hb hby at_466) rfl ?_
  show Steps p.tables e below (T0.setTop (mkF m 468 (lv24 j0 j2 j4 j6 i8 i9 i10 i11 i12 i13 i14 i15 i16 i17 i18 j19 j21 j23 j25 j27 j29 j31 o33 o34 i35 i36 i37 i38 i39 i40) [(.long j19), (.long j27)])) _
  refine XS.lsub X0.here hx rfl (hb hby at_468) rfl ?_
  show Steps p.tables e below (T0.setTop (mkF m 469 (lv24 j0 j2 j4 j6 i8 i9 i10 i11 i12 i13 i14 i15 i16 i17 i18 j19 j21 j23 j25 j27 j29 j31 o33 o34 i35 i36 i37 i38 i39 i40) [(.long (j27 - j19))])) _
  refine XS.l2i X0.here hx rfl (hb hby at_469) rfl ?_
  show Steps p.tables e below (T0.setTop (mkF m 470 (lv24 j0 j2 j4 j6 i8 i9 i10 i11 i12 i13 i14 i15 i16 i17 i18 j19 j21 j23 j25 j27 j29 j31 o33 o34 i35 i36 i37 i38 i39 i40) [(.int ((j27 - j19).toInt32))])) _
  refine XS.iload X0.here hx rfl (hb hby at_470) rfl ?_
  show Steps p.tables e below (T0.setTop (mkF m 472 (lv24 j0 j2 j4 j6 i8 i9 i10 i11 i12 i13 i14 i15 i16 i17 i18 j19 j21 j23 j25 j27 j29 j31 o33 o34 i35 i36 i37 i38 i39 i40) [(.int i12), (.int ((j27 - j19).toInt32))])) _
  refine XS.iconst X0.here hx rfl (hb hby at_472) ?_
  show Steps p.tables e below (T0.setTop (mkF m 473 (lv24 j0 j2 j4 j6 i8 i9 i10 i11 i12 i13 i14 i15 i16 i17 i18 j19 j21 j23 j25 j27 j29 j31 o33 o34 i35 i36 i37 i38 i39 i40) [(.int (1 : Int32)), (.int i12), (.int ((j27 - j19).toInt32))])) _
  refine XS.iadd X0.here hx rfl (hb hby at_473) rfl ?_
  show Steps p.tables e below (T0.setTop (mkF m 474 (lv24 j0 j2 j4 j6 i8 i9 i10 i11 i12 i13 i14 i15 i16 i17 i18 j19 j21 j23 j25 j27 j29 j31 o33 o34 i35 i36 i37 i38 i39 i40) [(.int (i12 + (1 : Int32))), (.int ((j27 - j19).toInt32))])) _
  refine XS.imul X0.here hx rfl (hb hby at_474) rfl ?_
  show Steps p.tables e below (T0.setTop (mkF m 475 (lv24 j0 j2 j4 j6 i8 i9 i10 i11 i12 i13 i14 i15 i16 i17 i18 j19 j21 j23 j25 j27 j29 j31 o33 o34 i35 i36 i37 i38 i39 i40) [(.int (((j27 - j19).toInt32) * (i12 + (1 : Int32))))])) _
  refine XS.lload X0.here hx rfl (hb hby at_475) rfl ?_
  show Steps p.tables e below (T0.setTop (mkF m 477 (lv24 j0 j2 j4 j6 i8 i9 i10 i11 i12 i13 i14 i15 i16 i17 i18 j19 j21 j23 j25 j27 j29 j31 o33 o34 i35 i36 i37 i38 i39 i40) [(.long j29), (.int (((j27 - j19).toInt32) * (i12 + (1 : Int32))))])) _
  refine XS.lload X0.here hx rfl (hb hby at_477) rfl ?_
  show Steps p.tables e below (T0.setTop (mkF m 479 (lv24 j0 j2 j4 j6 i8 i9 i10 i11 i12 i13 i14 i15 i16 i17 i18 j19 j21 j23 j25 j27 j29 j31 o33 o34 i35 i36 i37 i38 i39 i40) [(.long j23), (.long j29), (.int (((j27 - j19).toInt32) * (i12 + (1 : Int32))))])) _
  refine XS.lsub X0.here hx rfl (hb hby at_479) rfl ?_
  show Steps p.tables e below (T0.setTop (mkF m 480 (lv24 j0 j2 j4 j6 i8 i9 i10 i11 i12 i13 i14 i15 i16 i17 i18 j19 j21 j23 j25 j27 j29 j31 o33 o34 i35 i36 i37 i38 i39 i40) [(.long (j29 - j23)), (.int (((j27 - j19).toInt32) * (i12 + (1 : Int32))))])) _
  refine XS.l2i X0.here hx rfl (hb hby at_480) rfl ?_
  show Steps p.tables e below (T0.setTop (mkF m 481 (lv24 j0 j2 j4 j6 i8 i9 i10 i11 i12 i13 i14 i15 i16 i17 i18 j19 j21 j23 j25 j27 j29 j31 o33 o34 i35 i36 i37 i38 i39 i40) [(.int ((j29 - j23).toInt32)), (.int (((j27 - j19).toInt32) * (i12 + (1 : Int32))))])) _
  refine XS.iadd X0.here hx rfl (hb hby at_481) rfl ?_
  show Steps p.tables e below (T0.setTop (mkF m 482 (lv24 j0 j2 j4 j6 i8 i9 i10 i11 i12 i13 i14 i15 i16 i17 i18 j19 j21 j23 j25 j27 j29 j31 o33 o34 i35 i36 i37 i38 i39 i40) [(.int ((((j27 - j19).toInt32) * (i12 + (1 : Int32))) + ((j29 - j23).toInt32)))])) _
  refine XS.istore X0.here hx rfl (hb hby at_482) rfl (l' := (lv25 j0 j2 j4 j6 i8 i9 i10 i11 i12 i13 i14 i15 i16 i17 i18 j19 j21 j23 j25 j27 j29 j31 o33 o34 i35 i36 i37 i38 i39 i40 ((((j27 - j19).toInt32) * (i12 + (1 : Int32))) + ((j29 - j23).toInt32)))) rfl ?_
  show Steps p.tables e below (T0.setTop (mkF m 484 (lv25 j0 j2 j4 j6 i8 i9 i10 i11 i12 i13 i14 i15 i16 i17 i18 j19 j21 j23 j25 j27 j29 j31 o33 o34 i35 i36 i37 i38 i39 i40 ((((j27 - j19).toInt32) * (i12 + (1 : Int32))) + ((j29 - j23).toInt32))) [])) _
  refine XS.goto X0.here hx rfl (pc0 := 484) (pc' := 542) rfl (hb hby at_484) (by decide) (by decide) ?_
  exact kt
set_option maxRecDepth 65536 in
set_option maxHeartbeats 40000000 in
theorem sE2a {p : Program} {l : Launch} {e : Env} {R : Room} {s : State} {m : MethodId} {args : Array Value} {below : List Frame} {meth : Method} {c : Code} {T0 : State} {locs : List Loc} {cells slots : Nat} {Z : State} {a0 : Array Value} {h0 : Heap} (j0 : Int64) (j2 : Int64) (j4 : Int64) (j6 : Int64) (i8 : Int32) (i9 : Int32) (i10 : Int32) (i11 : Int32) (i12 : Int32) (i13 : Int32) (i14 : Int32) (i15 : Int32) (i16 : Int32) (i17 : Int32) (i18 : Int32) (j19 : Int64) (j21 : Int64) (j23 : Int64) (j25 : Int64) (j27 : Int64) (j29 : Int64) (j31 : Int64) (o33 : Addr) (o34 : Addr) (i35 : Int32) (i36 : Int32) (i37 : Int32) (i38 : Int32) (i39 : Int32) (i40 : Int32)
    (X0 : Stand p l e R s m args below meth c T0 locs cells slots) (hx : p.tables.exec = Jvm.exec) (hZ : Z.Warmed39 s.vm) (hw : ∀ d ∈ tables_1, d.before a0 Z = true) (hby : c.code = code) (hml : c.maxLocals = 43) (hown : s.vm.findClass "com/example/fairjoin/fairjoin/operator/DirectKeysSlotPinLaw" = some m.cls) (e0 : T0.heap = h0) (hc439 : ¬ (i10 = (0 : Int32))) (hc451 : ¬ (i10 = (1 : Int32))) (hc495 : i39 = (0 : Int32)) :
    ∃ (T' : State), Stand p l e R s m args below meth c T' locs cells slots ∧ T'.heap = h0 ∧
      ∀ target, Steps p.tables e below (T'.setTop (mkF m 542 (lv25 j0 j2 j4 j6 i8 i9 i10 i11 i12 i13 i14 i15 i16 i17 i18 j19 j21 j23 j25 j27 j29 j31 o33 o34 i35 i36 i37 i38 i39 i40 (-1 : Int32)) [])) target → Steps p.tables e below (T0.setTop (mkF m 437 (lv24 j0 j2 j4 j6 i8 i9 i10 i11 i12 i13 i14 i15 i16 i17 i18 j19 j21 j23 j25 j27 j29 j31 o33 o34 i35 i36 i37 i38 i39 i40) [])) target := by
  refine ⟨T0, X0, e0, fun target kt => ?_⟩
  show Steps p.tables e below (T0.setTop (mkF m 437 (lv24 j0 j2 j4 j6 i8 i9 i10 i11 i12 i13 i14 i15 i16 i17 i18 j19 j21 j23 j25 j27 j29 j31 o33 o34 i35 i36 i37 i38 i39 i40) [])) _
  refine XS.iload X0.here hx rfl (hb hby at_437) rfl ?_
  show Steps p.tables e below (T0.setTop (mkF m 439 (lv24 j0 j2 j4 j6 i8 i9 i10 i11 i12 i13 i14 i15 i16 i17 i18 j19 j21 j23 j25 j27 j29 j31 o33 o34 i35 i36 i37 i38 i39 i40) [(.int i10)])) _
  refine XS.ifYes X0.here hx rfl (pc0 := 439) (pc' := 448) rfl (hb hby at_439) rfl ((if0 _ _).trans (feq hc439).2) (by decide) (by decide) ?_
  show Steps p.tables e below (T0.setTop (mkF m 448 (lv24 j0 j2 j4 j6 i8 i9 i10 i11 i12 i13 i14 i15 i16 i17 i18 j19 j21 j23 j25 j27 j29 j31 o33 o34 i35 i36 i37 i38 i39 i40) [])) _
  refine XS.iload X0.here hx rfl (hb hby at_448) rfl ?_
  show Steps p.tables e below (T0.setTop (mkF m 450 (lv24 j0 j2 j4 j6 i8 i9 i10 i11 i12 i13 i14 i15 i16 i17 i18 j19 j21 j23 j25 j27 j29 j31 o33 o34 i35 i36 i37 i38 i39 i40) [(.int i10)])) _
  refine XS.iconst X0.here hx rfl (hb hby at_450) ?_
  show Steps p.tables e below (T0.setTop (mkF m 451 (lv24 j0 j2 j4 j6 i8 i9 i10 i11 i12 i13 i14 i15 i16 i17 i18 j19 j21 j23 j25 j27 j29 j31 o33 o34 i35 i36 i37 i38 i39 i40) [(.int (1 : Int32)), (.int i10)])) _
  refine XS.icmpYes X0.here hx rfl (pc0 := 451) (pc' := 493) rfl (hb hby at_451) rfl (feq hc451).2 (by decide) (by decide) ?_
  show Steps p.tables e below (T0.setTop (mkF m 493 (lv24 j0 j2 j4 j6 i8 i9 i10 i11 i12 i13 i14 i15 i16 i17 i18 j19 j21 j23 j25 j27 j29 j31 o33 o34 i35 i36 i37 i38 i39 i40) [])) _
  refine XS.iload X0.here hx rfl (hb hby at_493) rfl ?_
  show Steps p.tables e below (T0.setTop (mkF m 495 (lv24 j0 j2 j4 j6 i8 i9 i10 i11 i12 i13 i14 i15 i16 i17 i18 j19 j21 j23 j25 j27 j29 j31 o33 o34 i35 i36 i37 i38 i39 i40) [(.int i39)])) _
  refine XS.ifNo X0.here hx rfl (hb hby at_495) rfl ((if0 _ _).trans (teq hc495).2) ?_
  show Steps p.tables e below (T0.setTop (mkF m 498 (lv24 j0 j2 j4 j6 i8 i9 i10 i11 i12 i13 i14 i15 i16 i17 i18 j19 j21 j23 j25 j27 j29 j31 o33 o34 i35 i36 i37 i38 i39 i40) [])) _
  refine XS.iconst X0.here hx rfl (hb hby at_498) ?_
  show Steps p.tables e below (T0.setTop (mkF m 499 (lv24 j0 j2 j4 j6 i8 i9 i10 i11 i12 i13 i14 i15 i16 i17 i18 j19 j21 j23 j25 j27 j29 j31 o33 o34 i35 i36 i37 i38 i39 i40) [(.int (-1 : Int32))])) _
  refine XS.istore X0.here hx rfl (hb hby at_499) rfl (l' := (lv25 j0 j2 j4 j6 i8 i9 i10 i11 i12 i13 i14 i15 i16 i17 i18 j19 j21 j23 j25 j27 j29 j31 o33 o34 i35 i36 i37 i38 i39 i40 (-1 : Int32))) rfl ?_
  show Steps p.tables e below (T0.setTop (mkF m 501 (lv25 j0 j2 j4 j6 i8 i9 i10 i11 i12 i13 i14 i15 i16 i17 i18 j19 j21 j23 j25 j27 j29 j31 o33 o34 i35 i36 i37 i38 i39 i40 (-1 : Int32)) [])) _
  refine XS.goto X0.here hx rfl (pc0 := 501) (pc' := 542) rfl (hb hby at_501) (by decide) (by decide) ?_
  exact kt
set_option maxRecDepth 65536 in
set_option maxHeartbeats 40000000 in
theorem sE2b {p : Program} {l : Launch} {e : Env} {R : Room} {s : State} {m : MethodId} {args : Array Value} {below : List Frame} {meth : Method} {c : Code} {T0 : State} {locs : List Loc} {cells slots : Nat} {Z : State} {a0 : Array Value} {h0 : Heap} (j0 : Int64) (j2 : Int64) (j4 : Int64) (j6 : Int64) (i8 : Int32) (i9 : Int32) (i10 : Int32) (i11 : Int32) (i12 : Int32) (i13 : Int32) (i14 : Int32) (i15 : Int32) (i16 : Int32) (i17 : Int32) (i18 : Int32) (j19 : Int64) (j21 : Int64) (j23 : Int64) (j25 : Int64) (j27 : Int64) (j29 : Int64) (j31 : Int64) (o33 : Addr) (o34 : Addr) (i35 : Int32) (i36 : Int32) (i37 : Int32) (i38 : Int32) (i39 : Int32) (i40 : Int32)
    (X0 : Stand p l e R s m args below meth c T0 locs cells slots) (hx : p.tables.exec = Jvm.exec) (hZ : Z.Warmed39 s.vm) (hw : ∀ d ∈ tables_1, d.before a0 Z = true) (hby : c.code = code) (hml : c.maxLocals = 43) (hown : s.vm.findClass "com/example/fairjoin/fairjoin/operator/DirectKeysSlotPinLaw" = some m.cls) (e0 : T0.heap = h0) (hc439 : ¬ (i10 = (0 : Int32))) (hc451 : ¬ (i10 = (1 : Int32))) (hc495 : ¬ (i39 = (0 : Int32))) (hc514 : i36 = (0 : Int32)) :
    ∃ (T' : State), Stand p l e R s m args below meth c T' locs cells slots ∧ T'.heap = h0 ∧
      ∀ target, Steps p.tables e below (T'.setTop (mkF m 542 (lv26 j0 j2 j4 j6 i8 i9 i10 i11 i12 i13 i14 i15 i16 i17 i18 j19 j21 j23 j25 j27 j29 j31 o33 o34 i35 i36 i37 i38 i39 i40 ((j27 - j19).toInt32) ((j27 - j19).toInt32)) [])) target → Steps p.tables e below (T0.setTop (mkF m 437 (lv24 j0 j2 j4 j6 i8 i9 i10 i11 i12 i13 i14 i15 i16 i17 i18 j19 j21 j23 j25 j27 j29 j31 o33 o34 i35 i36 i37 i38 i39 i40) [])) target := by
  refine ⟨T0, X0, e0, fun target kt => ?_⟩
  show Steps p.tables e below (T0.setTop (mkF m 437 (lv24 j0 j2 j4 j6 i8 i9 i10 i11 i12 i13 i14 i15 i16 i17 i18 j19 j21 j23 j25 j27 j29 j31 o33 o34 i35 i36 i37 i38 i39 i40) [])) _
  refine XS.iload X0.here hx rfl (hb hby at_437) rfl ?_
  show Steps p.tables e below (T0.setTop (mkF m 439 (lv24 j0 j2 j4 j6 i8 i9 i10 i11 i12 i13 i14 i15 i16 i17 i18 j19 j21 j23 j25 j27 j29 j31 o33 o34 i35 i36 i37 i38 i39 i40) [(.int i10)])) _
  refine XS.ifYes X0.here hx rfl (pc0 := 439) (pc' := 448) rfl (hb hby at_439) rfl ((if0 _ _).trans (feq hc439).2) (by decide) (by decide) ?_
  show Steps p.tables e below (T0.setTop (mkF m 448 (lv24 j0 j2 j4 j6 i8 i9 i10 i11 i12 i13 i14 i15 i16 i17 i18 j19 j21 j23 j25 j27 j29 j31 o33 o34 i35 i36 i37 i38 i39 i40) [])) _
  refine XS.iload X0.here hx rfl (hb hby at_448) rfl ?_
  show Steps p.tables e below (T0.setTop (mkF m 450 (lv24 j0 j2 j4 j6 i8 i9 i10 i11 i12 i13 i14 i15 i16 i17 i18 j19 j21 j23 j25 j27 j29 j31 o33 o34 i35 i36 i37 i38 i39 i40) [(.int i10)])) _
  refine XS.iconst X0.here hx rfl (hb hby at_450) ?_
  show Steps p.tables e below (T0.setTop (mkF m 451 (lv24 j0 j2 j4 j6 i8 i9 i10 i11 i12 i13 i14 i15 i16 i17 i18 j19 j21 j23 j25 j27 j29 j31 o33 o34 i35 i36 i37 i38 i39 i40) [(.int (1 : Int32)), (.int i10)])) _
  refine XS.icmpYes X0.here hx rfl (pc0 := 451) (pc' := 493) rfl (hb hby at_451) rfl (feq hc451).2 (by decide) (by decide) ?_
  show Steps p.tables e below (T0.setTop (mkF m 493 (lv24 j0 j2 j4 j6 i8 i9 i10 i11 i12 i13 i14 i15 i16 i17 i18 j19 j21 j23 j25 j27 j29 j31 o33 o34 i35 i36 i37 i38 i39 i40) [])) _
  refine XS.iload X0.here hx rfl (hb hby at_493) rfl ?_
  show Steps p.tables e below (T0.setTop (mkF m 495 (lv24 j0 j2 j4 j6 i8 i9 i10 i11 i12 i13 i14 i15 i16 i17 i18 j19 j21 j23 j25 j27 j29 j31 o33 o34 i35 i36 i37 i38 i39 i40) [(.int i39)])) _
  refine XS.ifYes X0.here hx rfl (pc0 := 495) (pc' := 504) rfl (hb hby at_495) rfl ((if0 _ _).trans (feq hc495).2) (by decide) (by decide) ?_
  show Steps p.tables e below (T0.setTop (mkF m 504 (lv24 j0 j2 j4 j6 i8 i9 i10 i11 i12 i13 i14 i15 i16 i17 i18 j19 j21 j23 j25 j27 j29 j31 o33 o34 i35 i36 i37 i38 i39 i40) [])) _
  refine XS.lload X0.here hx rfl (hb hby at_504) rfl ?_
  show Steps p.tables e below (T0.setTop (mkF m 506 (lv24 j0 j2 j4 j6 i8 i9 i10 i11 i12 i13 i14 i15 i16 i17 i18 j19 j21 j23 j25 j27 j29 j31 o33 o34 i35 i36 i37 i38 i39 i40) [(.long j27)])) _
  refine XS.lload X0.here hx rfl (hb hby at_506) rfl ?_
  show Steps p.tables e below (T0.setTop (mkF m 508 (lv24 j0 j2 j4 j6 i8 i9 i10 i11 i12 i13 i14 i15 i16 i17 i18 j19 j21 j23 j25 j27 j29 j31 o33 o34 i35 i36 i37 i38 i39 i40) [(.long j19), (.long j27)])) _
  refine XS.lsub X0.here hx rfl (hb hby at_508) rfl ?_
  show Steps p.tables e below (T0.setTop (mkF m 509 (lv24 j0 j2 j4 j6 i8 i9 i10 i11 i12 i13 i14 i15 i16 i17 i18 j19 j21 j23 j25 j27 j29 j31 o33 o34 i35 i36 i37 i38 i39 i40) [(.long (j27 - j19))])) _
  refine XS.l2i X0.here hx rfl (hb hby at_509) rfl ?_
  show Steps p.tables e below (T0.setTop (mkF m 510 (lv24 j0 j2 j4 j6 i8 i9 i10 i11 i12 i13 i14 i15 i16 i17 i18 j19 j21 j23 j25 j27 j29 j31 o33 o34 i35 i36 i37 i38 i39 i40) [(.int ((j27 - j19).toInt32))])) _
  refine XS.istore X0.here hx rfl (hb hby at_510) rfl (l' := (lv27 j0 j2 j4 j6 i8 i9 i10 i11 i12 i13 i14 i15 i16 i17 i18 j19 j21 j23 j25 j27 j29 j31 o33 o34 i35 i36 i37 i38 i39 i40 ((j27 - j19).toInt32))) rfl ?_
  show Steps p.tables e below (T0.setTop (mkF m 512 (lv27 j0 j2 j4 j6 i8 i9 i10 i11 i12 i13 i14 i15 i16 i17 i18 j19 j21 j23 j25 j27 j29 j31 o33 o34 i35 i36 i37 i38 i39 i40 ((j27 - j19).toInt32)) [])) _
  refine XS.iload X0.here hx rfl (hb hby at_512) rfl ?_
  show Steps p.tables e below (T0.setTop (mkF m 514 (lv27 j0 j2 j4 j6 i8 i9 i10 i11 i12 i13 i14 i15 i16 i17 i18 j19 j21 j23 j25 j27 j29 j31 o33 o34 i35 i36 i37 i38 i39 i40 ((j27 - j19).toInt32)) [(.int i36)])) _
  refine XS.ifYes X0.here hx rfl (pc0 := 514) (pc' := 538) rfl (hb hby at_514) rfl ((if0 _ _).trans (teq hc514).1) (by decide) (by decide) ?_
  show Steps p.tables e below (T0.setTop (mkF m 538 (lv27 j0 j2 j4 j6 i8 i9 i10 i11 i12 i13 i14 i15 i16 i17 i18 j19 j21 j23 j25 j27 j29 j31 o33 o34 i35 i36 i37 i38 i39 i40 ((j27 - j19).toInt32)) [])) _
  refine XS.iload X0.here hx rfl (hb hby at_538) rfl ?_
  show Steps p.tables e below (T0.setTop (mkF m 540 (lv27 j0 j2 j4 j6 i8 i9 i10 i11 i12 i13 i14 i15 i16 i17 i18 j19 j21 j23 j25 j27 j29 j31 o33 o34 i35 i36 i37 i38 i39 i40 ((j27 - j19).toInt32)) [(.int ((j27 - j19).toInt32))])) _
  refine XS.istore X0.here hx rfl (hb hby at_540) rfl (l' := (lv26 j0 j2 j4 j6 i8 i9 i10 i11 i12 i13 i14 i15 i16 i17 i18 j19 j21 j23 j25 j27 j29 j31 o33 o34 i35 i36 i37 i38 i39 i40 ((j27 - j19).toInt32) ((j27 - j19).toInt32))) rfl ?_
  exact kt
set_option maxRecDepth 65536 in
set_option maxHeartbeats 40000000 in
theorem sE2c {p : Program} {l : Launch} {e : Env} {R : Room} {s : State} {m : MethodId} {args : Array Value} {below : List Frame} {meth : Method} {c : Code} {T0 : State} {locs : List Loc} {cells slots : Nat} {Z : State} {a0 : Array Value} {h0 : Heap} (j0 : Int64) (j2 : Int64) (j4 : Int64) (j6 : Int64) (i8 : Int32) (i9 : Int32) (i10 : Int32) (i11 : Int32) (i12 : Int32) (i13 : Int32) (i14 : Int32) (i15 : Int32) (i16 : Int32) (i17 : Int32) (i18 : Int32) (j19 : Int64) (j21 : Int64) (j23 : Int64) (j25 : Int64) (j27 : Int64) (j29 : Int64) (j31 : Int64) (o33 : Addr) (o34 : Addr) (i35 : Int32) (i36 : Int32) (i37 : Int32) (i38 : Int32) (i39 : Int32) (i40 : Int32)
    (X0 : Stand p l e R s m args below meth c T0 locs cells slots) (hx : p.tables.exec = Jvm.exec) (hZ : Z.Warmed39 s.vm) (hw : ∀ d ∈ tables_1, d.before a0 Z = true) (hby : c.code = code) (hml : c.maxLocals = 43) (hown : s.vm.findClass "com/example/fairjoin/fairjoin/operator/DirectKeysSlotPinLaw" = some m.cls) (e0 : T0.heap = h0) (hc439 : ¬ (i10 = (0 : Int32))) (hc451 : ¬ (i10 = (1 : Int32))) (hc495 : ¬ (i39 = (0 : Int32))) (hc514 : ¬ (i36 = (0 : Int32))) (hc521 : ¬ (((j27 - j19).toInt32) = i37)) :
    ∃ (T' : State), Stand p l e R s m args below meth c T' locs cells slots ∧ T'.heap = h0 ∧
      ∀ target, Steps p.tables e below (T'.setTop (mkF m 542 (lv26 j0 j2 j4 j6 i8 i9 i10 i11 i12 i13 i14 i15 i16 i17 i18 j19 j21 j23 j25 j27 j29 j31 o33 o34 i35 i36 i37 i38 i39 i40 ((j27 - j19).toInt32) ((j27 - j19).toInt32)) [])) target → Steps p.tables e below (T0.setTop (mkF m 437 (lv24 j0 j2 j4 j6 i8 i9 i10 i11 i12 i13 i14 i15 i16 i17 i18 j19 j21 j23 j25 j27 j29 j31 o33 o34 i35 i36 i37 i38 i39 i40) [])) target := by
  refine ⟨T0, X0, e0, fun target kt => ?_⟩
  show Steps p.tables e below (T0.setTop (mkF m 437 (lv24 j0 j2 j4 j6 i8 i9 i10 i11 i12 i13 i14 i15 i16 i17 i18 j19 j21 j23 j25 j27 j29 j31 o33 o34 i35 i36 i37 i38 i39 i40) [])) _
  refine XS.iload X0.here hx rfl (hb hby at_437) rfl ?_
  show Steps p.tables e below (T0.setTop (mkF m 439 (lv24 j0 j2 j4 j6 i8 i9 i10 i11 i12 i13 i14 i15 i16 i17 i18 j19 j21 j23 j25 j27 j29 j31 o33 o34 i35 i36 i37 i38 i39 i40) [(.int i10)])) _
  refine XS.ifYes X0.here hx rfl (pc0 := 439) (pc' := 448) rfl (hb hby at_439) rfl ((if0 _ _).trans (feq hc439).2) (by decide) (by decide) ?_
  show Steps p.tables e below (T0.setTop (mkF m 448 (lv24 j0 j2 j4 j6 i8 i9 i10 i11 i12 i13 i14 i15 i16 i17 i18 j19 j21 j23 j25 j27 j29 j31 o33 o34 i35 i36 i37 i38 i39 i40) [])) _
  refine XS.iload X0.here hx rfl (hb hby at_448) rfl ?_
  show Steps p.tables e below (T0.setTop (mkF m 450 (lv24 j0 j2 j4 j6 i8 i9 i10 i11 i12 i13 i14 i15 i16 i17 i18 j19 j21 j23 j25 j27 j29 j31 o33 o34 i35 i36 i37 i38 i39 i40) [(.int i10)])) _
  refine XS.iconst X0.here hx rfl (hb hby at_450) ?_
  show Steps p.tables e below (T0.setTop (mkF m 451 (lv24 j0 j2 j4 j6 i8 i9 i10 i11 i12 i13 i14 i15 i16 i17 i18 j19 j21 j23 j25 j27 j29 j31 o33 o34 i35 i36 i37 i38 i39 i40) [(.int (1 : Int32)), (.int i10)])) _
  refine XS.icmpYes X0.here hx rfl (pc0 := 451) (pc' := 493) rfl (hb hby at_451) rfl (feq hc451).2 (by decide) (by decide) ?_
  show Steps p.tables e below (T0.setTop (mkF m 493 (lv24 j0 j2 j4 j6 i8 i9 i10 i11 i12 i13 i14 i15 i16 i17 i18 j19 j21 j23 j25 j27 j29 j31 o33 o34 i35 i36 i37 i38 i39 i40) [])) _
  refine XS.iload X0.here hx rfl (hb hby at_493) rfl ?_
  show Steps p.tables e below (T0.setTop (mkF m 495 (lv24 j0 j2 j4 j6 i8 i9 i10 i11 i12 i13 i14 i15 i16 i17 i18 j19 j21 j23 j25 j27 j29 j31 o33 o34 i35 i36 i37 i38 i39 i40) [(.int i39)])) _
  refine XS.ifYes X0.here hx rfl (pc0 := 495) (pc' := 504) rfl (hb hby at_495) rfl ((if0 _ _).trans (feq hc495).2) (by decide) (by decide) ?_
  show Steps p.tables e below (T0.setTop (mkF m 504 (lv24 j0 j2 j4 j6 i8 i9 i10 i11 i12 i13 i14 i15 i16 i17 i18 j19 j21 j23 j25 j27 j29 j31 o33 o34 i35 i36 i37 i38 i39 i40) [])) _
  refine XS.lload X0.here hx rfl (hb hby at_504) rfl ?_
  show Steps p.tables e below (T0.setTop (mkF m 506 (lv24 j0 j2 j4 j6 i8 i9 i10 i11 i12 i13 i14 i15 i16 i17 i18 j19 j21 j23 j25 j27 j29 j31 o33 o34 i35 i36 i37 i38 i39 i40) [(.long j27)])) _
  refine XS.lload X0.here hx rfl (hb hby at_506) rfl ?_
  show Steps p.tables e below (T0.setTop (mkF m 508 (lv24 j0 j2 j4 j6 i8 i9 i10 i11 i12 i13 i14 i15 i16 i17 i18 j19 j21 j23 j25 j27 j29 j31 o33 o34 i35 i36 i37 i38 i39 i40) [(.long j19), (.long j27)])) _
  refine XS.lsub X0.here hx rfl (hb hby at_508) rfl ?_
  show Steps p.tables e below (T0.setTop (mkF m 509 (lv24 j0 j2 j4 j6 i8 i9 i10 i11 i12 i13 i14 i15 i16 i17 i18 j19 j21 j23 j25 j27 j29 j31 o33 o34 i35 i36 i37 i38 i39 i40) [(.long (j27 - j19))])) _
  refine XS.l2i X0.here hx rfl (hb hby at_509) rfl ?_
  show Steps p.tables e below (T0.setTop (mkF m 510 (lv24 j0 j2 j4 j6 i8 i9 i10 i11 i12 i13 i14 i15 i16 i17 i18 j19 j21 j23 j25 j27 j29 j31 o33 o34 i35 i36 i37 i38 i39 i40) [(.int ((j27 - j19).toInt32))])) _
  refine XS.istore X0.here hx rfl (hb hby at_510) rfl (l' := (lv27 j0 j2 j4 j6 i8 i9 i10 i11 i12 i13 i14 i15 i16 i17 i18 j19 j21 j23 j25 j27 j29 j31 o33 o34 i35 i36 i37 i38 i39 i40 ((j27 - j19).toInt32))) rfl ?_
  show Steps p.tables e below (T0.setTop (mkF m 512 (lv27 j0 j2 j4 j6 i8 i9 i10 i11 i12 i13 i14 i15 i16 i17 i18 j19 j21 j23 j25 j27 j29 j31 o33 o34 i35 i36 i37 i38 i39 i40 ((j27 - j19).toInt32)) [])) _
  refine XS.iload X0.here hx rfl (hb hby at_512) rfl ?_
  show Steps p.tables e below (T0.setTop (mkF m 514 (lv27 j0 j2 j4 j6 i8 i9 i10 i11 i12 i13 i14 i15 i16 i17 i18 j19 j21 j23 j25 j27 j29 j31 o33 o34 i35 i36 i37 i38 i39 i40 ((j27 - j19).toInt32)) [(.int i36)])) _
  refine XS.ifNo X0.here hx rfl (hb hby at_514) rfl ((if0 _ _).trans (feq hc514).1) ?_
  show Steps p.tables e below (T0.setTop (mkF m 517 (lv27 j0 j2 j4 j6 i8 i9 i10 i11 i12 i13 i14 i15 i16 i17 i18 j19 j21 j23 j25 j27 j29 j31 o33 o34 i35 i36 i37 i38 i39 i40 ((j27 - j19).toInt32)) [])) _
  refine XS.iload X0.here hx rfl (hb hby at_517) rfl ?_
  show Steps p.tables e below (T0.setTop (mkF m 519 (lv27 j0 j2 j4 j6 i8 i9 i10 i11 i12 i13 i14 i15 i16 i17 i18 j19 j21 j23 j25 j27 j29 j31 o33 o34 i35 i36 i37 i38 i39 i40 ((j27 - j19).toInt32)) [(.int ((j27 - j19).toInt32))])) _
  refine XS.iload X0.here hx rfl (hb hby at_519) rfl ?_
  show Steps p.tables e below (T0.setTop (mkF m 521 (lv27 j0 j2 j4 j6 i8 i9 i10 i11 i12 i13 i14 i15 i16 i17 i18 j19 j21 j23 j25 j27 j29 j31 o33 o34 i35 i36 i37 i38 i39 i40 ((j27 - j19).toInt32)) [(.int i37), (.int ((j27 - j19).toInt32))])) _
  refine XS.icmpYes X0.here hx rfl (pc0 := 521) (pc' := 538) rfl (hb hby at_521) rfl (feq hc521).2 (by decide) (by decide) ?_
  show Steps p.tables e below (T0.setTop (mkF m 538 (lv27 j0 j2 j4 j6 i8 i9 i10 i11 i12 i13 i14 i15 i16 i17 i18 j19 j21 j23 j25 j27 j29 j31 o33 o34 i35 i36 i37 i38 i39 i40 ((j27 - j19).toInt32)) [])) _
  refine XS.iload X0.here hx rfl (hb hby at_538) rfl ?_
  show Steps p.tables e below (T0.setTop (mkF m 540 (lv27 j0 j2 j4 j6 i8 i9 i10 i11 i12 i13 i14 i15 i16 i17 i18 j19 j21 j23 j25 j27 j29 j31 o33 o34 i35 i36 i37 i38 i39 i40 ((j27 - j19).toInt32)) [(.int ((j27 - j19).toInt32))])) _
  refine XS.istore X0.here hx rfl (hb hby at_540) rfl (l' := (lv26 j0 j2 j4 j6 i8 i9 i10 i11 i12 i13 i14 i15 i16 i17 i18 j19 j21 j23 j25 j27 j29 j31 o33 o34 i35 i36 i37 i38 i39 i40 ((j27 - j19).toInt32) ((j27 - j19).toInt32))) rfl ?_
  exact kt
set_option maxRecDepth 65536 in
set_option maxHeartbeats 40000000 in
theorem sE2d {p : Program} {l : Launch} {e : Env} {R : Room} {s : State} {m : MethodId} {args : Array Value} {below : List Frame} {meth : Method} {c : Code} {T0 : State} {locs : List Loc} {cells slots : Nat} {Z : State} {a0 : Array Value} {h0 : Heap} (j0 : Int64) (j2 : Int64) (j4 : Int64) (j6 : Int64) (i8 : Int32) (i9 : Int32) (i10 : Int32) (i11 : Int32) (i12 : Int32) (i13 : Int32) (i14 : Int32) (i15 : Int32) (i16 : Int32) (i17 : Int32) (i18 : Int32) (j19 : Int64) (j21 : Int64) (j23 : Int64) (j25 : Int64) (j27 : Int64) (j29 : Int64) (j31 : Int64) (o33 : Addr) (o34 : Addr) (i35 : Int32) (i36 : Int32) (i37 : Int32) (i38 : Int32) (i39 : Int32) (i40 : Int32)
    (X0 : Stand p l e R s m args below meth c T0 locs cells slots) (hx : p.tables.exec = Jvm.exec) (hZ : Z.Warmed39 s.vm) (hw : ∀ d ∈ tables_1, d.before a0 Z = true) (hby : c.code = code) (hml : c.maxLocals = 43) (hown : s.vm.findClass "com/example/fairjoin/fairjoin/operator/DirectKeysSlotPinLaw" = some m.cls) (e0 : T0.heap = h0) (hc439 : ¬ (i10 = (0 : Int32))) (hc451 : ¬ (i10 = (1 : Int32))) (hc495 : ¬ (i39 = (0 : Int32))) (hc514 : ¬ (i36 = (0 : Int32))) (hc521 : ((j27 - j19).toInt32) = i37) (hc529 : (lcmpW j29 j31) = (0 : Int32)) :
    ∃ (T' : State), Stand p l e R s m args below meth c T' locs cells slots ∧ T'.heap = h0 ∧
      ∀ target, Steps p.tables e below (T'.setTop (mkF m 542 (lv26 j0 j2 j4 j6 i8 i9 i10 i11 i12 i13 i14 i15 i16 i17 i18 j19 j21 j23 j25 j27 j29 j31 o33 o34 i35 i36 i37 i38 i39 i40 ((j27 - j19).toInt32) ((j27 - j19).toInt32)) [])) target → Steps p.tables e below (T0.setTop (mkF m 437 (lv24 j0 j2 j4 j6 i8 i9 i10 i11 i12 i13 i14 i15 i16 i17 i18 j19 j21 j23 j25 j27 j29 j31 o33 o34 i35 i36 i37 i38 i39 i40) [])) target := by
  refine ⟨T0, X0, e0, fun target kt => ?_⟩
  show Steps p.tables e below (T0.setTop (mkF m 437 (lv24 j0 j2 j4 j6 i8 i9 i10 i11 i12 i13 i14 i15 i16 i17 i18 j19 j21 j23 j25 j27 j29 j31 o33 o34 i35 i36 i37 i38 i39 i40) [])) _
  refine XS.iload X0.here hx rfl (hb hby at_437) rfl ?_
  show Steps p.tables e below (T0.setTop (mkF m 439 (lv24 j0 j2 j4 j6 i8 i9 i10 i11 i12 i13 i14 i15 i16 i17 i18 j19 j21 j23 j25 j27 j29 j31 o33 o34 i35 i36 i37 i38 i39 i40) [(.int i10)])) _
  refine XS.ifYes X0.here hx rfl (pc0 := 439) (pc' := 448) rfl (hb hby at_439) rfl ((if0 _ _).trans (feq hc439).2) (by decide) (by decide) ?_
  show Steps p.tables e below (T0.setTop (mkF m 448 (lv24 j0 j2 j4 j6 i8 i9 i10 i11 i12 i13 i14 i15 i16 i17 i18 j19 j21 j23 j25 j27 j29 j31 o33 o34 i35 i36 i37 i38 i39 i40) [])) _
  refine XS.iload X0.here hx rfl (hb hby at_448) rfl ?_
  show Steps p.tables e below (T0.setTop (mkF m 450 (lv24 j0 j2 j4 j6 i8 i9 i10 i11 i12 i13 i14 i15 i16 i17 i18 j19 j21 j23 j25 j27 j29 j31 o33 o34 i35 i36 i37 i38 i39 i40) [(.int i10)])) _
  refine XS.iconst X0.here hx rfl (hb hby at_450) ?_
  show Steps p.tables e below (T0.setTop (mkF m 451 (lv24 j0 j2 j4 j6 i8 i9 i10 i11 i12 i13 i14 i15 i16 i17 i18 j19 j21 j23 j25 j27 j29 j31 o33 o34 i35 i36 i37 i38 i39 i40) [(.int (1 : Int32)), (.int i10)])) _
  refine XS.icmpYes X0.here hx rfl (pc0 := 451) (pc' := 493) rfl (hb hby at_451) rfl (feq hc451).2 (by decide) (by decide) ?_
  show Steps p.tables e below (T0.setTop (mkF m 493 (lv24 j0 j2 j4 j6 i8 i9 i10 i11 i12 i13 i14 i15 i16 i17 i18 j19 j21 j23 j25 j27 j29 j31 o33 o34 i35 i36 i37 i38 i39 i40) [])) _
  refine XS.iload X0.here hx rfl (hb hby at_493) rfl ?_
  show Steps p.tables e below (T0.setTop (mkF m 495 (lv24 j0 j2 j4 j6 i8 i9 i10 i11 i12 i13 i14 i15 i16 i17 i18 j19 j21 j23 j25 j27 j29 j31 o33 o34 i35 i36 i37 i38 i39 i40) [(.int i39)])) _
  refine XS.ifYes X0.here hx rfl (pc0 := 495) (pc' := 504) rfl (hb hby at_495) rfl ((if0 _ _).trans (feq hc495).2) (by decide) (by decide) ?_
  show Steps p.tables e below (T0.setTop (mkF m 504 (lv24 j0 j2 j4 j6 i8 i9 i10 i11 i12 i13 i14 i15 i16 i17 i18 j19 j21 j23 j25 j27 j29 j31 o33 o34 i35 i36 i37 i38 i39 i40) [])) _
  refine XS.lload X0.here hx rfl (hb hby at_504) rfl ?_
  show Steps p.tables e below (T0.setTop (mkF m 506 (lv24 j0 j2 j4 j6 i8 i9 i10 i11 i12 i13 i14 i15 i16 i17 i18 j19 j21 j23 j25 j27 j29 j31 o33 o34 i35 i36 i37 i38 i39 i40) [(.long j27)])) _
  refine XS.lload X0.here hx rfl (hb hby at_506) rfl ?_
  show Steps p.tables e below (T0.setTop (mkF m 508 (lv24 j0 j2 j4 j6 i8 i9 i10 i11 i12 i13 i14 i15 i16 i17 i18 j19 j21 j23 j25 j27 j29 j31 o33 o34 i35 i36 i37 i38 i39 i40) [(.long j19), (.long j27)])) _
  refine XS.lsub X0.here hx rfl (hb hby at_508) rfl ?_
  show Steps p.tables e below (T0.setTop (mkF m 509 (lv24 j0 j2 j4 j6 i8 i9 i10 i11 i12 i13 i14 i15 i16 i17 i18 j19 j21 j23 j25 j27 j29 j31 o33 o34 i35 i36 i37 i38 i39 i40) [(.long (j27 - j19))])) _
  refine XS.l2i X0.here hx rfl (hb hby at_509) rfl ?_
  show Steps p.tables e below (T0.setTop (mkF m 510 (lv24 j0 j2 j4 j6 i8 i9 i10 i11 i12 i13 i14 i15 i16 i17 i18 j19 j21 j23 j25 j27 j29 j31 o33 o34 i35 i36 i37 i38 i39 i40) [(.int ((j27 - j19).toInt32))])) _
  refine XS.istore X0.here hx rfl (hb hby at_510) rfl (l' := (lv27 j0 j2 j4 j6 i8 i9 i10 i11 i12 i13 i14 i15 i16 i17 i18 j19 j21 j23 j25 j27 j29 j31 o33 o34 i35 i36 i37 i38 i39 i40 ((j27 - j19).toInt32))) rfl ?_
  show Steps p.tables e below (T0.setTop (mkF m 512 (lv27 j0 j2 j4 j6 i8 i9 i10 i11 i12 i13 i14 i15 i16 i17 i18 j19 j21 j23 j25 j27 j29 j31 o33 o34 i35 i36 i37 i38 i39 i40 ((j27 - j19).toInt32)) [])) _
  refine XS.iload X0.here hx rfl (hb hby at_512) rfl ?_
  show Steps p.tables e below (T0.setTop (mkF m 514 (lv27 j0 j2 j4 j6 i8 i9 i10 i11 i12 i13 i14 i15 i16 i17 i18 j19 j21 j23 j25 j27 j29 j31 o33 o34 i35 i36 i37 i38 i39 i40 ((j27 - j19).toInt32)) [(.int i36)])) _
  refine XS.ifNo X0.here hx rfl (hb hby at_514) rfl ((if0 _ _).trans (feq hc514).1) ?_
  show Steps p.tables e below (T0.setTop (mkF m 517 (lv27 j0 j2 j4 j6 i8 i9 i10 i11 i12 i13 i14 i15 i16 i17 i18 j19 j21 j23 j25 j27 j29 j31 o33 o34 i35 i36 i37 i38 i39 i40 ((j27 - j19).toInt32)) [])) _
  refine XS.iload X0.here hx rfl (hb hby at_517) rfl ?_
  show Steps p.tables e below (T0.setTop (mkF m 519 (lv27 j0 j2 j4 j6 i8 i9 i10 i11 i12 i13 i14 i15 i16 i17 i18 j19 j21 j23 j25 j27 j29 j31 o33 o34 i35 i36 i37 i38 i39 i40 ((j27 - j19).toInt32)) [(.int ((j27 - j19).toInt32))])) _
  refine XS.iload X0.here hx rfl (hb hby at_519) rfl ?_
  show Steps p.tables e below (T0.setTop (mkF m 521 (lv27 j0 j2 j4 j6 i8 i9 i10 i11 i12 i13 i14 i15 i16 i17 i18 j19 j21 j23 j25 j27 j29 j31 o33 o34 i35 i36 i37 i38 i39 i40 ((j27 - j19).toInt32)) [(.int i37), (.int ((j27 - j19).toInt32))])) _
  refine XS.icmpNo X0.here hx rfl (hb hby at_521) rfl (teq hc521).2 ?_
  show Steps p.tables e below (T0.setTop (mkF m 524 (lv27 j0 j2 j4 j6 i8 i9 i10 i11 i12 i13 i14 i15 i16 i17 i18 j19 j21 j23 j25 j27 j29 j31 o33 o34 i35 i36 i37 i38 i39 i40 ((j27 - j19).toInt32)) [])) _
  refine XS.lload X0.here hx rfl (hb hby at_524) rfl ?_
  show Steps p.tables e below (T0.setTop (mkF m 526 (lv27 j0 j2 j4 j6 i8 i9 i10 i11 i12 i13 i14 i15 i16 i17 i18 j19 j21 j23 j25 j27 j29 j31 o33 o34 i35 i36 i37 i38 i39 i40 ((j27 - j19).toInt32)) [(.long j29)])) _
  refine XS.lload X0.here hx rfl (hb hby at_526) rfl ?_
  show Steps p.tables e below (T0.setTop (mkF m 528 (lv27 j0 j2 j4 j6 i8 i9 i10 i11 i12 i13 i14 i15 i16 i17 i18 j19 j21 j23 j25 j27 j29 j31 o33 o34 i35 i36 i37 i38 i39 i40 ((j27 - j19).toInt32)) [(.long j31), (.long j29)])) _
  refine XS.lcmp X0.here hx rfl (hb hby at_528) rfl ?_
  show Steps p.tables e below (T0.setTop (mkF m 529 (lv27 j0 j2 j4 j6 i8 i9 i10 i11 i12 i13 i14 i15 i16 i17 i18 j19 j21 j23 j25 j27 j29 j31 o33 o34 i35 i36 i37 i38 i39 i40 ((j27 - j19).toInt32)) [(.int (lcmpW j29 j31))])) _
  refine XS.ifYes X0.here hx rfl (pc0 := 529) (pc' := 538) rfl (hb hby at_529) rfl ((if0 _ _).trans (teq hc529).1) (by decide) (by decide) ?_
  show Steps p.tables e below (T0.setTop (mkF m 538 (lv27 j0 j2 j4 j6 i8 i9 i10 i11 i12 i13 i14 i15 i16 i17 i18 j19 j21 j23 j25 j27 j29 j31 o33 o34 i35 i36 i37 i38 i39 i40 ((j27 - j19).toInt32)) [])) _
  refine XS.iload X0.here hx rfl (hb hby at_538) rfl ?_
  show Steps p.tables e below (T0.setTop (mkF m 540 (lv27 j0 j2 j4 j6 i8 i9 i10 i11 i12 i13 i14 i15 i16 i17 i18 j19 j21 j23 j25 j27 j29 j31 o33 o34 i35 i36 i37 i38 i39 i40 ((j27 - j19).toInt32)) [(.int ((j27 - j19).toInt32))])) _
  refine XS.istore X0.here hx rfl (hb hby at_540) rfl (l' := (lv26 j0 j2 j4 j6 i8 i9 i10 i11 i12 i13 i14 i15 i16 i17 i18 j19 j21 j23 j25 j27 j29 j31 o33 o34 i35 i36 i37 i38 i39 i40 ((j27 - j19).toInt32) ((j27 - j19).toInt32))) rfl ?_
  exact kt
set_option maxRecDepth 65536 in
set_option maxHeartbeats 40000000 in
theorem sE2e {p : Program} {l : Launch} {e : Env} {R : Room} {s : State} {m : MethodId} {args : Array Value} {below : List Frame} {meth : Method} {c : Code} {T0 : State} {locs : List Loc} {cells slots : Nat} {Z : State} {a0 : Array Value} {h0 : Heap} (j0 : Int64) (j2 : Int64) (j4 : Int64) (j6 : Int64) (i8 : Int32) (i9 : Int32) (i10 : Int32) (i11 : Int32) (i12 : Int32) (i13 : Int32) (i14 : Int32) (i15 : Int32) (i16 : Int32) (i17 : Int32) (i18 : Int32) (j19 : Int64) (j21 : Int64) (j23 : Int64) (j25 : Int64) (j27 : Int64) (j29 : Int64) (j31 : Int64) (o33 : Addr) (o34 : Addr) (i35 : Int32) (i36 : Int32) (i37 : Int32) (i38 : Int32) (i39 : Int32) (i40 : Int32)
    (X0 : Stand p l e R s m args below meth c T0 locs cells slots) (hx : p.tables.exec = Jvm.exec) (hZ : Z.Warmed39 s.vm) (hw : ∀ d ∈ tables_1, d.before a0 Z = true) (hby : c.code = code) (hml : c.maxLocals = 43) (hown : s.vm.findClass "com/example/fairjoin/fairjoin/operator/DirectKeysSlotPinLaw" = some m.cls) (e0 : T0.heap = h0) (hc439 : ¬ (i10 = (0 : Int32))) (hc451 : ¬ (i10 = (1 : Int32))) (hc495 : ¬ (i39 = (0 : Int32))) (hc514 : ¬ (i36 = (0 : Int32))) (hc521 : ((j27 - j19).toInt32) = i37) (hc529 : ¬ ((lcmpW j29 j31) = (0 : Int32))) :
    ∃ (T' : State), Stand p l e R s m args below meth c T' locs cells slots ∧ T'.heap = h0 ∧
      ∀ target, Steps p.tables e below (T'.setTop (mkF m 542 (lv26 j0 j2 j4 j6 i8 i9 i10 i11 i12 i13 i14 i15 i16 i17 i18 j19 j21 j23 j25 j27 j29 j31 o33 o34 i35 i36 i37 i38 i39 i40 (-1 : Int32) ((j27 - j19).toInt32)) [])) target → Steps p.tables e below (T0.setTop (mkF m 437 (lv24 j0 j2 j4 j6 i8 i9 i10 i11 i12 i13 i14 i15 i16 i17 i18 j19 j21 j23 j25 j27 j29 j31 o33 o34 i35 i36 i37 i38 i39 i40) [])) target := by
  refine ⟨T0, X0, e0, fun target kt => ?_⟩
  show Steps p.tables e below (T0.setTop (mkF m 437 (lv24 j0 j2 j4 j6 i8 i9 i10 i11 i12 i13 i14 i15 i16 i17 i18 j19 j21 j23 j25 j27 j29 j31 o33 o34 i35 i36 i37 i38 i39 i40) [])) _
  refine XS.iload X0.here hx rfl (hb hby at_437) rfl ?_
  show Steps p.tables e below (T0.setTop (mkF m 439 (lv24 j0 j2 j4 j6 i8 i9 i10 i11 i12 i13 i14 i15 i16 i17 i18 j19 j21 j23 j25 j27 j29 j31 o33 o34 i35 i36 i37 i38 i39 i40) [(.int i10)])) _
  refine XS.ifYes X0.here hx rfl (pc0 := 439) (pc' := 448) rfl (hb hby at_439) rfl ((if0 _ _).trans (feq hc439).2) (by decide) (by decide) ?_
  show Steps p.tables e below (T0.setTop (mkF m 448 (lv24 j0 j2 j4 j6 i8 i9 i10 i11 i12 i13 i14 i15 i16 i17 i18 j19 j21 j23 j25 j27 j29 j31 o33 o34 i35 i36 i37 i38 i39 i40) [])) _
  refine XS.iload X0.here hx rfl (hb hby at_448) rfl ?_
  show Steps p.tables e below (T0.setTop (mkF m 450 (lv24 j0 j2 j4 j6 i8 i9 i10 i11 i12 i13 i14 i15 i16 i17 i18 j19 j21 j23 j25 j27 j29 j31 o33 o34 i35 i36 i37 i38 i39 i40) [(.int i10)])) _
  refine XS.iconst X0.here hx rfl (hb hby at_450) ?_
  show Steps p.tables e below (T0.setTop (mkF m 451 (lv24 j0 j2 j4 j6 i8 i9 i10 i11 i12 i13 i14 i15 i16 i17 i18 j19 j21 j23 j25 j27 j29 j31 o33 o34 i35 i36 i37 i38 i39 i40) [(.int (1 : Int32)), (.int i10)])) _
  refine XS.icmpYes X0.here hx rfl (pc0 := 451) (pc' := 493) rfl (hb hby at_451) rfl (feq hc451).2 (by decide) (by decide) ?_
  show Steps p.tables e below (T0.setTop (mkF m 493 (lv24 j0 j2 j4 j6 i8 i9 i10 i11 i12 i13 i14 i15 i16 i17 i18 j19 j21 j23 j25 j27 j29 j31 o33 o34 i35 i36 i37 i38 i39 i40) [])) _
  refine XS.iload X0.here hx rfl (hb hby at_493) rfl ?_
  show Steps p.tables e below (T0.setTop (mkF m 495 (lv24 j0 j2 j4 j6 i8 i9 i10 i11 i12 i13 i14 i15 i16 i17 i18 j19 j21 j23 j25 j27 j29 j31 o33 o34 i35 i36 i37 i38 i39 i40) [(.int i39)])) _
  refine XS.ifYes X0.here hx rfl (pc0 := 495) (pc' := 504) rfl (hb hby at_495) rfl ((if0 _ _).trans (feq hc495).2) (by decide) (by decide) ?_
  show Steps p.tables e below (T0.setTop (mkF m 504 (lv24 j0 j2 j4 j6 i8 i9 i10 i11 i12 i13 i14 i15 i16 i17 i18 j19 j21 j23 j25 j27 j29 j31 o33 o34 i35 i36 i37 i38 i39 i40) [])) _
  refine XS.lload X0.here hx rfl (hb hby at_504) rfl ?_
  show Steps p.tables e below (T0.setTop (mkF m 506 (lv24 j0 j2 j4 j6 i8 i9 i10 i11 i12 i13 i14 i15 i16 i17 i18 j19 j21 j23 j25 j27 j29 j31 o33 o34 i35 i36 i37 i38 i39 i40) [(.long j27)])) _
  refine XS.lload X0.here hx rfl (hb hby at_506) rfl ?_
  show Steps p.tables e below (T0.setTop (mkF m 508 (lv24 j0 j2 j4 j6 i8 i9 i10 i11 i12 i13 i14 i15 i16 i17 i18 j19 j21 j23 j25 j27 j29 j31 o33 o34 i35 i36 i37 i38 i39 i40) [(.long j19), (.long j27)])) _
  refine XS.lsub X0.here hx rfl (hb hby at_508) rfl ?_
  show Steps p.tables e below (T0.setTop (mkF m 509 (lv24 j0 j2 j4 j6 i8 i9 i10 i11 i12 i13 i14 i15 i16 i17 i18 j19 j21 j23 j25 j27 j29 j31 o33 o34 i35 i36 i37 i38 i39 i40) [(.long (j27 - j19))])) _
  refine XS.l2i X0.here hx rfl (hb hby at_509) rfl ?_
  show Steps p.tables e below (T0.setTop (mkF m 510 (lv24 j0 j2 j4 j6 i8 i9 i10 i11 i12 i13 i14 i15 i16 i17 i18 j19 j21 j23 j25 j27 j29 j31 o33 o34 i35 i36 i37 i38 i39 i40) [(.int ((j27 - j19).toInt32))])) _
  refine XS.istore X0.here hx rfl (hb hby at_510) rfl (l' := (lv27 j0 j2 j4 j6 i8 i9 i10 i11 i12 i13 i14 i15 i16 i17 i18 j19 j21 j23 j25 j27 j29 j31 o33 o34 i35 i36 i37 i38 i39 i40 ((j27 - j19).toInt32))) rfl ?_
  show Steps p.tables e below (T0.setTop (mkF m 512 (lv27 j0 j2 j4 j6 i8 i9 i10 i11 i12 i13 i14 i15 i16 i17 i18 j19 j21 j23 j25 j27 j29 j31 o33 o34 i35 i36 i37 i38 i39 i40 ((j27 - j19).toInt32)) [])) _
  refine XS.iload X0.here hx rfl (hb hby at_512) rfl ?_
  show Steps p.tables e below (T0.setTop (mkF m 514 (lv27 j0 j2 j4 j6 i8 i9 i10 i11 i12 i13 i14 i15 i16 i17 i18 j19 j21 j23 j25 j27 j29 j31 o33 o34 i35 i36 i37 i38 i39 i40 ((j27 - j19).toInt32)) [(.int i36)])) _
  refine XS.ifNo X0.here hx rfl (hb hby at_514) rfl ((if0 _ _).trans (feq hc514).1) ?_
  show Steps p.tables e below (T0.setTop (mkF m 517 (lv27 j0 j2 j4 j6 i8 i9 i10 i11 i12 i13 i14 i15 i16 i17 i18 j19 j21 j23 j25 j27 j29 j31 o33 o34 i35 i36 i37 i38 i39 i40 ((j27 - j19).toInt32)) [])) _
  refine XS.iload X0.here hx rfl (hb hby at_517) rfl ?_
  show Steps p.tables e below (T0.setTop (mkF m 519 (lv27 j0 j2 j4 j6 i8 i9 i10 i11 i12 i13 i14 i15 i16 i17 i18 j19 j21 j23 j25 j27 j29 j31 o33 o34 i35 i36 i37 i38 i39 i40 ((j27 - j19).toInt32)) [(.int ((j27 - j19).toInt32))])) _
  refine XS.iload X0.here hx rfl (hb hby at_519) rfl ?_
  show Steps p.tables e below (T0.setTop (mkF m 521 (lv27 j0 j2 j4 j6 i8 i9 i10 i11 i12 i13 i14 i15 i16 i17 i18 j19 j21 j23 j25 j27 j29 j31 o33 o34 i35 i36 i37 i38 i39 i40 ((j27 - j19).toInt32)) [(.int i37), (.int ((j27 - j19).toInt32))])) _
  refine XS.icmpNo X0.here hx rfl (hb hby at_521) rfl (teq hc521).2 ?_
  show Steps p.tables e below (T0.setTop (mkF m 524 (lv27 j0 j2 j4 j6 i8 i9 i10 i11 i12 i13 i14 i15 i16 i17 i18 j19 j21 j23 j25 j27 j29 j31 o33 o34 i35 i36 i37 i38 i39 i40 ((j27 - j19).toInt32)) [])) _
  refine XS.lload X0.here hx rfl (hb hby at_524) rfl ?_
  show Steps p.tables e below (T0.setTop (mkF m 526 (lv27 j0 j2 j4 j6 i8 i9 i10 i11 i12 i13 i14 i15 i16 i17 i18 j19 j21 j23 j25 j27 j29 j31 o33 o34 i35 i36 i37 i38 i39 i40 ((j27 - j19).toInt32)) [(.long j29)])) _
  refine XS.lload X0.here hx rfl (hb hby at_526) rfl ?_
  show Steps p.tables e below (T0.setTop (mkF m 528 (lv27 j0 j2 j4 j6 i8 i9 i10 i11 i12 i13 i14 i15 i16 i17 i18 j19 j21 j23 j25 j27 j29 j31 o33 o34 i35 i36 i37 i38 i39 i40 ((j27 - j19).toInt32)) [(.long j31), (.long j29)])) _
  refine XS.lcmp X0.here hx rfl (hb hby at_528) rfl ?_
  show Steps p.tables e below (T0.setTop (mkF m 529 (lv27 j0 j2 j4 j6 i8 i9 i10 i11 i12 i13 i14 i15 i16 i17 i18 j19 j21 j23 j25 j27 j29 j31 o33 o34 i35 i36 i37 i38 i39 i40 ((j27 - j19).toInt32)) [(.int (lcmpW j29 j31))])) _
  refine XS.ifNo X0.here hx rfl (hb hby at_529) rfl ((if0 _ _).trans (feq hc529).1) ?_
  show Steps p.tables e below (T0.setTop (mkF m 532 (lv27 j0 j2 j4 j6 i8 i9 i10 i11 i12 i13 i14 i15 i16 i17 i18 j19 j21 j23 j25 j27 j29 j31 o33 o34 i35 i36 i37 i38 i39 i40 ((j27 - j19).toInt32)) [])) _
  refine XS.iconst X0.here hx rfl (hb hby at_532) ?_
  show Steps p.tables e below (T0.setTop (mkF m 533 (lv27 j0 j2 j4 j6 i8 i9 i10 i11 i12 i13 i14 i15 i16 i17 i18 j19 j21 j23 j25 j27 j29 j31 o33 o34 i35 i36 i37 i38 i39 i40 ((j27 - j19).toInt32)) [(.int (-1 : Int32))])) _
  refine XS.istore X0.here hx rfl (hb hby at_533) rfl (l' := (lv26 j0 j2 j4 j6 i8 i9 i10 i11 i12 i13 i14 i15 i16 i17 i18 j19 j21 j23 j25 j27 j29 j31 o33 o34 i35 i36 i37 i38 i39 i40 (-1 : Int32) ((j27 - j19).toInt32))) rfl ?_
  show Steps p.tables e below (T0.setTop (mkF m 535 (lv26 j0 j2 j4 j6 i8 i9 i10 i11 i12 i13 i14 i15 i16 i17 i18 j19 j21 j23 j25 j27 j29 j31 o33 o34 i35 i36 i37 i38 i39 i40 (-1 : Int32) ((j27 - j19).toInt32)) [])) _
  refine XS.goto X0.here hx rfl (pc0 := 535) (pc' := 542) rfl (hb hby at_535) (by decide) (by decide) ?_
  exact kt
set_option maxRecDepth 65536 in
set_option maxHeartbeats 40000000 in
theorem sO0 {p : Program} {l : Launch} {e : Env} {R : Room} {s : State} {m : MethodId} {args : Array Value} {below : List Frame} {meth : Method} {c : Code} {T0 : State} {locs : List Loc} {cells slots : Nat} {Z : State} {a0 : Array Value} {h0 : Heap} (j0 : Int64) (j2 : Int64) (j4 : Int64) (j6 : Int64) (i8 : Int32) (i9 : Int32) (i10 : Int32) (i11 : Int32) (i12 : Int32) (i13 : Int32) (i14 : Int32) (i15 : Int32) (i16 : Int32) (i17 : Int32) (i18 : Int32) (j19 : Int64) (j21 : Int64) (j23 : Int64) (j25 : Int64) (j27 : Int64) (j29 : Int64) (j31 : Int64) (o33 : Addr) (o34 : Addr) (i35 : Int32)
    (X0 : Stand p l e R s m args below meth c T0 locs cells slots) (hx : p.tables.exec = Jvm.exec) (hZ : Z.Warmed39 s.vm) (hw : ∀ d ∈ tables_1, d.before a0 Z = true) (hby : c.code = code) (hml : c.maxLocals = 43) (hown : s.vm.findClass "com/example/fairjoin/fairjoin/operator/DirectKeysSlotPinLaw" = some m.cls) (e0 : T0.heap = h0) (hc273 : ¬ (i10 = (1 : Int32))) (hc306 : i10 < (2 : Int32)) :
    ∃ (T' : State), Stand p l e R s m args below meth c T' locs cells slots ∧ T'.heap = h0 ∧
      ∀ target, Steps p.tables e below (T'.setTop (mkF m 328 (lv17 j0 j2 j4 j6 i8 i9 i10 i11 i12 i13 i14 i15 i16 i17 i18 j19 j21 j23 j25 j27 j29 j31 o33 o34 i35) [])) target → Steps p.tables e below (T0.setTop (mkF m 270 (lv17 j0 j2 j4 j6 i8 i9 i10 i11 i12 i13 i14 i15 i16 i17 i18 j19 j21 j23 j25 j27 j29 j31 o33 o34 i35) [])) target := by
  refine ⟨T0, X0, e0, fun target kt => ?_⟩
  show Steps p.tables e below (T0.setTop (mkF m 270 (lv17 j0 j2 j4 j6 i8 i9 i10 i11 i12 i13 i14 i15 i16 i17 i18 j19 j21 j23 j25 j27 j29 j31 o33 o34 i35) [])) _
  refine XS.iload X0.here hx rfl (hb hby at_270) rfl ?_
  show Steps p.tables e below (T0.setTop (mkF m 272 (lv17 j0 j2 j4 j6 i8 i9 i10 i11 i12 i13 i14 i15 i16 i17 i18 j19 j21 j23 j25 j27 j29 j31 o33 o34 i35) [(.int i10)])) _
  refine XS.iconst X0.here hx rfl (hb hby at_272) ?_
  show Steps p.tables e below (T0.setTop (mkF m 273 (lv17 j0 j2 j4 j6 i8 i9 i10 i11 i12 i13 i14 i15 i16 i17 i18 j19 j21 j23 j25 j27 j29 j31 o33 o34 i35) [(.int (1 : Int32)), (.int i10)])) _
  refine XS.icmpYes X0.here hx rfl (pc0 := 273) (pc' := 303) rfl (hb hby at_273) rfl (feq hc273).2 (by decide) (by decide) ?_
  show Steps p.tables e below (T0.setTop (mkF m 303 (lv17 j0 j2 j4 j6 i8 i9 i10 i11 i12 i13 i14 i15 i16 i17 i18 j19 j21 j23 j25 j27 j29 j31 o33 o34 i35) [])) _
  refine XS.iload X0.here hx rfl (hb hby at_303) rfl ?_
  show Steps p.tables e below (T0.setTop (mkF m 305 (lv17 j0 j2 j4 j6 i8 i9 i10 i11 i12 i13 i14 i15 i16 i17 i18 j19 j21 j23 j25 j27 j29 j31 o33 o34 i35) [(.int i10)])) _
  refine XS.iconst X0.here hx rfl (hb hby at_305) ?_
  show Steps p.tables e below (T0.setTop (mkF m 306 (lv17 j0 j2 j4 j6 i8 i9 i10 i11 i12 i13 i14 i15 i16 i17 i18 j19 j21 j23 j25 j27 j29 j31 o33 o34 i35) [(.int (2 : Int32)), (.int i10)])) _
  refine XS.icmpYes X0.here hx rfl (pc0 := 306) (pc' := 328) rfl (hb hby at_306) rfl (tlt hc306).1 (by decide) (by decide) ?_
  exact kt
set_option maxRecDepth 65536 in
set_option maxHeartbeats 40000000 in
theorem qP {R : Room} {cells slots : Nat} {p : Program} {l : Launch} {e : Env} {s : State} {m : MethodId} {args : Array Value} {below : List Frame} {meth : Method} {c : Code} {T0 : State} {locs : List Loc} {Z : State} {a0 : Array Value} {h0 : Heap} (j0 : Int64) (j2 : Int64) (j4 : Int64) (j6 : Int64) (i8 : Int32) (i9 : Int32) (i10 : Int32) (d : Nat) (hd : d ≤ 3) (e' : Nat) (he' : e' ≤ 3) (i13 : Int32) (i14 : Int32) (i15 : Int32) (i16 : Int32) (i17 : Int32) (i18 : Int32) (j19 : Int64) (j23 : Int64) (j27 : Int64) (j29 : Int64) (j31 : Int64) (o33 : Addr) (o34 : Addr) (len : Nat) (hlen : len ≤ 16)
    (X0 : Stand p l e R s m args below meth c T0 locs cells slots) (hx : p.tables.exec = Jvm.exec) (hZ : Z.Warmed39 s.vm) (hw : ∀ d ∈ tables_1, d.before a0 Z = true) (hby : c.code = code) (hml : c.maxLocals = 43) (hown : s.vm.findClass "com/example/fairjoin/fairjoin/operator/DirectKeysSlotPinLaw" = some m.cls) (e0 : T0.heap = h0) :
    ∃ (T' : State) (pf : Int32) (k : Nat) (nn : Int32), (¬ pf = 0 → 0 < len) ∧ (0 < len → k < len) ∧ ¬ (nn + (1 : Int32)) = (0 : Int32) ∧ Stand p l e R s m args below meth c T' locs cells slots ∧ T'.heap = h0 ∧
      ∀ target, Steps p.tables e below (T'.setTop (mkF m 375 (lv22 j0 j2 j4 j6 i8 i9 i10 (Int32.ofNat d) (Int32.ofNat e') i13 i14 i15 i16 i17 i18 j19 (j19 + (Int32.ofNat d).toInt64) j23 (j23 + (Int32.ofNat e').toInt64) j27 j29 j31 o33 o34 (Int32.ofNat len) pf (Int32.ofNat k) nn) [])) target → Steps p.tables e below (T0.setTop (mkF m 328 (lv17 j0 j2 j4 j6 i8 i9 i10 (Int32.ofNat d) (Int32.ofNat e') i13 i14 i15 i16 i17 i18 j19 (j19 + (Int32.ofNat d).toInt64) j23 (j23 + (Int32.ofNat e').toInt64) j27 j29 j31 o33 o34 (Int32.ofNat len)) [])) target := by
  have s1 : ∃ (T1 : State) (pf : Int32), (¬ pf = 0 → 0 < len) ∧ Stand p l e R s m args below meth c T1 locs cells slots ∧ T1.heap = h0 ∧
      ∀ target, Steps p.tables e below (T1.setTop (mkF m 345 (lv20 j0 j2 j4 j6 i8 i9 i10 (Int32.ofNat d) (Int32.ofNat e') i13 i14 i15 i16 i17 i18 j19 (j19 + (Int32.ofNat d).toInt64) j23 (j23 + (Int32.ofNat e').toInt64) j27 j29 j31 o33 o34 (Int32.ofNat len) pf) [])) target → Steps p.tables e below (T0.setTop (mkF m 328 (lv17 j0 j2 j4 j6 i8 i9 i10 (Int32.ofNat d) (Int32.ofNat e') i13 i14 i15 i16 i17 i18 j19 (j19 + (Int32.ofNat d).toInt64) j23 (j23 + (Int32.ofNat e').toInt64) j27 j29 j31 o33 o34 (Int32.ofNat len)) [])) target := by
    by_cases c1 : i18 = (0 : Int32)
    · obtain ⟨T1, X1, e1, st1⟩ := sPa j0 j2 j4 j6 i8 i9 i10 (Int32.ofNat d) (Int32.ofNat e') i13 i14 i15 i16 i17 i18 j19 (j19 + (Int32.ofNat d).toInt64) j23 (j23 + (Int32.ofNat e').toInt64) j27 j29 j31 o33 o34 (Int32.ofNat len) X0 hx hZ hw hby hml hown e0 c1
      exact ⟨T1, 0, fun q => absurd rfl q, X1, e1, st1⟩
    · by_cases c2 : (0 : Int32) < (Int32.ofNat len)
      · obtain ⟨T1, X1, e1, st1⟩ := sPc j0 j2 j4 j6 i8 i9 i10 (Int32.ofNat d) (Int32.ofNat e') i13 i14 i15 i16 i17 i18 j19 (j19 + (Int32.ofNat d).toInt64) j23 (j23 + (Int32.ofNat e').toInt64) j27 j29 j31 o33 o34 (Int32.ofNat len) X0 hx hZ hw hby hml hown e0 c1 c2
        exact ⟨T1, 1, fun _ => (own_lenp len hlen).mp c2, X1, e1, st1⟩
      · obtain ⟨T1, X1, e1, st1⟩ := sPb j0 j2 j4 j6 i8 i9 i10 (Int32.ofNat d) (Int32.ofNat e') i13 i14 i15 i16 i17 i18 j19 (j19 + (Int32.ofNat d).toInt64) j23 (j23 + (Int32.ofNat e').toInt64) j27 j29 j31 o33 o34 (Int32.ofNat len) X0 hx hZ hw hby hml hown e0 c1 c2
        exact ⟨T1, 0, fun q => absurd rfl q, X1, e1, st1⟩
  obtain ⟨T1, pf, hpf, X1, e1, st1⟩ := s1
  have s2 : ∃ (T2 : State) (k : Nat), (0 < len → k < len) ∧ Stand p l e R s m args below meth c T2 locs cells slots ∧ T2.heap = h0 ∧
      ∀ target, Steps p.tables e below (T2.setTop (mkF m 365 (lv21 j0 j2 j4 j6 i8 i9 i10 (Int32.ofNat d) (Int32.ofNat e') i13 i14 i15 i16 i17 i18 j19 (j19 + (Int32.ofNat d).toInt64) j23 (j23 + (Int32.ofNat e').toInt64) j27 j29 j31 o33 o34 (Int32.ofNat len) pf (Int32.ofNat k)) [])) target → Steps p.tables e below (T1.setTop (mkF m 345 (lv20 j0 j2 j4 j6 i8 i9 i10 (Int32.ofNat d) (Int32.ofNat e') i13 i14 i15 i16 i17 i18 j19 (j19 + (Int32.ofNat d).toInt64) j23 (j23 + (Int32.ofNat e').toInt64) j27 j29 j31 o33 o34 (Int32.ofNat len) pf) [])) target := by
    by_cases c2 : (0 : Int32) < (Int32.ofNat len)
    · have hl0 := (own_lenp len hlen).mp c2
      obtain ⟨k, hk, ek⟩ := own_kk i9 len hl0 hlen
      obtain ⟨T2, X2, e2, st2⟩ := sKb j0 j2 j4 j6 i8 i9 i10 (Int32.ofNat d) (Int32.ofNat e') i13 i14 i15 i16 i17 i18 j19 (j19 + (Int32.ofNat d).toInt64) j23 (j23 + (Int32.ofNat e').toInt64) j27 j29 j31 o33 o34 (Int32.ofNat len) pf X1 hx hZ hw hby hml hown e1 c2 (own_lenz len hl0 hlen)
      rw [ek] at st2
      exact ⟨T2, k, fun _ => hk, X2, e2, st2⟩
    · obtain ⟨T2, X2, e2, st2⟩ := sKa j0 j2 j4 j6 i8 i9 i10 (Int32.ofNat d) (Int32.ofNat e') i13 i14 i15 i16 i17 i18 j19 (j19 + (Int32.ofNat d).toInt64) j23 (j23 + (Int32.ofNat e').toInt64) j27 j29 j31 o33 o34 (Int32.ofNat len) pf X1 hx hZ hw hby hml hown e1 c2
      exact ⟨T2, 0, fun q => absurd ((own_lenp len hlen).mpr q) c2, X2, e2, st2⟩
  obtain ⟨T2, k, hk, X2, e2, st2⟩ := s2
  obtain ⟨T3, X3, e3, st3⟩ := sNa j0 j2 j4 j6 i8 i9 i10 (Int32.ofNat d) (Int32.ofNat e') i13 i14 i15 i16 i17 i18 j19 (j19 + (Int32.ofNat d).toInt64) j23 (j23 + (Int32.ofNat e').toInt64) j27 j29 j31 o33 o34 (Int32.ofNat len) pf (Int32.ofNat k) X2 hx hZ hw hby hml hown e2
  exact ⟨T3, pf, k, _, hpf, hk, own_n1 _, X3, e3, fun target h => st1 target (st2 target (st3 target h))⟩
set_option maxRecDepth 65536 in
set_option maxHeartbeats 40000000 in
theorem qS {R : Room} {cells slots : Nat} {p : Program} {l : Launch} {e : Env} {s : State} {m : MethodId} {args : Array Value} {below : List Frame} {meth : Method} {c : Code} {T0 : State} {locs : List Loc} {Z : State} {a0 : Array Value} {h0 : Heap} (j0 : Int64) (j2 : Int64) (j4 : Int64) (j6 : Int64) (i8 : Int32) (i9 : Int32) (i10 : Int32) (d : Nat) (hd : d ≤ 3) (e' : Nat) (he' : e' ≤ 3) (i13 : Int32) (i14 : Int32) (i15 : Int32) (i16 : Int32) (i17 : Int32) (i18 : Int32) (j19 : Int64) (j23 : Int64) (j27 : Int64) (j29 : Int64) (j31 : Int64) (o33 : Addr) (o34 : Addr) (len : Nat) (pf : Int32) (k : Nat) (nn : Int32)
    (X0 : Stand p l e R s m args below meth c T0 locs cells slots) (hx : p.tables.exec = Jvm.exec) (hZ : Z.Warmed39 s.vm) (hw : ∀ d ∈ tables_1, d.before a0 Z = true) (hby : c.code = code) (hml : c.maxLocals = 43) (hown : s.vm.findClass "com/example/fairjoin/fairjoin/operator/DirectKeysSlotPinLaw" = some m.cls) (e0 : T0.heap = h0) :
    ∃ (T' : State) (vF vS : Int32), (¬ vF = (0 : Int32) ↔ (¬ ((0 : Int32) < (lcmpW j19 j27)) ∧ ¬ ((0 : Int32) < (lcmpW j27 (j19 + (Int32.ofNat d).toInt64))))) ∧ (¬ vS = (0 : Int32) ↔ (¬ ((0 : Int32) < (lcmpW j23 j29)) ∧ ¬ ((0 : Int32) < (lcmpW j29 (j23 + (Int32.ofNat e').toInt64))))) ∧ Stand p l e R s m args below meth c T' locs cells slots ∧ T'.heap = h0 ∧
      ∀ target, Steps p.tables e below (T'.setTop (mkF m 437 (lv24 j0 j2 j4 j6 i8 i9 i10 (Int32.ofNat d) (Int32.ofNat e') i13 i14 i15 i16 i17 i18 j19 (j19 + (Int32.ofNat d).toInt64) j23 (j23 + (Int32.ofNat e').toInt64) j27 j29 j31 o33 o34 (Int32.ofNat len) pf (Int32.ofNat k) nn vF vS) [])) target → Steps p.tables e below (T0.setTop (mkF m 391 (lv22 j0 j2 j4 j6 i8 i9 i10 (Int32.ofNat d) (Int32.ofNat e') i13 i14 i15 i16 i17 i18 j19 (j19 + (Int32.ofNat d).toInt64) j23 (j23 + (Int32.ofNat e').toInt64) j27 j29 j31 o33 o34 (Int32.ofNat len) pf (Int32.ofNat k) nn) [])) target := by
  have s1 : ∃ (T1 : State) (vF : Int32), (¬ vF = (0 : Int32) ↔ (¬ ((0 : Int32) < (lcmpW j19 j27)) ∧ ¬ ((0 : Int32) < (lcmpW j27 (j19 + (Int32.ofNat d).toInt64))))) ∧ Stand p l e R s m args below meth c T1 locs cells slots ∧ T1.heap = h0 ∧
      ∀ target, Steps p.tables e below (T1.setTop (mkF m 414 (lv23 j0 j2 j4 j6 i8 i9 i10 (Int32.ofNat d) (Int32.ofNat e') i13 i14 i15 i16 i17 i18 j19 (j19 + (Int32.ofNat d).toInt64) j23 (j23 + (Int32.ofNat e').toInt64) j27 j29 j31 o33 o34 (Int32.ofNat len) pf (Int32.ofNat k) nn vF) [])) target → Steps p.tables e below (T0.setTop (mkF m 391 (lv22 j0 j2 j4 j6 i8 i9 i10 (Int32.ofNat d) (Int32.ofNat e') i13 i14 i15 i16 i17 i18 j19 (j19 + (Int32.ofNat d).toInt64) j23 (j23 + (Int32.ofNat e').toInt64) j27 j29 j31 o33 o34 (Int32.ofNat len) pf (Int32.ofNat k) nn) [])) target := by
    by_cases c1 : (0 : Int32) < (lcmpW j19 j27)
    · obtain ⟨T1, X1, e1, st1⟩ := sFa j0 j2 j4 j6 i8 i9 i10 (Int32.ofNat d) (Int32.ofNat e') i13 i14 i15 i16 i17 i18 j19 (j19 + (Int32.ofNat d).toInt64) j23 (j23 + (Int32.ofNat e').toInt64) j27 j29 j31 o33 o34 (Int32.ofNat len) pf (Int32.ofNat k) nn X0 hx hZ hw hby hml hown e0 c1
      exact ⟨T1, 0, ⟨fun q => absurd rfl q, fun q => absurd c1 q.1⟩, X1, e1, st1⟩
    · by_cases c2 : (0 : Int32) < (lcmpW j27 (j19 + (Int32.ofNat d).toInt64))
      · obtain ⟨T1, X1, e1, st1⟩ := sFb j0 j2 j4 j6 i8 i9 i10 (Int32.ofNat d) (Int32.ofNat e') i13 i14 i15 i16 i17 i18 j19 (j19 + (Int32.ofNat d).toInt64) j23 (j23 + (Int32.ofNat e').toInt64) j27 j29 j31 o33 o34 (Int32.ofNat len) pf (Int32.ofNat k) nn X0 hx hZ hw hby hml hown e0 c1 c2
        exact ⟨T1, 0, ⟨fun q => absurd rfl q, fun q => absurd c2 q.2⟩, X1, e1, st1⟩
      · obtain ⟨T1, X1, e1, st1⟩ := sFc j0 j2 j4 j6 i8 i9 i10 (Int32.ofNat d) (Int32.ofNat e') i13 i14 i15 i16 i17 i18 j19 (j19 + (Int32.ofNat d).toInt64) j23 (j23 + (Int32.ofNat e').toInt64) j27 j29 j31 o33 o34 (Int32.ofNat len) pf (Int32.ofNat k) nn X0 hx hZ hw hby hml hown e0 c1 c2
        exact ⟨T1, 1, ⟨fun _ => ⟨c1, c2⟩, fun _ => by decide⟩, X1, e1, st1⟩
  obtain ⟨T2, vF, hF, X2, e2, st2⟩ := s1
  have s2 : ∃ (T1 : State) (vS : Int32), (¬ vS = (0 : Int32) ↔ (¬ ((0 : Int32) < (lcmpW j23 j29)) ∧ ¬ ((0 : Int32) < (lcmpW j29 (j23 + (Int32.ofNat e').toInt64))))) ∧ Stand p l e R s m args below meth c T1 locs cells slots ∧ T1.heap = h0 ∧
      ∀ target, Steps p.tables e below (T1.setTop (mkF m 437 (lv24 j0 j2 j4 j6 i8 i9 i10 (Int32.ofNat d) (Int32.ofNat e') i13 i14 i15 i16 i17 i18 j19 (j19 + (Int32.ofNat d).toInt64) j23 (j23 + (Int32.ofNat e').toInt64) j27 j29 j31 o33 o34 (Int32.ofNat len) pf (Int32.ofNat k) nn vF vS) [])) target → Steps p.tables e below (T2.setTop (mkF m 414 (lv23 j0 j2 j4 j6 i8 i9 i10 (Int32.ofNat d) (Int32.ofNat e') i13 i14 i15 i16 i17 i18 j19 (j19 + (Int32.ofNat d).toInt64) j23 (j23 + (Int32.ofNat e').toInt64) j27 j29 j31 o33 o34 (Int32.ofNat len) pf (Int32.ofNat k) nn vF) [])) target := by
    by_cases c1 : (0 : Int32) < (lcmpW j23 j29)
    · obtain ⟨T1, X1, e1, st1⟩ := sSa j0 j2 j4 j6 i8 i9 i10 (Int32.ofNat d) (Int32.ofNat e') i13 i14 i15 i16 i17 i18 j19 (j19 + (Int32.ofNat d).toInt64) j23 (j23 + (Int32.ofNat e').toInt64) j27 j29 j31 o33 o34 (Int32.ofNat len) pf (Int32.ofNat k) nn vF X2 hx hZ hw hby hml hown e2 c1
      exact ⟨T1, 0, ⟨fun q => absurd rfl q, fun q => absurd c1 q.1⟩, X1, e1, st1⟩
    · by_cases c2 : (0 : Int32) < (lcmpW j29 (j23 + (Int32.ofNat e').toInt64))
      · obtain ⟨T1, X1, e1, st1⟩ := sSb j0 j2 j4 j6 i8 i9 i10 (Int32.ofNat d) (Int32.ofNat e') i13 i14 i15 i16 i17 i18 j19 (j19 + (Int32.ofNat d).toInt64) j23 (j23 + (Int32.ofNat e').toInt64) j27 j29 j31 o33 o34 (Int32.ofNat len) pf (Int32.ofNat k) nn vF X2 hx hZ hw hby hml hown e2 c1 c2
        exact ⟨T1, 0, ⟨fun q => absurd rfl q, fun q => absurd c2 q.2⟩, X1, e1, st1⟩
      · obtain ⟨T1, X1, e1, st1⟩ := sSc j0 j2 j4 j6 i8 i9 i10 (Int32.ofNat d) (Int32.ofNat e') i13 i14 i15 i16 i17 i18 j19 (j19 + (Int32.ofNat d).toInt64) j23 (j23 + (Int32.ofNat e').toInt64) j27 j29 j31 o33 o34 (Int32.ofNat len) pf (Int32.ofNat k) nn vF X2 hx hZ hw hby hml hown e2 c1 c2
        exact ⟨T1, 1, ⟨fun _ => ⟨c1, c2⟩, fun _ => by decide⟩, X1, e1, st1⟩
  obtain ⟨T3, vS, hS, X3, e3, st3⟩ := s2
  exact ⟨T3, vF, vS, hF, hS, X3, e3, fun target h => st2 target (st3 target h)⟩
def QZ (r : Int32) (h0 : Heap) (n0 : Nat) (v : Option Value) (h : Heap) (L : List Loc) : Prop := v = some (.int r) ∧ Fr n0 L ∧ h = h0
set_option maxRecDepth 65536 in
set_option maxHeartbeats 40000000 in
theorem qZ {cells slots : Nat} {p : Program} {l : Launch} {e : Env} {s : State} {m : MethodId} {args : Array Value} {below : List Frame} {meth : Method} {c : Code} {T0 : State} {locs : List Loc} {Z : State} {a0 : Array Value} {h0 : Heap} (j0 : Int64) (j2 : Int64) (j4 : Int64) (j6 : Int64) (i8 : Int32) (i9 : Int32) (i10 : Int32) (i11 : Int32) (i12 : Int32) (i13 : Int32) (i14 : Int32) (i15 : Int32) (i16 : Int32) (i17 : Int32) (i18 : Int32) (j19 : Int64) (j21 : Int64) (j23 : Int64) (j25 : Int64) (j27 : Int64) (j29 : Int64) (j31 : Int64) (o33 : Addr) (o34 : Addr) (i35 : Int32) (i36 : Int32) (i37 : Int32) (i38 : Int32) (i39 : Int32) (i40 : Int32) (i41 : Int32) (s42 : Slot) (n0 : Nat) (r : Int32)
    (X0 : Stand p l e room_1 s m args below meth c T0 locs cells slots) (hx : p.tables.exec = Jvm.exec) (hZ : Z.Warmed39 s.vm) (hw : ∀ d ∈ tables_1, d.before a0 Z = true) (hby : c.code = code) (hml : c.maxLocals = 43) (hown : s.vm.findClass "com/example/fairjoin/fairjoin/operator/DirectKeysSlotPinLaw" = some m.cls) (e0 : T0.heap = h0) (N0 : Fr n0 locs) (hce : cells ≤ room_1.cells) (hsl : slots ≤ room_1.slots) (E0 : Exa Z h0 o34 "com/example/fairjoin/fairjoin/operator/DirectKeys") (M : MetFree l (⟨"com/example/fairjoin/fairjoin/operator/DirectKeys", "slot", "(JJ)I"⟩ : MethodName) (head1 (Jvm.Cond.code (⟨"com/example/fairjoin/fairjoin/operator/DirectKeys", "slot", "(JJ)I"⟩ : MethodName) prog_151_method_4_code 9 (some .int) :: []) ({ frames := 0, cells := 0, slots := 0, locals := 0 } : Room)) (fun a U => a = #[(.ref o34), (.long j27), (.long j29)] ∧ Z.Warmed39 U.vm ∧ U.heap = h0) (fun _ _ _ _ _ => True) (fun _ U o U' => ∃ v L, o = .returned v ∧ QZ r h0 n0 v U'.heap L ∧ FrameEnd U o U' L ({ frames := 0, cells := 0, slots := 0, locals := 0 } : Room).cells ({ frames := 0, cells := 0, slots := 0, locals := 0 } : Room).slots)) (hr : r = i41) :
    ∃ (T' : State) (Ls : Array Slot) (locs' : List Loc), Stand p l e room_1 s m args below meth c T' locs' cells slots ∧ Fr n0 locs' ∧
      ∀ target, Steps p.tables e below (T'.setTop (mkF m 556 Ls [])) target → Steps p.tables e below (T0.setTop (mkF m 542 (lv28 j0 j2 j4 j6 i8 i9 i10 i11 i12 i13 i14 i15 i16 i17 i18 j19 j21 j23 j25 j27 j29 j31 o33 o34 i35 i36 i37 i38 i39 i40 i41 s42) [])) target := by
  obtain ⟨cq7, kq7, q7a, q7b, q7c⟩ := isOf hZ e0 E0
  obtain ⟨_, _, ⟨T7, L7, k7, n7⟩, -, X7, ⟨Lc7, hQ7, l7, y7, z7⟩, st7⟩ := X0.virtualBack hx (y := (⟨"com/example/fairjoin/fairjoin/operator/DirectKeys", "slot", "(JJ)I"⟩ : MethodName)) (z := (⟨"com/example/fairjoin/fairjoin/operator/DirectKeys", "slot", "(JJ)I"⟩ : MethodName)) hown (mvT hZ (hw _ (List.mem_of_getElem? (i := 78) rfl))) (mvT hZ (hw _ (List.mem_of_getElem? (i := 79) rfl))) (notFace_of_selects (args := #[]) (mvT hZ (hw _ (List.mem_of_getElem? (i := 81) rfl)))) (mvT hZ (hw _ (List.mem_of_getElem? (i := 81) rfl))) (mvT hZ (hw _ (List.mem_of_getElem? (i := 80) rfl))) (by decide) (backOf (W := 0) M hZ (hw _ (List.mem_of_getElem? (i := 82) rfl)) (hw _ (List.mem_of_getElem? (i := 4) rfl)) (by decide) (by decide)) q7a q7c (g := (mkF m 548 (lv28 j0 j2 j4 j6 i8 i9 i10 i11 i12 i13 i14 i15 i16 i17 i18 j19 j21 j23 j25 j27 j29 j31 o33 o34 i35 i36 i37 i38 i39 i40 i41 s42) [(.long j29), (.long j27), (.ref o34)])) rfl (by rw [hml]; rfl) (Steps.refl _) (argsL := [(.long j27), (.long j29)]) (rest := []) (lenOf pd_0_8 rfl) rfl (by show 2 * 0 + _ ≤ _; exact Nat.le_of_eq rfl) (hb hby at_548) (fun _ _ => ⟨rfl, e0, hce, hsl⟩)
  dsimp only [Pt.U, Pt.locs, Pt.cells, Pt.slots] at X7 l7 y7 z7 st7 hQ7
  subst l7 y7 z7
  obtain ⟨rfl, N7q, e7⟩ := hQ7
  have N7 := Fr.app N0 N7q
  refine ⟨T7, (lv28 j0 j2 j4 j6 i8 i9 i10 i11 i12 i13 i14 i15 i16 i17 i18 j19 j21 j23 j25 j27 j29 j31 o33 o34 i35 i36 i37 i38 i39 i40 i41 s42), _, X7, N7, fun target kt => ?_⟩
  show Steps p.tables e below (T0.setTop (mkF m 542 (lv28 j0 j2 j4 j6 i8 i9 i10 i11 i12 i13 i14 i15 i16 i17 i18 j19 j21 j23 j25 j27 j29 j31 o33 o34 i35 i36 i37 i38 i39 i40 i41 s42) [])) _
  refine XS.aload X0.here hx rfl (hb hby at_542) rfl rfl ?_
  show Steps p.tables e below (T0.setTop (mkF m 544 (lv28 j0 j2 j4 j6 i8 i9 i10 i11 i12 i13 i14 i15 i16 i17 i18 j19 j21 j23 j25 j27 j29 j31 o33 o34 i35 i36 i37 i38 i39 i40 i41 s42) [(.ref o34)])) _
  refine XS.lload X0.here hx rfl (hb hby at_544) rfl ?_
  show Steps p.tables e below (T0.setTop (mkF m 546 (lv28 j0 j2 j4 j6 i8 i9 i10 i11 i12 i13 i14 i15 i16 i17 i18 j19 j21 j23 j25 j27 j29 j31 o33 o34 i35 i36 i37 i38 i39 i40 i41 s42) [(.long j27), (.ref o34)])) _
  refine XS.lload X0.here hx rfl (hb hby at_546) rfl ?_
  show Steps p.tables e below (T0.setTop (mkF m 548 (lv28 j0 j2 j4 j6 i8 i9 i10 i11 i12 i13 i14 i15 i16 i17 i18 j19 j21 j23 j25 j27 j29 j31 o33 o34 i35 i36 i37 i38 i39 i40 i41 s42) [(.long j29), (.long j27), (.ref o34)])) _
  refine st7.trans ?_
  show Steps p.tables e below (T7.setTop (mkF m 551 (lv28 j0 j2 j4 j6 i8 i9 i10 i11 i12 i13 i14 i15 i16 i17 i18 j19 j21 j23 j25 j27 j29 j31 o33 o34 i35 i36 i37 i38 i39 i40 i41 s42) [(.int r)])) _
  refine XS.iload X7.here hx rfl (hb hby at_551) rfl ?_
  show Steps p.tables e below (T7.setTop (mkF m 553 (lv28 j0 j2 j4 j6 i8 i9 i10 i11 i12 i13 i14 i15 i16 i17 i18 j19 j21 j23 j25 j27 j29 j31 o33 o34 i35 i36 i37 i38 i39 i40 i41 s42) [(.int i41), (.int r)])) _
  refine XS.icmpNo X7.here hx rfl (hb hby at_553) rfl (teq (hr : r = i41)).2 ?_
  exact kt
set_option maxRecDepth 65536 in
set_option maxHeartbeats 40000000 in
theorem qO1 {p : Program} {l : Launch} {e : Env} {s : State} {m : MethodId} {args : Array Value} {below : List Frame} {meth : Method} {c : Code} {T0 : State} {locs : List Loc} {Z : State} {a0 : Array Value} {h0 : Heap} (j0 : Int64) (j2 : Int64) (j4 : Int64) (j6 : Int64) (i8 : Int32) (i9 : Int32) (i10 : Int32) (d : Nat) (hd : d ≤ 3) (e' : Nat) (he' : e' ≤ 3) (i13 : Int32) (i14 : Int32) (i15 : Int32) (i16 : Int32) (i17 : Int32) (i18 : Int32) (j19 : Int64) (j23 : Int64) (j27 : Int64) (j29 : Int64) (j31 : Int64) (o33 : Addr) (o34 : Addr) (w1 : j19.toInt + (d : Int) ≤ 9223372036854775807) (w2 : j23.toInt + (e' : Int) ≤ 9223372036854775807) (t10 : Addr) (n0 : Nat)
    (X0 : Stand p l e room_1 s m args below meth c T0 locs 3 13) (hx : p.tables.exec = Jvm.exec) (hZ : Z.Warmed39 s.vm) (hw : ∀ d ∈ tables_1, d.before a0 Z = true) (hby : c.code = code) (hml : c.maxLocals = 43) (hown : s.vm.findClass "com/example/fairjoin/fairjoin/operator/DirectKeysSlotPinLaw" = some m.cls) (e0 : T0.heap = h0) (N0 : Fr n0 locs) (Z0 : n0 ≤ h0.size) (g34 : n0 ≤ o34) (D0 : DK Z h0 o34 2 j19 (j19 + (Int32.ofNat d).toInt64) j23 (j23 + (Int32.ofNat e').toInt64) 0 0 0 1 (.ref t10) 0 .null) (hc273 : i10 = (1 : Int32)) :
    ∃ (T' : State) (h' : Heap) (locs' : List Loc) (t1 : Addr), Stand p l e room_1 s m args below meth c T' locs' 4 29 ∧ T'.heap = h' ∧ Fr n0 locs' ∧ n0 ≤ h'.size ∧ DK Z h' o34 2 j19 (j19 + (Int32.ofNat d).toInt64) j23 (j23 + (Int32.ofNat e').toInt64) j19 ((Int32.ofNat (d + 1)).toInt64) j23 ((Int32.ofNat (e' + 1)).toInt64) (.ref t1) 0 .null ∧ OwA Z h' t1 .int ((d + 1) * (e' + 1)) (fun _ => .int 0) ∧ t1 ≠ o34 ∧ n0 ≤ t1 ∧
      ∀ target, Steps p.tables e below (T'.setTop (mkF m 328 (lv17 j0 j2 j4 j6 i8 i9 i10 (Int32.ofNat d) (Int32.ofNat e') i13 i14 i15 i16 i17 i18 j19 (j19 + (Int32.ofNat d).toInt64) j23 (j23 + (Int32.ofNat e').toInt64) j27 j29 j31 o33 o34 (Int32.ofNat ((d + 1) * (e' + 1)))) [])) target → Steps p.tables e below (T0.setTop (mkF m 270 (lv17 j0 j2 j4 j6 i8 i9 i10 (Int32.ofNat d) (Int32.ofNat e') i13 i14 i15 i16 i17 i18 j19 (j19 + (Int32.ofNat d).toInt64) j23 (j23 + (Int32.ofNat e').toInt64) j27 j29 j31 o33 o34 (0 : Int32)) [])) target := by
  obtain ⟨cq7, kq7, q7a, q7b, q7c⟩ := isOf hZ e0 D0.1
  obtain ⟨_, _, ⟨T7, L7, k7, n7⟩, -, X7, ⟨Lc7, hQ7, l7, y7, z7⟩, st7⟩ := X0.virtualBack hx (y := (⟨"com/example/fairjoin/fairjoin/operator/DirectKeys", "lookUpDirectly", "(J)Z"⟩ : MethodName)) (z := (⟨"com/example/fairjoin/fairjoin/operator/DirectKeys", "lookUpDirectly", "(J)Z"⟩ : MethodName)) hown (mvT hZ (hw _ (List.mem_of_getElem? (i := 84) rfl))) (mvT hZ (hw _ (List.mem_of_getElem? (i := 85) rfl))) (notFace_of_selects (args := #[]) (mvT hZ (hw _ (List.mem_of_getElem? (i := 87) rfl)))) (mvT hZ (hw _ (List.mem_of_getElem? (i := 87) rfl))) (mvT hZ (hw _ (List.mem_of_getElem? (i := 86) rfl))) (by decide) (backOf (W := 0) (rm13 l Z a0 hw [] o34 d e' j19 (j19 + (Int32.ofNat d).toInt64) j23 (j23 + (Int32.ofNat e').toInt64) 0 0 0 1 (.ref t10) 0 .null h0 n0 Z0 g34 hd he' rfl rfl (own_nle _ d hd w1) D0) hZ (hw _ (List.mem_of_getElem? (i := 88) rfl)) (hw _ (List.mem_of_getElem? (i := 4) rfl)) (by decide) (by decide)) q7a q7c (g := (mkF m 281 (lv17 j0 j2 j4 j6 i8 i9 i10 (Int32.ofNat d) (Int32.ofNat e') i13 i14 i15 i16 i17 i18 j19 (j19 + (Int32.ofNat d).toInt64) j23 (j23 + (Int32.ofNat e').toInt64) j27 j29 j31 o33 o34 (0 : Int32)) [(.long (16 : Int64)), (.ref o34)])) rfl (by rw [hml]; rfl) (Steps.refl _) (argsL := [(.long (16 : Int64))]) (rest := []) (lenOf pd_0_9 rfl) rfl (by show 2 * 0 + _ ≤ _; exact Nat.le_of_eq rfl) (hb hby at_281) (fun _ _ => ⟨rfl, e0, (by decide : 3 + 1 ≤ _), (by decide : 13 + 16 ≤ _)⟩)
  dsimp only [Pt.U, Pt.locs, Pt.cells, Pt.slots] at X7 l7 y7 z7 st7 hQ7
  subst l7 y7 z7
  obtain ⟨rfl, N7q, K7q, t1, D7, A7, hne7, g7⟩ := hQ7
  have N7 := Fr.app N0 N7q
  refine ⟨T7, _, _, t1, X7, rfl, N7, Nat.le_trans Z0 K7q.1, D7, A7, hne7, g7, fun target kt => ?_⟩
  show Steps p.tables e below (T0.setTop (mkF m 270 (lv17 j0 j2 j4 j6 i8 i9 i10 (Int32.ofNat d) (Int32.ofNat e') i13 i14 i15 i16 i17 i18 j19 (j19 + (Int32.ofNat d).toInt64) j23 (j23 + (Int32.ofNat e').toInt64) j27 j29 j31 o33 o34 (0 : Int32)) [])) _
  refine XS.iload X0.here hx rfl (hb hby at_270) rfl ?_
  show Steps p.tables e below (T0.setTop (mkF m 272 (lv17 j0 j2 j4 j6 i8 i9 i10 (Int32.ofNat d) (Int32.ofNat e') i13 i14 i15 i16 i17 i18 j19 (j19 + (Int32.ofNat d).toInt64) j23 (j23 + (Int32.ofNat e').toInt64) j27 j29 j31 o33 o34 (0 : Int32)) [(.int i10)])) _
  refine XS.iconst X0.here hx rfl (hb hby at_272) ?_
  show Steps p.tables e below (T0.setTop (mkF m 273 (lv17 j0 j2 j4 j6 i8 i9 i10 (Int32.ofNat d) (Int32.ofNat e') i13 i14 i15 i16 i17 i18 j19 (j19 + (Int32.ofNat d).toInt64) j23 (j23 + (Int32.ofNat e').toInt64) j27 j29 j31 o33 o34 (0 : Int32)) [(.int (1 : Int32)), (.int i10)])) _
  refine XS.icmpNo X0.here hx rfl (hb hby at_273) rfl (teq hc273).2 ?_
  show Steps p.tables e below (T0.setTop (mkF m 276 (lv17 j0 j2 j4 j6 i8 i9 i10 (Int32.ofNat d) (Int32.ofNat e') i13 i14 i15 i16 i17 i18 j19 (j19 + (Int32.ofNat d).toInt64) j23 (j23 + (Int32.ofNat e').toInt64) j27 j29 j31 o33 o34 (0 : Int32)) [])) _
  refine XS.aload X0.here hx rfl (hb hby at_276) rfl rfl ?_
  show Steps p.tables e below (T0.setTop (mkF m 278 (lv17 j0 j2 j4 j6 i8 i9 i10 (Int32.ofNat d) (Int32.ofNat e') i13 i14 i15 i16 i17 i18 j19 (j19 + (Int32.ofNat d).toInt64) j23 (j23 + (Int32.ofNat e').toInt64) j27 j29 j31 o33 o34 (0 : Int32)) [(.ref o34)])) _
  refine X0.ldc2Long hx hown (mvT hZ (hw _ (List.mem_of_getElem? (i := 83) rfl))) (g := (mkF m 278 (lv17 j0 j2 j4 j6 i8 i9 i10 (Int32.ofNat d) (Int32.ofNat e') i13 i14 i15 i16 i17 i18 j19 (j19 + (Int32.ofNat d).toInt64) j23 (j23 + (Int32.ofNat e').toInt64) j27 j29 j31 o33 o34 (0 : Int32)) [(.ref o34)])) rfl (hb hby at_278) _ ?_
  show Steps p.tables e below (T0.setTop (mkF m 281 (lv17 j0 j2 j4 j6 i8 i9 i10 (Int32.ofNat d) (Int32.ofNat e') i13 i14 i15 i16 i17 i18 j19 (j19 + (Int32.ofNat d).toInt64) j23 (j23 + (Int32.ofNat e').toInt64) j27 j29 j31 o33 o34 (0 : Int32)) [(.long (16 : Int64)), (.ref o34)])) _
  refine st7.trans ?_
  show Steps p.tables e below (T7.setTop (mkF m 284 (lv17 j0 j2 j4 j6 i8 i9 i10 (Int32.ofNat d) (Int32.ofNat e') i13 i14 i15 i16 i17 i18 j19 (j19 + (Int32.ofNat d).toInt64) j23 (j23 + (Int32.ofNat e').toInt64) j27 j29 j31 o33 o34 (0 : Int32)) [(.int (1 : Int32))])) _
  refine XS.ifYes X7.here hx rfl (pc0 := 284) (pc' := 289) rfl (hb hby at_284) rfl ((if0 _ _).trans (feq (by decide : ¬ ((1 : Int32) = (0 : Int32)))).2) (by decide) (by decide) ?_
  show Steps p.tables e below (T7.setTop (mkF m 289 (lv17 j0 j2 j4 j6 i8 i9 i10 (Int32.ofNat d) (Int32.ofNat e') i13 i14 i15 i16 i17 i18 j19 (j19 + (Int32.ofNat d).toInt64) j23 (j23 + (Int32.ofNat e').toInt64) j27 j29 j31 o33 o34 (0 : Int32)) [])) _
  refine XS.iload X7.here hx rfl (hb hby at_289) rfl ?_
  show Steps p.tables e below (T7.setTop (mkF m 291 (lv17 j0 j2 j4 j6 i8 i9 i10 (Int32.ofNat d) (Int32.ofNat e') i13 i14 i15 i16 i17 i18 j19 (j19 + (Int32.ofNat d).toInt64) j23 (j23 + (Int32.ofNat e').toInt64) j27 j29 j31 o33 o34 (0 : Int32)) [(.int (Int32.ofNat d))])) _
  refine XS.iconst X7.here hx rfl (hb hby at_291) ?_
  show Steps p.tables e below (T7.setTop (mkF m 292 (lv17 j0 j2 j4 j6 i8 i9 i10 (Int32.ofNat d) (Int32.ofNat e') i13 i14 i15 i16 i17 i18 j19 (j19 + (Int32.ofNat d).toInt64) j23 (j23 + (Int32.ofNat e').toInt64) j27 j29 j31 o33 o34 (0 : Int32)) [(.int (1 : Int32)), (.int (Int32.ofNat d))])) _
  refine XS.iadd X7.here hx rfl (hb hby at_292) rfl ?_
  show Steps p.tables e below (T7.setTop (mkF m 293 (lv17 j0 j2 j4 j6 i8 i9 i10 (Int32.ofNat d) (Int32.ofNat e') i13 i14 i15 i16 i17 i18 j19 (j19 + (Int32.ofNat d).toInt64) j23 (j23 + (Int32.ofNat e').toInt64) j27 j29 j31 o33 o34 (0 : Int32)) [(.int ((Int32.ofNat d) + (1 : Int32)))])) _
  refine XS.iload X7.here hx rfl (hb hby at_293) rfl ?_
  show Steps p.tables e below (T7.setTop (mkF m 295 (lv17 j0 j2 j4 j6 i8 i9 i10 (Int32.ofNat d) (Int32.ofNat e') i13 i14 i15 i16 i17 i18 j19 (j19 + (Int32.ofNat d).toInt64) j23 (j23 + (Int32.ofNat e').toInt64) j27 j29 j31 o33 o34 (0 : Int32)) [(.int (Int32.ofNat e')), (.int ((Int32.ofNat d) + (1 : Int32)))])) _
  refine XS.iconst X7.here hx rfl (hb hby at_295) ?_
  show Steps p.tables e below (T7.setTop (mkF m 296 (lv17 j0 j2 j4 j6 i8 i9 i10 (Int32.ofNat d) (Int32.ofNat e') i13 i14 i15 i16 i17 i18 j19 (j19 + (Int32.ofNat d).toInt64) j23 (j23 + (Int32.ofNat e').toInt64) j27 j29 j31 o33 o34 (0 : Int32)) [(.int (1 : Int32)), (.int (Int32.ofNat e')), (.int ((Int32.ofNat d) + (1 : Int32)))])) _
  refine XS.iadd X7.here hx rfl (hb hby at_296) rfl ?_
  show Steps p.tables e below (T7.setTop (mkF m 297 (lv17 j0 j2 j4 j6 i8 i9 i10 (Int32.ofNat d) (Int32.ofNat e') i13 i14 i15 i16 i17 i18 j19 (j19 + (Int32.ofNat d).toInt64) j23 (j23 + (Int32.ofNat e').toInt64) j27 j29 j31 o33 o34 (0 : Int32)) [(.int ((Int32.ofNat e') + (1 : Int32))), (.int ((Int32.ofNat d) + (1 : Int32)))])) _
  refine XS.imul X7.here hx rfl (hb hby at_297) rfl ?_
  show Steps p.tables e below (T7.setTop (mkF m 298 (lv17 j0 j2 j4 j6 i8 i9 i10 (Int32.ofNat d) (Int32.ofNat e') i13 i14 i15 i16 i17 i18 j19 (j19 + (Int32.ofNat d).toInt64) j23 (j23 + (Int32.ofNat e').toInt64) j27 j29 j31 o33 o34 (0 : Int32)) [(.int (((Int32.ofNat d) + (1 : Int32)) * ((Int32.ofNat e') + (1 : Int32))))])) _
  refine XS.istore X7.here hx rfl (hb hby at_298) rfl (l' := (lv17 j0 j2 j4 j6 i8 i9 i10 (Int32.ofNat d) (Int32.ofNat e') i13 i14 i15 i16 i17 i18 j19 (j19 + (Int32.ofNat d).toInt64) j23 (j23 + (Int32.ofNat e').toInt64) j27 j29 j31 o33 o34 (((Int32.ofNat d) + (1 : Int32)) * ((Int32.ofNat e') + (1 : Int32))))) rfl ?_
  show Steps p.tables e below (T7.setTop (mkF m 300 (lv17 j0 j2 j4 j6 i8 i9 i10 (Int32.ofNat d) (Int32.ofNat e') i13 i14 i15 i16 i17 i18 j19 (j19 + (Int32.ofNat d).toInt64) j23 (j23 + (Int32.ofNat e').toInt64) j27 j29 j31 o33 o34 (((Int32.ofNat d) + (1 : Int32)) * ((Int32.ofNat e') + (1 : Int32)))) [])) _
  refine XS.goto X7.here hx rfl (pc0 := 300) (pc' := 328) rfl (hb hby at_300) (by decide) (by decide) ?_
  rw [own_l1 d e' hd he']
  exact kt
set_option maxRecDepth 65536 in
set_option maxHeartbeats 40000000 in
theorem qO2 {p : Program} {l : Launch} {e : Env} {s : State} {m : MethodId} {args : Array Value} {below : List Frame} {meth : Method} {c : Code} {T0 : State} {locs : List Loc} {Z : State} {a0 : Array Value} {h0 : Heap} (j0 : Int64) (j2 : Int64) (j4 : Int64) (j6 : Int64) (i8 : Int32) (i9 : Int32) (i10 : Int32) (d : Nat) (hd : d ≤ 3) (e' : Nat) (he' : e' ≤ 3) (i13 : Int32) (i14 : Int32) (i15 : Int32) (i16 : Int32) (i17 : Int32) (i18 : Int32) (j19 : Int64) (j23 : Int64) (j27 : Int64) (j29 : Int64) (j31 : Int64) (o33 : Addr) (o34 : Addr) (w1 : j19.toInt + (d : Int) ≤ 9223372036854775807) (w2 : j23.toInt + (e' : Int) ≤ 9223372036854775807) (t10 : Addr) (n0 : Nat)
    (X0 : Stand p l e room_1 s m args below meth c T0 locs 3 13) (hx : p.tables.exec = Jvm.exec) (hZ : Z.Warmed39 s.vm) (hw : ∀ d ∈ tables_1, d.before a0 Z = true) (hby : c.code = code) (hml : c.maxLocals = 43) (hown : s.vm.findClass "com/example/fairjoin/fairjoin/operator/DirectKeysSlotPinLaw" = some m.cls) (e0 : T0.heap = h0) (N0 : Fr n0 locs) (Z0 : n0 ≤ h0.size) (g34 : n0 ≤ o34) (D0 : DK Z h0 o34 2 j19 (j19 + (Int32.ofNat d).toInt64) j23 (j23 + (Int32.ofNat e').toInt64) 0 0 0 1 (.ref t10) 0 .null) (A0 : OwA Z h0 o33 .long 1 (fun _ => .long j19)) (hc273 : ¬ (i10 = (1 : Int32))) (hc306 : ¬ (i10 < (2 : Int32))) :
    ∃ (T' : State) (h' : Heap) (locs' : List Loc) (t1 t2 : Addr), Stand p l e room_1 s m args below meth c T' locs' 6 22 ∧ T'.heap = h' ∧ Fr n0 locs' ∧ n0 ≤ h'.size ∧ DK Z h' o34 2 j19 (j19 + (Int32.ofNat d).toInt64) j23 (j23 + (Int32.ofNat e').toInt64) j19 ((Int32.ofNat (d + 1)).toInt64) 0 1 (.ref t1) 1 (.ref t2) ∧ OwA Z h' t1 .int (d + 1) (fun _ => .int 0) ∧ OwA Z h' t2 .long (d + 1) (fun _ => .long 0) ∧ t1 ≠ t2 ∧ t1 ≠ o34 ∧ t2 ≠ o34 ∧ n0 ≤ t1 ∧ n0 ≤ t2 ∧
      ∀ target, Steps p.tables e below (T'.setTop (mkF m 328 (lv17 j0 j2 j4 j6 i8 i9 i10 (Int32.ofNat d) (Int32.ofNat e') i13 i14 i15 i16 i17 i18 j19 (j19 + (Int32.ofNat d).toInt64) j23 (j23 + (Int32.ofNat e').toInt64) j27 j29 j31 o33 o34 (Int32.ofNat (d + 1))) [])) target → Steps p.tables e below (T0.setTop (mkF m 270 (lv17 j0 j2 j4 j6 i8 i9 i10 (Int32.ofNat d) (Int32.ofNat e') i13 i14 i15 i16 i17 i18 j19 (j19 + (Int32.ofNat d).toInt64) j23 (j23 + (Int32.ofNat e').toInt64) j27 j29 j31 o33 o34 (0 : Int32)) [])) target := by
  obtain ⟨cq7, kq7, q7a, q7b, q7c⟩ := isOf hZ e0 D0.1
  obtain ⟨_, _, ⟨T7, L7, k7, n7⟩, -, X7, ⟨Lc7, hQ7, l7, y7, z7⟩, st7⟩ := X0.virtualBack hx (y := (⟨"com/example/fairjoin/fairjoin/operator/DirectKeys", "lookUpByFirst", "([JI)Z"⟩ : MethodName)) (z := (⟨"com/example/fairjoin/fairjoin/operator/DirectKeys", "lookUpByFirst", "([JI)Z"⟩ : MethodName)) hown (mvT hZ (hw _ (List.mem_of_getElem? (i := 45) rfl))) (mvT hZ (hw _ (List.mem_of_getElem? (i := 46) rfl))) (notFace_of_selects (args := #[]) (mvT hZ (hw _ (List.mem_of_getElem? (i := 48) rfl)))) (mvT hZ (hw _ (List.mem_of_getElem? (i := 48) rfl))) (mvT hZ (hw _ (List.mem_of_getElem? (i := 47) rfl))) (by decide) (backOf (W := 0) (rm7 l Z a0 hw [] o34 o33 d j19 (j19 + (Int32.ofNat d).toInt64) j23 (j23 + (Int32.ofNat e').toInt64) 0 0 0 1 (.ref t10) 0 .null h0 n0 Z0 g34 hd rfl (own_nle _ d hd w1) A0 D0) hZ (hw _ (List.mem_of_getElem? (i := 49) rfl)) (hw _ (List.mem_of_getElem? (i := 4) rfl)) (by decide) (by decide)) q7a q7c (g := (mkF m 314 (lv17 j0 j2 j4 j6 i8 i9 i10 (Int32.ofNat d) (Int32.ofNat e') i13 i14 i15 i16 i17 i18 j19 (j19 + (Int32.ofNat d).toInt64) j23 (j23 + (Int32.ofNat e').toInt64) j27 j29 j31 o33 o34 (0 : Int32)) [(.int (1 : Int32)), (.ref o33), (.ref o34)])) rfl (by rw [hml]; rfl) (Steps.refl _) (argsL := [(.ref o33), (.int (1 : Int32))]) (rest := []) (lenOf pd_0_5 rfl) rfl (by show 2 * 0 + _ ≤ _; exact Nat.le_of_eq rfl) (hb hby at_314) (fun _ _ => ⟨rfl, e0, (by decide : 3 + 3 ≤ _), (by decide : 13 + 9 ≤ _)⟩)
  dsimp only [Pt.U, Pt.locs, Pt.cells, Pt.slots] at X7 l7 y7 z7 st7 hQ7
  subst l7 y7 z7
  obtain ⟨rfl, N7q, K7q, t1, t2, D7, A7, B7, hn12, hn1, hn2, g1, g2⟩ := hQ7
  have N7 := Fr.app N0 N7q
  refine ⟨T7, _, _, t1, t2, X7, rfl, N7, Nat.le_trans Z0 K7q.1, D7, A7, B7, hn12, hn1, hn2, g1, g2, fun target kt => ?_⟩
  show Steps p.tables e below (T0.setTop (mkF m 270 (lv17 j0 j2 j4 j6 i8 i9 i10 (Int32.ofNat d) (Int32.ofNat e') i13 i14 i15 i16 i17 i18 j19 (j19 + (Int32.ofNat d).toInt64) j23 (j23 + (Int32.ofNat e').toInt64) j27 j29 j31 o33 o34 (0 : Int32)) [])) _
  refine XS.iload X0.here hx rfl (hb hby at_270) rfl ?_
  show Steps p.tables e below (T0.setTop (mkF m 272 (lv17 j0 j2 j4 j6 i8 i9 i10 (Int32.ofNat d) (Int32.ofNat e') i13 i14 i15 i16 i17 i18 j19 (j19 + (Int32.ofNat d).toInt64) j23 (j23 + (Int32.ofNat e').toInt64) j27 j29 j31 o33 o34 (0 : Int32)) [(.int i10)])) _
  refine XS.iconst X0.here hx rfl (hb hby at_272) ?_
  show Steps p.tables e below (T0.setTop (mkF m 273 (lv17 j0 j2 j4 j6 i8 i9 i10 (Int32.ofNat d) (Int32.ofNat e') i13 i14 i15 i16 i17 i18 j19 (j19 + (Int32.ofNat d).toInt64) j23 (j23 + (Int32.ofNat e').toInt64) j27 j29 j31 o33 o34 (0 : Int32)) [(.int (1 : Int32)), (.int i10)])) _
  refine XS.icmpYes X0.here hx rfl (pc0 := 273) (pc' := 303) rfl (hb hby at_273) rfl (feq hc273).2 (by decide) (by decide) ?_
  show Steps p.tables e below (T0.setTop (mkF m 303 (lv17 j0 j2 j4 j6 i8 i9 i10 (Int32.ofNat d) (Int32.ofNat e') i13 i14 i15 i16 i17 i18 j19 (j19 + (Int32.ofNat d).toInt64) j23 (j23 + (Int32.ofNat e').toInt64) j27 j29 j31 o33 o34 (0 : Int32)) [])) _
  refine XS.iload X0.here hx rfl (hb hby at_303) rfl ?_
  show Steps p.tables e below (T0.setTop (mkF m 305 (lv17 j0 j2 j4 j6 i8 i9 i10 (Int32.ofNat d) (Int32.ofNat e') i13 i14 i15 i16 i17 i18 j19 (j19 + (Int32.ofNat d).toInt64) j23 (j23 + (Int32.ofNat e').toInt64) j27 j29 j31 o33 o34 (0 : Int32)) [(.int i10)])) _
  refine XS.iconst X0.here hx rfl (hb hby at_305) ?_
  show Steps p.tables e below (T0.setTop (mkF m 306 (lv17 j0 j2 j4 j6 i8 i9 i10 (Int32.ofNat d) (Int32.ofNat e') i13 i14 i15 i16 i17 i18 j19 (j19 + (Int32.ofNat d).toInt64) j23 (j23 + (Int32.ofNat e').toInt64) j27 j29 j31 o33 o34 (0 : Int32)) [(.int (2 : Int32)), (.int i10)])) _
  refine XS.icmpNo X0.here hx rfl (hb hby at_306) rfl (flt hc306).1 ?_
  show Steps p.tables e below (T0.setTop (mkF m 309 (lv17 j0 j2 j4 j6 i8 i9 i10 (Int32.ofNat d) (Int32.ofNat e') i13 i14 i15 i16 i17 i18 j19 (j19 + (Int32.ofNat d).toInt64) j23 (j23 + (Int32.ofNat e').toInt64) j27 j29 j31 o33 o34 (0 : Int32)) [])) _
  refine XS.aload X0.here hx rfl (hb hby at_309) rfl rfl ?_
  show Steps p.tables e below (T0.setTop (mkF m 311 (lv17 j0 j2 j4 j6 i8 i9 i10 (Int32.ofNat d) (Int32.ofNat e') i13 i14 i15 i16 i17 i18 j19 (j19 + (Int32.ofNat d).toInt64) j23 (j23 + (Int32.ofNat e').toInt64) j27 j29 j31 o33 o34 (0 : Int32)) [(.ref o34)])) _
  refine XS.aload X0.here hx rfl (hb hby at_311) rfl rfl ?_
  show Steps p.tables e below (T0.setTop (mkF m 313 (lv17 j0 j2 j4 j6 i8 i9 i10 (Int32.ofNat d) (Int32.ofNat e') i13 i14 i15 i16 i17 i18 j19 (j19 + (Int32.ofNat d).toInt64) j23 (j23 + (Int32.ofNat e').toInt64) j27 j29 j31 o33 o34 (0 : Int32)) [(.ref o33), (.ref o34)])) _
  refine XS.iconst X0.here hx rfl (hb hby at_313) ?_
  show Steps p.tables e below (T0.setTop (mkF m 314 (lv17 j0 j2 j4 j6 i8 i9 i10 (Int32.ofNat d) (Int32.ofNat e') i13 i14 i15 i16 i17 i18 j19 (j19 + (Int32.ofNat d).toInt64) j23 (j23 + (Int32.ofNat e').toInt64) j27 j29 j31 o33 o34 (0 : Int32)) [(.int (1 : Int32)), (.ref o33), (.ref o34)])) _
  refine st7.trans ?_
  show Steps p.tables e below (T7.setTop (mkF m 317 (lv17 j0 j2 j4 j6 i8 i9 i10 (Int32.ofNat d) (Int32.ofNat e') i13 i14 i15 i16 i17 i18 j19 (j19 + (Int32.ofNat d).toInt64) j23 (j23 + (Int32.ofNat e').toInt64) j27 j29 j31 o33 o34 (0 : Int32)) [(.int (1 : Int32))])) _
  refine XS.ifYes X7.here hx rfl (pc0 := 317) (pc' := 322) rfl (hb hby at_317) rfl ((if0 _ _).trans (feq (by decide : ¬ ((1 : Int32) = (0 : Int32)))).2) (by decide) (by decide) ?_
  show Steps p.tables e below (T7.setTop (mkF m 322 (lv17 j0 j2 j4 j6 i8 i9 i10 (Int32.ofNat d) (Int32.ofNat e') i13 i14 i15 i16 i17 i18 j19 (j19 + (Int32.ofNat d).toInt64) j23 (j23 + (Int32.ofNat e').toInt64) j27 j29 j31 o33 o34 (0 : Int32)) [])) _
  refine XS.iload X7.here hx rfl (hb hby at_322) rfl ?_
  show Steps p.tables e below (T7.setTop (mkF m 324 (lv17 j0 j2 j4 j6 i8 i9 i10 (Int32.ofNat d) (Int32.ofNat e') i13 i14 i15 i16 i17 i18 j19 (j19 + (Int32.ofNat d).toInt64) j23 (j23 + (Int32.ofNat e').toInt64) j27 j29 j31 o33 o34 (0 : Int32)) [(.int (Int32.ofNat d))])) _
  refine XS.iconst X7.here hx rfl (hb hby at_324) ?_
  show Steps p.tables e below (T7.setTop (mkF m 325 (lv17 j0 j2 j4 j6 i8 i9 i10 (Int32.ofNat d) (Int32.ofNat e') i13 i14 i15 i16 i17 i18 j19 (j19 + (Int32.ofNat d).toInt64) j23 (j23 + (Int32.ofNat e').toInt64) j27 j29 j31 o33 o34 (0 : Int32)) [(.int (1 : Int32)), (.int (Int32.ofNat d))])) _
  refine XS.iadd X7.here hx rfl (hb hby at_325) rfl ?_
  show Steps p.tables e below (T7.setTop (mkF m 326 (lv17 j0 j2 j4 j6 i8 i9 i10 (Int32.ofNat d) (Int32.ofNat e') i13 i14 i15 i16 i17 i18 j19 (j19 + (Int32.ofNat d).toInt64) j23 (j23 + (Int32.ofNat e').toInt64) j27 j29 j31 o33 o34 (0 : Int32)) [(.int ((Int32.ofNat d) + (1 : Int32)))])) _
  refine XS.istore X7.here hx rfl (hb hby at_326) rfl (l' := (lv17 j0 j2 j4 j6 i8 i9 i10 (Int32.ofNat d) (Int32.ofNat e') i13 i14 i15 i16 i17 i18 j19 (j19 + (Int32.ofNat d).toInt64) j23 (j23 + (Int32.ofNat e').toInt64) j27 j29 j31 o33 o34 ((Int32.ofNat d) + (1 : Int32)))) rfl ?_
  rw [own_up1]
  exact kt
set_option maxRecDepth 65536 in
set_option maxHeartbeats 40000000 in
theorem qU1 {p : Program} {l : Launch} {e : Env} {s : State} {m : MethodId} {args : Array Value} {below : List Frame} {meth : Method} {c : Code} {T0 : State} {locs : List Loc} {Z : State} {a0 : Array Value} {h0 : Heap} (j0 : Int64) (j2 : Int64) (j4 : Int64) (j6 : Int64) (i8 : Int32) (i9 : Int32) (i10 : Int32) (d : Nat) (hd : d ≤ 3) (e' : Nat) (he' : e' ≤ 3) (i13 : Int32) (i14 : Int32) (i15 : Int32) (i16 : Int32) (i17 : Int32) (i18 : Int32) (j19 : Int64) (j23 : Int64) (j27 : Int64) (j29 : Int64) (j31 : Int64) (o33 : Addr) (o34 : Addr) (len : Nat) (hlen : len ≤ 16) (pf : Int32) (k : Nat) (hk : k < len) (nn : Int32) (t1 : Addr) (n0 : Nat)
    (X0 : Stand p l e room_1 s m args below meth c T0 locs 4 29) (hx : p.tables.exec = Jvm.exec) (hZ : Z.Warmed39 s.vm) (hw : ∀ d ∈ tables_1, d.before a0 Z = true) (hby : c.code = code) (hml : c.maxLocals = 43) (hown : s.vm.findClass "com/example/fairjoin/fairjoin/operator/DirectKeysSlotPinLaw" = some m.cls) (e0 : T0.heap = h0) (N0 : Fr n0 locs) (Z0 : n0 ≤ h0.size) (D0 : DK Z h0 o34 2 j19 (j19 + (Int32.ofNat d).toInt64) j23 (j23 + (Int32.ofNat e').toInt64) j19 ((Int32.ofNat (d + 1)).toInt64) j23 ((Int32.ofNat (e' + 1)).toInt64) (.ref t1) 0 .null) (A1 : OwA Z h0 t1 .int len (fun _ => .int 0)) (hn1 : t1 ≠ o34) (g1 : n0 ≤ t1) (hc377 : ¬ (pf = (0 : Int32))) :
    ∃ (T' : State) (h' : Heap) (locs' : List Loc), Stand p l e room_1 s m args below meth c T' locs' 4 29 ∧ T'.heap = h' ∧ Fr n0 locs' ∧ n0 ≤ h'.size ∧ DK Z h' o34 2 j19 (j19 + (Int32.ofNat d).toInt64) j23 (j23 + (Int32.ofNat e').toInt64) j19 ((Int32.ofNat (d + 1)).toInt64) j23 ((Int32.ofNat (e' + 1)).toInt64) (.ref t1) 0 .null ∧
      ∀ target, Steps p.tables e below (T'.setTop (mkF m 391 (lv22 j0 j2 j4 j6 i8 i9 i10 (Int32.ofNat d) (Int32.ofNat e') i13 i14 i15 i16 i17 i18 j19 (j19 + (Int32.ofNat d).toInt64) j23 (j23 + (Int32.ofNat e').toInt64) j27 j29 j31 o33 o34 (Int32.ofNat len) pf (Int32.ofNat k) nn) [])) target → Steps p.tables e below (T0.setTop (mkF m 375 (lv22 j0 j2 j4 j6 i8 i9 i10 (Int32.ofNat d) (Int32.ofNat e') i13 i14 i15 i16 i17 i18 j19 (j19 + (Int32.ofNat d).toInt64) j23 (j23 + (Int32.ofNat e').toInt64) j27 j29 j31 o33 o34 (Int32.ofNat len) pf (Int32.ofNat k) nn) [])) target := by
  obtain ⟨cq7, kq7, q7a, q7b, q7c⟩ := isOf hZ e0 D0.1
  obtain ⟨_, _, ⟨T7, L7, k7, n7⟩, -, X7, ⟨Lc7, hQ7, l7, y7, z7⟩, st7⟩ := X0.virtualBack hx (y := (⟨"com/example/fairjoin/fairjoin/operator/DirectKeys", "put", "(IIJ)V"⟩ : MethodName)) (z := (⟨"com/example/fairjoin/fairjoin/operator/DirectKeys", "put", "(IIJ)V"⟩ : MethodName)) hown (mvT hZ (hw _ (List.mem_of_getElem? (i := 89) rfl))) (mvT hZ (hw _ (List.mem_of_getElem? (i := 90) rfl))) (notFace_of_selects (args := #[]) (mvT hZ (hw _ (List.mem_of_getElem? (i := 92) rfl)))) (mvT hZ (hw _ (List.mem_of_getElem? (i := 92) rfl))) (mvT hZ (hw _ (List.mem_of_getElem? (i := 91) rfl))) (by decide) (backOf (W := 0) (rm14a l Z a0 hw [] o34 k nn j31 2 j19 (j19 + (Int32.ofNat d).toInt64) j23 (j23 + (Int32.ofNat e').toInt64) j19 ((Int32.ofNat (d + 1)).toInt64) j23 ((Int32.ofNat (e' + 1)).toInt64) t1 0 .null len h0 n0 Z0 hk hlen D0 A1 g1 (Ne.symm hn1) rfl) hZ (hw _ (List.mem_of_getElem? (i := 93) rfl)) (hw _ (List.mem_of_getElem? (i := 4) rfl)) (by decide) (by decide)) q7a q7c (g := (mkF m 388 (lv22 j0 j2 j4 j6 i8 i9 i10 (Int32.ofNat d) (Int32.ofNat e') i13 i14 i15 i16 i17 i18 j19 (j19 + (Int32.ofNat d).toInt64) j23 (j23 + (Int32.ofNat e').toInt64) j27 j29 j31 o33 o34 (Int32.ofNat len) pf (Int32.ofNat k) nn) [(.long j31), (.int nn), (.int (Int32.ofNat k)), (.ref o34)])) rfl (by rw [hml]; rfl) (Steps.refl _) (argsL := [(.int (Int32.ofNat k)), (.int nn), (.long j31)]) (rest := []) (lenOf pd_0_10 rfl) rfl (by show 2 * 0 + _ ≤ _; exact Nat.le_of_eq rfl) (hb hby at_388) (fun _ _ => ⟨rfl, e0, (by decide : 4 + 0 ≤ _), (by decide : 29 + 0 ≤ _)⟩)
  dsimp only [Pt.U, Pt.locs, Pt.cells, Pt.slots] at X7 l7 y7 z7 st7 hQ7
  subst l7 y7 z7
  obtain ⟨rfl, N7q, K7q, D7, A7⟩ := hQ7
  have N7 := Fr.app N0 N7q
  refine ⟨T7, _, _, X7, rfl, N7, Nat.le_trans Z0 K7q.1, D7, fun target kt => ?_⟩
  show Steps p.tables e below (T0.setTop (mkF m 375 (lv22 j0 j2 j4 j6 i8 i9 i10 (Int32.ofNat d) (Int32.ofNat e') i13 i14 i15 i16 i17 i18 j19 (j19 + (Int32.ofNat d).toInt64) j23 (j23 + (Int32.ofNat e').toInt64) j27 j29 j31 o33 o34 (Int32.ofNat len) pf (Int32.ofNat k) nn) [])) _
  refine XS.iload X0.here hx rfl (hb hby at_375) rfl ?_
  show Steps p.tables e below (T0.setTop (mkF m 377 (lv22 j0 j2 j4 j6 i8 i9 i10 (Int32.ofNat d) (Int32.ofNat e') i13 i14 i15 i16 i17 i18 j19 (j19 + (Int32.ofNat d).toInt64) j23 (j23 + (Int32.ofNat e').toInt64) j27 j29 j31 o33 o34 (Int32.ofNat len) pf (Int32.ofNat k) nn) [(.int pf)])) _
  refine XS.ifNo X0.here hx rfl (hb hby at_377) rfl ((if0 _ _).trans (feq hc377).1) ?_
  show Steps p.tables e below (T0.setTop (mkF m 380 (lv22 j0 j2 j4 j6 i8 i9 i10 (Int32.ofNat d) (Int32.ofNat e') i13 i14 i15 i16 i17 i18 j19 (j19 + (Int32.ofNat d).toInt64) j23 (j23 + (Int32.ofNat e').toInt64) j27 j29 j31 o33 o34 (Int32.ofNat len) pf (Int32.ofNat k) nn) [])) _
  refine XS.aload X0.here hx rfl (hb hby at_380) rfl rfl ?_
  show Steps p.tables e below (T0.setTop (mkF m 382 (lv22 j0 j2 j4 j6 i8 i9 i10 (Int32.ofNat d) (Int32.ofNat e') i13 i14 i15 i16 i17 i18 j19 (j19 + (Int32.ofNat d).toInt64) j23 (j23 + (Int32.ofNat e').toInt64) j27 j29 j31 o33 o34 (Int32.ofNat len) pf (Int32.ofNat k) nn) [(.ref o34)])) _
  refine XS.iload X0.here hx rfl (hb hby at_382) rfl ?_
  show Steps p.tables e below (T0.setTop (mkF m 384 (lv22 j0 j2 j4 j6 i8 i9 i10 (Int32.ofNat d) (Int32.ofNat e') i13 i14 i15 i16 i17 i18 j19 (j19 + (Int32.ofNat d).toInt64) j23 (j23 + (Int32.ofNat e').toInt64) j27 j29 j31 o33 o34 (Int32.ofNat len) pf (Int32.ofNat k) nn) [(.int (Int32.ofNat k)), (.ref o34)])) _
  refine XS.iload X0.here hx rfl (hb hby at_384) rfl ?_
  show Steps p.tables e below (T0.setTop (mkF m 386 (lv22 j0 j2 j4 j6 i8 i9 i10 (Int32.ofNat d) (Int32.ofNat e') i13 i14 i15 i16 i17 i18 j19 (j19 + (Int32.ofNat d).toInt64) j23 (j23 + (Int32.ofNat e').toInt64) j27 j29 j31 o33 o34 (Int32.ofNat len) pf (Int32.ofNat k) nn) [(.int nn), (.int (Int32.ofNat k)), (.ref o34)])) _
  refine XS.lload X0.here hx rfl (hb hby at_386) rfl ?_
  show Steps p.tables e below (T0.setTop (mkF m 388 (lv22 j0 j2 j4 j6 i8 i9 i10 (Int32.ofNat d) (Int32.ofNat e') i13 i14 i15 i16 i17 i18 j19 (j19 + (Int32.ofNat d).toInt64) j23 (j23 + (Int32.ofNat e').toInt64) j27 j29 j31 o33 o34 (Int32.ofNat len) pf (Int32.ofNat k) nn) [(.long j31), (.int nn), (.int (Int32.ofNat k)), (.ref o34)])) _
  refine st7.trans ?_
  exact kt
set_option maxRecDepth 65536 in
set_option maxHeartbeats 40000000 in
theorem qU2 {p : Program} {l : Launch} {e : Env} {s : State} {m : MethodId} {args : Array Value} {below : List Frame} {meth : Method} {c : Code} {T0 : State} {locs : List Loc} {Z : State} {a0 : Array Value} {h0 : Heap} (j0 : Int64) (j2 : Int64) (j4 : Int64) (j6 : Int64) (i8 : Int32) (i9 : Int32) (i10 : Int32) (d : Nat) (hd : d ≤ 3) (e' : Nat) (he' : e' ≤ 3) (i13 : Int32) (i14 : Int32) (i15 : Int32) (i16 : Int32) (i17 : Int32) (i18 : Int32) (j19 : Int64) (j23 : Int64) (j27 : Int64) (j29 : Int64) (j31 : Int64) (o33 : Addr) (o34 : Addr) (len : Nat) (hlen : len ≤ 16) (pf : Int32) (k : Nat) (hk : k < len) (nn : Int32) (t1 t2 : Addr) (n0 : Nat)
    (X0 : Stand p l e room_1 s m args below meth c T0 locs 6 22) (hx : p.tables.exec = Jvm.exec) (hZ : Z.Warmed39 s.vm) (hw : ∀ d ∈ tables_1, d.before a0 Z = true) (hby : c.code = code) (hml : c.maxLocals = 43) (hown : s.vm.findClass "com/example/fairjoin/fairjoin/operator/DirectKeysSlotPinLaw" = some m.cls) (e0 : T0.heap = h0) (N0 : Fr n0 locs) (Z0 : n0 ≤ h0.size) (D0 : DK Z h0 o34 2 j19 (j19 + (Int32.ofNat d).toInt64) j23 (j23 + (Int32.ofNat e').toInt64) j19 ((Int32.ofNat (d + 1)).toInt64) 0 1 (.ref t1) 1 (.ref t2)) (A1 : OwA Z h0 t1 .int len (fun _ => .int 0)) (A2 : OwA Z h0 t2 .long len (fun _ => .long 0)) (hn12 : t1 ≠ t2) (hn1 : t1 ≠ o34) (hn2 : t2 ≠ o34) (g1 : n0 ≤ t1) (g2 : n0 ≤ t2) (hc377 : ¬ (pf = (0 : Int32))) :
    ∃ (T' : State) (h' : Heap) (locs' : List Loc), Stand p l e room_1 s m args below meth c T' locs' 6 22 ∧ T'.heap = h' ∧ Fr n0 locs' ∧ n0 ≤ h'.size ∧ DK Z h' o34 2 j19 (j19 + (Int32.ofNat d).toInt64) j23 (j23 + (Int32.ofNat e').toInt64) j19 ((Int32.ofNat (d + 1)).toInt64) 0 1 (.ref t1) 1 (.ref t2) ∧ OwA Z h' t1 .int len (fun j => if j = k then .int (nn + (1 : Int32)) else .int 0) ∧ OwA Z h' t2 .long len (fun j => if j = k then .long j31 else .long 0) ∧
      ∀ target, Steps p.tables e below (T'.setTop (mkF m 391 (lv22 j0 j2 j4 j6 i8 i9 i10 (Int32.ofNat d) (Int32.ofNat e') i13 i14 i15 i16 i17 i18 j19 (j19 + (Int32.ofNat d).toInt64) j23 (j23 + (Int32.ofNat e').toInt64) j27 j29 j31 o33 o34 (Int32.ofNat len) pf (Int32.ofNat k) nn) [])) target → Steps p.tables e below (T0.setTop (mkF m 375 (lv22 j0 j2 j4 j6 i8 i9 i10 (Int32.ofNat d) (Int32.ofNat e') i13 i14 i15 i16 i17 i18 j19 (j19 + (Int32.ofNat d).toInt64) j23 (j23 + (Int32.ofNat e').toInt64) j27 j29 j31 o33 o34 (Int32.ofNat len) pf (Int32.ofNat k) nn) [])) target := by
  obtain ⟨cq7, kq7, q7a, q7b, q7c⟩ := isOf hZ e0 D0.1
  obtain ⟨_, _, ⟨T7, L7, k7, n7⟩, -, X7, ⟨Lc7, hQ7, l7, y7, z7⟩, st7⟩ := X0.virtualBack hx (y := (⟨"com/example/fairjoin/fairjoin/operator/DirectKeys", "put", "(IIJ)V"⟩ : MethodName)) (z := (⟨"com/example/fairjoin/fairjoin/operator/DirectKeys", "put", "(IIJ)V"⟩ : MethodName)) hown (mvT hZ (hw _ (List.mem_of_getElem? (i := 89) rfl))) (mvT hZ (hw _ (List.mem_of_getElem? (i := 90) rfl))) (notFace_of_selects (args := #[]) (mvT hZ (hw _ (List.mem_of_getElem? (i := 92) rfl)))) (mvT hZ (hw _ (List.mem_of_getElem? (i := 92) rfl))) (mvT hZ (hw _ (List.mem_of_getElem? (i := 91) rfl))) (by decide) (backOf (W := 0) (rm14b l Z a0 hw [] o34 k nn j31 2 j19 (j19 + (Int32.ofNat d).toInt64) j23 (j23 + (Int32.ofNat e').toInt64) j19 ((Int32.ofNat (d + 1)).toInt64) 0 1 t1 1 .null len t2 h0 n0 Z0 hk hlen D0 A1 g1 (Ne.symm hn1) A2 g2 (Ne.symm hn2) hn12 (by decide)) hZ (hw _ (List.mem_of_getElem? (i := 93) rfl)) (hw _ (List.mem_of_getElem? (i := 4) rfl)) (by decide) (by decide)) q7a q7c (g := (mkF m 388 (lv22 j0 j2 j4 j6 i8 i9 i10 (Int32.ofNat d) (Int32.ofNat e') i13 i14 i15 i16 i17 i18 j19 (j19 + (Int32.ofNat d).toInt64) j23 (j23 + (Int32.ofNat e').toInt64) j27 j29 j31 o33 o34 (Int32.ofNat len) pf (Int32.ofNat k) nn) [(.long j31), (.int nn), (.int (Int32.ofNat k)), (.ref o34)])) rfl (by rw [hml]; rfl) (Steps.refl _) (argsL := [(.int (Int32.ofNat k)), (.int nn), (.long j31)]) (rest := []) (lenOf pd_0_10 rfl) rfl (by show 2 * 0 + _ ≤ _; exact Nat.le_of_eq rfl) (hb hby at_388) (fun _ _ => ⟨rfl, e0, (by decide : 6 + 0 ≤ _), (by decide : 22 + 0 ≤ _)⟩)
  dsimp only [Pt.U, Pt.locs, Pt.cells, Pt.slots] at X7 l7 y7 z7 st7 hQ7
  subst l7 y7 z7
  obtain ⟨rfl, N7q, K7q, D7, A7, B7⟩ := hQ7
  have N7 := Fr.app N0 N7q
  refine ⟨T7, _, _, X7, rfl, N7, Nat.le_trans Z0 K7q.1, D7, A7, B7, fun target kt => ?_⟩
  show Steps p.tables e below (T0.setTop (mkF m 375 (lv22 j0 j2 j4 j6 i8 i9 i10 (Int32.ofNat d) (Int32.ofNat e') i13 i14 i15 i16 i17 i18 j19 (j19 + (Int32.ofNat d).toInt64) j23 (j23 + (Int32.ofNat e').toInt64) j27 j29 j31 o33 o34 (Int32.ofNat len) pf (Int32.ofNat k) nn) [])) _
  refine XS.iload X0.here hx rfl (hb hby at_375) rfl ?_
  show Steps p.tables e below (T0.setTop (mkF m 377 (lv22 j0 j2 j4 j6 i8 i9 i10 (Int32.ofNat d) (Int32.ofNat e') i13 i14 i15 i16 i17 i18 j19 (j19 + (Int32.ofNat d).toInt64) j23 (j23 + (Int32.ofNat e').toInt64) j27 j29 j31 o33 o34 (Int32.ofNat len) pf (Int32.ofNat k) nn) [(.int pf)])) _
  refine XS.ifNo X0.here hx rfl (hb hby at_377) rfl ((if0 _ _).trans (feq hc377).1) ?_
  show Steps p.tables e below (T0.setTop (mkF m 380 (lv22 j0 j2 j4 j6 i8 i9 i10 (Int32.ofNat d) (Int32.ofNat e') i13 i14 i15 i16 i17 i18 j19 (j19 + (Int32.ofNat d).toInt64) j23 (j23 + (Int32.ofNat e').toInt64) j27 j29 j31 o33 o34 (Int32.ofNat len) pf (Int32.ofNat k) nn) [])) _
  refine XS.aload X0.here hx rfl (hb hby at_380) rfl rfl ?_
  show Steps p.tables e below (T0.setTop (mkF m 382 (lv22 j0 j2 j4 j6 i8 i9 i10 (Int32.ofNat d) (Int32.ofNat e') i13 i14 i15 i16 i17 i18 j19 (j19 + (Int32.ofNat d).toInt64) j23 (j23 + (Int32.ofNat e').toInt64) j27 j29 j31 o33 o34 (Int32.ofNat len) pf (Int32.ofNat k) nn) [(.ref o34)])) _
  refine XS.iload X0.here hx rfl (hb hby at_382) rfl ?_
  show Steps p.tables e below (T0.setTop (mkF m 384 (lv22 j0 j2 j4 j6 i8 i9 i10 (Int32.ofNat d) (Int32.ofNat e') i13 i14 i15 i16 i17 i18 j19 (j19 + (Int32.ofNat d).toInt64) j23 (j23 + (Int32.ofNat e').toInt64) j27 j29 j31 o33 o34 (Int32.ofNat len) pf (Int32.ofNat k) nn) [(.int (Int32.ofNat k)), (.ref o34)])) _
  refine XS.iload X0.here hx rfl (hb hby at_384) rfl ?_
  show Steps p.tables e below (T0.setTop (mkF m 386 (lv22 j0 j2 j4 j6 i8 i9 i10 (Int32.ofNat d) (Int32.ofNat e') i13 i14 i15 i16 i17 i18 j19 (j19 + (Int32.ofNat d).toInt64) j23 (j23 + (Int32.ofNat e').toInt64) j27 j29 j31 o33 o34 (Int32.ofNat len) pf (Int32.ofNat k) nn) [(.int nn), (.int (Int32.ofNat k)), (.ref o34)])) _
  refine XS.lload X0.here hx rfl (hb hby at_386) rfl ?_
  show Steps p.tables e below (T0.setTop (mkF m 388 (lv22 j0 j2 j4 j6 i8 i9 i10 (Int32.ofNat d) (Int32.ofNat e') i13 i14 i15 i16 i17 i18 j19 (j19 + (Int32.ofNat d).toInt64) j23 (j23 + (Int32.ofNat e').toInt64) j27 j29 j31 o33 o34 (Int32.ofNat len) pf (Int32.ofNat k) nn) [(.long j31), (.int nn), (.int (Int32.ofNat k)), (.ref o34)])) _
  refine st7.trans ?_
  exact kt
set_option maxRecDepth 65536 in
set_option maxHeartbeats 40000000 in
theorem case0 {p : Program} {l : Launch} {e : Env} {s : State} {m : MethodId} {args : Array Value} {below : List Frame} {meth : Method} {c : Code} {T0 : State} {locs : List Loc} {Z : State} {a0 : Array Value} {h0 : Heap} (j0 : Int64) (j2 : Int64) (j4 : Int64) (j6 : Int64) (i8 : Int32) (i9 : Int32) (i10 : Int32) (d : Nat) (hd : d ≤ 3) (e' : Nat) (he' : e' ≤ 3) (i13 : Int32) (i14 : Int32) (i15 : Int32) (i16 : Int32) (i17 : Int32) (i18 : Int32) (j19 : Int64) (j23 : Int64) (j27 : Int64) (j29 : Int64) (j31 : Int64) (o33 : Addr) (o34 : Addr) (t10 : Addr) (n0 : Nat)
    (X0 : Stand p l e room_1 s m args below meth c T0 locs 3 13) (hx : p.tables.exec = Jvm.exec) (hZ : Z.Warmed39 s.vm) (hw : ∀ d ∈ tables_1, d.before a0 Z = true) (hby : c.code = code) (hml : c.maxLocals = 43) (hown : s.vm.findClass "com/example/fairjoin/fairjoin/operator/DirectKeysSlotPinLaw" = some m.cls) (e0 : T0.heap = h0) (N0 : Fr n0 locs) (Z0 : n0 ≤ h0.size) (D0 : DK Z h0 o34 2 j19 (j19 + (Int32.ofNat d).toInt64) j23 (j23 + (Int32.ofNat e').toInt64) 0 0 0 1 (.ref t10) 0 .null) (hm : i10 = (0 : Int32)) :
    ∃ (T' : State) (Ls : Array Slot) (locs' : List Loc), Stand p l e room_1 s m args below meth c T' locs' 3 13 ∧ Fr n0 locs' ∧
      ∀ target, Steps p.tables e below (T'.setTop (mkF m 556 Ls [])) target → Steps p.tables e below (T0.setTop (mkF m 328 (lv17 j0 j2 j4 j6 i8 i9 i10 (Int32.ofNat d) (Int32.ofNat e') i13 i14 i15 i16 i17 i18 j19 (j19 + (Int32.ofNat d).toInt64) j23 (j23 + (Int32.ofNat e').toInt64) j27 j29 j31 o33 o34 (Int32.ofNat 0)) [])) target := by
  obtain ⟨T1, pf, k, nn, hpf, hk, hnn, X1, e1, st1⟩ := qP j0 j2 j4 j6 i8 i9 i10 d hd e' he' i13 i14 i15 i16 i17 i18 j19 j23 j27 j29 j31 o33 o34 0 (by decide) X0 hx hZ hw hby hml hown e0
  have pf0 : pf = (0 : Int32) := Classical.byContradiction fun q => absurd (hpf q) (by decide)
  obtain ⟨T2, X2, e2, st2⟩ := sUa j0 j2 j4 j6 i8 i9 i10 (Int32.ofNat d) (Int32.ofNat e') i13 i14 i15 i16 i17 i18 j19 (j19 + (Int32.ofNat d).toInt64) j23 (j23 + (Int32.ofNat e').toInt64) j27 j29 j31 o33 o34 (Int32.ofNat 0) pf (Int32.ofNat k) nn X1 hx hZ hw hby hml hown e1 pf0
  obtain ⟨T3, vF, vS, hF, hS, X3, e3, st3⟩ := qS j0 j2 j4 j6 i8 i9 i10 d hd e' he' i13 i14 i15 i16 i17 i18 j19 j23 j27 j29 j31 o33 o34 0 pf k nn X2 hx hZ hw hby hml hown e2
  obtain ⟨T4, X4, e4, st4⟩ := sE0 j0 j2 j4 j6 i8 i9 i10 (Int32.ofNat d) (Int32.ofNat e') i13 i14 i15 i16 i17 i18 j19 (j19 + (Int32.ofNat d).toInt64) j23 (j23 + (Int32.ofNat e').toInt64) j27 j29 j31 o33 o34 (Int32.ofNat 0) pf (Int32.ofNat k) nn vF vS X3 hx hZ hw hby hml hown e3 hm
  obtain ⟨T5, Ls, L5, X5, N5, st5⟩ := qZ j0 j2 j4 j6 i8 i9 i10 (Int32.ofNat d) (Int32.ofNat e') i13 i14 i15 i16 i17 i18 j19 (j19 + (Int32.ofNat d).toInt64) j23 (j23 + (Int32.ofNat e').toInt64) j27 j29 j31 o33 o34 (Int32.ofNat 0) pf (Int32.ofNat k) nn vF vS (-1 : Int32) .unset n0 (own_slotD 0 0 0 1 j27 j29) X4 hx hZ hw hby hml hown e4 N0 (by decide) (by decide) D0.1 (rm12 l Z a0 hw [] o34 j27 j29 2 j19 (j19 + (Int32.ofNat d).toInt64) j23 (j23 + (Int32.ofNat e').toInt64) 0 0 0 1 (.ref t10) 0 .null h0 n0 Z0 D0 rfl) (own_zero _ _ _ _ _)
  exact ⟨T5, Ls, L5, X5, N5, fun target h => st1 target (st2 target (st3 target (st4 target (st5 target h))))⟩
set_option maxRecDepth 65536 in
set_option maxHeartbeats 40000000 in
theorem case1 {p : Program} {l : Launch} {e : Env} {s : State} {m : MethodId} {args : Array Value} {below : List Frame} {meth : Method} {c : Code} {T0 : State} {locs : List Loc} {Z : State} {a0 : Array Value} {h0 : Heap} (j0 : Int64) (j2 : Int64) (j4 : Int64) (j6 : Int64) (i8 : Int32) (i9 : Int32) (i10 : Int32) (d : Nat) (hd : d ≤ 3) (e' : Nat) (he' : e' ≤ 3) (i13 : Int32) (i14 : Int32) (i15 : Int32) (i16 : Int32) (i17 : Int32) (i18 : Int32) (j19 : Int64) (j23 : Int64) (j27 : Int64) (j29 : Int64) (j31 : Int64) (o33 : Addr) (o34 : Addr) (w1 : j19.toInt + (d : Int) ≤ 9223372036854775807) (w2 : j23.toInt + (e' : Int) ≤ 9223372036854775807) (t1 : Addr) (n0 : Nat)
    (X0 : Stand p l e room_1 s m args below meth c T0 locs 4 29) (hx : p.tables.exec = Jvm.exec) (hZ : Z.Warmed39 s.vm) (hw : ∀ d ∈ tables_1, d.before a0 Z = true) (hby : c.code = code) (hml : c.maxLocals = 43) (hown : s.vm.findClass "com/example/fairjoin/fairjoin/operator/DirectKeysSlotPinLaw" = some m.cls) (e0 : T0.heap = h0) (N0 : Fr n0 locs) (Z0 : n0 ≤ h0.size) (D0 : DK Z h0 o34 2 j19 (j19 + (Int32.ofNat d).toInt64) j23 (j23 + (Int32.ofNat e').toInt64) j19 ((Int32.ofNat (d + 1)).toInt64) j23 ((Int32.ofNat (e' + 1)).toInt64) (.ref t1) 0 .null) (A1 : OwA Z h0 t1 .int ((d + 1) * (e' + 1)) (fun _ => .int 0)) (hn1 : t1 ≠ o34) (g1 : n0 ≤ t1) (hm : i10 = (1 : Int32)) :
    ∃ (T' : State) (Ls : Array Slot) (locs' : List Loc), Stand p l e room_1 s m args below meth c T' locs' 4 29 ∧ Fr n0 locs' ∧
      ∀ target, Steps p.tables e below (T'.setTop (mkF m 556 Ls [])) target → Steps p.tables e below (T0.setTop (mkF m 328 (lv17 j0 j2 j4 j6 i8 i9 i10 (Int32.ofNat d) (Int32.ofNat e') i13 i14 i15 i16 i17 i18 j19 (j19 + (Int32.ofNat d).toInt64) j23 (j23 + (Int32.ofNat e').toInt64) j27 j29 j31 o33 o34 (Int32.ofNat ((d + 1) * (e' + 1)))) [])) target := by
  have hl := own_l16 d e' hd he'
  have hl0 : 0 < ((d + 1) * (e' + 1)) := Nat.mul_pos (by omega) (by omega)
  obtain ⟨T1, pf, k, nn, hpf, hk, hnn, X1, e1, st1⟩ := qP j0 j2 j4 j6 i8 i9 i10 d hd e' he' i13 i14 i15 i16 i17 i18 j19 j23 j27 j29 j31 o33 o34 ((d + 1) * (e' + 1)) hl X0 hx hZ hw hby hml hown e0
  have hm0 : ¬ (i10 = (0 : Int32)) := by rw [hm]; decide
  have s2 : ∃ (T' : State) (h' : Heap) (locs' : List Loc), Stand p l e room_1 s m args below meth c T' locs' 4 29 ∧ T'.heap = h' ∧ Fr n0 locs' ∧ n0 ≤ h'.size ∧ DK Z h' o34 2 j19 (j19 + (Int32.ofNat d).toInt64) j23 (j23 + (Int32.ofNat e').toInt64) j19 ((Int32.ofNat (d + 1)).toInt64) j23 ((Int32.ofNat (e' + 1)).toInt64) (.ref t1) 0 .null ∧
      ∀ target, Steps p.tables e below (T'.setTop (mkF m 391 (lv22 j0 j2 j4 j6 i8 i9 i10 (Int32.ofNat d) (Int32.ofNat e') i13 i14 i15 i16 i17 i18 j19 (j19 + (Int32.ofNat d).toInt64) j23 (j23 + (Int32.ofNat e').toInt64) j27 j29 j31 o33 o34 (Int32.ofNat ((d + 1) * (e' + 1))) pf (Int32.ofNat k) nn) [])) target → Steps p.tables e below (T1.setTop (mkF m 375 (lv22 j0 j2 j4 j6 i8 i9 i10 (Int32.ofNat d) (Int32.ofNat e') i13 i14 i15 i16 i17 i18 j19 (j19 + (Int32.ofNat d).toInt64) j23 (j23 + (Int32.ofNat e').toInt64) j27 j29 j31 o33 o34 (Int32.ofNat ((d + 1) * (e' + 1))) pf (Int32.ofNat k) nn) [])) target := by
    by_cases c1 : pf = (0 : Int32)
    · obtain ⟨T2, X2, e2, st2⟩ := sUa j0 j2 j4 j6 i8 i9 i10 (Int32.ofNat d) (Int32.ofNat e') i13 i14 i15 i16 i17 i18 j19 (j19 + (Int32.ofNat d).toInt64) j23 (j23 + (Int32.ofNat e').toInt64) j27 j29 j31 o33 o34 (Int32.ofNat ((d + 1) * (e' + 1))) pf (Int32.ofNat k) nn X1 hx hZ hw hby hml hown e1 c1
      exact ⟨T2, _, _, X2, e2, N0, Z0, D0, st2⟩
    · exact qU1 j0 j2 j4 j6 i8 i9 i10 d hd e' he' i13 i14 i15 i16 i17 i18 j19 j23 j27 j29 j31 o33 o34 ((d + 1) * (e' + 1)) hl pf k (hk hl0) nn t1 n0 X1 hx hZ hw hby hml hown e1 N0 Z0 D0 A1 hn1 g1 c1
  obtain ⟨T2, h2, L2, X2, e2, N2, Z2, D2, st2⟩ := s2
  obtain ⟨T3, vF, vS, hF, hS, X3, e3, st3⟩ := qS j0 j2 j4 j6 i8 i9 i10 d hd e' he' i13 i14 i15 i16 i17 i18 j19 j23 j27 j29 j31 o33 o34 ((d + 1) * (e' + 1)) pf k nn X2 hx hZ hw hby hml hown e2
  have s4 : ∃ (T4 : State) (ex : Int32), Stand p l e room_1 s m args below meth c T4 L2 4 29 ∧ T4.heap = h2 ∧ own_slotD j19 ((Int32.ofNat (d + 1)).toInt64) j23 ((Int32.ofNat (e' + 1)).toInt64) j27 j29 = ex ∧
      ∀ target, Steps p.tables e below (T4.setTop (mkF m 542 (lv25 j0 j2 j4 j6 i8 i9 i10 (Int32.ofNat d) (Int32.ofNat e') i13 i14 i15 i16 i17 i18 j19 (j19 + (Int32.ofNat d).toInt64) j23 (j23 + (Int32.ofNat e').toInt64) j27 j29 j31 o33 o34 (Int32.ofNat ((d + 1) * (e' + 1))) pf (Int32.ofNat k) nn vF vS ex) [])) target → Steps p.tables e below (T3.setTop (mkF m 437 (lv24 j0 j2 j4 j6 i8 i9 i10 (Int32.ofNat d) (Int32.ofNat e') i13 i14 i15 i16 i17 i18 j19 (j19 + (Int32.ofNat d).toInt64) j23 (j23 + (Int32.ofNat e').toInt64) j27 j29 j31 o33 o34 (Int32.ofNat ((d + 1) * (e' + 1))) pf (Int32.ofNat k) nn vF vS) [])) target := by
    by_cases c1 : vF = (0 : Int32)
    · obtain ⟨T4, X4, e4, st4⟩ := sE1a j0 j2 j4 j6 i8 i9 i10 (Int32.ofNat d) (Int32.ofNat e') i13 i14 i15 i16 i17 i18 j19 (j19 + (Int32.ofNat d).toInt64) j23 (j23 + (Int32.ofNat e').toInt64) j27 j29 j31 o33 o34 (Int32.ofNat ((d + 1) * (e' + 1))) pf (Int32.ofNat k) nn vF vS X3 hx hZ hw hby hml hown e3 hm0 hm c1
      exact ⟨T4, _, X4, e4, own_Dno _ _ _ _ d e' hd he' w1 w2 (fun q => (hF.mpr q.1) c1), st4⟩
    · by_cases c2 : vS = (0 : Int32)
      · obtain ⟨T4, X4, e4, st4⟩ := sE1b j0 j2 j4 j6 i8 i9 i10 (Int32.ofNat d) (Int32.ofNat e') i13 i14 i15 i16 i17 i18 j19 (j19 + (Int32.ofNat d).toInt64) j23 (j23 + (Int32.ofNat e').toInt64) j27 j29 j31 o33 o34 (Int32.ofNat ((d + 1) * (e' + 1))) pf (Int32.ofNat k) nn vF vS X3 hx hZ hw hby hml hown e3 hm0 hm c1 c2
        exact ⟨T4, _, X4, e4, own_Dno _ _ _ _ d e' hd he' w1 w2 (fun q => (hS.mpr q.2) c2), st4⟩
      · obtain ⟨T4, X4, e4, st4⟩ := sE1c j0 j2 j4 j6 i8 i9 i10 (Int32.ofNat d) (Int32.ofNat e') i13 i14 i15 i16 i17 i18 j19 (j19 + (Int32.ofNat d).toInt64) j23 (j23 + (Int32.ofNat e').toInt64) j27 j29 j31 o33 o34 (Int32.ofNat ((d + 1) * (e' + 1))) pf (Int32.ofNat k) nn vF vS X3 hx hZ hw hby hml hown e3 hm0 hm c1 c2
        exact ⟨T4, _, X4, e4, own_Dyes _ _ _ _ d e' hd he' w1 w2 (hF.mp c1) (hS.mp c2), st4⟩
  obtain ⟨T4, ex, X4, e4, hex, st4⟩ := s4
  obtain ⟨T5, Ls, L5, X5, N5, st5⟩ := qZ j0 j2 j4 j6 i8 i9 i10 (Int32.ofNat d) (Int32.ofNat e') i13 i14 i15 i16 i17 i18 j19 (j19 + (Int32.ofNat d).toInt64) j23 (j23 + (Int32.ofNat e').toInt64) j27 j29 j31 o33 o34 (Int32.ofNat ((d + 1) * (e' + 1))) pf (Int32.ofNat k) nn vF vS ex .unset n0 (own_slotD j19 ((Int32.ofNat (d + 1)).toInt64) j23 ((Int32.ofNat (e' + 1)).toInt64) j27 j29) X4 hx hZ hw hby hml hown e4 N2 (by decide) (by decide) D2.1 (rm12 l Z a0 hw [] o34 j27 j29 2 j19 (j19 + (Int32.ofNat d).toInt64) j23 (j23 + (Int32.ofNat e').toInt64) j19 ((Int32.ofNat (d + 1)).toInt64) j23 ((Int32.ofNat (e' + 1)).toInt64) (.ref t1) 0 .null h2 n0 Z2 D2 rfl) hex
  exact ⟨T5, Ls, L5, X5, N5, fun target h => st1 target (st2 target (st3 target (st4 target (st5 target h))))⟩
set_option maxRecDepth 65536 in
set_option maxHeartbeats 40000000 in
theorem case2 {p : Program} {l : Launch} {e : Env} {s : State} {m : MethodId} {args : Array Value} {below : List Frame} {meth : Method} {c : Code} {T0 : State} {locs : List Loc} {Z : State} {a0 : Array Value} {h0 : Heap} (j0 : Int64) (j2 : Int64) (j4 : Int64) (j6 : Int64) (i8 : Int32) (i9 : Int32) (i10 : Int32) (d : Nat) (hd : d ≤ 3) (e' : Nat) (he' : e' ≤ 3) (i13 : Int32) (i14 : Int32) (i15 : Int32) (i16 : Int32) (i17 : Int32) (i18 : Int32) (j19 : Int64) (j23 : Int64) (j27 : Int64) (j29 : Int64) (j31 : Int64) (o33 : Addr) (o34 : Addr) (w1 : j19.toInt + (d : Int) ≤ 9223372036854775807) (w2 : j23.toInt + (e' : Int) ≤ 9223372036854775807) (t1 t2 : Addr) (n0 : Nat)
    (X0 : Stand p l e room_1 s m args below meth c T0 locs 6 22) (hx : p.tables.exec = Jvm.exec) (hZ : Z.Warmed39 s.vm) (hw : ∀ d ∈ tables_1, d.before a0 Z = true) (hby : c.code = code) (hml : c.maxLocals = 43) (hown : s.vm.findClass "com/example/fairjoin/fairjoin/operator/DirectKeysSlotPinLaw" = some m.cls) (e0 : T0.heap = h0) (N0 : Fr n0 locs) (Z0 : n0 ≤ h0.size) (D0 : DK Z h0 o34 2 j19 (j19 + (Int32.ofNat d).toInt64) j23 (j23 + (Int32.ofNat e').toInt64) j19 ((Int32.ofNat (d + 1)).toInt64) 0 1 (.ref t1) 1 (.ref t2)) (A1 : OwA Z h0 t1 .int (d + 1) (fun _ => .int 0)) (A2 : OwA Z h0 t2 .long (d + 1) (fun _ => .long 0)) (hn12 : t1 ≠ t2) (hn1 : t1 ≠ o34) (hn2 : t2 ≠ o34) (g1 : n0 ≤ t1) (g2 : n0 ≤ t2) (hm0 : ¬ (i10 = (0 : Int32))) (hm1 : ¬ (i10 = (1 : Int32))) :
    ∃ (T' : State) (Ls : Array Slot) (locs' : List Loc), Stand p l e room_1 s m args below meth c T' locs' 6 22 ∧ Fr n0 locs' ∧
      ∀ target, Steps p.tables e below (T'.setTop (mkF m 556 Ls [])) target → Steps p.tables e below (T0.setTop (mkF m 328 (lv17 j0 j2 j4 j6 i8 i9 i10 (Int32.ofNat d) (Int32.ofNat e') i13 i14 i15 i16 i17 i18 j19 (j19 + (Int32.ofNat d).toInt64) j23 (j23 + (Int32.ofNat e').toInt64) j27 j29 j31 o33 o34 (Int32.ofNat (d + 1))) [])) target := by
  have hl : (d + 1) ≤ 16 := by omega
  have hl0 : 0 < (d + 1) := by omega
  obtain ⟨T1, pf, k, nn, hpf, hk, hnn, X1, e1, st1⟩ := qP j0 j2 j4 j6 i8 i9 i10 d hd e' he' i13 i14 i15 i16 i17 i18 j19 j23 j27 j29 j31 o33 o34 (d + 1) hl X0 hx hZ hw hby hml hown e0
  have s2 : ∃ (T' : State) (h' : Heap) (locs' : List Loc), Stand p l e room_1 s m args below meth c T' locs' 6 22 ∧ T'.heap = h' ∧ Fr n0 locs' ∧ n0 ≤ h'.size ∧ DK Z h' o34 2 j19 (j19 + (Int32.ofNat d).toInt64) j23 (j23 + (Int32.ofNat e').toInt64) j19 ((Int32.ofNat (d + 1)).toInt64) 0 1 (.ref t1) 1 (.ref t2) ∧ OwA Z h' t1 .int (d + 1) (fun j => .int ((fun j => if pf = (0 : Int32) then (0 : Int32) else if j = k then (nn + (1 : Int32)) else (0 : Int32)) j)) ∧ OwA Z h' t2 .long (d + 1) (fun j => .long ((fun j => if pf = (0 : Int32) then (0 : Int64) else if j = k then j31 else (0 : Int64)) j)) ∧
      ∀ target, Steps p.tables e below (T'.setTop (mkF m 391 (lv22 j0 j2 j4 j6 i8 i9 i10 (Int32.ofNat d) (Int32.ofNat e') i13 i14 i15 i16 i17 i18 j19 (j19 + (Int32.ofNat d).toInt64) j23 (j23 + (Int32.ofNat e').toInt64) j27 j29 j31 o33 o34 (Int32.ofNat (d + 1)) pf (Int32.ofNat k) nn) [])) target → Steps p.tables e below (T1.setTop (mkF m 375 (lv22 j0 j2 j4 j6 i8 i9 i10 (Int32.ofNat d) (Int32.ofNat e') i13 i14 i15 i16 i17 i18 j19 (j19 + (Int32.ofNat d).toInt64) j23 (j23 + (Int32.ofNat e').toInt64) j27 j29 j31 o33 o34 (Int32.ofNat (d + 1)) pf (Int32.ofNat k) nn) [])) target := by
    by_cases c1 : pf = (0 : Int32)
    · obtain ⟨T2, X2, e2, st2⟩ := sUa j0 j2 j4 j6 i8 i9 i10 (Int32.ofNat d) (Int32.ofNat e') i13 i14 i15 i16 i17 i18 j19 (j19 + (Int32.ofNat d).toInt64) j23 (j23 + (Int32.ofNat e').toInt64) j27 j29 j31 o33 o34 (Int32.ofNat (d + 1)) pf (Int32.ofNat k) nn X1 hx hZ hw hby hml hown e1 c1
      exact ⟨T2, _, _, X2, e2, N0, Z0, D0, owa_congr A1 (fun j hj => by simp only [c1, if_true]), owa_congr A2 (fun j hj => by simp only [c1, if_true]), st2⟩
    · obtain ⟨T2, h2, L2, X2, e2, N2, Z2, D2, B1, B2, st2⟩ := qU2 j0 j2 j4 j6 i8 i9 i10 d hd e' he' i13 i14 i15 i16 i17 i18 j19 j23 j27 j29 j31 o33 o34 (d + 1) hl pf k (hk hl0) nn t1 t2 n0 X1 hx hZ hw hby hml hown e1 N0 Z0 D0 A1 A2 hn12 hn1 hn2 g1 g2 c1
      refine ⟨T2, h2, L2, X2, e2, N2, Z2, D2, owa_congr B1 (fun j hj => ?_), owa_congr B2 (fun j hj => ?_), st2⟩
      · simp only [c1, if_false]
        by_cases q : j = k
        · rw [if_pos q, if_pos q]
        · rw [if_neg q, if_neg q]
      · simp only [c1, if_false]
        by_cases q : j = k
        · rw [if_pos q, if_pos q]
        · rw [if_neg q, if_neg q]
  obtain ⟨T2, h2, L2, X2, e2, N2, Z2, D2, B1, B2, st2⟩ := s2
  obtain ⟨T3, vF, vS, hF, hS, X3, e3, st3⟩ := qS j0 j2 j4 j6 i8 i9 i10 d hd e' he' i13 i14 i15 i16 i17 i18 j19 j23 j27 j29 j31 o33 o34 (d + 1) pf k nn X2 hx hZ hw hby hml hown e2
  by_cases c1 : vF = (0 : Int32)
  · obtain ⟨T4, X4, e4, st4⟩ := sE2a j0 j2 j4 j6 i8 i9 i10 (Int32.ofNat d) (Int32.ofNat e') i13 i14 i15 i16 i17 i18 j19 (j19 + (Int32.ofNat d).toInt64) j23 (j23 + (Int32.ofNat e').toInt64) j27 j29 j31 o33 o34 (Int32.ofNat (d + 1)) pf (Int32.ofNat k) nn vF vS X3 hx hZ hw hby hml hown e3 hm0 hm1 c1
    have ho := own_outside j19 j27 d hd w1 (fun q => (hF.mpr q) c1)
    obtain ⟨T5, Ls, L5, X5, N5, st5⟩ := qZ j0 j2 j4 j6 i8 i9 i10 (Int32.ofNat d) (Int32.ofNat e') i13 i14 i15 i16 i17 i18 j19 (j19 + (Int32.ofNat d).toInt64) j23 (j23 + (Int32.ofNat e').toInt64) j27 j29 j31 o33 o34 (Int32.ofNat (d + 1)) pf (Int32.ofNat k) nn vF vS (-1 : Int32) .unset n0 (-1 : Int32) X4 hx hZ hw hby hml hown e4 N2 (by decide) (by decide) D2.1 (rm12n l Z a0 hw [] o34 j27 j29 2 j19 (j19 + (Int32.ofNat d).toInt64) j23 (j23 + (Int32.ofNat e').toInt64) j19 ((Int32.ofNat (d + 1)).toInt64) 0 1 (.ref t1) 1 (.ref t2) h2 n0 Z2 D2 (by decide) ho) rfl
    exact ⟨T5, Ls, L5, X5, N5, fun target h => st1 target (st2 target (st3 target (st4 target (st5 target h))))⟩
  · obtain ⟨i, hi, ei, a1, a2⟩ := own_inside j19 j27 d hd w1 (hF.mp c1).1 (hF.mp c1).2
    have eat : (j27 - j19).toInt32 = Int32.ofNat i := by rw [ei]; exact Int32.toInt32_toInt64 _
    have M := rm12x l Z a0 hw [] o34 j27 j29 2 j19 (j19 + (Int32.ofNat d).toInt64) j23 (j23 + (Int32.ofNat e').toInt64) j19 ((Int32.ofNat (d + 1)).toInt64) 0 1 t1 1 t2 (d + 1) i (fun j => if pf = (0 : Int32) then (0 : Int32) else if j = k then (nn + (1 : Int32)) else (0 : Int32)) (fun j => if pf = (0 : Int32) then (0 : Int64) else if j = k then j31 else (0 : Int64)) h2 n0 Z2 D2 (by decide) (by omega) hl B1 B2 a1 a2 eat
    have s4 : ∃ (T4 : State) (ex : Int32), Stand p l e room_1 s m args below meth c T4 L2 6 22 ∧ T4.heap = h2 ∧ (if (fun j => if pf = (0 : Int32) then (0 : Int32) else if j = k then (nn + (1 : Int32)) else (0 : Int32)) i = (0 : Int32) then Int32.ofNat i else if (fun j => if pf = (0 : Int32) then (0 : Int64) else if j = k then j31 else (0 : Int64)) i = j29 then Int32.ofNat i else (-1 : Int32)) = ex ∧
        ∀ target, Steps p.tables e below (T4.setTop (mkF m 542 (lv26 j0 j2 j4 j6 i8 i9 i10 (Int32.ofNat d) (Int32.ofNat e') i13 i14 i15 i16 i17 i18 j19 (j19 + (Int32.ofNat d).toInt64) j23 (j23 + (Int32.ofNat e').toInt64) j27 j29 j31 o33 o34 (Int32.ofNat (d + 1)) pf (Int32.ofNat k) nn vF vS ex (Int32.ofNat i)) [])) target → Steps p.tables e below (T3.setTop (mkF m 437 (lv24 j0 j2 j4 j6 i8 i9 i10 (Int32.ofNat d) (Int32.ofNat e') i13 i14 i15 i16 i17 i18 j19 (j19 + (Int32.ofNat d).toInt64) j23 (j23 + (Int32.ofNat e').toInt64) j27 j29 j31 o33 o34 (Int32.ofNat (d + 1)) pf (Int32.ofNat k) nn vF vS) [])) target := by
      by_cases c3 : pf = (0 : Int32)
      · obtain ⟨T4, X4, e4, st4⟩ := sE2b j0 j2 j4 j6 i8 i9 i10 (Int32.ofNat d) (Int32.ofNat e') i13 i14 i15 i16 i17 i18 j19 (j19 + (Int32.ofNat d).toInt64) j23 (j23 + (Int32.ofNat e').toInt64) j27 j29 j31 o33 o34 (Int32.ofNat (d + 1)) pf (Int32.ofNat k) nn vF vS X3 hx hZ hw hby hml hown e3 hm0 hm1 c1 c3
        rw [eat] at st4
        exact ⟨T4, _, X4, e4, by simp only [c3, if_true], st4⟩
      · by_cases c4 : i = k
        · have c4' : (j27 - j19).toInt32 = Int32.ofNat k := by rw [eat, c4]
          by_cases c5 : j29 = j31
          · obtain ⟨T4, X4, e4, st4⟩ := sE2d j0 j2 j4 j6 i8 i9 i10 (Int32.ofNat d) (Int32.ofNat e') i13 i14 i15 i16 i17 i18 j19 (j19 + (Int32.ofNat d).toInt64) j23 (j23 + (Int32.ofNat e').toInt64) j27 j29 j31 o33 o34 (Int32.ofNat (d + 1)) pf (Int32.ofNat k) nn vF vS X3 hx hZ hw hby hml hown e3 hm0 hm1 c1 c3 c4' ((lw_eq _ _).mpr c5)
            rw [eat] at st4
            exact ⟨T4, _, X4, e4, by simp only [c3, c4, c5, hnn, if_false, if_true], st4⟩
          · obtain ⟨T4, X4, e4, st4⟩ := sE2e j0 j2 j4 j6 i8 i9 i10 (Int32.ofNat d) (Int32.ofNat e') i13 i14 i15 i16 i17 i18 j19 (j19 + (Int32.ofNat d).toInt64) j23 (j23 + (Int32.ofNat e').toInt64) j27 j29 j31 o33 o34 (Int32.ofNat (d + 1)) pf (Int32.ofNat k) nn vF vS X3 hx hZ hw hby hml hown e3 hm0 hm1 c1 c3 c4' (fun q => c5 ((lw_eq _ _).mp q))
            rw [eat] at st4
            have c5' : ¬ j31 = j29 := fun q => c5 q.symm
            exact ⟨T4, _, X4, e4, by simp only [c3, c4, c5', hnn, if_false, if_true], st4⟩
        · have c4' : ¬ ((j27 - j19).toInt32 = Int32.ofNat k) := fun q => c4 (own_inj (by rw [← eat]; exact q) (by omega) (by have := hk hl0; omega))
          obtain ⟨T4, X4, e4, st4⟩ := sE2c j0 j2 j4 j6 i8 i9 i10 (Int32.ofNat d) (Int32.ofNat e') i13 i14 i15 i16 i17 i18 j19 (j19 + (Int32.ofNat d).toInt64) j23 (j23 + (Int32.ofNat e').toInt64) j27 j29 j31 o33 o34 (Int32.ofNat (d + 1)) pf (Int32.ofNat k) nn vF vS X3 hx hZ hw hby hml hown e3 hm0 hm1 c1 c3 c4'
          rw [eat] at st4
          exact ⟨T4, _, X4, e4, by simp only [c3, c4, if_false, if_true], st4⟩
    obtain ⟨T4, ex, X4, e4, hex, st4⟩ := s4
    obtain ⟨T5, Ls, L5, X5, N5, st5⟩ := qZ j0 j2 j4 j6 i8 i9 i10 (Int32.ofNat d) (Int32.ofNat e') i13 i14 i15 i16 i17 i18 j19 (j19 + (Int32.ofNat d).toInt64) j23 (j23 + (Int32.ofNat e').toInt64) j27 j29 j31 o33 o34 (Int32.ofNat (d + 1)) pf (Int32.ofNat k) nn vF vS ex (.val (.int (Int32.ofNat i))) n0 _ X4 hx hZ hw hby hml hown e4 N2 (by decide) (by decide) D2.1 M hex
    exact ⟨T5, Ls, L5, X5, N5, fun target h => st1 target (st2 target (st3 target (st4 target (st5 target h))))⟩
def Q0 (Z : State) (q1 q2 q3 q4 : Int64) (p5 p6 : Int32) (h0 : Heap) (n0 : Nat) (v : Option Value) (h : Heap) (L : List Loc) : Prop := v = some (.int (1 : Int32)) ∧ Fr n0 L
set_option maxRecDepth 65536 in
set_option maxHeartbeats 40000000 in
theorem rm0 (l : Launch) (Z : State) (a0 : Array Value) (hw : ∀ d ∈ tables_1, d.before a0 Z = true) (ws : List Jvm.Cond) (q1 : Int64) (q2 : Int64) (q3 : Int64) (q4 : Int64) (p5 : Int32) (p6 : Int32) (h0 : Heap) (n0 : Nat) (Z0 : n0 ≤ h0.size) :
    MetFree l x (head1 (Jvm.Cond.code x code maxLocals ret :: ws) room_1) (fun a U => a = #[(.long q1), (.long q2), (.long q3), (.long q4), (.int p5), (.int p6)] ∧ Z.Warmed39 U.vm ∧ U.heap = h0) (fun _ _ _ _ _ => True) (fun _ U o U' => ∃ v L, o = .returned v ∧ Q0 Z q1 q2 q3 q4 p5 p6 h0 n0 v U'.heap L ∧ FrameEnd U o U' L room_1.cells room_1.slots) := by
  refine MetFree.of_bodySF (plainFor_of_name pn_0) hisR ?_
  intro p e s m args below meth c s₁ Bd hml0 hP hK
  obtain ⟨rfl, hZ, hh⟩ := hP
  have hx := Bd.exec
  have hby := Bd.bytes
  have hml : c.maxLocals = 43 := hml0
  have hown : s.vm.findClass "com/example/fairjoin/fairjoin/operator/DirectKeysSlotPinLaw" = some m.cls := findClass_of_methodNamed Bd.named
  have hnm := (name_of_methodNamed Bd.named Bd.method).1
  have X0 : Stand p l e room_1 s m #[(.long q1), (.long q2), (.long q3), (.long q4), (.int p5), (.int p6)] below meth c s₁ [] 0 0 := Stand.of_body Bd
  have e0 : s₁.heap = h0 := by rw [← hh, Bd.state]; rfl
  have N0 := Fr.nil n0
  have pre0 : ∀ t, Steps p.tables e below (s₁.setTop (mkF m 0 (lv1 q1 q2 q3 q4 p5 p6) [])) t → Steps p.tables e below (s₁.setTop (entryFrame m #[(.long q1), (.long q2), (.long q3), (.long q4), (.int p5), (.int p6)] maxLocals)) t := fun t ktt => castTop (ef_0 m q1 q2 q3 q4 p5 p6) ktt
  obtain ⟨mm, hmm, em⟩ := own_m3 p5
  obtain ⟨d, hd, ed⟩ := own_m3 ((p5.toUInt32 >>> ((2 : Int32) &&& 31).toUInt32).toInt32)
  obtain ⟨e', he', ee⟩ := own_m3 ((p5.toUInt32 >>> ((4 : Int32) &&& 31).toUInt32).toInt32)
  obtain ⟨TA, XA, eA, stA⟩ := qA q1 q2 q3 q4 p5 p6 X0 hx hZ hw hby hml hown e0
  rw [em, ed, ee] at stA
  obtain ⟨v13, TB, XB, eB, stB⟩ := qB q1 q2 q3 q4 p5 p6 (Int32.ofNat mm) (Int32.ofNat d) (Int32.ofNat e') XA hx hZ hw hby hml hown eA
  obtain ⟨v14, TC, XC, eC, stC⟩ := qC q1 q2 q3 q4 p5 p6 (Int32.ofNat mm) (Int32.ofNat d) (Int32.ofNat e') v13 XB hx hZ hw hby hml hown eB
  obtain ⟨v15, TD, XD, eD, stD⟩ := qD q1 q2 q3 q4 p5 p6 (Int32.ofNat mm) (Int32.ofNat d) (Int32.ofNat e') v13 v14 XC hx hZ hw hby hml hown eC
  obtain ⟨TE, XE, eE, stE⟩ := qE q1 q2 q3 q4 p5 p6 (Int32.ofNat mm) (Int32.ofNat d) (Int32.ofNat e') v13 v14 v15 XD hx hZ hw hby hml hown eD
  obtain ⟨v18, TF, XF, eF, stF⟩ := qF q1 q2 q3 q4 p5 p6 (Int32.ofNat mm) (Int32.ofNat d) (Int32.ofNat e') v13 v14 v15 ((((p5.toUInt32 >>> ((9 : Int32) &&& 31).toUInt32).toInt32) &&& (7 : Int32)) - (2 : Int32)) ((((p5.toUInt32 >>> ((12 : Int32) &&& 31).toUInt32).toInt32) &&& (7 : Int32)) - (2 : Int32)) XE hx hZ hw hby hml hown eE
  obtain ⟨v19, TG, w1, XG, eG, stG⟩ := qG q1 q2 q3 q4 p5 p6 (Int32.ofNat mm) d hd (Int32.ofNat e') v13 v14 v15 ((((p5.toUInt32 >>> ((9 : Int32) &&& 31).toUInt32).toInt32) &&& (7 : Int32)) - (2 : Int32)) ((((p5.toUInt32 >>> ((12 : Int32) &&& 31).toUInt32).toInt32) &&& (7 : Int32)) - (2 : Int32)) v18 XF hx hZ hw hby hml hown eF
  obtain ⟨TH, XH, eH, stH⟩ := qH q1 q2 q3 q4 p5 p6 (Int32.ofNat mm) (Int32.ofNat d) (Int32.ofNat e') v13 v14 v15 ((((p5.toUInt32 >>> ((9 : Int32) &&& 31).toUInt32).toInt32) &&& (7 : Int32)) - (2 : Int32)) ((((p5.toUInt32 >>> ((12 : Int32) &&& 31).toUInt32).toInt32) &&& (7 : Int32)) - (2 : Int32)) v18 v19 XG hx hZ hw hby hml hown eG
  obtain ⟨v23, TI, w2, XI, eI, stI⟩ := qI q1 q2 q3 q4 p5 p6 (Int32.ofNat mm) (Int32.ofNat d) e' he' v13 v14 v15 ((((p5.toUInt32 >>> ((9 : Int32) &&& 31).toUInt32).toInt32) &&& (7 : Int32)) - (2 : Int32)) ((((p5.toUInt32 >>> ((12 : Int32) &&& 31).toUInt32).toInt32) &&& (7 : Int32)) - (2 : Int32)) v18 v19 (v19 + (Int32.ofNat d).toInt64) XH hx hZ hw hby hml hown eH
  obtain ⟨TJ, XJ, eJ, stJ⟩ := qJ q1 q2 q3 q4 p5 p6 (Int32.ofNat mm) (Int32.ofNat d) (Int32.ofNat e') v13 v14 v15 ((((p5.toUInt32 >>> ((9 : Int32) &&& 31).toUInt32).toInt32) &&& (7 : Int32)) - (2 : Int32)) ((((p5.toUInt32 >>> ((12 : Int32) &&& 31).toUInt32).toInt32) &&& (7 : Int32)) - (2 : Int32)) v18 v19 (v19 + (Int32.ofNat d).toInt64) v23 XI hx hZ hw hby hml hown eI
  obtain ⟨v27, TK, XK, eK, stK⟩ := qK q1 q2 q3 q4 p5 p6 (Int32.ofNat mm) (Int32.ofNat d) (Int32.ofNat e') v13 v14 v15 ((((p5.toUInt32 >>> ((9 : Int32) &&& 31).toUInt32).toInt32) &&& (7 : Int32)) - (2 : Int32)) ((((p5.toUInt32 >>> ((12 : Int32) &&& 31).toUInt32).toInt32) &&& (7 : Int32)) - (2 : Int32)) v18 v19 (v19 + (Int32.ofNat d).toInt64) v23 (v23 + (Int32.ofNat e').toInt64) XJ hx hZ hw hby hml hown eJ
  obtain ⟨v29, TL, XL, eL, stL⟩ := qL q1 q2 q3 q4 p5 p6 (Int32.ofNat mm) (Int32.ofNat d) (Int32.ofNat e') v13 v14 v15 ((((p5.toUInt32 >>> ((9 : Int32) &&& 31).toUInt32).toInt32) &&& (7 : Int32)) - (2 : Int32)) ((((p5.toUInt32 >>> ((12 : Int32) &&& 31).toUInt32).toInt32) &&& (7 : Int32)) - (2 : Int32)) v18 v19 (v19 + (Int32.ofNat d).toInt64) v23 (v23 + (Int32.ofNat e').toInt64) v27 XK hx hZ hw hby hml hown eK
  obtain ⟨v31, TM, XM, eM, stM⟩ := qM q1 q2 q3 q4 p5 p6 (Int32.ofNat mm) (Int32.ofNat d) (Int32.ofNat e') v13 v14 v15 ((((p5.toUInt32 >>> ((9 : Int32) &&& 31).toUInt32).toInt32) &&& (7 : Int32)) - (2 : Int32)) ((((p5.toUInt32 >>> ((12 : Int32) &&& 31).toUInt32).toInt32) &&& (7 : Int32)) - (2 : Int32)) v18 v19 (v19 + (Int32.ofNat d).toInt64) v23 (v23 + (Int32.ofNat e').toInt64) v27 v29 XL hx hZ hw hby hml hown eL
  obtain ⟨TN, hN, LN, b33, b34, t10, XN, eN, NN, ZN, gN, hneN, DN, AN, stN⟩ := qN q1 q2 q3 q4 p5 p6 (Int32.ofNat mm) d hd e' he' v13 v14 v15 ((((p5.toUInt32 >>> ((9 : Int32) &&& 31).toUInt32).toInt32) &&& (7 : Int32)) - (2 : Int32)) ((((p5.toUInt32 >>> ((12 : Int32) &&& 31).toUInt32).toInt32) &&& (7 : Int32)) - (2 : Int32)) v18 v19 v23 v27 v29 v31 w1 w2 n0 XM hx hZ hw hby hml hown eM N0 Z0
  have fin : ∃ (T' : State) (Ls : Array Slot) (locs' : List Loc) (cc ss : Nat), Stand p l e room_1 s m #[(.long q1), (.long q2), (.long q3), (.long q4), (.int p5), (.int p6)] below meth c T' locs' cc ss ∧ cc ≤ 24 ∧ ss ≤ 128 ∧ Fr n0 locs' ∧
      ∀ target, Steps p.tables e below (T'.setTop (mkF m 556 Ls [])) target → Steps p.tables e below (TN.setTop (mkF m 270 (lv17 q1 q2 q3 q4 p5 p6 (Int32.ofNat mm) (Int32.ofNat d) (Int32.ofNat e') v13 v14 v15 ((((p5.toUInt32 >>> ((9 : Int32) &&& 31).toUInt32).toInt32) &&& (7 : Int32)) - (2 : Int32)) ((((p5.toUInt32 >>> ((12 : Int32) &&& 31).toUInt32).toInt32) &&& (7 : Int32)) - (2 : Int32)) v18 v19 (v19 + (Int32.ofNat d).toInt64) v23 (v23 + (Int32.ofNat e').toInt64) v27 v29 v31 b33 b34 (0 : Int32)) [])) target := by
    by_cases m1 : mm = 1
    · have hm : Int32.ofNat mm = (1 : Int32) := by rw [m1]; rfl
      obtain ⟨T1, h1, L1, t1, X1, e1, N1, Z1, D1, A1, hn1, g1, st1⟩ := qO1 q1 q2 q3 q4 p5 p6 (Int32.ofNat mm) d hd e' he' v13 v14 v15 ((((p5.toUInt32 >>> ((9 : Int32) &&& 31).toUInt32).toInt32) &&& (7 : Int32)) - (2 : Int32)) ((((p5.toUInt32 >>> ((12 : Int32) &&& 31).toUInt32).toInt32) &&& (7 : Int32)) - (2 : Int32)) v18 v19 v23 v27 v29 v31 b33 b34 w1 w2 t10 n0 XN hx hZ hw hby hml hown eN NN ZN gN DN hm
      obtain ⟨T2, Ls, L2, X2, N2, st2⟩ := case1 q1 q2 q3 q4 p5 p6 (Int32.ofNat mm) d hd e' he' v13 v14 v15 ((((p5.toUInt32 >>> ((9 : Int32) &&& 31).toUInt32).toInt32) &&& (7 : Int32)) - (2 : Int32)) ((((p5.toUInt32 >>> ((12 : Int32) &&& 31).toUInt32).toInt32) &&& (7 : Int32)) - (2 : Int32)) v18 v19 v23 v27 v29 v31 b33 b34 w1 w2 t1 n0 X1 hx hZ hw hby hml hown e1 N1 Z1 D1 A1 hn1 g1 hm
      exact ⟨T2, Ls, L2, _, _, X2, by decide, by decide, N2, fun target h => st1 target (st2 target h)⟩
    · have hm1 : ¬ Int32.ofNat mm = (1 : Int32) := fun q => m1 (own_inj (k := 1) q (by omega) (by omega))
      by_cases m0 : mm = 0
      · have hm : Int32.ofNat mm = (0 : Int32) := by rw [m0]; rfl
        have hlt : Int32.ofNat mm < (2 : Int32) := by rw [hm]; decide
        obtain ⟨T1, X1, e1, st1⟩ := sO0 q1 q2 q3 q4 p5 p6 (Int32.ofNat mm) (Int32.ofNat d) (Int32.ofNat e') v13 v14 v15 ((((p5.toUInt32 >>> ((9 : Int32) &&& 31).toUInt32).toInt32) &&& (7 : Int32)) - (2 : Int32)) ((((p5.toUInt32 >>> ((12 : Int32) &&& 31).toUInt32).toInt32) &&& (7 : Int32)) - (2 : Int32)) v18 v19 (v19 + (Int32.ofNat d).toInt64) v23 (v23 + (Int32.ofNat e').toInt64) v27 v29 v31 b33 b34 (0 : Int32) XN hx hZ hw hby hml hown eN hm1 hlt
        obtain ⟨T2, Ls, L2, X2, N2, st2⟩ := case0 q1 q2 q3 q4 p5 p6 (Int32.ofNat mm) d hd e' he' v13 v14 v15 ((((p5.toUInt32 >>> ((9 : Int32) &&& 31).toUInt32).toInt32) &&& (7 : Int32)) - (2 : Int32)) ((((p5.toUInt32 >>> ((12 : Int32) &&& 31).toUInt32).toInt32) &&& (7 : Int32)) - (2 : Int32)) v18 v19 v23 v27 v29 v31 b33 b34 t10 n0 X1 hx hZ hw hby hml hown e1 NN ZN DN hm
        exact ⟨T2, Ls, L2, _, _, X2, by decide, by decide, N2, fun target h => st1 target (st2 target h)⟩
      · have hm0 : ¬ Int32.ofNat mm = (0 : Int32) := fun q => m0 (own_inj (k := 0) q (by omega) (by omega))
        have hge : ¬ Int32.ofNat mm < (2 : Int32) := fun q => by
          have := (own_ltn (i := mm) (n := 2) (by omega) (by omega)).mp q
          omega
        obtain ⟨T1, h1, L1, t1, t2, X1, e1, N1, Z1, D1, A1, A2, hn12, hn1, hn2, g1, g2, st1⟩ := qO2 q1 q2 q3 q4 p5 p6 (Int32.ofNat mm) d hd e' he' v13 v14 v15 ((((p5.toUInt32 >>> ((9 : Int32) &&& 31).toUInt32).toInt32) &&& (7 : Int32)) - (2 : Int32)) ((((p5.toUInt32 >>> ((12 : Int32) &&& 31).toUInt32).toInt32) &&& (7 : Int32)) - (2 : Int32)) v18 v19 v23 v27 v29 v31 b33 b34 w1 w2 t10 n0 XN hx hZ hw hby hml hown eN NN ZN gN DN AN hm1 hge
        obtain ⟨T2, Ls, L2, X2, N2, st2⟩ := case2 q1 q2 q3 q4 p5 p6 (Int32.ofNat mm) d hd e' he' v13 v14 v15 ((((p5.toUInt32 >>> ((9 : Int32) &&& 31).toUInt32).toInt32) &&& (7 : Int32)) - (2 : Int32)) ((((p5.toUInt32 >>> ((12 : Int32) &&& 31).toUInt32).toInt32) &&& (7 : Int32)) - (2 : Int32)) v18 v19 v23 v27 v29 v31 b33 b34 w1 w2 t1 t2 n0 X1 hx hZ hw hby hml hown e1 N1 Z1 D1 A1 A2 hn12 hn1 hn2 g1 g2 hm0 hm1
        exact ⟨T2, Ls, L2, _, _, X2, by decide, by decide, N2, fun target h => st1 target (st2 target h)⟩
  obtain ⟨TZ, Ls, LZ, cc, ss, XZ, hcc, hss, NZ, stZ⟩ := fin
  obtain ⟨fsr, hr, hrun, hended, hW, hsame⟩ := XZ.leave (v := some (.int (1 : Int32))) (fun h => by rw [Bd.returns] at h; cases h)
  refine ⟨_, _, pre0 _ ?_, hrun, hended, _, _, rfl, ?_, ⟨_, rfl⟩, hW, hsame.mono hcc hss⟩
  · show Steps p.tables e below (s₁.setTop (mkF m 0 (lv1 q1 q2 q3 q4 p5 p6) [])) _
    refine stA _ ?_
    refine stB _ ?_
    refine stC _ ?_
    refine stD _ ?_
    refine stE _ ?_
    refine stF _ ?_
    refine stG _ ?_
    refine stH _ ?_
    refine stI _ ?_
    refine stJ _ ?_
    refine stK _ ?_
    refine stL _ ?_
    refine stM _ ?_
    refine stN _ ?_
    refine stZ _ ?_
    refine XS.iconst XZ.here hx rfl (hb hby at_556) ?_
    show Steps p.tables e below (TZ.setTop (mkF m 557 Ls [(.int (1 : Int32))])) _
    refine XS.goto XZ.here hx rfl (pc0 := 557) (pc' := 561) rfl (hb hby at_557) (by decide) (by decide) ?_
    show Steps p.tables e below (TZ.setTop (mkF m 561 Ls [(.int (1 : Int32))])) _
    exact retN XZ hx (t := .boolean) Bd.returns (by simp) (hb hby at_561) hr
  · exact ⟨rfl, NZ⟩
set_option maxRecDepth 65536 in
set_option maxHeartbeats 40000000 in
theorem comes_1 {Post : Tables → Env → Array Value → State → Outcome → State → Prop} (hpost : ∀ tb e args s v u, (limb_1_1.after args s (.returned v) u = true ∧ limb_1_2.after args s (.returned v) u = true ∧ True) → FrameEnd s (.returned v) u (Jvm.fieldLocs frame_1_writes args s ++ Jvm.arrayLocs frame_1_arrays args s ++ Jvm.staticLocs frame_1_statics s) 24 128 → Post tb e args s (.returned v) u) :
    ArmFor flags0 classFile x code maxLocals ret World_1 tables_1 room_1 Calls_1 rest_1 Pre_1 Post := by
  intro l hfl _ _ p e ha hc hk s m args below hf hA hF happ hP
  obtain ⟨hcalls, hrest, hpre⟩ := hP
  obtain ⟨-, -, -, hnamed, -, -, -, hat⟩ := (Spec.applies_iff hf).mp happ
  obtain ⟨hg, hn⟩ := and_e (Cond.before_iff.mp (show (Jvm.Cond.and given_1 narrow_1).before args s = true from hpre))
  obtain ⟨g14, g15⟩ := and_e hg
  obtain ⟨g16, g17⟩ := and_e g15
  obtain ⟨g18, g19⟩ := and_e g17
  obtain ⟨g20, g21⟩ := and_e g19
  obtain ⟨g22, g23⟩ := and_e g21
  obtain ⟨g24, g25⟩ := and_e g23
  obtain ⟨w0, w1, w2, w3, w4, w5, rfl⟩ : ∃ w0 w1 w2 w3 w4 w5 : Value, args = #[w0, w1, w2, w3, w4, w5] := by
    have hs : args.size = 6 := by simpa [Cond.value, given_1] using g14
    obtain ⟨L⟩ := args
    match L, hs with
    | [w0, w1, w2, w3, w4, w5], _ => exact ⟨w0, w1, w2, w3, w4, w5, rfl⟩
  have hw := fun d (hd : d ∈ tables_1) => atoms_spec (ws := Jvm.Cond.code x code maxLocals ret :: tables_1) hat d (List.mem_cons_of_mem _ hd)
  have hfit : Fit s := fun {y c} hc i hi => by
    obtain ⟨ha, rfl⟩ := Array.getElem?_eq_some_iff.mp hc
    have q := List.all_eq_true.mp ((Array.all_eq_true_iff_forall_mem.mp hF) _ (Array.getElem_mem ha)) i (List.mem_range.mpr hi)
    simpa [Array.getElem?_eq_getElem hi] using q
  obtain ⟨i0, ei0⟩ := isL_v g16
  obtain rfl : w0 = (.long i0) := Option.some.inj ei0
  obtain ⟨i1, ei1⟩ := isL_v g18
  obtain rfl : w1 = (.long i1) := Option.some.inj ei1
  obtain ⟨i2, ei2⟩ := isL_v g20
  obtain rfl : w2 = (.long i2) := Option.some.inj ei2
  obtain ⟨i3, ei3⟩ := isL_v g22
  obtain rfl : w3 = (.long i3) := Option.some.inj ei3
  obtain ⟨i4, ei4⟩ := is_v g24
  obtain rfl : w4 = (.int i4) := Option.some.inj ei4
  obtain ⟨i5, ei5⟩ := is_v g25
  obtain rfl : w5 = (.int i5) := Option.some.inj ei5
  obtain ⟨n, o, h1, h2, h3, _, L, rfl, ⟨rfl, N⟩, hq⟩ := rm0 l s _ hw tables_1 i0 i1 i2 i3 i4 i5 s.heap s.heap.size (Nat.le_refl _) p e ha hc hk s m _ below hf ((Spec.applies_iff_loose hf).mp happ).1 ⟨rfl, State.Warmed39.refl s, rfl⟩ trivial
  refine ⟨n, _, h1, h2, h3, hpost _ _ _ _ _ _ ⟨Cond.after_iff.mpr rfl, Cond.after_iff.mpr (eq_i res_at (Term.int_eval (1)) rfl), trivial⟩ ⟨hq.1, hq.2.1, (hq.2.2.sift fun y hy => Or.inr (N y hy)).mono (by decide) (by decide)⟩⟩
theorem main_1_1 : Claimed_1_1 := comes_1 fun _ _ _ _ _ _ h hF => ⟨h.1, hF⟩
theorem main_1_2 : Claimed_1_2 := comes_1 fun _ _ _ _ _ _ h hF => ⟨h.2.1, hF⟩
end Jvm.Pilot.@@N@@
namespace Jvm.Pilot.@@N@@
open Jvm Jvm.ClassFile Sem Op Lib Jvm.Free Jvm.Stand Jvm.Pilot.@@N@@.Jvm.D
/-! MADE BY PROGRAM (witnessworld.py) out of the Statement's table words and the real class files: 17 classes; the members and pool entries that the words name. The judged class is class 1, her method 1. -/
namespace start1
open Jvm.ClassFile
def u (s : String) : CpInfo := .utf8 (stringToUtf16 s)
/-- a pool by its gaps: so many unusable entries, then the entry; so many at the end -/
def gap : Nat → List CpInfo → List CpInfo
  | 0, r => r
  | n + 1, r => .unusable :: gap n r
def poolList (es : List (Nat × CpInfo)) (last : Nat) : List CpInfo := es.foldr (fun e r => gap e.1 (e.2 :: r)) (gap last [])
def pool (es : List (Nat × CpInfo)) (last : Nat) : Array CpInfo := ⟨poolList es last⟩
def fileOf (pool : Array CpInfo) (this : Nat) (attrs : Array Attribute := #[]) (ms : Array MethodInfo := #[]) (fl : Nat := 33) (sup : Nat := 0) (ifs : Array Nat := #[]) (fds : Array FieldInfo := #[]) : ClassFile where
  minorVersion := 0
  majorVersion := 65
  constantPool := pool
  accessFlags := fl
  thisClass := this
  superClass := sup
  interfaces := ifs
  fields := fds
  methods := ms
  attributes := attrs
def plain (name : String) (sup : Option ClassId) : Class where
  name := name
  kind := .ordinary
  loader := none
  accessFlags := 33
  super := sup
  interfaces := #[]
  cf := none
  fields := #[]
  methods := #[]
  instanceTypes := #[]
  staticTypes := #[]
  resolved := #[]
  callSites := []
  init := .initialized
  statics := none
  mirror := none

def pool0 : Array CpInfo := pool [(5, u "<init>"), (0, u "()V"), (1, .class_ 10), (1, u "java/lang/Object")] 113

def k0c0 : Code := { maxStack := 0, maxLocals := 1, code := object_method_1_code, exceptionTable := #[], attributes := #[] }
def k0m0 : Method := { name := "<init>", desc := "()V", sig := { parameters := [], returnType := none }, accessFlags := 1, code := some k0c0 }
/-- java/lang/Object -/
def k0 : Class := { plain "java/lang/Object" none with
  accessFlags := 33
  interfaces := #[]
  cf := some (fileOf pool0 8 #[] #[{ accessFlags := 1, nameIndex := 5, descriptorIndex := 6, attributes := #[] }] 33 0 #[] #[])
  fields := #[]
  methods := #[k0m0]
  instanceTypes := #[]
  staticTypes := #[]
  resolved := Array.replicate 124 none
  statics := none }

def pool1 : Array CpInfo := pool [(2, .class_ 4), (1, u "java/lang/Object"), (0, u "<init>"), (0, u "()V"), (2, .long 9223372036854775807), (1, .class_ 12), (0, u "com/example/fairjoin/fairjoin/operator/DirectKeys"), (0, .methodref 11 14), (0, .nameAndType 5 15), (0, u "(I)V"), (0, .methodref 11 17), (0, .nameAndType 18 19), (0, u "held"), (0, u "(JJ)V"), (0, .long 16), (1, .methodref 11 23), (0, .nameAndType 24 25), (0, u "lookUpDirectly"), (0, u "(J)Z"), (0, .methodref 11 27), (0, .nameAndType 28 29), (0, u "lookUpByFirst"), (0, u "([JI)Z"), (0, .integer 65535), (0, .methodref 11 32), (0, .nameAndType 33 34), (0, u "put"), (0, u "(IIJ)V"), (0, .methodref 11 36), (0, .nameAndType 37 38), (0, u "slot"), (0, u "(JJ)I"), (0, .class_ 40), (0, u "com/example/fairjoin/fairjoin/operator/DirectKeysSlotPinLaw"), (2, u "law"), (0, u "(JJJJII)Z")] 5

def k1m0 : Method := { name := "<init>", desc := "()V", sig := { parameters := [], returnType := none }, accessFlags := 1, code := none }
def k1c1 : Code := { maxStack := 6, maxLocals := 43, code := code, exceptionTable := #[], attributes := #[] }
def k1m1 : Method := { name := "law", desc := "(JJJJII)Z", sig := { parameters := [.long, .long, .long, .long, .int, .int], returnType := some .boolean }, accessFlags := 9, code := some k1c1 }
/-- com/example/fairjoin/fairjoin/operator/DirectKeysSlotPinLaw -/
def k1 : Class := { plain "com/example/fairjoin/fairjoin/operator/DirectKeysSlotPinLaw" (some 0) with
  accessFlags := 49
  interfaces := #[]
  cf := some (fileOf pool1 39 #[] #[{ accessFlags := 1, nameIndex := 5, descriptorIndex := 6, attributes := #[] }, { accessFlags := 9, nameIndex := 43, descriptorIndex := 44, attributes := #[] }] 49 2 #[] #[])
  fields := #[]
  methods := #[k1m0, k1m1]
  instanceTypes := #[]
  staticTypes := #[]
  resolved := Array.replicate 50 none
  statics := none }

def pool2 : Array CpInfo := pool [(3, .methodref 4 5), (0, .class_ 6), (0, .nameAndType 7 8), (0, u "java/lang/Object"), (0, u "<init>"), (0, u "()V"), (0, .class_ 10), (0, u "java/lang/Long"), (0, .long 9223372036854775807), (1, .fieldref 14 15), (0, .class_ 16), (0, .nameAndType 17 18), (0, u "com/example/fairjoin/fairjoin/operator/DirectKeys"), (0, u "leastFirst"), (0, u "J"), (0, .long 9223372036854775808), (1, .fieldref 14 22), (0, .nameAndType 23 18), (0, u "greatestFirst"), (0, .fieldref 14 25), (0, .nameAndType 26 18), (0, u "leastSecond"), (0, .fieldref 14 28), (0, .nameAndType 29 18), (0, u "greatestSecond"), (0, .fieldref 14 31), (0, .nameAndType 32 18), (0, u "secondSpan"), (0, .fieldref 14 34), (0, .nameAndType 35 36), (0, u "numbers"), (0, u "[I"), (0, .fieldref 14 38), (0, .nameAndType 39 40), (0, u "width"), (0, u "I"), (0, .fieldref 14 42), (0, .nameAndType 43 18), (0, u "firstBase"), (0, .fieldref 14 45), (0, .nameAndType 46 18), (0, u "firstSpan"), (0, .fieldref 14 48), (0, .nameAndType 49 50), (0, u "byFirst"), (0, u "Z"), (0, .fieldref 14 52), (0, .nameAndType 53 54), (0, u "seconds"), (0, u "[J"), (0, .fieldref 14 56), (0, .nameAndType 57 18), (0, u "secondBase"), (2, u "slot"), (0, u "(JJ)I"), (0, .methodref 14 63), (0, .nameAndType 64 65), (0, u "closeTogether"), (0, u "(JJJ)Z"), (0, .long 4), (1, .long 2147483639), (1, .methodref 71 72), (0, .class_ 73), (0, .nameAndType 74 75), (0, u "java/lang/Math"), (0, u "min"), (0, u "(JJ)J"), (0, .methodref 9 77), (0, .nameAndType 78 61), (0, u "compareUnsigned"), (0, .methodref 71 80), (0, .nameAndType 81 75), (0, u "max"), (0, .methodref 14 83), (0, .nameAndType 84 85), (0, u "held"), (0, u "(J)V"), (8, .methodref 14 95), (0, .nameAndType 96 97), (0, u "allDifferent"), (0, u "([JIJJ)Z"), (0, .long 64), (1, u "SPREAD"), (2, u "LIMIT"), (0, u "(I)V"), (12, u "put"), (0, u "(IIJ)V"), (2, u "(JJ)V"), (1, u "lookUpDirectly"), (0, u "(J)Z"), (0, u "lookUpByFirst"), (0, u "([JI)Z")] 2

def k2c0 : Code := { maxStack := 3, maxLocals := 2, code := prog_151_method_1_code, exceptionTable := #[], attributes := #[] }
def k2m0 : Method := { name := "<init>", desc := "(I)V", sig := { parameters := [.int], returnType := none }, accessFlags := 0, code := some k2c0 }
def k2c1 : Code := { maxStack := 4, maxLocals := 9, code := prog_151_method_4_code, exceptionTable := #[], attributes := #[] }
def k2m1 : Method := { name := "slot", desc := "(JJ)I", sig := { parameters := [.long, .long], returnType := some .int }, accessFlags := 0, code := some k2c1 }
def k2c2 : Code := { maxStack := 4, maxLocals := 5, code := prog_151_method_7_code, exceptionTable := #[], attributes := #[] }
def k2m2 : Method := { name := "put", desc := "(IIJ)V", sig := { parameters := [.int, .int, .long], returnType := none }, accessFlags := 0, code := some k2c2 }
def k2c3 : Code := { maxStack := 6, maxLocals := 6, code := prog_151_method_9_code, exceptionTable := #[], attributes := #[] }
def k2m3 : Method := { name := "closeTogether", desc := "(JJJ)Z", sig := { parameters := [.long, .long, .long], returnType := some .boolean }, accessFlags := 8, code := some k2c3 }
def k2c4 : Code := { maxStack := 5, maxLocals := 3, code := prog_151_method_11_code, exceptionTable := #[], attributes := #[] }
def k2m4 : Method := { name := "held", desc := "(J)V", sig := { parameters := [.long], returnType := none }, accessFlags := 0, code := some k2c4 }
def k2c5 : Code := { maxStack := 5, maxLocals := 5, code := prog_151_method_12_code, exceptionTable := #[], attributes := #[] }
def k2m5 : Method := { name := "held", desc := "(JJ)V", sig := { parameters := [.long, .long], returnType := none }, accessFlags := 0, code := some k2c5 }
def k2c6 : Code := { maxStack := 5, maxLocals := 9, code := prog_151_method_16_code, exceptionTable := #[], attributes := #[] }
def k2m6 : Method := { name := "lookUpDirectly", desc := "(J)Z", sig := { parameters := [.long], returnType := some .boolean }, accessFlags := 0, code := some k2c6 }
def k2c7 : Code := { maxStack := 6, maxLocals := 4, code := prog_151_method_17_code, exceptionTable := #[], attributes := #[] }
def k2m7 : Method := { name := "lookUpByFirst", desc := "([JI)Z", sig := { parameters := [(.array .long), .int], returnType := some .boolean }, accessFlags := 0, code := some k2c7 }
def k2c8 : Code := { maxStack := 7, maxLocals := 9, code := prog_151_method_18_code, exceptionTable := #[], attributes := #[] }
def k2m8 : Method := { name := "allDifferent", desc := "([JIJJ)Z", sig := { parameters := [(.array .long), .int, .long, .long], returnType := some .boolean }, accessFlags := 8, code := some k2c8 }
/-- com/example/fairjoin/fairjoin/operator/DirectKeys -/
def k2 : Class := { plain "com/example/fairjoin/fairjoin/operator/DirectKeys" (some 0) with
  accessFlags := 48
  interfaces := #[]
  cf := some (fileOf pool2 14 #[] #[{ accessFlags := 0, nameIndex := 7, descriptorIndex := 104, attributes := #[] }, { accessFlags := 0, nameIndex := 60, descriptorIndex := 61, attributes := #[] }, { accessFlags := 0, nameIndex := 117, descriptorIndex := 118, attributes := #[] }, { accessFlags := 8, nameIndex := 64, descriptorIndex := 65, attributes := #[] }, { accessFlags := 0, nameIndex := 84, descriptorIndex := 85, attributes := #[] }, { accessFlags := 0, nameIndex := 84, descriptorIndex := 121, attributes := #[] }, { accessFlags := 0, nameIndex := 123, descriptorIndex := 124, attributes := #[] }, { accessFlags := 0, nameIndex := 125, descriptorIndex := 126, attributes := #[] }, { accessFlags := 8, nameIndex := 96, descriptorIndex := 97, attributes := #[] }] 48 4 #[] #[{ accessFlags := 26, nameIndex := 100, descriptorIndex := 40, attributes := #[] }, { accessFlags := 24, nameIndex := 103, descriptorIndex := 18, attributes := #[] }, { accessFlags := 18, nameIndex := 39, descriptorIndex := 40, attributes := #[] }, { accessFlags := 2, nameIndex := 17, descriptorIndex := 18, attributes := #[] }, { accessFlags := 2, nameIndex := 23, descriptorIndex := 18, attributes := #[] }, { accessFlags := 2, nameIndex := 26, descriptorIndex := 18, attributes := #[] }, { accessFlags := 2, nameIndex := 29, descriptorIndex := 18, attributes := #[] }, { accessFlags := 2, nameIndex := 43, descriptorIndex := 18, attributes := #[] }, { accessFlags := 2, nameIndex := 46, descriptorIndex := 18, attributes := #[] }, { accessFlags := 2, nameIndex := 57, descriptorIndex := 18, attributes := #[] }, { accessFlags := 2, nameIndex := 32, descriptorIndex := 18, attributes := #[] }, { accessFlags := 2, nameIndex := 35, descriptorIndex := 36, attributes := #[] }, { accessFlags := 2, nameIndex := 49, descriptorIndex := 50, attributes := #[] }, { accessFlags := 2, nameIndex := 53, descriptorIndex := 54, attributes := #[] }])
  fields := #[{ name := "SPREAD", type := .int, accessFlags := 26, slot := 0, constantValue := 0 }, { name := "LIMIT", type := .long, accessFlags := 24, slot := 1, constantValue := 0 }, { name := "width", type := .int, accessFlags := 18, slot := 0, constantValue := 0 }, { name := "leastFirst", type := .long, accessFlags := 2, slot := 1, constantValue := 0 }, { name := "greatestFirst", type := .long, accessFlags := 2, slot := 2, constantValue := 0 }, { name := "leastSecond", type := .long, accessFlags := 2, slot := 3, constantValue := 0 }, { name := "greatestSecond", type := .long, accessFlags := 2, slot := 4, constantValue := 0 }, { name := "firstBase", type := .long, accessFlags := 2, slot := 5, constantValue := 0 }, { name := "firstSpan", type := .long, accessFlags := 2, slot := 6, constantValue := 0 }, { name := "secondBase", type := .long, accessFlags := 2, slot := 7, constantValue := 0 }, { name := "secondSpan", type := .long, accessFlags := 2, slot := 8, constantValue := 0 }, { name := "numbers", type := (.array .int), accessFlags := 2, slot := 9, constantValue := 0 }, { name := "byFirst", type := .boolean, accessFlags := 2, slot := 10, constantValue := 0 }, { name := "seconds", type := (.array .long), accessFlags := 2, slot := 11, constantValue := 0 }]
  methods := #[k2m0, k2m1, k2m2, k2m3, k2m4, k2m5, k2m6, k2m7, k2m8]
  instanceTypes := #[.int, .long, .long, .long, .long, .long, .long, .long, .long, (.array .int), .boolean, (.array .long)]
  staticTypes := #[.int, .long]
  resolved := Array.replicate 129 none
  statics := none }

def pool3 : Array CpInfo := pool [(1, .class_ 2), (0, u "java/lang/Math"), (1, .class_ 6), (1, u "java/lang/Object"), (0, u "<init>"), (0, u "()V"), (89, .class_ 100), (1, u "java/lang/Math$RandomNumberGeneratorHolder"), (20, u "(JJ)J"), (50, u "negativeZeroFloatBits"), (0, u "J"), (2, u "negativeZeroDoubleBits"), (21, u "max"), (2, u "min"), (43, u "$assertionsDisabled"), (0, u "Z"), (91, u "twoToTheDoubleScaleDown"), (0, u "D"), (4, u "twoToTheDoubleScaleUp"), (9, u "E"), (3, u "PI"), (2, u "TAU"), (2, u "DEGREES_TO_RADIANS"), (0, u "RADIANS_TO_DEGREES")] 94

def k3m0 : Method := { name := "<init>", desc := "()V", sig := { parameters := [], returnType := none }, accessFlags := 2, code := none }
def k3c1 : Code := { maxStack := 4, maxLocals := 4, code := jdk_29_method_66_code, exceptionTable := #[], attributes := #[] }
def k3m1 : Method := { name := "max", desc := "(JJ)J", sig := { parameters := [.long, .long], returnType := some .long }, accessFlags := 9, code := some k3c1 }
def k3c2 : Code := { maxStack := 4, maxLocals := 4, code := jdk_29_method_70_code, exceptionTable := #[], attributes := #[] }
def k3m2 : Method := { name := "min", desc := "(JJ)J", sig := { parameters := [.long, .long], returnType := some .long }, accessFlags := 9, code := some k3c2 }
/-- java/lang/Math -/
def k3 : Class := { plain "java/lang/Math" (some 0) with
  accessFlags := 49
  interfaces := #[]
  cf := some (fileOf pool3 1 #[.nestMembers #[98]] #[{ accessFlags := 2, nameIndex := 7, descriptorIndex := 8, attributes := #[] }, { accessFlags := 9, nameIndex := 198, descriptorIndex := 121, attributes := #[] }, { accessFlags := 9, nameIndex := 201, descriptorIndex := 121, attributes := #[] }] 49 4 #[] #[{ accessFlags := 25, nameIndex := 354, descriptorIndex := 339, attributes := #[] }, { accessFlags := 25, nameIndex := 358, descriptorIndex := 339, attributes := #[] }, { accessFlags := 25, nameIndex := 361, descriptorIndex := 339, attributes := #[] }, { accessFlags := 26, nameIndex := 364, descriptorIndex := 339, attributes := #[] }, { accessFlags := 26, nameIndex := 365, descriptorIndex := 339, attributes := #[] }, { accessFlags := 26, nameIndex := 172, descriptorIndex := 173, attributes := #[] }, { accessFlags := 26, nameIndex := 176, descriptorIndex := 173, attributes := #[] }, { accessFlags := 8, nameIndex := 344, descriptorIndex := 339, attributes := #[] }, { accessFlags := 8, nameIndex := 338, descriptorIndex := 339, attributes := #[] }, { accessFlags := 4120, nameIndex := 245, descriptorIndex := 246, attributes := #[] }])
  fields := #[{ name := "E", type := .double, accessFlags := 25, slot := 0, constantValue := 0 }, { name := "PI", type := .double, accessFlags := 25, slot := 1, constantValue := 0 }, { name := "TAU", type := .double, accessFlags := 25, slot := 2, constantValue := 0 }, { name := "DEGREES_TO_RADIANS", type := .double, accessFlags := 26, slot := 3, constantValue := 0 }, { name := "RADIANS_TO_DEGREES", type := .double, accessFlags := 26, slot := 4, constantValue := 0 }, { name := "negativeZeroFloatBits", type := .long, accessFlags := 26, slot := 5, constantValue := 0 }, { name := "negativeZeroDoubleBits", type := .long, accessFlags := 26, slot := 6, constantValue := 0 }, { name := "twoToTheDoubleScaleUp", type := .double, accessFlags := 8, slot := 7, constantValue := 0 }, { name := "twoToTheDoubleScaleDown", type := .double, accessFlags := 8, slot := 8, constantValue := 0 }, { name := "$assertionsDisabled", type := .boolean, accessFlags := 4120, slot := 9, constantValue := 0 }]
  methods := #[k3m0, k3m1, k3m2]
  instanceTypes := #[]
  staticTypes := #[.double, .double, .double, .double, .double, .long, .long, .double, .double, .boolean]
  resolved := Array.replicate 460 none
  statics := none }

def pool4 : Array CpInfo := pool [(1, .class_ 2), (0, u "java/io/Serializable"), (0, .class_ 4), (0, u "java/lang/Object")] 2

/-- java/io/Serializable -/
def k4 : Class := { plain "java/io/Serializable" (some 0) with
  accessFlags := 1537
  interfaces := #[]
  cf := some (fileOf pool4 1 #[] #[] 1537 3 #[] #[])
  fields := #[]
  methods := #[]
  instanceTypes := #[]
  staticTypes := #[]
  resolved := Array.replicate 7 none
  statics := none }

def pool5 : Array CpInfo := pool [(2, .class_ 4), (1, u "java/lang/Object"), (0, u "<init>"), (0, u "()V"), (1, .class_ 10), (1, u "java/lang/Number"), (2, .class_ 14), (0, u "java/io/Serializable"), (0, u "serialVersionUID"), (0, u "J")] 20

def k5m0 : Method := { name := "<init>", desc := "()V", sig := { parameters := [], returnType := none }, accessFlags := 1, code := none }
/-- java/lang/Number -/
def k5 : Class := { plain "java/lang/Number" (some 0) with
  accessFlags := 1057
  interfaces := #[4]
  cf := some (fileOf pool5 8 #[] #[{ accessFlags := 1, nameIndex := 5, descriptorIndex := 6, attributes := #[] }] 1057 2 #[13] #[{ accessFlags := 26, nameIndex := 15, descriptorIndex := 16, attributes := #[] }])
  fields := #[{ name := "serialVersionUID", type := .long, accessFlags := 26, slot := 0, constantValue := 0 }]
  methods := #[k5m0]
  instanceTypes := #[]
  staticTypes := #[.long]
  resolved := Array.replicate 37 none
  statics := none }

def pool6 : Array CpInfo := pool [(1, .class_ 2), (0, u "java/lang/Comparable"), (0, .class_ 4), (0, u "java/lang/Object")] 7

/-- java/lang/Comparable -/
def k6 : Class := { plain "java/lang/Comparable" (some 0) with
  accessFlags := 1537
  interfaces := #[]
  cf := some (fileOf pool6 1 #[] #[] 1537 3 #[] #[])
  fields := #[]
  methods := #[]
  instanceTypes := #[]
  staticTypes := #[]
  resolved := Array.replicate 12 none
  statics := none }

def pool7 : Array CpInfo := pool [(1, .class_ 2), (0, u "java/lang/constant/Constable"), (0, .class_ 4), (0, u "java/lang/Object")] 6

/-- java/lang/constant/Constable -/
def k7 : Class := { plain "java/lang/constant/Constable" (some 0) with
  accessFlags := 1537
  interfaces := #[]
  cf := some (fileOf pool7 1 #[] #[] 1537 3 #[] #[])
  fields := #[]
  methods := #[]
  instanceTypes := #[]
  staticTypes := #[]
  resolved := Array.replicate 11 none
  statics := none }

def pool8 : Array CpInfo := pool [(1, .class_ 2), (0, u "java/lang/constant/ConstantDesc"), (0, .class_ 4), (0, u "java/lang/Object")] 32

/-- java/lang/constant/ConstantDesc -/
def k8 : Class := { plain "java/lang/constant/ConstantDesc" (some 0) with
  accessFlags := 1537
  interfaces := #[]
  cf := some (fileOf pool8 1 #[] #[] 1537 3 #[] #[])
  fields := #[]
  methods := #[]
  instanceTypes := #[]
  staticTypes := #[]
  resolved := Array.replicate 37 none
  statics := none }

def pool9 : Array CpInfo := pool [(1, .class_ 2), (0, u "java/lang/Long"), (165, .long 9223372036854775808), (66, .class_ 237), (1, u "java/lang/Long$LongCache"), (33, .class_ 272), (0, u "java/lang/Number"), (2, u "value"), (0, u "J"), (25, .methodref 1 303), (0, .nameAndType 304 305), (0, u "compare"), (0, u "(JJ)I"), (55, u "TYPE"), (0, u "Ljava/lang/Class;"), (0, .class_ 364), (0, u "java/lang/Comparable"), (0, .class_ 366), (0, u "java/lang/constant/Constable"), (0, .class_ 368), (0, u "java/lang/constant/ConstantDesc"), (0, u "MIN_VALUE"), (1, u "MAX_VALUE"), (4, u "SIZE"), (0, u "I"), (1, u "BYTES"), (1, u "serialVersionUID"), (87, u "compareUnsigned")] 54

def k9c0 : Code := { maxStack := 4, maxLocals := 4, code := jdk_35_method_42_code, exceptionTable := #[], attributes := #[] }
def k9m0 : Method := { name := "compare", desc := "(JJ)I", sig := { parameters := [.long, .long], returnType := some .int }, accessFlags := 9, code := some k9c0 }
def k9c1 : Code := { maxStack := 6, maxLocals := 4, code := jdk_35_method_43_code, exceptionTable := #[], attributes := #[] }
def k9m1 : Method := { name := "compareUnsigned", desc := "(JJ)I", sig := { parameters := [.long, .long], returnType := some .int }, accessFlags := 9, code := some k9c1 }
/-- java/lang/Long -/
def k9 : Class := { plain "java/lang/Long" (some 5) with
  accessFlags := 49
  interfaces := #[6, 7, 8]
  cf := some (fileOf pool9 1 #[.nestMembers #[235]] #[{ accessFlags := 9, nameIndex := 304, descriptorIndex := 305, attributes := #[] }, { accessFlags := 9, nameIndex := 469, descriptorIndex := 305, attributes := #[] }] 49 271 #[363, 365, 367] #[{ accessFlags := 25, nameIndex := 369, descriptorIndex := 276, attributes := #[] }, { accessFlags := 25, nameIndex := 371, descriptorIndex := 276, attributes := #[] }, { accessFlags := 25, nameIndex := 361, descriptorIndex := 362, attributes := #[] }, { accessFlags := 18, nameIndex := 275, descriptorIndex := 276, attributes := #[] }, { accessFlags := 25, nameIndex := 376, descriptorIndex := 377, attributes := #[] }, { accessFlags := 25, nameIndex := 379, descriptorIndex := 377, attributes := #[] }, { accessFlags := 26, nameIndex := 381, descriptorIndex := 276, attributes := #[] }])
  fields := #[{ name := "MIN_VALUE", type := .long, accessFlags := 25, slot := 0, constantValue := 0 }, { name := "MAX_VALUE", type := .long, accessFlags := 25, slot := 1, constantValue := 0 }, { name := "TYPE", type := (.object "java/lang/Class"), accessFlags := 25, slot := 2, constantValue := 0 }, { name := "value", type := .long, accessFlags := 18, slot := 0, constantValue := 0 }, { name := "SIZE", type := .int, accessFlags := 25, slot := 3, constantValue := 0 }, { name := "BYTES", type := .int, accessFlags := 25, slot := 4, constantValue := 0 }, { name := "serialVersionUID", type := .long, accessFlags := 26, slot := 5, constantValue := 0 }]
  methods := #[k9m0, k9m1]
  instanceTypes := #[.long]
  staticTypes := #[.long, .long, (.object "java/lang/Class"), .int, .int, .long]
  resolved := Array.replicate 524 none
  statics := none }

def pool10 : Array CpInfo := pool [(1, u "java/lang/Cloneable"), (0, .class_ 1), (0, u "java/lang/Object"), (0, .class_ 3)] 3

/-- java/lang/Cloneable -/
def k10 : Class := { plain "java/lang/Cloneable" (some 0) with
  accessFlags := 1537
  interfaces := #[]
  cf := some (fileOf pool10 2 #[] #[] 1537 4 #[] #[])
  fields := #[]
  methods := #[]
  instanceTypes := #[]
  staticTypes := #[]
  resolved := Array.replicate 8 none
  statics := none }

/-- the primitive byte -/
def k11 : Class := { plain "byte" none with kind := .primitive 'B', accessFlags := 0x411 }
/-- [B -/
def k12 : Class := { plain "[B" (some 0) with kind := .array 11 .byte, interfaces := #[10, 4], accessFlags := 1041 }

/-- the primitive int -/
def k13 : Class := { plain "int" none with kind := .primitive 'I', accessFlags := 0x411 }
/-- [I -/
def k14 : Class := { plain "[I" (some 0) with kind := .array 13 .int, interfaces := #[10, 4], accessFlags := 1041 }

/-- the primitive long -/
def k15 : Class := { plain "long" none with kind := .primitive 'J', accessFlags := 0x411 }
/-- [J -/
def k16 : Class := { plain "[J" (some 0) with kind := .array 15 .long, interfaces := #[10, 4], accessFlags := 1041 }

def heap : Heap := #[]
def classes : Array Class := #[k0, k1, k2, k3, k4, k5, k6, k7, k8, k9, k10, k11, k12, k13, k14, k15, k16]
def interned : List (Array UInt16 × Addr) := []
def slotsUsed : Nat := 0
def theMethod : MethodId := ⟨1, 1⟩
def args0 : Array Value := #[.long 5, .long 7, .long 5, .long 8, .int 1, .int 9]
def aboutOver (below : List Frame) : State where
  vm := { classes := classes, interned := interned.toArray }
  heap := heap
  slotsUsed := slotsUsed
  threads := #[{ frames := .invoking theMethod args0 :: below }]
def below0 : List Frame := [.native { method := ⟨0, 0⟩, args := #[] }]
def about1 : State := aboutOver below0
def p0 : Program := .bare "" "" ""
def e0 : Env := launch0.env 0 0 0
theorem w_frames : about1.frames = Frame.invoking theMethod args0 :: below0 := rfl
set_option maxRecDepth 65536 in
theorem w_args : argsFit about1.vm theMethod args0 = true := by decide +kernel
set_option maxRecDepth 65536 in
theorem w_heap : heapFits about1 = true := by decide +kernel
set_option maxRecDepth 65536 in
theorem w_runnable : about1.curStatus? = some .runnable := by decide +kernel
set_option maxRecDepth 65536 in
theorem w_alone : about1.alone = true := by decide +kernel
set_option maxRecDepth 65536 in
theorem w_named : about1.methodNamed? x = some theMethod := by decide +kernel
set_option maxRecDepth 65536 in
theorem w_hears : about1.hears theMethod below0 = true := by decide +kernel
set_option maxRecDepth 65536 in
theorem w_ripe : about1.ripe theMethod args0 below0 = true := by decide +kernel
theorem w_running : about1.status = .running := rfl
set_option maxRecDepth 65536 in
theorem w_room : about1.hasRoom e0.platform room_1 = true :=
  launch0.hasRoom_least _ room_1 (by decide +kernel) (by decide +kernel) (by decide +kernel) (by decide +kernel) (by decide +kernel) (by decide +kernel)
theorem allAtoms_all (ts : List Jvm.Cond) (a : Array Jvm.Value) (st : Jvm.State) : (allAtoms ts).before a st = ts.all (fun c => c.before a st) := by
  induction ts with
  | nil => rfl
  | cons c t ih =>
    show (Jvm.Cond.and c (allAtoms t)).before a st = _
    rw [Jvm.Cond.before_and, ih, List.all_cons]
def words1 : List Jvm.Cond := Jvm.Cond.code x code maxLocals ret :: tables_1
/-- a 'code' word, met by the world's own term for the bytes: nothing is compared byte by byte -/
theorem code_word {y : MethodName} {bytes : ByteArray} {mx : Nat} {rt : Option FieldType} {a : Array Value} {s : State} {m : MethodId} {meth : Method} {c : Code} (h1 : s.methodNamed? y = some m) (h2 : s.vm.method? m = some meth) (h3 : meth.code = some c) (h4 : c.code = bytes)
    (h5 : (c.maxLocals == mx && c.exceptionTable.isEmpty && decide (c.maxStack ≤ mostOperands) && decide (meth.sig.returnType = rt) && !meth.locks && decide (parseMethodDescriptor y.desc = some meth.sig)) = true) : (Jvm.Cond.code y bytes mx rt).before a s = true := by
  simp only [Bool.and_eq_true, beq_iff_eq, Bool.not_eq_true', decide_eq_true_eq] at h5
  obtain ⟨⟨⟨⟨⟨g1, g2⟩, g3⟩, g4⟩, g5⟩, g6⟩ := h5
  simp [Cond.before, Cond.holds, Cond.value, h1, h2, h3, h4, g1, g2, g3, g4, g5, g6]
def isCode : Jvm.Cond → Bool
  | .code _ _ _ _ => true
  | _ => false
theorem all_split {L : List Jvm.Cond} {P : Jvm.Cond → Bool} (h1 : L.all (fun c => isCode c || P c) = true) (h2 : ∀ c ∈ L.filter isCode, P c = true) : L.all P = true := by
  refine List.all_eq_true.mpr fun c hc => ?_
  have h := List.all_eq_true.mp h1 c hc
  rcases Bool.eq_false_or_eq_true (isCode c) with hi | hi
  · exact h2 c (List.mem_filter.mpr ⟨hc, hi⟩)
  · simpa [hi] using h
set_option maxRecDepth 65536 in
theorem w_c0 : (Jvm.Cond.code x code maxLocals ret).before args0 about1 = true := code_word (m := ⟨1, 1⟩) (meth := k1m1) (c := k1c1) (by decide +kernel) rfl rfl rfl (by decide +kernel)
set_option maxRecDepth 65536 in
theorem w_c1 : (Jvm.Cond.code ({ cls := "com/example/fairjoin/fairjoin/operator/DirectKeys", name := "<init>", desc := "(I)V" } : Jvm.MethodName) prog_151_method_1_code (2 : Nat) (Option.none : Option Jvm.ClassFile.FieldType)).before args0 about1 = true := code_word (m := ⟨2, 0⟩) (meth := k2m0) (c := k2c0) (by decide +kernel) rfl rfl rfl (by decide +kernel)
set_option maxRecDepth 65536 in
theorem w_c2 : (Jvm.Cond.code ({ cls := "java/lang/Object", name := "<init>", desc := "()V" } : Jvm.MethodName) object_method_1_code (1 : Nat) (Option.none : Option Jvm.ClassFile.FieldType)).before args0 about1 = true := code_word (m := ⟨0, 0⟩) (meth := k0m0) (c := k0c0) (by decide +kernel) rfl rfl rfl (by decide +kernel)
set_option maxRecDepth 65536 in
theorem w_c3 : (Jvm.Cond.code ({ cls := "com/example/fairjoin/fairjoin/operator/DirectKeys", name := "held", desc := "(JJ)V" } : Jvm.MethodName) prog_151_method_12_code (5 : Nat) (Option.none : Option Jvm.ClassFile.FieldType)).before args0 about1 = true := code_word (m := ⟨2, 5⟩) (meth := k2m5) (c := k2c5) (by decide +kernel) rfl rfl rfl (by decide +kernel)
set_option maxRecDepth 65536 in
theorem w_c4 : (Jvm.Cond.code ({ cls := "com/example/fairjoin/fairjoin/operator/DirectKeys", name := "held", desc := "(J)V" } : Jvm.MethodName) prog_151_method_11_code (3 : Nat) (Option.none : Option Jvm.ClassFile.FieldType)).before args0 about1 = true := code_word (m := ⟨2, 4⟩) (meth := k2m4) (c := k2c4) (by decide +kernel) rfl rfl rfl (by decide +kernel)
set_option maxRecDepth 65536 in
theorem w_c5 : (Jvm.Cond.code ({ cls := "java/lang/Math", name := "min", desc := "(JJ)J" } : Jvm.MethodName) jdk_29_method_70_code (4 : Nat) (Option.some Jvm.ClassFile.FieldType.long)).before args0 about1 = true := code_word (m := ⟨3, 2⟩) (meth := k3m2) (c := k3c2) (by decide +kernel) rfl rfl rfl (by decide +kernel)
set_option maxRecDepth 65536 in
theorem w_c6 : (Jvm.Cond.code ({ cls := "java/lang/Math", name := "max", desc := "(JJ)J" } : Jvm.MethodName) jdk_29_method_66_code (4 : Nat) (Option.some Jvm.ClassFile.FieldType.long)).before args0 about1 = true := code_word (m := ⟨3, 1⟩) (meth := k3m1) (c := k3c1) (by decide +kernel) rfl rfl rfl (by decide +kernel)
set_option maxRecDepth 65536 in
theorem w_c7 : (Jvm.Cond.code ({ cls := "com/example/fairjoin/fairjoin/operator/DirectKeys", name := "lookUpByFirst", desc := "([JI)Z" } : Jvm.MethodName) prog_151_method_17_code (4 : Nat) (Option.some Jvm.ClassFile.FieldType.boolean)).before args0 about1 = true := code_word (m := ⟨2, 7⟩) (meth := k2m7) (c := k2c7) (by decide +kernel) rfl rfl rfl (by decide +kernel)
set_option maxRecDepth 65536 in
theorem w_c8 : (Jvm.Cond.code ({ cls := "com/example/fairjoin/fairjoin/operator/DirectKeys", name := "allDifferent", desc := "([JIJJ)Z" } : Jvm.MethodName) prog_151_method_18_code (9 : Nat) (Option.some Jvm.ClassFile.FieldType.boolean)).before args0 about1 = true := code_word (m := ⟨2, 8⟩) (meth := k2m8) (c := k2c8) (by decide +kernel) rfl rfl rfl (by decide +kernel)
set_option maxRecDepth 65536 in
theorem w_c9 : (Jvm.Cond.code ({ cls := "com/example/fairjoin/fairjoin/operator/DirectKeys", name := "closeTogether", desc := "(JJJ)Z" } : Jvm.MethodName) prog_151_method_9_code (6 : Nat) (Option.some Jvm.ClassFile.FieldType.boolean)).before args0 about1 = true := code_word (m := ⟨2, 3⟩) (meth := k2m3) (c := k2c3) (by decide +kernel) rfl rfl rfl (by decide +kernel)
set_option maxRecDepth 65536 in
theorem w_c10 : (Jvm.Cond.code ({ cls := "java/lang/Long", name := "compareUnsigned", desc := "(JJ)I" } : Jvm.MethodName) jdk_35_method_43_code (4 : Nat) (Option.some Jvm.ClassFile.FieldType.int)).before args0 about1 = true := code_word (m := ⟨9, 1⟩) (meth := k9m1) (c := k9c1) (by decide +kernel) rfl rfl rfl (by decide +kernel)
set_option maxRecDepth 65536 in
theorem w_c11 : (Jvm.Cond.code ({ cls := "java/lang/Long", name := "compare", desc := "(JJ)I" } : Jvm.MethodName) jdk_35_method_42_code (4 : Nat) (Option.some Jvm.ClassFile.FieldType.int)).before args0 about1 = true := code_word (m := ⟨9, 0⟩) (meth := k9m0) (c := k9c0) (by decide +kernel) rfl rfl rfl (by decide +kernel)
set_option maxRecDepth 65536 in
theorem w_c12 : (Jvm.Cond.code ({ cls := "com/example/fairjoin/fairjoin/operator/DirectKeys", name := "slot", desc := "(JJ)I" } : Jvm.MethodName) prog_151_method_4_code (9 : Nat) (Option.some Jvm.ClassFile.FieldType.int)).before args0 about1 = true := code_word (m := ⟨2, 1⟩) (meth := k2m1) (c := k2c1) (by decide +kernel) rfl rfl rfl (by decide +kernel)
set_option maxRecDepth 65536 in
theorem w_c13 : (Jvm.Cond.code ({ cls := "com/example/fairjoin/fairjoin/operator/DirectKeys", name := "lookUpDirectly", desc := "(J)Z" } : Jvm.MethodName) prog_151_method_16_code (9 : Nat) (Option.some Jvm.ClassFile.FieldType.boolean)).before args0 about1 = true := code_word (m := ⟨2, 6⟩) (meth := k2m6) (c := k2c6) (by decide +kernel) rfl rfl rfl (by decide +kernel)
set_option maxRecDepth 65536 in
theorem w_c14 : (Jvm.Cond.code ({ cls := "com/example/fairjoin/fairjoin/operator/DirectKeys", name := "put", desc := "(IIJ)V" } : Jvm.MethodName) prog_151_method_7_code (5 : Nat) (Option.none : Option Jvm.ClassFile.FieldType)).before args0 about1 = true := code_word (m := ⟨2, 2⟩) (meth := k2m2) (c := k2c2) (by decide +kernel) rfl rfl rfl (by decide +kernel)
def codes1 : List Jvm.Cond := [Jvm.Cond.code x code maxLocals ret, Jvm.Cond.code ({ cls := "com/example/fairjoin/fairjoin/operator/DirectKeys", name := "<init>", desc := "(I)V" } : Jvm.MethodName) prog_151_method_1_code (2 : Nat) (Option.none : Option Jvm.ClassFile.FieldType), Jvm.Cond.code ({ cls := "java/lang/Object", name := "<init>", desc := "()V" } : Jvm.MethodName) object_method_1_code (1 : Nat) (Option.none : Option Jvm.ClassFile.FieldType), Jvm.Cond.code ({ cls := "com/example/fairjoin/fairjoin/operator/DirectKeys", name := "held", desc := "(JJ)V" } : Jvm.MethodName) prog_151_method_12_code (5 : Nat) (Option.none : Option Jvm.ClassFile.FieldType), Jvm.Cond.code ({ cls := "com/example/fairjoin/fairjoin/operator/DirectKeys", name := "held", desc := "(J)V" } : Jvm.MethodName) prog_151_method_11_code (3 : Nat) (Option.none : Option Jvm.ClassFile.FieldType), Jvm.Cond.code ({ cls := "java/lang/Math", name := "min", desc := "(JJ)J" } : Jvm.MethodName) jdk_29_method_70_code (4 : Nat) (Option.some Jvm.ClassFile.FieldType.long), Jvm.Cond.code ({ cls := "java/lang/Math", name := "max", desc := "(JJ)J" } : Jvm.MethodName) jdk_29_method_66_code (4 : Nat) (Option.some Jvm.ClassFile.FieldType.long), Jvm.Cond.code ({ cls := "com/example/fairjoin/fairjoin/operator/DirectKeys", name := "lookUpByFirst", desc := "([JI)Z" } : Jvm.MethodName) prog_151_method_17_code (4 : Nat) (Option.some Jvm.ClassFile.FieldType.boolean), Jvm.Cond.code ({ cls := "com/example/fairjoin/fairjoin/operator/DirectKeys", name := "allDifferent", desc := "([JIJJ)Z" } : Jvm.MethodName) prog_151_method_18_code (9 : Nat) (Option.some Jvm.ClassFile.FieldType.boolean), Jvm.Cond.code ({ cls := "com/example/fairjoin/fairjoin/operator/DirectKeys", name := "closeTogether", desc := "(JJJ)Z" } : Jvm.MethodName) prog_151_method_9_code (6 : Nat) (Option.some Jvm.ClassFile.FieldType.boolean), Jvm.Cond.code ({ cls := "java/lang/Long", name := "compareUnsigned", desc := "(JJ)I" } : Jvm.MethodName) jdk_35_method_43_code (4 : Nat) (Option.some Jvm.ClassFile.FieldType.int), Jvm.Cond.code ({ cls := "java/lang/Long", name := "compare", desc := "(JJ)I" } : Jvm.MethodName) jdk_35_method_42_code (4 : Nat) (Option.some Jvm.ClassFile.FieldType.int), Jvm.Cond.code ({ cls := "com/example/fairjoin/fairjoin/operator/DirectKeys", name := "slot", desc := "(JJ)I" } : Jvm.MethodName) prog_151_method_4_code (9 : Nat) (Option.some Jvm.ClassFile.FieldType.int), Jvm.Cond.code ({ cls := "com/example/fairjoin/fairjoin/operator/DirectKeys", name := "lookUpDirectly", desc := "(J)Z" } : Jvm.MethodName) prog_151_method_16_code (9 : Nat) (Option.some Jvm.ClassFile.FieldType.boolean), Jvm.Cond.code ({ cls := "com/example/fairjoin/fairjoin/operator/DirectKeys", name := "put", desc := "(IIJ)V" } : Jvm.MethodName) prog_151_method_7_code (5 : Nat) (Option.none : Option Jvm.ClassFile.FieldType)]
set_option maxRecDepth 65536 in
theorem codes_eq : words1.filter isCode = codes1 := rfl
theorem w_codes : ∀ c ∈ words1.filter isCode, c.before args0 about1 = true := by
  rw [codes_eq]
  intro c hc
  simp only [codes1, List.mem_cons, List.not_mem_nil, or_false] at hc
  rcases hc with rfl | rfl | rfl | rfl | rfl | rfl | rfl | rfl | rfl | rfl | rfl | rfl | rfl | rfl | rfl
  · exact w_c0
  · exact w_c1
  · exact w_c2
  · exact w_c3
  · exact w_c4
  · exact w_c5
  · exact w_c6
  · exact w_c7
  · exact w_c8
  · exact w_c9
  · exact w_c10
  · exact w_c11
  · exact w_c12
  · exact w_c13
  · exact w_c14
set_option maxRecDepth 65536 in
theorem w_t1 : (words1.take 24).all (fun c => isCode c || c.before args0 about1) = true := by decide +kernel
set_option maxRecDepth 65536 in
theorem w_t2 : ((words1.drop 24).take 24).all (fun c => isCode c || c.before args0 about1) = true := by decide +kernel
set_option maxRecDepth 65536 in
theorem w_t3 : (((words1.drop 24).drop 24).take 24).all (fun c => isCode c || c.before args0 about1) = true := by decide +kernel
set_option maxRecDepth 65536 in
theorem w_t4 : (((words1.drop 24).drop 24).drop 24).all (fun c => isCode c || c.before args0 about1) = true := by decide +kernel
theorem w_tables : (allAtoms (Jvm.Cond.code x code maxLocals ret :: tables_1)).before args0 about1 = true := by
  rw [allAtoms_all]
  show words1.all (fun c => c.before args0 about1) = true
  refine all_split ?_ w_codes
  rw [← List.take_append_drop 24 words1, List.all_append, w_t1, ← List.take_append_drop 24 (words1.drop 24), List.all_append, w_t2, ← List.take_append_drop 24 ((words1.drop 24).drop 24), List.all_append, w_t3, w_t4]
  rfl
set_option maxRecDepth 65536 in
theorem w_case : (Jvm.Cond.and given_1 narrow_1).before args0 about1 = true := by decide +kernel
theorem w_applies : (headSpec (Jvm.Cond.code x code maxLocals ret :: tables_1) room_1).applies x e0.platform about1 = true :=
  (Spec.applies_iff w_frames).mpr ⟨w_running, w_runnable, w_alone, w_named, w_hears, w_ripe, w_room, w_tables⟩
theorem atStart : AtStart classFile x code maxLocals ret World_1 tables_1 room_1 Calls_1 rest_1 Pre_1 launch0 p0 e0 about1 theMethod args0 below0 :=
  ⟨lists_1, trivial, launch0.admits_env _ _ _, launch0.least_env, fairChoices_fair.cas, fairChoices_fair.clock, w_frames, w_args, w_heap, w_applies, trivial, trivial, w_case⟩
end start1
theorem witness_1 : WitnessClaimed_1 := ⟨start1.p0, start1.e0, start1.about1, start1.theMethod, start1.args0, start1.below0, start1.atStart⟩
end Jvm.Pilot.@@N@@
