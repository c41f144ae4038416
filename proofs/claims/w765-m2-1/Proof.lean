import JvmDerived
import JvmDerived.Pilot.@@N@@Statement
import JvmDerived.Pilot.@@N@@Code
set_option linter.unusedVariables false
set_option linter.unusedSimpArgs false
@@BLOCK:NumsL.lean.txt@@
namespace Jvm.RoadKit
open Sem ClassFile Op Lib Jvm.Stand Jvm.Free Jvm.LawKit
section New
variable {p : Program} {l : Launch} {e : Env} {R : Room} {s : State} {m : MethodId} {args : Array Value} {below : List Frame} {meth : Method} {c : Code} {T : State} {locs : List Loc} {cells slots : Nat}
theorem retI (X : Stand p l e R s m args below meth c T locs cells slots) (hx : p.tables.exec = Jvm.exec) {pc : Nat} {Ls : Array Slot} {z : Int32} {rest : List Value} (hret : meth.sig.returnType = some .int) (hd : decode c.code pc = .ok (.ireturn, 1)) {fs : List Frame}
    (hl : ∀ (f : JFrame) (acts : List Action), f.method = m → f.locked = none → f.entered = [] → (doReturn e (T.setTop f) acts (some (.int z))).1 = T.setFrames fs) : Steps p.tables e below (T.setTop (mkF m pc Ls (.int z :: rest))) (T.setFrames fs) := by
  have hm' : T.vm.method? m = some meth := X.method'
  have hn : narrow .int (.int z) = .int z := rfl
  show Steps p.tables e below (T.setTop { method := m, pc := pc, locals := Ls, stack := _ :: rest, locked := none }) _
  jvm_step X.here [X.here.top, hx, hd, hm', hret, hn]
  first | (intro acts; rw [hl _ acts rfl rfl rfl]) | rw [hl _ _ rfl rfl rfl]
  exact Steps.refl _
end New
end Jvm.RoadKit
namespace Jvm.Pilot.@@N@@
open Jvm Jvm.ClassFile Sem Op Lib Jvm.Free Jvm.Stand Jvm.LawKit Jvm.RoadKit Bundle Jvm.Pilot.@@N@@.Jvm.D
def OwA (Z : State) (h : Heap) (a : Addr) (ty : FieldType) (n : Nat) (f : Nat → Value) : Prop := ∃ c : Cell, Arr Z h a c ty ∧ c.slots.size = n ∧ ∀ j, j < n → c.slots[j]? = some (f j)
theorem owa_lt {Z : State} {h : Heap} {a : Addr} {ty : FieldType} {n : Nat} {f : Nat → Value} (F : OwA Z h a ty n f) : a < h.size := by obtain ⟨c, A, -⟩ := F; exact A.lt
theorem owa_ext {Z : State} {h h' : Heap} {a : Addr} {ty : FieldType} {n : Nat} {f : Nat → Value} (F : OwA Z h a ty n f) (E : Ext h h') : OwA Z h' a ty n f := by obtain ⟨c, A, r⟩ := F; exact ⟨c, A.ext E, r⟩
theorem owa_other {Z : State} {h h' : Heap} {a b : Addr} {ty : FieldType} {n sl : Nat} {v : Value} {f : Nat → Value} (F : OwA Z h b ty n f) (W : Wr h h' a sl v) (q : b ≠ a) : OwA Z h' b ty n f := by obtain ⟨c, A, r⟩ := F; exact ⟨c, A.other W q, r⟩
theorem owa_keep {Z : State} {h h' : Heap} {a : Addr} {ty : FieldType} {n : Nat} {f : Nat → Value} {ws : List Addr} (F : OwA Z h a ty n f) (K : Keep h h' ws) (q : a ∉ ws) : OwA Z h' a ty n f := by obtain ⟨c, A, r⟩ := F; exact ⟨c, ⟨K.2.1 a c A.1 q, A.2⟩, r⟩
theorem owa_heap {Z : State} {h h' : Heap} {a : Addr} {ty : FieldType} {n : Nat} {f : Nat → Value} (F : OwA Z h a ty n f) (q : h' = h) : OwA Z h' a ty n f := by rw [q]; exact F
theorem owa_congr {Z : State} {h : Heap} {a : Addr} {ty : FieldType} {n : Nat} {f g : Nat → Value} (F : OwA Z h a ty n f) (q : ∀ j, j < n → f j = g j) : OwA Z h a ty n g := by
  obtain ⟨c, A, S, H⟩ := F; exact ⟨c, A, S, fun j hj => by rw [← q j hj]; exact H j hj⟩
theorem owa_set {Z : State} {h h' : Heap} {a : Addr} {ty : FieldType} {n sl : Nat} {v : Value} {f : Nat → Value} (F : OwA Z h a ty n f) (W : Wr h h' a sl v) : OwA Z h' a ty n (fun j => if j = sl then v else f j) := by
  obtain ⟨c, A, S, H⟩ := F
  refine ⟨_, A.same W, by rw [sz_set]; exact S, fun j hj => ?_⟩
  by_cases u : sl = j
  · subst u
    have hj' : sl < c.slots.size := by rw [S]; exact hj
    simp [Cell.setSlot, hj']
  · have hu : ¬ j = sl := fun q => u q.symm
    have := H j hj
    simp only [Cell.setSlot, hu, if_false] at this ⊢
    rw [Array.getElem?_setIfInBounds_ne u]; exact this
theorem owa_new {Z : State} {h : Heap} {a : Addr} {ty : FieldType} {k : ClassId} {z : Int32} {n : Nat} (A : Arr Z h a (newA k ty z) ty) (hn : z.toNatClampNeg = n) : OwA Z h a ty n (fun _ => defaultValue ty) :=
  ⟨_, A, by rw [sz_new]; exact hn, fun j hj => by
    have : j < z.toNatClampNeg := by rw [hn]; exact hj
    simp [newA, this]⟩
theorem owa_in {c : Cell} {n : Nat} {j : Int32} (S : c.slots.size = n) (h0 : ¬ j < 0) (h1 : j.toNatClampNeg < n) : ¬ (j < 0 ∨ c.slots.size ≤ j.toNatClampNeg) := by
  rintro (q | q)
  · exact h0 q
  · rw [S] at q; omega
theorem own_nat {i : Nat} (h : i < 2147483648) : (Int32.ofNat i).toInt = (i : Int) := Int32.toInt_ofNat_of_lt (by omega)
theorem own_clamp {i : Nat} (h : i < 2147483648) : (Int32.ofNat i).toNatClampNeg = i := by
  rw [Int32.toNatClampNeg, own_nat h]; omega
theorem own_pos {i : Nat} (h : i < 2147483648) : ¬ Int32.ofNat i < 0 := by
  rw [Int32.lt_iff_toInt_lt, own_nat h, Int32.toInt_zero]; omega
theorem own_ltn {i n : Nat} (hi : i < 2147483648) (hn : n < 2147483648) : Int32.ofNat i < Int32.ofNat n ↔ i < n := by
  rw [Int32.lt_iff_toInt_lt, own_nat hi, own_nat hn]; omega
theorem own_up1 (i : Nat) : Int32.ofNat i + (1 : Int32) = Int32.ofNat (i + 1) := (Int32.ofNat_add i 1).symm

def own_at (q : Int64) (i : Int32) : Int32 := (((q.toUInt64 >>> (((8 : Int32) * i) &&& 0x3f).toInt64.toUInt64).toInt64).toInt32).toInt8.toInt32
theorem own_narb (x : Int32) : nar .byte (x.toInt8.toInt32) = x.toInt8.toInt32 := by
  show (x.toInt8.toInt32).toInt8.toInt32 = _
  rw [Int8.toInt8_toInt32]
theorem own_nara (q : Int64) (i : Int32) : nar .byte (own_at q i) = own_at q i := own_narb _
def own_p (j : Nat) : Int64 := match j with
  | 0 => 1 | 1 => 31 | 2 => 961 | 3 => 29791 | 4 => 923521 | 5 => 28629151 | 6 => 887503681 | _ => 27512614111
def own_pv (j : Nat) : Value := .long (own_p j)
def own_term (q : Int64) (i n : Nat) : Int64 := if i < n then (own_at q (Int32.ofNat i)).toInt64 * own_p (n - 1 - i) else 0
def own_f (q : Int64) (i : Nat) (j : Nat) : Value := .int (if j < i then own_at q (Int32.ofNat j) else 0)
def own_hor (g : Nat → Int32) : Nat → Int32
  | 0 => 0
  | k + 1 => (31 : Int32) * own_hor g k + g k
theorem own_len (x : Int32) : ∃ n : Nat, n ≤ 8 ∧ ((x &&& (15 : Int32)) % (9 : Int32)) = Int32.ofNat n := by
  have m : (x &&& (15 : Int32)).toInt = x.toInt % 2 ^ 4 := Jvm.Kit.i32_mask x 15 (k := 4) (by decide) (by decide)
  have r : ((x &&& (15 : Int32)) % (9 : Int32)).toInt = (x &&& (15 : Int32)).toInt % ((9 : Int32)).toInt := Jvm.Kit.i32_rem_nonneg (by omega)
  rw [show ((9 : Int32)).toInt = 9 from by decide] at r
  refine ⟨((x &&& (15 : Int32)) % (9 : Int32)).toInt.toNat, by omega, ?_⟩
  apply Int32.toInt_inj.mp
  rw [own_nat (by omega)]
  omega
theorem own_idx {i n : Nat} (h : i < n) (hn : n ≤ 8) : (Int32.ofNat n - (1 : Int32)) - Int32.ofNat i = Int32.ofNat (n - 1 - i) := by
  apply Int32.toInt_inj.mp
  have a : (Int32.ofNat n - (1 : Int32)).toInt = (n : Int) - 1 := by
    rw [Jvm.Kit.i32_sub] <;> rw [own_nat (by omega), show ((1 : Int32)).toInt = 1 from by decide] <;> omega
  rw [Jvm.Kit.i32_sub] <;> rw [a, own_nat (i := i) (by omega)]
  · rw [own_nat (by omega)]; omega
  · omega
  · omega
theorem own_t32 (a : Int32) (b : Int64) : (a.toInt64 * b).toInt32 = a * b.toInt32 := by rw [Int64.toInt32_mul, Int32.toInt32_toInt64]
theorem own_eq (q : Int64) (n : Nat) (hn : n ≤ 8) : (((((((((own_term q 0 n) + (own_term q 1 n)) + (own_term q 2 n)) + (own_term q 3 n)) + (own_term q 4 n)) + (own_term q 5 n)) + (own_term q 6 n)) + (own_term q 7 n)).toInt32) = own_hor (fun j => own_at q (Int32.ofNat j)) n := by
  have hc : n = 0 ∨ n = 1 ∨ n = 2 ∨ n = 3 ∨ n = 4 ∨ n = 5 ∨ n = 6 ∨ n = 7 ∨ n = 8 := by omega
  simp only [Int64.toInt32_add]
  rcases hc with rfl | rfl | rfl | rfl | rfl | rfl | rfl | rfl | rfl <;>
    simp only [own_term, Nat.reduceLT, if_true, if_false, Nat.reduceSub, own_t32, own_p, own_hor, show ((0 : Int64)).toInt32 = 0 from by decide, show ((1 : Int64)).toInt32 = 1 from by decide, show ((31 : Int64)).toInt32 = 31 from by decide, show ((961 : Int64)).toInt32 = 961 from by decide, show ((29791 : Int64)).toInt32 = 29791 from by decide, show ((923521 : Int64)).toInt32 = 923521 from by decide, show ((28629151 : Int64)).toInt32 = 28629151 from by decide, show ((887503681 : Int64)).toInt32 = 887503681 from by decide, show ((27512614111 : Int64)).toInt32 = 1742810335 from by decide]
  all_goals
    generalize own_at q (Int32.ofNat 0) = b0
    try generalize own_at q (Int32.ofNat 1) = b1
    try generalize own_at q (Int32.ofNat 2) = b2
    try generalize own_at q (Int32.ofNat 3) = b3
    try generalize own_at q (Int32.ofNat 4) = b4
    try generalize own_at q (Int32.ofNat 5) = b5
    try generalize own_at q (Int32.ofNat 6) = b6
    try generalize own_at q (Int32.ofNat 7) = b7
    grind

theorem own_fskip (q : Int64) (i j n : Nat) (hj : j < n) (h : ¬ i < n) : own_f q i j = own_f q (i + 1) j := by
  have a : j < i := by omega
  have b : j < i + 1 := by omega
  simp only [own_f, a, b, if_true]
theorem own_fset (q : Int64) (i j : Nat) : (if j = i then Value.int (own_at q (Int32.ofNat i)) else own_f q i j) = own_f q (i + 1) j := by
  by_cases a : j = i
  · subst a
    have b : j < j + 1 := by omega
    simp only [own_f, b, if_true]
  · by_cases c : j < i
    · have b : j < i + 1 := by omega
      simp only [own_f, a, b, c, if_true, if_false]
    · have b : ¬ j < i + 1 := by omega
      simp only [own_f, a, b, c, if_false]
theorem own_fend (q : Int64) (j n : Nat) (hj : j < n) (hn : n ≤ 8) : own_f q 8 j = .int ((fun j => own_at q (Int32.ofNat j)) j) := by
  have a : j < 8 := by omega
  simp only [own_f, a, if_true]
theorem own_pows (vs : List Value) (j : Nat) (h : j < 8) (e : vs = [.long 1, .long 31, .long 961, .long 29791, .long 923521, .long 28629151, .long 887503681, .long 27512614111]) (d : Value) : vs.getD j d = own_pv j := by
  subst e
  have hc : j = 0 ∨ j = 1 ∨ j = 2 ∨ j = 3 ∨ j = 4 ∨ j = 5 ∨ j = 6 ∨ j = 7 := by omega
  rcases hc with rfl | rfl | rfl | rfl | rfl | rfl | rfl | rfl <;> rfl
theorem d3_0 : decode method_2_code 0 = .ok (.lload_n 0, 1) := by decide +kernel
theorem d3_1 : decode method_2_code 1 = .ok (.bipush 8, 2) := by decide +kernel
theorem d3_3 : decode method_2_code 3 = .ok (.iload_n 2, 1) := by decide +kernel
theorem d3_4 : decode method_2_code 4 = .ok (.imul, 1) := by decide +kernel
theorem d3_5 : decode method_2_code 5 = .ok (.lushr, 1) := by decide +kernel
theorem d3_6 : decode method_2_code 6 = .ok (.l2i, 1) := by decide +kernel
theorem d3_7 : decode method_2_code 7 = .ok (.i2b, 1) := by decide +kernel
theorem d3_8 : decode method_2_code 8 = .ok (.ireturn, 1) := by decide +kernel
theorem pn_3 : plainName "com/example/uniform_data_access/uniformdataaccess/model/KeyIndexHashPinLaw" = true := by first | (simp [plainName, overriddenIn]; done) | decide +kernel
theorem ef_3 (m : MethodId) (x0 : Int64) (x1 : Int32) : entryFrame m #[(.long x0), (.int x1)] 3 = mkF m 0 #[.val (.long x0), .second, .val (.int x1)] [] := by first | (simp [entryFrame, mkF, argsToLocals, Value.category]; done) | rfl
theorem d1_0 : decode method_3_code 0 = .ok (.iload_n 2, 1) := by decide +kernel
theorem d1_1 : decode method_3_code 1 = .ok (.iload_n 3, 1) := by decide +kernel
theorem d1_2 : decode method_3_code 2 = .ok (.if_icmp .ge 21, 3) := by decide +kernel
theorem d1_5 : decode method_3_code 5 = .ok (.lload_n 0, 1) := by decide +kernel
theorem d1_6 : decode method_3_code 6 = .ok (.iload_n 2, 1) := by decide +kernel
theorem d1_7 : decode method_3_code 7 = .ok (.invokestatic 7, 3) := by decide +kernel
theorem d1_10 : decode method_3_code 10 = .ok (.i2l, 1) := by decide +kernel
theorem d1_11 : decode method_3_code 11 = .ok (.aload 4, 2) := by decide +kernel
theorem d1_13 : decode method_3_code 13 = .ok (.iload_n 3, 1) := by decide +kernel
theorem d1_14 : decode method_3_code 14 = .ok (.iconst 1, 1) := by decide +kernel
theorem d1_15 : decode method_3_code 15 = .ok (.isub, 1) := by decide +kernel
theorem d1_16 : decode method_3_code 16 = .ok (.iload_n 2, 1) := by decide +kernel
theorem d1_17 : decode method_3_code 17 = .ok (.isub, 1) := by decide +kernel
theorem d1_18 : decode method_3_code 18 = .ok (.laload, 1) := by decide +kernel
theorem d1_19 : decode method_3_code 19 = .ok (.lmul, 1) := by decide +kernel
theorem d1_20 : decode method_3_code 20 = .ok (.goto 4, 3) := by decide +kernel
theorem d1_24 : decode method_3_code 24 = .ok (.lreturn, 1) := by decide +kernel
theorem pn_1 : plainName "com/example/uniform_data_access/uniformdataaccess/model/KeyIndexHashPinLaw" = true := by first | (simp [plainName, overriddenIn]; done) | decide +kernel
theorem pd_1_2 : parseMethodDescriptor "(JI)B" = some ⟨[.long, .int], some .byte⟩ := by decide +kernel
theorem ef_1 (m : MethodId) (x0 : Int64) (x1 : Int32) (x2 : Int32) (x3 : Addr) : entryFrame m #[(.long x0), (.int x1), (.int x2), (.ref x3)] 5 = mkF m 0 #[.val (.long x0), .second, .val (.int x1), .val (.int x2), .val (.ref x3)] [] := by first | (simp [entryFrame, mkF, argsToLocals, Value.category]; done) | rfl
theorem d1_23 : decode method_3_code 23 = .ok (.lconst 0, 1) := by decide +kernel
theorem d2_10 : decode prog_60_method_6_code 10 = .ok (.iload 4, 2) := by decide +kernel
theorem d2_12 : decode prog_60_method_6_code 12 = .ok (.iload_n 3, 1) := by decide +kernel
theorem d2_13 : decode prog_60_method_6_code 13 = .ok (.if_icmp .ge 23, 3) := by decide +kernel
theorem d2_16 : decode prog_60_method_6_code 16 = .ok (.aload_n 2, 1) := by decide +kernel
theorem d2_17 : decode prog_60_method_6_code 17 = .ok (.iload 4, 2) := by decide +kernel
theorem d2_19 : decode prog_60_method_6_code 19 = .ok (.baload, 1) := by decide +kernel
theorem d2_20 : decode prog_60_method_6_code 20 = .ok (.istore 5, 2) := by decide +kernel
theorem d2_22 : decode prog_60_method_6_code 22 = .ok (.bipush 31, 2) := by decide +kernel
theorem d2_24 : decode prog_60_method_6_code 24 = .ok (.iload_n 1, 1) := by decide +kernel
theorem d2_25 : decode prog_60_method_6_code 25 = .ok (.imul, 1) := by decide +kernel
theorem d2_26 : decode prog_60_method_6_code 26 = .ok (.iload 5, 2) := by decide +kernel
theorem d2_28 : decode prog_60_method_6_code 28 = .ok (.iadd, 1) := by decide +kernel
theorem d2_29 : decode prog_60_method_6_code 29 = .ok (.istore_n 1, 1) := by decide +kernel
theorem d2_30 : decode prog_60_method_6_code 30 = .ok (.iinc 4 1, 3) := by decide +kernel
theorem d2_33 : decode prog_60_method_6_code 33 = .ok (.goto (-23), 3) := by decide +kernel
theorem os2_20 {s0 : Slot} {z1 : Value} {z2 : Value} {z3 : Value} {z4 : Value} {s5 : Slot} {v : Int32} (h : One s5) : storeLocals #[s0, .val z1, .val z2, .val z3, .val z4, s5] 5 (.int v) = some #[s0, .val z1, .val z2, .val z3, .val z4, .val (.int v)] := by
  rcases h with rfl | ⟨w, rfl, hw⟩
  · rfl
  · cases w <;> first | rfl | (simp [Value.category] at hw)
theorem d2_0 : decode prog_60_method_6_code 0 = .ok (.iconst 0, 1) := by decide +kernel
theorem d2_1 : decode prog_60_method_6_code 1 = .ok (.istore_n 1, 1) := by decide +kernel
theorem d2_2 : decode prog_60_method_6_code 2 = .ok (.aload_n 0, 1) := by decide +kernel
theorem d2_3 : decode prog_60_method_6_code 3 = .ok (.astore_n 2, 1) := by decide +kernel
theorem d2_4 : decode prog_60_method_6_code 4 = .ok (.aload_n 2, 1) := by decide +kernel
theorem d2_5 : decode prog_60_method_6_code 5 = .ok (.arraylength, 1) := by decide +kernel
theorem d2_6 : decode prog_60_method_6_code 6 = .ok (.istore_n 3, 1) := by decide +kernel
theorem d2_7 : decode prog_60_method_6_code 7 = .ok (.iconst 0, 1) := by decide +kernel
theorem d2_8 : decode prog_60_method_6_code 8 = .ok (.istore 4, 2) := by decide +kernel
theorem d2_36 : decode prog_60_method_6_code 36 = .ok (.iload_n 1, 1) := by decide +kernel
theorem d2_37 : decode prog_60_method_6_code 37 = .ok (.ldc 98, 2) := by decide +kernel
theorem d2_39 : decode prog_60_method_6_code 39 = .ok (.imul, 1) := by decide +kernel
theorem d2_40 : decode prog_60_method_6_code 40 = .ok (.ireturn, 1) := by decide +kernel
theorem pn_2 : plainName "com/example/uniform_data_access/uniformdataaccess/model/KeyIndex" = true := by first | (simp [plainName, overriddenIn]; done) | decide +kernel
theorem ef_2 (m : MethodId) (x0 : Addr) : entryFrame m #[(.ref x0)] 6 = mkF m 0 #[.val (.ref x0), .unset, .unset, .unset, .unset, .unset] [] := by first | (simp [entryFrame, mkF, argsToLocals, Value.category]; done) | rfl
theorem pd_0_2 : parseMethodDescriptor "(JI)B" = some ⟨[.long, .int], some .byte⟩ := by decide +kernel
theorem pn_0 : plainName "com/example/uniform_data_access/uniformdataaccess/model/KeyIndexHashPinLaw" = true := by first | (simp [plainName, overriddenIn]; done) | decide +kernel
theorem pd_0_0 : parseMethodDescriptor "(JII[J)J" = some ⟨[.long, .int, .int, (.array .long)], some .long⟩ := by decide +kernel
theorem pd_0_1 : parseMethodDescriptor "([B)I" = some ⟨[(.array .byte)], some .int⟩ := by decide +kernel
theorem ef_0 (m : MethodId) (x0 : Int32) (x1 : Int64) : entryFrame m #[(.int x0), (.long x1)] maxLocals = mkF m 0 #[.val (.int x0), .val (.long x1), .second, .unset, .unset, .unset, .unset, .unset, .unset, .unset] [] := by first | (simp [entryFrame, mkF, argsToLocals, Value.category, maxLocals]; done) | rfl
def Q3 (Z : State) (q1 : Int64) (p2 : Int32) (h0 : Heap) (n0 : Nat) (v : Option Value) (h : Heap) (L : List Loc) : Prop := v = some (.int (own_at q1 p2)) ∧ Fr n0 L ∧ h = h0
set_option maxRecDepth 65536 in
set_option maxHeartbeats 40000000 in
theorem rm3 (l : Launch) (Z : State) (a0 : Array Value) (hw : ∀ d ∈ tables_1, d.before a0 Z = true) (ws : List Jvm.Cond) (q1 : Int64) (p2 : Int32) (h0 : Heap) (n0 : Nat) (Z0 : n0 ≤ h0.size) :
    MetFree l (⟨"com/example/uniform_data_access/uniformdataaccess/model/KeyIndexHashPinLaw", "at", "(JI)B"⟩ : MethodName) (head1 (Jvm.Cond.code (⟨"com/example/uniform_data_access/uniformdataaccess/model/KeyIndexHashPinLaw", "at", "(JI)B"⟩ : MethodName) method_2_code 3 (some .byte) :: ws) ({ frames := 0, cells := 0, slots := 0, locals := 0 } : Room)) (fun a U => a = #[(.long q1), (.int p2)] ∧ Z.Warmed39 U.vm ∧ U.heap = h0) (fun _ _ _ _ _ => True) (fun _ U o U' => ∃ v L, o = .returned v ∧ Q3 Z q1 p2 h0 n0 v U'.heap L ∧ FrameEnd U o U' L ({ frames := 0, cells := 0, slots := 0, locals := 0 } : Room).cells ({ frames := 0, cells := 0, slots := 0, locals := 0 } : Room).slots) := by
  refine MetFree.of_bodySF (plainFor_of_name pn_3) hisR ?_
  intro p e s m args below meth c s₁ Bd hml0 hP hK
  obtain ⟨rfl, hZ, hh⟩ := hP
  have hx := Bd.exec
  have hby := Bd.bytes
  have hml : c.maxLocals = 3 := hml0
  have hown : s.vm.findClass "com/example/uniform_data_access/uniformdataaccess/model/KeyIndexHashPinLaw" = some m.cls := findClass_of_methodNamed Bd.named
  have hnm := (name_of_methodNamed Bd.named Bd.method).1
  have X0 : Stand p l e ({ frames := 0, cells := 0, slots := 0, locals := 0 } : Room) s m #[(.long q1), (.int p2)] below meth c s₁ [] 0 0 := Stand.of_body Bd
  have e0 : s₁.heap = h0 := by rw [← hh, Bd.state]; rfl
  have N0 := Fr.nil n0
  have pre0 : ∀ t, Steps p.tables e below (s₁.setTop (mkF m 0 #[.val (.long q1), .second, .val (.int p2)] [])) t → Steps p.tables e below (s₁.setTop (entryFrame m #[(.long q1), (.int p2)] 3)) t := fun t k => castTop (ef_3 m q1 p2) k
  obtain ⟨fs, hr, hrun, hended, hW, hsame⟩ := X0.leave (v := some (.int (nar .byte (own_at q1 p2)))) (fun h => by rw [Bd.returns] at h; cases h)
  refine ⟨_, _, pre0 _ ?_, hrun, hended, _, _, rfl, ?_, ⟨_, rfl⟩, hW, hsame.mono (by decide) (by decide)⟩
  · show Steps p.tables e below (s₁.setTop (mkF m 0 #[.val (.long q1), .second, .val (.int p2)] [])) _
    refine XS.lloadN X0.here hx rfl (hb hby d3_0) rfl ?_
    show Steps p.tables e below (s₁.setTop (mkF m 1 #[.val (.long q1), .second, .val (.int p2)] [(.long q1)])) _
    refine XS.bipush X0.here hx rfl (hb hby d3_1) ?_
    show Steps p.tables e below (s₁.setTop (mkF m 3 #[.val (.long q1), .second, .val (.int p2)] [(.int (8 : Int32)), (.long q1)])) _
    refine XS.iloadN X0.here hx rfl (hb hby d3_3) rfl ?_
    show Steps p.tables e below (s₁.setTop (mkF m 4 #[.val (.long q1), .second, .val (.int p2)] [(.int p2), (.int (8 : Int32)), (.long q1)])) _
    refine XS.imul X0.here hx rfl (hb hby d3_4) rfl ?_
    show Steps p.tables e below (s₁.setTop (mkF m 5 #[.val (.long q1), .second, .val (.int p2)] [(.int ((8 : Int32) * p2)), (.long q1)])) _
    refine XS.lushr X0.here hx rfl (hb hby d3_5) rfl ?_
    show Steps p.tables e below (s₁.setTop (mkF m 6 #[.val (.long q1), .second, .val (.int p2)] [(.long ((q1.toUInt64 >>> (((8 : Int32) * p2) &&& 0x3f).toInt64.toUInt64).toInt64))])) _
    refine XS.l2i X0.here hx rfl (hb hby d3_6) rfl ?_
    show Steps p.tables e below (s₁.setTop (mkF m 7 #[.val (.long q1), .second, .val (.int p2)] [(.int (((q1.toUInt64 >>> (((8 : Int32) * p2) &&& 0x3f).toInt64.toUInt64).toInt64).toInt32))])) _
    refine XS.i2b X0.here hx rfl (hb hby d3_7) rfl ?_
    show Steps p.tables e below (s₁.setTop (mkF m 8 #[.val (.long q1), .second, .val (.int p2)] [(.int (own_at q1 p2))])) _
    exact retN X0 hx (t := .byte) Bd.returns (by simp) (hb hby d3_8) hr
  · show Q3 Z q1 p2 h0 n0 _ s₁.heap _
    rw [e0]
    exact ⟨by rw [own_nara], N0, rfl⟩
def Q1 (Z : State) (q1 : Int64) (p2 : Int32) (p3 : Int32) (a4 : Addr) (i n : Nat) (h0 : Heap) (n0 : Nat) (v : Option Value) (h : Heap) (L : List Loc) : Prop := v = some (.long (own_term q1 i n)) ∧ Fr n0 L ∧ h = h0
set_option maxRecDepth 65536 in
set_option maxHeartbeats 40000000 in
theorem rm1f (l : Launch) (Z : State) (a0 : Array Value) (hw : ∀ d ∈ tables_1, d.before a0 Z = true) (ws : List Jvm.Cond) (q1 : Int64) (p2 : Int32) (p3 : Int32) (a4 : Addr) (i n : Nat) (h0 : Heap) (n0 : Nat) (Z0 : n0 ≤ h0.size) (hn : n ≤ 8) (hi : i < 8) (ei : p2 = Int32.ofNat i) (en : p3 = Int32.ofNat n) (P : OwA Z h0 a4 .long 8 own_pv) (hlt : i < n) :
    MetFree l (⟨"com/example/uniform_data_access/uniformdataaccess/model/KeyIndexHashPinLaw", "term", "(JII[J)J"⟩ : MethodName) (head1 (Jvm.Cond.code (⟨"com/example/uniform_data_access/uniformdataaccess/model/KeyIndexHashPinLaw", "term", "(JII[J)J"⟩ : MethodName) method_3_code 5 (some .long) :: ws) ({ frames := 1, cells := 0, slots := 0, locals := 14 } : Room)) (fun a U => a = #[(.long q1), (.int p2), (.int p3), (.ref a4)] ∧ Z.Warmed39 U.vm ∧ U.heap = h0) (fun _ _ _ _ _ => True) (fun _ U o U' => ∃ v L, o = .returned v ∧ Q1 Z q1 p2 p3 a4 i n h0 n0 v U'.heap L ∧ FrameEnd U o U' L ({ frames := 1, cells := 0, slots := 0, locals := 14 } : Room).cells ({ frames := 1, cells := 0, slots := 0, locals := 14 } : Room).slots) := by
  refine MetFree.of_bodySF (plainFor_of_name pn_1) hisR ?_
  intro p e s m args below meth c s₁ Bd hml0 hP hK
  obtain ⟨rfl, hZ, hh⟩ := hP
  have hx := Bd.exec
  have hby := Bd.bytes
  have hml : c.maxLocals = 5 := hml0
  have hown : s.vm.findClass "com/example/uniform_data_access/uniformdataaccess/model/KeyIndexHashPinLaw" = some m.cls := findClass_of_methodNamed Bd.named
  have hnm := (name_of_methodNamed Bd.named Bd.method).1
  have X0 : Stand p l e ({ frames := 1, cells := 0, slots := 0, locals := 14 } : Room) s m #[(.long q1), (.int p2), (.int p3), (.ref a4)] below meth c s₁ [] 0 0 := Stand.of_body Bd
  have e0 : s₁.heap = h0 := by rw [← hh, Bd.state]; rfl
  have N0 := Fr.nil n0
  have pre0 : ∀ t, Steps p.tables e below (s₁.setTop (mkF m 0 #[.val (.long q1), .second, .val (.int p2), .val (.int p3), .val (.ref a4)] [])) t → Steps p.tables e below (s₁.setTop (entryFrame m #[(.long q1), (.int p2), (.int p3), (.ref a4)] 5)) t := fun t k => castTop (ef_1 m q1 p2 p3 a4) k
  obtain ⟨_, _, ⟨T5, L5, k5, n5⟩, -, X5, ⟨Lc5, hQ5, l5, y5, z5⟩, st5⟩ := Jvm.LawKit.callS X0 hx (y := (⟨"com/example/uniform_data_access/uniformdataaccess/model/KeyIndexHashPinLaw", "at", "(JI)B"⟩ : MethodName)) hown (mvT hZ (hw _ (List.mem_of_getElem? (i := 19) rfl))) (mvT hZ (hw _ (List.mem_of_getElem? (i := 20) rfl))) (mvT hZ (hw _ (List.mem_of_getElem? (i := 11) rfl))) (mvT hZ (hw _ (List.mem_of_getElem? (i := 21) rfl))) (by decide) (backOf (W := 0) (rm3 l Z a0 hw [] q1 p2 h0 n0 Z0) hZ (hw _ (List.mem_of_getElem? (i := 21) rfl)) (hw _ (List.mem_of_getElem? (i := 11) rfl)) (by decide) (by decide)) (g := (mkF m 7 #[.val (.long q1), .second, .val (.int p2), .val (.int p3), .val (.ref a4)] [(.int p2), (.long q1)])) rfl (by rw [hml]; rfl) (argsL := [(.long q1), (.int p2)]) (rest := []) (lenOf pd_1_2 rfl) rfl (by show 2 * 0 + _ ≤ _; exact Nat.le_of_eq rfl) (hb hby d1_7) (fun _ _ => ⟨rfl, e0, (by decide : 0 + 0 ≤ _), (by decide : 0 + 0 ≤ _)⟩)
  dsimp only [Pt.U, Pt.locs, Pt.cells, Pt.slots] at X5 l5 y5 z5 st5 hQ5
  subst l5 y5 z5
  obtain ⟨rfl, N5q, e5⟩ := hQ5
  have Z5 : n0 ≤ T5.heap.size := by rw [e5]; exact Z0
  have N5 := Fr.app N0 N5q
  obtain ⟨cl_a4, Ar_a4, S_a4, H_a4⟩ := owa_heap P e5
  have hix : ((p3 - (1 : Int32)) - p2) = Int32.ofNat (n - 1 - i) := by rw [ei, en]; exact own_idx hlt hn
  have hcl : (((p3 - (1 : Int32)) - p2)).toNatClampNeg = n - 1 - i := by rw [hix]; exact own_clamp (by omega)
  have hin18 : ¬ (((p3 - (1 : Int32)) - p2) < 0 ∨ cl_a4.slots.size ≤ (((p3 - (1 : Int32)) - p2)).toNatClampNeg) := owa_in S_a4 (by rw [hix]; exact own_pos (by omega)) (by rw [hcl]; omega)
  have hat18 : cl_a4.slots[(((p3 - (1 : Int32)) - p2)).toNatClampNeg]? = some (.long (own_p (n - 1 - i))) := by rw [hcl]; exact H_a4 _ (by omega)
  have hc2 : p2 < p3 := by rw [ei, en]; exact (own_ltn (by omega) (by omega)).mpr hlt
  obtain ⟨fs, hr, hrun, hended, hW, hsame⟩ := X5.leave (v := some (.long (((own_at q1 p2).toInt64) * (own_p (n - 1 - i))))) (fun h => by rw [Bd.returns] at h; cases h)
  refine ⟨_, _, pre0 _ ?_, hrun, hended, _, _, rfl, ?_, ⟨_, rfl⟩, hW, hsame.mono (by decide) (by decide)⟩
  · show Steps p.tables e below (s₁.setTop (mkF m 0 #[.val (.long q1), .second, .val (.int p2), .val (.int p3), .val (.ref a4)] [])) _
    refine XS.iloadN X0.here hx rfl (hb hby d1_0) rfl ?_
    show Steps p.tables e below (s₁.setTop (mkF m 1 #[.val (.long q1), .second, .val (.int p2), .val (.int p3), .val (.ref a4)] [(.int p2)])) _
    refine XS.iloadN X0.here hx rfl (hb hby d1_1) rfl ?_
    show Steps p.tables e below (s₁.setTop (mkF m 2 #[.val (.long q1), .second, .val (.int p2), .val (.int p3), .val (.ref a4)] [(.int p3), (.int p2)])) _
    refine XS.icmpNo X0.here hx rfl (hb hby d1_2) rfl (tlt hc2).2.1 ?_
    show Steps p.tables e below (s₁.setTop (mkF m 5 #[.val (.long q1), .second, .val (.int p2), .val (.int p3), .val (.ref a4)] [])) _
    refine XS.lloadN X0.here hx rfl (hb hby d1_5) rfl ?_
    show Steps p.tables e below (s₁.setTop (mkF m 6 #[.val (.long q1), .second, .val (.int p2), .val (.int p3), .val (.ref a4)] [(.long q1)])) _
    refine XS.iloadN X0.here hx rfl (hb hby d1_6) rfl ?_
    show Steps p.tables e below (s₁.setTop (mkF m 7 #[.val (.long q1), .second, .val (.int p2), .val (.int p3), .val (.ref a4)] [(.int p2), (.long q1)])) _
    refine st5 _ ?_
    show Steps p.tables e below (T5.setTop (mkF m 10 #[.val (.long q1), .second, .val (.int p2), .val (.int p3), .val (.ref a4)] [(.int (own_at q1 p2))])) _
    refine XS.i2l X5.here hx rfl (hb hby d1_10) rfl ?_
    show Steps p.tables e below (T5.setTop (mkF m 11 #[.val (.long q1), .second, .val (.int p2), .val (.int p3), .val (.ref a4)] [(.long ((own_at q1 p2).toInt64))])) _
    refine XS.aload X5.here hx rfl (hb hby d1_11) rfl rfl ?_
    show Steps p.tables e below (T5.setTop (mkF m 13 #[.val (.long q1), .second, .val (.int p2), .val (.int p3), .val (.ref a4)] [(.ref a4), (.long ((own_at q1 p2).toInt64))])) _
    refine XS.iloadN X5.here hx rfl (hb hby d1_13) rfl ?_
    show Steps p.tables e below (T5.setTop (mkF m 14 #[.val (.long q1), .second, .val (.int p2), .val (.int p3), .val (.ref a4)] [(.int p3), (.ref a4), (.long ((own_at q1 p2).toInt64))])) _
    refine XS.iconst X5.here hx rfl (hb hby d1_14) ?_
    show Steps p.tables e below (T5.setTop (mkF m 15 #[.val (.long q1), .second, .val (.int p2), .val (.int p3), .val (.ref a4)] [(.int (1 : Int32)), (.int p3), (.ref a4), (.long ((own_at q1 p2).toInt64))])) _
    refine XS.isub X5.here hx rfl (hb hby d1_15) rfl ?_
    show Steps p.tables e below (T5.setTop (mkF m 16 #[.val (.long q1), .second, .val (.int p2), .val (.int p3), .val (.ref a4)] [(.int (p3 - (1 : Int32))), (.ref a4), (.long ((own_at q1 p2).toInt64))])) _
    refine XS.iloadN X5.here hx rfl (hb hby d1_16) rfl ?_
    show Steps p.tables e below (T5.setTop (mkF m 17 #[.val (.long q1), .second, .val (.int p2), .val (.int p3), .val (.ref a4)] [(.int p2), (.int (p3 - (1 : Int32))), (.ref a4), (.long ((own_at q1 p2).toInt64))])) _
    refine XS.isub X5.here hx rfl (hb hby d1_17) rfl ?_
    show Steps p.tables e below (T5.setTop (mkF m 18 #[.val (.long q1), .second, .val (.int p2), .val (.int p3), .val (.ref a4)] [(.int ((p3 - (1 : Int32)) - p2)), (.ref a4), (.long ((own_at q1 p2).toInt64))])) _
    refine X5.laload hx (j := ((p3 - (1 : Int32)) - p2)) (v := (.long (own_p (n - 1 - i)))) Ar_a4.1 (State.isArrayOf_alike hZ.alike Ar_a4.2.1) Ar_a4.2.2 hin18 hat18 (g := (mkF m 18 #[.val (.long q1), .second, .val (.int p2), .val (.int p3), .val (.ref a4)] [(.int ((p3 - (1 : Int32)) - p2)), (.ref a4), (.long ((own_at q1 p2).toInt64))])) rfl rfl (hb hby d1_18) _ ?_
    show Steps p.tables e below (T5.setTop (mkF m 19 #[.val (.long q1), .second, .val (.int p2), .val (.int p3), .val (.ref a4)] [(.long (own_p (n - 1 - i))), (.long ((own_at q1 p2).toInt64))])) _
    refine XS.lmul X5.here hx rfl (hb hby d1_19) rfl ?_
    show Steps p.tables e below (T5.setTop (mkF m 20 #[.val (.long q1), .second, .val (.int p2), .val (.int p3), .val (.ref a4)] [(.long (((own_at q1 p2).toInt64) * (own_p (n - 1 - i))))])) _
    refine XS.goto X5.here hx rfl (pc0 := 20) (pc' := 24) rfl (hb hby d1_20) (by decide) (by decide) ?_
    show Steps p.tables e below (T5.setTop (mkF m 24 #[.val (.long q1), .second, .val (.int p2), .val (.int p3), .val (.ref a4)] [(.long (((own_at q1 p2).toInt64) * (own_p (n - 1 - i))))])) _
    jvm_step X5.here [X5.here.top, hx, (hb hby d1_24), X5.method', Bd.returns, narrow]
    first | (intro acts; rw [hr _ acts rfl rfl rfl]) | rw [hr _ _ rfl rfl rfl]
    exact Steps.refl _
  · show Q1 Z q1 p2 p3 a4 i n h0 n0 _ T5.heap _
    exact ⟨by rw [own_term, if_pos hlt, ei], N5, e5⟩
set_option maxRecDepth 65536 in
set_option maxHeartbeats 40000000 in
theorem rm1t (l : Launch) (Z : State) (a0 : Array Value) (hw : ∀ d ∈ tables_1, d.before a0 Z = true) (ws : List Jvm.Cond) (q1 : Int64) (p2 : Int32) (p3 : Int32) (a4 : Addr) (i n : Nat) (h0 : Heap) (n0 : Nat) (Z0 : n0 ≤ h0.size) (hn : n ≤ 8) (hi : i < 8) (ei : p2 = Int32.ofNat i) (en : p3 = Int32.ofNat n) (P : OwA Z h0 a4 .long 8 own_pv) (hlt : ¬ i < n) :
    MetFree l (⟨"com/example/uniform_data_access/uniformdataaccess/model/KeyIndexHashPinLaw", "term", "(JII[J)J"⟩ : MethodName) (head1 (Jvm.Cond.code (⟨"com/example/uniform_data_access/uniformdataaccess/model/KeyIndexHashPinLaw", "term", "(JII[J)J"⟩ : MethodName) method_3_code 5 (some .long) :: ws) ({ frames := 1, cells := 0, slots := 0, locals := 14 } : Room)) (fun a U => a = #[(.long q1), (.int p2), (.int p3), (.ref a4)] ∧ Z.Warmed39 U.vm ∧ U.heap = h0) (fun _ _ _ _ _ => True) (fun _ U o U' => ∃ v L, o = .returned v ∧ Q1 Z q1 p2 p3 a4 i n h0 n0 v U'.heap L ∧ FrameEnd U o U' L ({ frames := 1, cells := 0, slots := 0, locals := 14 } : Room).cells ({ frames := 1, cells := 0, slots := 0, locals := 14 } : Room).slots) := by
  refine MetFree.of_bodySF (plainFor_of_name pn_1) hisR ?_
  intro p e s m args below meth c s₁ Bd hml0 hP hK
  obtain ⟨rfl, hZ, hh⟩ := hP
  have hx := Bd.exec
  have hby := Bd.bytes
  have hml : c.maxLocals = 5 := hml0
  have hown : s.vm.findClass "com/example/uniform_data_access/uniformdataaccess/model/KeyIndexHashPinLaw" = some m.cls := findClass_of_methodNamed Bd.named
  have hnm := (name_of_methodNamed Bd.named Bd.method).1
  have X0 : Stand p l e ({ frames := 1, cells := 0, slots := 0, locals := 14 } : Room) s m #[(.long q1), (.int p2), (.int p3), (.ref a4)] below meth c s₁ [] 0 0 := Stand.of_body Bd
  have e0 : s₁.heap = h0 := by rw [← hh, Bd.state]; rfl
  have N0 := Fr.nil n0
  have pre0 : ∀ t, Steps p.tables e below (s₁.setTop (mkF m 0 #[.val (.long q1), .second, .val (.int p2), .val (.int p3), .val (.ref a4)] [])) t → Steps p.tables e below (s₁.setTop (entryFrame m #[(.long q1), (.int p2), (.int p3), (.ref a4)] 5)) t := fun t k => castTop (ef_1 m q1 p2 p3 a4) k
  have hc2 : ¬ (p2 < p3) := by rw [ei, en]; exact fun q => hlt ((own_ltn (by omega) (by omega)).mp q)
  obtain ⟨fs, hr, hrun, hended, hW, hsame⟩ := X0.leave (v := some (.long (0 : Int64))) (fun h => by rw [Bd.returns] at h; cases h)
  refine ⟨_, _, pre0 _ ?_, hrun, hended, _, _, rfl, ?_, ⟨_, rfl⟩, hW, hsame.mono (by decide) (by decide)⟩
  · show Steps p.tables e below (s₁.setTop (mkF m 0 #[.val (.long q1), .second, .val (.int p2), .val (.int p3), .val (.ref a4)] [])) _
    refine XS.iloadN X0.here hx rfl (hb hby d1_0) rfl ?_
    show Steps p.tables e below (s₁.setTop (mkF m 1 #[.val (.long q1), .second, .val (.int p2), .val (.int p3), .val (.ref a4)] [(.int p2)])) _
    refine XS.iloadN X0.here hx rfl (hb hby d1_1) rfl ?_
    show Steps p.tables e below (s₁.setTop (mkF m 2 #[.val (.long q1), .second, .val (.int p2), .val (.int p3), .val (.ref a4)] [(.int p3), (.int p2)])) _
    refine XS.icmpYes X0.here hx rfl (pc0 := 2) (pc' := 23) rfl (hb hby d1_2) rfl (flt hc2).2.1 (by decide) (by decide) ?_
    show Steps p.tables e below (s₁.setTop (mkF m 23 #[.val (.long q1), .second, .val (.int p2), .val (.int p3), .val (.ref a4)] [])) _
    refine XS.lconst X0.here hx rfl (hb hby d1_23) ?_
    show Steps p.tables e below (s₁.setTop (mkF m 24 #[.val (.long q1), .second, .val (.int p2), .val (.int p3), .val (.ref a4)] [(.long (0 : Int64))])) _
    jvm_step X0.here [X0.here.top, hx, (hb hby d1_24), X0.method', Bd.returns, narrow]
    first | (intro acts; rw [hr _ acts rfl rfl rfl]) | rw [hr _ _ rfl rfl rfl]
    exact Steps.refl _
  · show Q1 Z q1 p2 p3 a4 i n h0 n0 _ s₁.heap _
    rw [e0]
    exact ⟨by rw [own_term, if_neg hlt], N0, rfl⟩
set_option maxRecDepth 65536 in
set_option maxHeartbeats 40000000 in
theorem rm1 (l : Launch) (Z : State) (a0 : Array Value) (hw : ∀ d ∈ tables_1, d.before a0 Z = true) (ws : List Jvm.Cond) (q1 : Int64) (p2 : Int32) (p3 : Int32) (a4 : Addr) (i n : Nat) (h0 : Heap) (n0 : Nat) (Z0 : n0 ≤ h0.size) (hn : n ≤ 8) (hi : i < 8) (ei : p2 = Int32.ofNat i) (en : p3 = Int32.ofNat n) (P : OwA Z h0 a4 .long 8 own_pv) :
    MetFree l (⟨"com/example/uniform_data_access/uniformdataaccess/model/KeyIndexHashPinLaw", "term", "(JII[J)J"⟩ : MethodName) (head1 (Jvm.Cond.code (⟨"com/example/uniform_data_access/uniformdataaccess/model/KeyIndexHashPinLaw", "term", "(JII[J)J"⟩ : MethodName) method_3_code 5 (some .long) :: ws) ({ frames := 1, cells := 0, slots := 0, locals := 14 } : Room)) (fun a U => a = #[(.long q1), (.int p2), (.int p3), (.ref a4)] ∧ Z.Warmed39 U.vm ∧ U.heap = h0) (fun _ _ _ _ _ => True) (fun _ U o U' => ∃ v L, o = .returned v ∧ Q1 Z q1 p2 p3 a4 i n h0 n0 v U'.heap L ∧ FrameEnd U o U' L ({ frames := 1, cells := 0, slots := 0, locals := 14 } : Room).cells ({ frames := 1, cells := 0, slots := 0, locals := 14 } : Room).slots) := by
  by_cases hlt : i < n
  · exact rm1f l Z a0 hw ws q1 p2 p3 a4 i n h0 n0 Z0 hn hi ei en P hlt
  · exact rm1t l Z a0 hw ws q1 p2 p3 a4 i n h0 n0 Z0 hn hi ei en P hlt
set_option maxRecDepth 65536 in
set_option maxHeartbeats 40000000 in
theorem tn2_10_10 {p : Program} {l : Launch} {e : Env} {R : Room} {s : State} {m : MethodId} {args : Array Value} {below : List Frame} {meth : Method} {c : Code} {T0 : State} {locs : List Loc} {cells slots : Nat} {Z : State} {a0 : Array Value} {h0 : Heap} (s0 : Slot) (i1 : Int32) (o2 : Addr) (i3 : Int32) (i4 : Int32) (s5 : Slot) (w2 : Int32) (cl_o2 : Cell)
    (X0 : Stand p l e R s m args below meth c T0 locs cells slots) (hx : p.tables.exec = Jvm.exec) (hZ : Z.Warmed39 s.vm) (hw : ∀ d ∈ tables_1, d.before a0 Z = true) (hby : c.code = prog_60_method_6_code) (hml : c.maxLocals = 6) (hown : s.vm.findClass "com/example/uniform_data_access/uniformdataaccess/model/KeyIndex" = some m.cls) (e0 : T0.heap = h0) (Ar_o2 : Arr Z h0 o2 cl_o2 .byte) (hin19 : ¬ (i4 < 0 ∨ cl_o2.slots.size ≤ (i4).toNatClampNeg)) (hat19 : cl_o2.slots[(i4).toNatClampNeg]? = some (.int w2)) (hs5 : One s5) (hc13 : i4 < i3) :
    ∃ (T' : State), Stand p l e R s m args below meth c T' locs cells slots ∧ T'.heap = h0 ∧
      ∀ target, Steps p.tables e below (T'.setTop (mkF m 10 #[s0, .val (.int (((31 : Int32) * i1) + w2)), .val (.ref o2), .val (.int i3), .val (.int (i4 + (1 : Int32))), .val (.int w2)] [])) target → Steps p.tables e below (T0.setTop (mkF m 10 #[s0, .val (.int i1), .val (.ref o2), .val (.int i3), .val (.int i4), s5] [])) target := by
  refine ⟨T0, X0, e0, fun target kt => ?_⟩
  show Steps p.tables e below (T0.setTop (mkF m 10 #[s0, .val (.int i1), .val (.ref o2), .val (.int i3), .val (.int i4), s5] [])) _
  refine XS.iload X0.here hx rfl (hb hby d2_10) rfl ?_
  show Steps p.tables e below (T0.setTop (mkF m 12 #[s0, .val (.int i1), .val (.ref o2), .val (.int i3), .val (.int i4), s5] [(.int i4)])) _
  refine XS.iloadN X0.here hx rfl (hb hby d2_12) rfl ?_
  show Steps p.tables e below (T0.setTop (mkF m 13 #[s0, .val (.int i1), .val (.ref o2), .val (.int i3), .val (.int i4), s5] [(.int i3), (.int i4)])) _
  refine XS.icmpNo X0.here hx rfl (hb hby d2_13) rfl (tlt hc13).2.1 ?_
  show Steps p.tables e below (T0.setTop (mkF m 16 #[s0, .val (.int i1), .val (.ref o2), .val (.int i3), .val (.int i4), s5] [])) _
  refine XS.aloadN X0.here hx rfl (hb hby d2_16) rfl rfl ?_
  show Steps p.tables e below (T0.setTop (mkF m 17 #[s0, .val (.int i1), .val (.ref o2), .val (.int i3), .val (.int i4), s5] [(.ref o2)])) _
  refine XS.iload X0.here hx rfl (hb hby d2_17) rfl ?_
  show Steps p.tables e below (T0.setTop (mkF m 19 #[s0, .val (.int i1), .val (.ref o2), .val (.int i3), .val (.int i4), s5] [(.int i4), (.ref o2)])) _
  refine X0.baloadBytes hx (j := i4) (v := (.int w2)) (by rw [e0]; exact Ar_o2.1) (State.isArrayOf_alike hZ.alike Ar_o2.2.1) Ar_o2.2.2 hin19 hat19 (g := (mkF m 19 #[s0, .val (.int i1), .val (.ref o2), .val (.int i3), .val (.int i4), s5] [(.int i4), (.ref o2)])) rfl rfl (hb hby d2_19) _ ?_
  show Steps p.tables e below (T0.setTop (mkF m 20 #[s0, .val (.int i1), .val (.ref o2), .val (.int i3), .val (.int i4), s5] [(.int w2)])) _
  refine XS.istore X0.here hx rfl (hb hby d2_20) rfl (l' := #[s0, .val (.int i1), .val (.ref o2), .val (.int i3), .val (.int i4), .val (.int w2)]) (os2_20 hs5) ?_
  show Steps p.tables e below (T0.setTop (mkF m 22 #[s0, .val (.int i1), .val (.ref o2), .val (.int i3), .val (.int i4), .val (.int w2)] [])) _
  refine XS.bipush X0.here hx rfl (hb hby d2_22) ?_
  show Steps p.tables e below (T0.setTop (mkF m 24 #[s0, .val (.int i1), .val (.ref o2), .val (.int i3), .val (.int i4), .val (.int w2)] [(.int (31 : Int32))])) _
  refine XS.iloadN X0.here hx rfl (hb hby d2_24) rfl ?_
  show Steps p.tables e below (T0.setTop (mkF m 25 #[s0, .val (.int i1), .val (.ref o2), .val (.int i3), .val (.int i4), .val (.int w2)] [(.int i1), (.int (31 : Int32))])) _
  refine XS.imul X0.here hx rfl (hb hby d2_25) rfl ?_
  show Steps p.tables e below (T0.setTop (mkF m 26 #[s0, .val (.int i1), .val (.ref o2), .val (.int i3), .val (.int i4), .val (.int w2)] [(.int ((31 : Int32) * i1))])) _
  refine XS.iload X0.here hx rfl (hb hby d2_26) rfl ?_
  show Steps p.tables e below (T0.setTop (mkF m 28 #[s0, .val (.int i1), .val (.ref o2), .val (.int i3), .val (.int i4), .val (.int w2)] [(.int w2), (.int ((31 : Int32) * i1))])) _
  refine XS.iadd X0.here hx rfl (hb hby d2_28) rfl ?_
  show Steps p.tables e below (T0.setTop (mkF m 29 #[s0, .val (.int i1), .val (.ref o2), .val (.int i3), .val (.int i4), .val (.int w2)] [(.int (((31 : Int32) * i1) + w2))])) _
  refine XS.istoreN X0.here hx rfl (hb hby d2_29) rfl (l' := #[s0, .val (.int (((31 : Int32) * i1) + w2)), .val (.ref o2), .val (.int i3), .val (.int i4), .val (.int w2)]) rfl ?_
  show Steps p.tables e below (T0.setTop (mkF m 30 #[s0, .val (.int (((31 : Int32) * i1) + w2)), .val (.ref o2), .val (.int i3), .val (.int i4), .val (.int w2)] [])) _
  refine XS.iinc X0.here hx rfl (hb hby d2_30) rfl (l' := #[s0, .val (.int (((31 : Int32) * i1) + w2)), .val (.ref o2), .val (.int i3), .val (.int (i4 + (1 : Int32))), .val (.int w2)]) rfl ?_
  show Steps p.tables e below (T0.setTop (mkF m 33 #[s0, .val (.int (((31 : Int32) * i1) + w2)), .val (.ref o2), .val (.int i3), .val (.int (i4 + (1 : Int32))), .val (.int w2)] [])) _
  refine XS.goto X0.here hx rfl (pc0 := 33) (pc' := 10) rfl (hb hby d2_33) (by decide) (by decide) ?_
  exact kt
set_option maxRecDepth 65536 in
set_option maxHeartbeats 40000000 in
theorem tn2_10_36 {p : Program} {l : Launch} {e : Env} {R : Room} {s : State} {m : MethodId} {args : Array Value} {below : List Frame} {meth : Method} {c : Code} {T0 : State} {locs : List Loc} {cells slots : Nat} {Z : State} {a0 : Array Value} {h0 : Heap} (s0 : Slot) (s1 : Slot) (s2 : Slot) (i3 : Int32) (i4 : Int32) (s5 : Slot)
    (X0 : Stand p l e R s m args below meth c T0 locs cells slots) (hx : p.tables.exec = Jvm.exec) (hZ : Z.Warmed39 s.vm) (hw : ∀ d ∈ tables_1, d.before a0 Z = true) (hby : c.code = prog_60_method_6_code) (hml : c.maxLocals = 6) (hown : s.vm.findClass "com/example/uniform_data_access/uniformdataaccess/model/KeyIndex" = some m.cls) (e0 : T0.heap = h0) (hc13 : ¬ (i4 < i3)) :
    ∃ (T' : State), Stand p l e R s m args below meth c T' locs cells slots ∧ T'.heap = h0 ∧
      ∀ target, Steps p.tables e below (T'.setTop (mkF m 36 #[s0, s1, s2, .val (.int i3), .val (.int i4), s5] [])) target → Steps p.tables e below (T0.setTop (mkF m 10 #[s0, s1, s2, .val (.int i3), .val (.int i4), s5] [])) target := by
  refine ⟨T0, X0, e0, fun target kt => ?_⟩
  show Steps p.tables e below (T0.setTop (mkF m 10 #[s0, s1, s2, .val (.int i3), .val (.int i4), s5] [])) _
  refine XS.iload X0.here hx rfl (hb hby d2_10) rfl ?_
  show Steps p.tables e below (T0.setTop (mkF m 12 #[s0, s1, s2, .val (.int i3), .val (.int i4), s5] [(.int i4)])) _
  refine XS.iloadN X0.here hx rfl (hb hby d2_12) rfl ?_
  show Steps p.tables e below (T0.setTop (mkF m 13 #[s0, s1, s2, .val (.int i3), .val (.int i4), s5] [(.int i3), (.int i4)])) _
  refine XS.icmpYes X0.here hx rfl (pc0 := 13) (pc' := 36) rfl (hb hby d2_13) rfl (flt hc13).2.1 (by decide) (by decide) ?_
  exact kt

theorem loop2 {p : Program} {l : Launch} {e : Env} {R : Room} {s : State} {m : MethodId} {args : Array Value} {below : List Frame} {meth : Method} {c : Code} {locs : List Loc} {cells slots : Nat} {Z : State} {a0 : Array Value} {h0 : Heap} (s0 : Slot) (o2 : Addr) (cl : Cell) (n : Nat) (hn : n ≤ 8) (g : Nat → Int32) (hx : p.tables.exec = Jvm.exec) (hZ : Z.Warmed39 s.vm) (hw : ∀ d ∈ tables_1, d.before a0 Z = true) (hby : c.code = prog_60_method_6_code) (hml : c.maxLocals = 6) (hown : s.vm.findClass "com/example/uniform_data_access/uniformdataaccess/model/KeyIndex" = some m.cls) (Ar : Arr Z h0 o2 cl .byte) (S : cl.slots.size = n) (H : ∀ j, j < n → cl.slots[j]? = some (.int (g j))) :
    ∀ (k i : Nat) (s5 : Slot) (T0 : State), i + k = n → One s5 → Stand p l e R s m args below meth c T0 locs cells slots → T0.heap = h0 →
      ∃ (T' : State) (s5' : Slot), Stand p l e R s m args below meth c T' locs cells slots ∧ T'.heap = h0 ∧
        ∀ target, Steps p.tables e below (T'.setTop (mkF m 36 #[s0, .val (.int (own_hor g n)), .val (.ref o2), .val (.int (Int32.ofNat n)), .val (.int (Int32.ofNat n)), s5'] [])) target → Steps p.tables e below (T0.setTop (mkF m 10 #[s0, .val (.int (own_hor g i)), .val (.ref o2), .val (.int (Int32.ofNat n)), .val (.int (Int32.ofNat i)), s5] [])) target := by
  intro k
  induction k with
  | zero =>
    intro i s5 T0 hi h5 X0 e0
    have hi' : i = n := by omega
    rw [hi']
    obtain ⟨T1, X1, e1, st1⟩ := tn2_10_36 s0 (.val (.int (own_hor g n))) (.val (.ref o2)) (Int32.ofNat n) (Int32.ofNat n) s5 X0 hx hZ hw hby hml hown e0 Int32.lt_irrefl
    exact ⟨T1, s5, X1, e1, st1⟩
  | succ k ih =>
    intro i s5 T0 hi h5 X0 e0
    have hcl : (Int32.ofNat i).toNatClampNeg = i := own_clamp (by omega)
    obtain ⟨T1, X1, e1, st1⟩ := tn2_10_10 s0 (own_hor g i) o2 (Int32.ofNat n) (Int32.ofNat i) s5 (g i) cl X0 hx hZ hw hby hml hown e0 Ar (owa_in S (own_pos (by omega)) (by rw [hcl]; omega)) (by rw [hcl]; exact H i (by omega)) h5 ((own_ltn (by omega) (by omega)).mpr (by omega))
    obtain ⟨T', s5', X', e', st⟩ := ih (i + 1) (.val (.int (g i))) T1 (by omega) (One.val rfl) X1 e1
    refine ⟨T', s5', X', e', fun target h => st1 target ?_⟩
    rw [own_up1]
    exact st target h

def Q2 (Z : State) (a1 : Addr) (n : Nat) (g : Nat → Int32) (h0 : Heap) (n0 : Nat) (v : Option Value) (h : Heap) (L : List Loc) : Prop := v = some (.int (own_hor g n * (-1640531527 : Int32))) ∧ Fr n0 L ∧ h = h0
set_option maxRecDepth 65536 in
set_option maxHeartbeats 40000000 in
theorem rm2 (l : Launch) (Z : State) (a0 : Array Value) (hw : ∀ d ∈ tables_1, d.before a0 Z = true) (ws : List Jvm.Cond) (a1 : Addr) (n : Nat) (g : Nat → Int32) (h0 : Heap) (n0 : Nat) (Z0 : n0 ≤ h0.size) (hn : n ≤ 8) (B : OwA Z h0 a1 .byte n (fun j => .int (g j))) :
    MetFree l (⟨"com/example/uniform_data_access/uniformdataaccess/model/KeyIndex", "hash", "([B)I"⟩ : MethodName) (head1 (Jvm.Cond.code (⟨"com/example/uniform_data_access/uniformdataaccess/model/KeyIndex", "hash", "([B)I"⟩ : MethodName) prog_60_method_6_code 6 (some .int) :: ws) ({ frames := 0, cells := 0, slots := 0, locals := 0 } : Room)) (fun a U => a = #[(.ref a1)] ∧ Z.Warmed39 U.vm ∧ U.heap = h0) (fun _ _ _ _ _ => True) (fun _ U o U' => ∃ v L, o = .returned v ∧ Q2 Z a1 n g h0 n0 v U'.heap L ∧ FrameEnd U o U' L ({ frames := 0, cells := 0, slots := 0, locals := 0 } : Room).cells ({ frames := 0, cells := 0, slots := 0, locals := 0 } : Room).slots) := by
  refine MetFree.of_bodySF (plainFor_of_name pn_2) hisR ?_
  intro p e s m args below meth c s₁ Bd hml0 hP hK
  obtain ⟨rfl, hZ, hh⟩ := hP
  have hx := Bd.exec
  have hby := Bd.bytes
  have hml : c.maxLocals = 6 := hml0
  have hown : s.vm.findClass "com/example/uniform_data_access/uniformdataaccess/model/KeyIndex" = some m.cls := findClass_of_methodNamed Bd.named
  have hnm := (name_of_methodNamed Bd.named Bd.method).1
  have X0 : Stand p l e ({ frames := 0, cells := 0, slots := 0, locals := 0 } : Room) s m #[(.ref a1)] below meth c s₁ [] 0 0 := Stand.of_body Bd
  have e0 : s₁.heap = h0 := by rw [← hh, Bd.state]; rfl
  have N0 := Fr.nil n0
  have pre0 : ∀ t, Steps p.tables e below (s₁.setTop (mkF m 0 #[.val (.ref a1), .unset, .unset, .unset, .unset, .unset] [])) t → Steps p.tables e below (s₁.setTop (entryFrame m #[(.ref a1)] 6)) t := fun t k => castTop (ef_2 m a1) k
  obtain ⟨cl_a1, Ar_a1, S_a1, H_a1⟩ := B
  have hS : cl_a1.slots.size = (Int32.ofNat n).toNatClampNeg := by rw [own_clamp (by omega)]; exact S_a1
  have hN : ¬ Int32.ofNat n < 0 := own_pos (by omega)
  obtain ⟨T1, s1', X1, e1, st1⟩ := loop2 (.val (.ref a1)) a1 cl_a1 n hn g hx hZ hw hby hml hown Ar_a1 S_a1 H_a1 n 0 .unset s₁ (by omega) One.u X0 e0
  obtain ⟨fs, hr, hrun, hended, hW, hsame⟩ := X1.leave (v := some (.int (own_hor g n * (-1640531527 : Int32)))) (fun h => by rw [Bd.returns] at h; cases h)
  refine ⟨_, _, pre0 _ ?_, hrun, hended, _, _, rfl, ?_, ⟨_, rfl⟩, hW, hsame.mono (by decide) (by decide)⟩
  · show Steps p.tables e below (s₁.setTop (mkF m 0 #[.val (.ref a1), .unset, .unset, .unset, .unset, .unset] [])) _
    refine XS.iconst X0.here hx rfl (hb hby d2_0) ?_
    show Steps p.tables e below (s₁.setTop (mkF m 1 #[.val (.ref a1), .unset, .unset, .unset, .unset, .unset] [(.int (0 : Int32))])) _
    refine XS.istoreN X0.here hx rfl (hb hby d2_1) rfl (l' := #[.val (.ref a1), .val (.int (0 : Int32)), .unset, .unset, .unset, .unset]) rfl ?_
    show Steps p.tables e below (s₁.setTop (mkF m 2 #[.val (.ref a1), .val (.int (0 : Int32)), .unset, .unset, .unset, .unset] [])) _
    refine XS.aloadN X0.here hx rfl (hb hby d2_2) rfl rfl ?_
    show Steps p.tables e below (s₁.setTop (mkF m 3 #[.val (.ref a1), .val (.int (0 : Int32)), .unset, .unset, .unset, .unset] [(.ref a1)])) _
    refine XS.astoreN X0.here hx rfl (hb hby d2_3) rfl rfl (l' := #[.val (.ref a1), .val (.int (0 : Int32)), .val (.ref a1), .unset, .unset, .unset]) rfl ?_
    show Steps p.tables e below (s₁.setTop (mkF m 4 #[.val (.ref a1), .val (.int (0 : Int32)), .val (.ref a1), .unset, .unset, .unset] [])) _
    refine XS.aloadN X0.here hx rfl (hb hby d2_4) rfl rfl ?_
    show Steps p.tables e below (s₁.setTop (mkF m 5 #[.val (.ref a1), .val (.int (0 : Int32)), .val (.ref a1), .unset, .unset, .unset] [(.ref a1)])) _
    refine X0.arraylength hx (by rw [e0]; exact Ar_a1.1) (State.isArrayOf_alike hZ.alike Ar_a1.2.1) (g := (mkF m 5 #[.val (.ref a1), .val (.int (0 : Int32)), .val (.ref a1), .unset, .unset, .unset] [(.ref a1)])) rfl rfl (hb hby d2_5) _ ?_
    rw [len_of hS hN]
    show Steps p.tables e below (s₁.setTop (mkF m 6 #[.val (.ref a1), .val (.int (0 : Int32)), .val (.ref a1), .unset, .unset, .unset] [(.int (Int32.ofNat n))])) _
    refine XS.istoreN X0.here hx rfl (hb hby d2_6) rfl (l' := #[.val (.ref a1), .val (.int (0 : Int32)), .val (.ref a1), .val (.int (Int32.ofNat n)), .unset, .unset]) rfl ?_
    show Steps p.tables e below (s₁.setTop (mkF m 7 #[.val (.ref a1), .val (.int (0 : Int32)), .val (.ref a1), .val (.int (Int32.ofNat n)), .unset, .unset] [])) _
    refine XS.iconst X0.here hx rfl (hb hby d2_7) ?_
    show Steps p.tables e below (s₁.setTop (mkF m 8 #[.val (.ref a1), .val (.int (0 : Int32)), .val (.ref a1), .val (.int (Int32.ofNat n)), .unset, .unset] [(.int (0 : Int32))])) _
    refine XS.istore X0.here hx rfl (hb hby d2_8) rfl (l' := #[.val (.ref a1), .val (.int (0 : Int32)), .val (.ref a1), .val (.int (Int32.ofNat n)), .val (.int (0 : Int32)), .unset]) rfl ?_
    show Steps p.tables e below (s₁.setTop (mkF m 10 #[.val (.ref a1), .val (.int (0 : Int32)), .val (.ref a1), .val (.int (Int32.ofNat n)), .val (.int (0 : Int32)), .unset] [])) _
    refine st1 _ ?_
    show Steps p.tables e below (T1.setTop (mkF m 36 #[.val (.ref a1), .val (.int (own_hor g n)), .val (.ref a1), .val (.int (Int32.ofNat n)), .val (.int (Int32.ofNat n)), s1'] [])) _
    refine XS.iloadN X1.here hx rfl (hb hby d2_36) rfl ?_
    show Steps p.tables e below (T1.setTop (mkF m 37 #[.val (.ref a1), .val (.int (own_hor g n)), .val (.ref a1), .val (.int (Int32.ofNat n)), .val (.int (Int32.ofNat n)), s1'] [(.int (own_hor g n))])) _
    refine X1.ldcInt hx hown (mvT hZ (hw _ (List.mem_of_getElem? (i := 18) rfl))) (g := (mkF m 37 #[.val (.ref a1), .val (.int (own_hor g n)), .val (.ref a1), .val (.int (Int32.ofNat n)), .val (.int (Int32.ofNat n)), s1'] [(.int (own_hor g n))])) rfl (hb hby d2_37) _ ?_
    show Steps p.tables e below (T1.setTop (mkF m 39 #[.val (.ref a1), .val (.int (own_hor g n)), .val (.ref a1), .val (.int (Int32.ofNat n)), .val (.int (Int32.ofNat n)), s1'] [(.int (-1640531527 : Int32)), (.int (own_hor g n))])) _
    refine XS.imul X1.here hx rfl (hb hby d2_39) rfl ?_
    show Steps p.tables e below (T1.setTop (mkF m 40 #[.val (.ref a1), .val (.int (own_hor g n)), .val (.ref a1), .val (.int (Int32.ofNat n)), .val (.int (Int32.ofNat n)), s1'] [(.int ((own_hor g n) * (-1640531527 : Int32)))])) _
    exact retI X1 hx Bd.returns (hb hby d2_40) hr
  · show Q2 Z a1 n g h0 n0 _ T1.heap _
    rw [e1]
    exact ⟨rfl, N0, rfl⟩
set_option maxRecDepth 65536 in
set_option maxHeartbeats 40000000 in
theorem blk0f {p : Program} {l : Launch} {e : Env} {s : State} {m : MethodId} {args : Array Value} {below : List Frame} {meth : Method} {c : Code} {T0 : State} {locs : List Loc} {Z : State} {a0 : Array Value} {h0 : Heap} (s0 : Slot) (j1 : Int64) (n : Nat) (hn : n ≤ 8) (o4 o5 : Addr) (s6 s7 s8 s9 : Slot) (n0 : Nat)
    (X0 : Stand p l e room_1 s m args below meth c T0 locs 2 16) (hx : p.tables.exec = Jvm.exec) (hZ : Z.Warmed39 s.vm) (hw : ∀ d ∈ tables_1, d.before a0 Z = true) (hby : c.code = code) (hml : c.maxLocals = 10) (hown : s.vm.findClass "com/example/uniform_data_access/uniformdataaccess/model/KeyIndexHashPinLaw" = some m.cls) (e0 : T0.heap = h0) (N0 : Fr n0 locs) (Z0 : n0 ≤ h0.size) (g_o5 : n0 ≤ o5) (hne : o4 ≠ o5) (P : OwA Z h0 o4 .long 8 own_pv) (B : OwA Z h0 o5 .byte n (own_f j1 0)) (hlt : 0 < n) :
    ∃ (T' : State) (h' : Heap) (locs' : List Loc), Stand p l e room_1 s m args below meth c T' locs' 2 16 ∧ T'.heap = h' ∧ Fr n0 locs' ∧ n0 ≤ h'.size ∧ OwA Z h' o4 .long 8 own_pv ∧ OwA Z h' o5 .byte n (own_f j1 1) ∧
      ∀ target, Steps p.tables e below (T'.setTop (mkF m 80 #[s0, .val (.long j1), .second, .val (.int (Int32.ofNat n)), .val (.ref o4), .val (.ref o5), s6, s7, s8, s9] [])) target → Steps p.tables e below (T0.setTop (mkF m 67 #[s0, .val (.long j1), .second, .val (.int (Int32.ofNat n)), .val (.ref o4), .val (.ref o5), s6, s7, s8, s9] [])) target := by
  have hc68 : (0 : Int32) < Int32.ofNat n := (own_ltn (i := 0) (by omega) (by omega)).mpr hlt
  obtain ⟨_, _, ⟨T3, L3, k3, n3⟩, -, X3, ⟨Lc3, hQ3, l3, y3, z3⟩, st3⟩ := Jvm.LawKit.callS X0 hx (y := (⟨"com/example/uniform_data_access/uniformdataaccess/model/KeyIndexHashPinLaw", "at", "(JI)B"⟩ : MethodName)) hown (mvT hZ (hw _ (List.mem_of_getElem? (i := 19) rfl))) (mvT hZ (hw _ (List.mem_of_getElem? (i := 20) rfl))) (mvT hZ (hw _ (List.mem_of_getElem? (i := 11) rfl))) (mvT hZ (hw _ (List.mem_of_getElem? (i := 21) rfl))) (by decide) (backOf (W := 2) (rm3 l Z a0 hw [] j1 (0 : Int32) h0 n0 Z0) hZ (hw _ (List.mem_of_getElem? (i := 21) rfl)) (hw _ (List.mem_of_getElem? (i := 11) rfl)) (by decide) (by decide)) (g := (mkF m 76 #[s0, .val (.long j1), .second, .val (.int (Int32.ofNat n)), .val (.ref o4), .val (.ref o5), s6, s7, s8, s9] [(.int (0 : Int32)), (.long j1), (.int (0 : Int32)), (.ref o5)])) rfl (by rw [hml]; rfl) (argsL := [(.long j1), (.int (0 : Int32))]) (rest := [(.int (0 : Int32)), (.ref o5)]) (lenOf pd_0_2 rfl) rfl (by show 2 * 0 + _ ≤ _; exact Nat.le_of_eq rfl) (hb hby at_76) (fun _ _ => ⟨rfl, e0, (by decide : 2 + 0 ≤ _), (by decide : 16 + 0 ≤ _)⟩)
  dsimp only [Pt.U, Pt.locs, Pt.cells, Pt.slots] at X3 l3 y3 z3 st3 hQ3
  subst l3 y3 z3
  obtain ⟨rfl, N3q, e3⟩ := hQ3
  have Z3 : n0 ≤ T3.heap.size := by rw [e3]; exact Z0
  have N3 := Fr.app N0 N3q
  have P3 := owa_heap P e3
  have B3 := owa_heap B e3
  obtain ⟨cl_o5, Ar_o5, S_o5, H_o5⟩ := B3
  have hin79 : ¬ ((0 : Int32) < 0 ∨ cl_o5.slots.size ≤ ((0 : Int32)).toNatClampNeg) := owa_in S_o5 (by decide) (by show 0 < n; exact hlt)
  obtain ⟨T4, h4, X4, e4, W4, st4⟩ := stB X3 hx hZ rfl Ar_o5 (j := (0 : Int32)) hin79 (g := (mkF m 79 #[s0, .val (.long j1), .second, .val (.int (Int32.ofNat n)), .val (.ref o4), .val (.ref o5), s6, s7, s8, s9] [(.int (own_at j1 (0 : Int32))), (.int (0 : Int32)), (.ref o5)])) rfl rfl (hb hby at_79)
  have N4 := Fr.snoc X4 N3 g_o5
  have B4 : OwA Z h4 o5 .byte n (own_f j1 1) := by
    have q := owa_set (owa_heap B e3) W4
    rw [own_nara] at q
    exact owa_congr q (fun j hj => own_fset j1 0 j)
  refine ⟨T4, h4, _, X4, e4, N4, Nat.le_trans Z3 (Keep.of_wr W4).1, owa_other P3 W4 hne, B4, fun target kt => ?_⟩
  show Steps p.tables e below (T0.setTop (mkF m 67 #[s0, .val (.long j1), .second, .val (.int (Int32.ofNat n)), .val (.ref o4), .val (.ref o5), s6, s7, s8, s9] [])) _
  refine XS.iloadN X0.here hx rfl (hb hby at_67) rfl ?_
  show Steps p.tables e below (T0.setTop (mkF m 68 #[s0, .val (.long j1), .second, .val (.int (Int32.ofNat n)), .val (.ref o4), .val (.ref o5), s6, s7, s8, s9] [(.int (Int32.ofNat n))])) _
  refine XS.ifNo X0.here hx rfl (hb hby at_68) rfl ((if0 _ _).trans (tlt hc68).2.2.2) ?_
  show Steps p.tables e below (T0.setTop (mkF m 71 #[s0, .val (.long j1), .second, .val (.int (Int32.ofNat n)), .val (.ref o4), .val (.ref o5), s6, s7, s8, s9] [])) _
  refine XS.aload X0.here hx rfl (hb hby at_71) rfl rfl ?_
  show Steps p.tables e below (T0.setTop (mkF m 73 #[s0, .val (.long j1), .second, .val (.int (Int32.ofNat n)), .val (.ref o4), .val (.ref o5), s6, s7, s8, s9] [(.ref o5)])) _
  refine XS.iconst X0.here hx rfl (hb hby at_73) ?_
  show Steps p.tables e below (T0.setTop (mkF m 74 #[s0, .val (.long j1), .second, .val (.int (Int32.ofNat n)), .val (.ref o4), .val (.ref o5), s6, s7, s8, s9] [(.int (0 : Int32)), (.ref o5)])) _
  refine XS.lloadN X0.here hx rfl (hb hby at_74) rfl ?_
  show Steps p.tables e below (T0.setTop (mkF m 75 #[s0, .val (.long j1), .second, .val (.int (Int32.ofNat n)), .val (.ref o4), .val (.ref o5), s6, s7, s8, s9] [(.long j1), (.int (0 : Int32)), (.ref o5)])) _
  refine XS.iconst X0.here hx rfl (hb hby at_75) ?_
  show Steps p.tables e below (T0.setTop (mkF m 76 #[s0, .val (.long j1), .second, .val (.int (Int32.ofNat n)), .val (.ref o4), .val (.ref o5), s6, s7, s8, s9] [(.int (0 : Int32)), (.long j1), (.int (0 : Int32)), (.ref o5)])) _
  refine st3 _ ?_
  show Steps p.tables e below (T3.setTop (mkF m 79 #[s0, .val (.long j1), .second, .val (.int (Int32.ofNat n)), .val (.ref o4), .val (.ref o5), s6, s7, s8, s9] [(.int (own_at j1 (0 : Int32))), (.int (0 : Int32)), (.ref o5)])) _
  refine st4 _ ?_
  exact kt
set_option maxRecDepth 65536 in
set_option maxHeartbeats 40000000 in
theorem blk0t {p : Program} {l : Launch} {e : Env} {s : State} {m : MethodId} {args : Array Value} {below : List Frame} {meth : Method} {c : Code} {T0 : State} {locs : List Loc} {Z : State} {a0 : Array Value} {h0 : Heap} (s0 : Slot) (j1 : Int64) (n : Nat) (hn : n ≤ 8) (o4 o5 : Addr) (s6 s7 s8 s9 : Slot) (n0 : Nat)
    (X0 : Stand p l e room_1 s m args below meth c T0 locs 2 16) (hx : p.tables.exec = Jvm.exec) (hZ : Z.Warmed39 s.vm) (hw : ∀ d ∈ tables_1, d.before a0 Z = true) (hby : c.code = code) (hml : c.maxLocals = 10) (hown : s.vm.findClass "com/example/uniform_data_access/uniformdataaccess/model/KeyIndexHashPinLaw" = some m.cls) (e0 : T0.heap = h0) (N0 : Fr n0 locs) (Z0 : n0 ≤ h0.size) (g_o5 : n0 ≤ o5) (hne : o4 ≠ o5) (P : OwA Z h0 o4 .long 8 own_pv) (B : OwA Z h0 o5 .byte n (own_f j1 0)) (hlt : ¬ 0 < n) :
    ∃ (T' : State) (h' : Heap) (locs' : List Loc), Stand p l e room_1 s m args below meth c T' locs' 2 16 ∧ T'.heap = h' ∧ Fr n0 locs' ∧ n0 ≤ h'.size ∧ OwA Z h' o4 .long 8 own_pv ∧ OwA Z h' o5 .byte n (own_f j1 1) ∧
      ∀ target, Steps p.tables e below (T'.setTop (mkF m 80 #[s0, .val (.long j1), .second, .val (.int (Int32.ofNat n)), .val (.ref o4), .val (.ref o5), s6, s7, s8, s9] [])) target → Steps p.tables e below (T0.setTop (mkF m 67 #[s0, .val (.long j1), .second, .val (.int (Int32.ofNat n)), .val (.ref o4), .val (.ref o5), s6, s7, s8, s9] [])) target := by
  have hc68 : ¬ ((0 : Int32) < Int32.ofNat n) := fun q => hlt ((own_ltn (i := 0) (by omega) (by omega)).mp q)
  refine ⟨T0, h0, locs, X0, e0, N0, Z0, P, owa_congr B (fun j hj => own_fskip j1 0 j n hj hlt), fun target kt => ?_⟩
  show Steps p.tables e below (T0.setTop (mkF m 67 #[s0, .val (.long j1), .second, .val (.int (Int32.ofNat n)), .val (.ref o4), .val (.ref o5), s6, s7, s8, s9] [])) _
  refine XS.iloadN X0.here hx rfl (hb hby at_67) rfl ?_
  show Steps p.tables e below (T0.setTop (mkF m 68 #[s0, .val (.long j1), .second, .val (.int (Int32.ofNat n)), .val (.ref o4), .val (.ref o5), s6, s7, s8, s9] [(.int (Int32.ofNat n))])) _
  refine XS.ifYes X0.here hx rfl (pc0 := 68) (pc' := 80) rfl (hb hby at_68) rfl ((if0 _ _).trans (flt hc68).2.2.2) (by decide) (by decide) ?_
  exact kt
set_option maxRecDepth 65536 in
set_option maxHeartbeats 40000000 in
theorem blk0 {p : Program} {l : Launch} {e : Env} {s : State} {m : MethodId} {args : Array Value} {below : List Frame} {meth : Method} {c : Code} {T0 : State} {locs : List Loc} {Z : State} {a0 : Array Value} {h0 : Heap} (s0 : Slot) (j1 : Int64) (n : Nat) (hn : n ≤ 8) (o4 o5 : Addr) (s6 s7 s8 s9 : Slot) (n0 : Nat)
    (X0 : Stand p l e room_1 s m args below meth c T0 locs 2 16) (hx : p.tables.exec = Jvm.exec) (hZ : Z.Warmed39 s.vm) (hw : ∀ d ∈ tables_1, d.before a0 Z = true) (hby : c.code = code) (hml : c.maxLocals = 10) (hown : s.vm.findClass "com/example/uniform_data_access/uniformdataaccess/model/KeyIndexHashPinLaw" = some m.cls) (e0 : T0.heap = h0) (N0 : Fr n0 locs) (Z0 : n0 ≤ h0.size) (g_o5 : n0 ≤ o5) (hne : o4 ≠ o5) (P : OwA Z h0 o4 .long 8 own_pv) (B : OwA Z h0 o5 .byte n (own_f j1 0)) :
    ∃ (T' : State) (h' : Heap) (locs' : List Loc), Stand p l e room_1 s m args below meth c T' locs' 2 16 ∧ T'.heap = h' ∧ Fr n0 locs' ∧ n0 ≤ h'.size ∧ OwA Z h' o4 .long 8 own_pv ∧ OwA Z h' o5 .byte n (own_f j1 1) ∧
      ∀ target, Steps p.tables e below (T'.setTop (mkF m 80 #[s0, .val (.long j1), .second, .val (.int (Int32.ofNat n)), .val (.ref o4), .val (.ref o5), s6, s7, s8, s9] [])) target → Steps p.tables e below (T0.setTop (mkF m 67 #[s0, .val (.long j1), .second, .val (.int (Int32.ofNat n)), .val (.ref o4), .val (.ref o5), s6, s7, s8, s9] [])) target := by
  by_cases hlt : 0 < n
  · exact blk0f s0 j1 n hn o4 o5 s6 s7 s8 s9 n0 X0 hx hZ hw hby hml hown e0 N0 Z0 g_o5 hne P B hlt
  · exact blk0t s0 j1 n hn o4 o5 s6 s7 s8 s9 n0 X0 hx hZ hw hby hml hown e0 N0 Z0 g_o5 hne P B hlt
set_option maxRecDepth 65536 in
set_option maxHeartbeats 40000000 in
theorem blk1f {p : Program} {l : Launch} {e : Env} {s : State} {m : MethodId} {args : Array Value} {below : List Frame} {meth : Method} {c : Code} {T0 : State} {locs : List Loc} {Z : State} {a0 : Array Value} {h0 : Heap} (s0 : Slot) (j1 : Int64) (n : Nat) (hn : n ≤ 8) (o4 o5 : Addr) (s6 s7 s8 s9 : Slot) (n0 : Nat)
    (X0 : Stand p l e room_1 s m args below meth c T0 locs 2 16) (hx : p.tables.exec = Jvm.exec) (hZ : Z.Warmed39 s.vm) (hw : ∀ d ∈ tables_1, d.before a0 Z = true) (hby : c.code = code) (hml : c.maxLocals = 10) (hown : s.vm.findClass "com/example/uniform_data_access/uniformdataaccess/model/KeyIndexHashPinLaw" = some m.cls) (e0 : T0.heap = h0) (N0 : Fr n0 locs) (Z0 : n0 ≤ h0.size) (g_o5 : n0 ≤ o5) (hne : o4 ≠ o5) (P : OwA Z h0 o4 .long 8 own_pv) (B : OwA Z h0 o5 .byte n (own_f j1 1)) (hlt : 1 < n) :
    ∃ (T' : State) (h' : Heap) (locs' : List Loc), Stand p l e room_1 s m args below meth c T' locs' 2 16 ∧ T'.heap = h' ∧ Fr n0 locs' ∧ n0 ≤ h'.size ∧ OwA Z h' o4 .long 8 own_pv ∧ OwA Z h' o5 .byte n (own_f j1 2) ∧
      ∀ target, Steps p.tables e below (T'.setTop (mkF m 94 #[s0, .val (.long j1), .second, .val (.int (Int32.ofNat n)), .val (.ref o4), .val (.ref o5), s6, s7, s8, s9] [])) target → Steps p.tables e below (T0.setTop (mkF m 80 #[s0, .val (.long j1), .second, .val (.int (Int32.ofNat n)), .val (.ref o4), .val (.ref o5), s6, s7, s8, s9] [])) target := by
  have hc82 : (1 : Int32) < Int32.ofNat n := (own_ltn (i := 1) (by omega) (by omega)).mpr hlt
  obtain ⟨_, _, ⟨T3, L3, k3, n3⟩, -, X3, ⟨Lc3, hQ3, l3, y3, z3⟩, st3⟩ := Jvm.LawKit.callS X0 hx (y := (⟨"com/example/uniform_data_access/uniformdataaccess/model/KeyIndexHashPinLaw", "at", "(JI)B"⟩ : MethodName)) hown (mvT hZ (hw _ (List.mem_of_getElem? (i := 19) rfl))) (mvT hZ (hw _ (List.mem_of_getElem? (i := 20) rfl))) (mvT hZ (hw _ (List.mem_of_getElem? (i := 11) rfl))) (mvT hZ (hw _ (List.mem_of_getElem? (i := 21) rfl))) (by decide) (backOf (W := 2) (rm3 l Z a0 hw [] j1 (1 : Int32) h0 n0 Z0) hZ (hw _ (List.mem_of_getElem? (i := 21) rfl)) (hw _ (List.mem_of_getElem? (i := 11) rfl)) (by decide) (by decide)) (g := (mkF m 90 #[s0, .val (.long j1), .second, .val (.int (Int32.ofNat n)), .val (.ref o4), .val (.ref o5), s6, s7, s8, s9] [(.int (1 : Int32)), (.long j1), (.int (1 : Int32)), (.ref o5)])) rfl (by rw [hml]; rfl) (argsL := [(.long j1), (.int (1 : Int32))]) (rest := [(.int (1 : Int32)), (.ref o5)]) (lenOf pd_0_2 rfl) rfl (by show 2 * 0 + _ ≤ _; exact Nat.le_of_eq rfl) (hb hby at_90) (fun _ _ => ⟨rfl, e0, (by decide : 2 + 0 ≤ _), (by decide : 16 + 0 ≤ _)⟩)
  dsimp only [Pt.U, Pt.locs, Pt.cells, Pt.slots] at X3 l3 y3 z3 st3 hQ3
  subst l3 y3 z3
  obtain ⟨rfl, N3q, e3⟩ := hQ3
  have Z3 : n0 ≤ T3.heap.size := by rw [e3]; exact Z0
  have N3 := Fr.app N0 N3q
  have P3 := owa_heap P e3
  have B3 := owa_heap B e3
  obtain ⟨cl_o5, Ar_o5, S_o5, H_o5⟩ := B3
  have hin93 : ¬ ((1 : Int32) < 0 ∨ cl_o5.slots.size ≤ ((1 : Int32)).toNatClampNeg) := owa_in S_o5 (by decide) (by show 1 < n; exact hlt)
  obtain ⟨T4, h4, X4, e4, W4, st4⟩ := stB X3 hx hZ rfl Ar_o5 (j := (1 : Int32)) hin93 (g := (mkF m 93 #[s0, .val (.long j1), .second, .val (.int (Int32.ofNat n)), .val (.ref o4), .val (.ref o5), s6, s7, s8, s9] [(.int (own_at j1 (1 : Int32))), (.int (1 : Int32)), (.ref o5)])) rfl rfl (hb hby at_93)
  have N4 := Fr.snoc X4 N3 g_o5
  have B4 : OwA Z h4 o5 .byte n (own_f j1 2) := by
    have q := owa_set (owa_heap B e3) W4
    rw [own_nara] at q
    exact owa_congr q (fun j hj => own_fset j1 1 j)
  refine ⟨T4, h4, _, X4, e4, N4, Nat.le_trans Z3 (Keep.of_wr W4).1, owa_other P3 W4 hne, B4, fun target kt => ?_⟩
  show Steps p.tables e below (T0.setTop (mkF m 80 #[s0, .val (.long j1), .second, .val (.int (Int32.ofNat n)), .val (.ref o4), .val (.ref o5), s6, s7, s8, s9] [])) _
  refine XS.iloadN X0.here hx rfl (hb hby at_80) rfl ?_
  show Steps p.tables e below (T0.setTop (mkF m 81 #[s0, .val (.long j1), .second, .val (.int (Int32.ofNat n)), .val (.ref o4), .val (.ref o5), s6, s7, s8, s9] [(.int (Int32.ofNat n))])) _
  refine XS.iconst X0.here hx rfl (hb hby at_81) ?_
  show Steps p.tables e below (T0.setTop (mkF m 82 #[s0, .val (.long j1), .second, .val (.int (Int32.ofNat n)), .val (.ref o4), .val (.ref o5), s6, s7, s8, s9] [(.int (1 : Int32)), (.int (Int32.ofNat n))])) _
  refine XS.icmpNo X0.here hx rfl (hb hby at_82) rfl (tlt hc82).2.2.2 ?_
  show Steps p.tables e below (T0.setTop (mkF m 85 #[s0, .val (.long j1), .second, .val (.int (Int32.ofNat n)), .val (.ref o4), .val (.ref o5), s6, s7, s8, s9] [])) _
  refine XS.aload X0.here hx rfl (hb hby at_85) rfl rfl ?_
  show Steps p.tables e below (T0.setTop (mkF m 87 #[s0, .val (.long j1), .second, .val (.int (Int32.ofNat n)), .val (.ref o4), .val (.ref o5), s6, s7, s8, s9] [(.ref o5)])) _
  refine XS.iconst X0.here hx rfl (hb hby at_87) ?_
  show Steps p.tables e below (T0.setTop (mkF m 88 #[s0, .val (.long j1), .second, .val (.int (Int32.ofNat n)), .val (.ref o4), .val (.ref o5), s6, s7, s8, s9] [(.int (1 : Int32)), (.ref o5)])) _
  refine XS.lloadN X0.here hx rfl (hb hby at_88) rfl ?_
  show Steps p.tables e below (T0.setTop (mkF m 89 #[s0, .val (.long j1), .second, .val (.int (Int32.ofNat n)), .val (.ref o4), .val (.ref o5), s6, s7, s8, s9] [(.long j1), (.int (1 : Int32)), (.ref o5)])) _
  refine XS.iconst X0.here hx rfl (hb hby at_89) ?_
  show Steps p.tables e below (T0.setTop (mkF m 90 #[s0, .val (.long j1), .second, .val (.int (Int32.ofNat n)), .val (.ref o4), .val (.ref o5), s6, s7, s8, s9] [(.int (1 : Int32)), (.long j1), (.int (1 : Int32)), (.ref o5)])) _
  refine st3 _ ?_
  show Steps p.tables e below (T3.setTop (mkF m 93 #[s0, .val (.long j1), .second, .val (.int (Int32.ofNat n)), .val (.ref o4), .val (.ref o5), s6, s7, s8, s9] [(.int (own_at j1 (1 : Int32))), (.int (1 : Int32)), (.ref o5)])) _
  refine st4 _ ?_
  exact kt
set_option maxRecDepth 65536 in
set_option maxHeartbeats 40000000 in
theorem blk1t {p : Program} {l : Launch} {e : Env} {s : State} {m : MethodId} {args : Array Value} {below : List Frame} {meth : Method} {c : Code} {T0 : State} {locs : List Loc} {Z : State} {a0 : Array Value} {h0 : Heap} (s0 : Slot) (j1 : Int64) (n : Nat) (hn : n ≤ 8) (o4 o5 : Addr) (s6 s7 s8 s9 : Slot) (n0 : Nat)
    (X0 : Stand p l e room_1 s m args below meth c T0 locs 2 16) (hx : p.tables.exec = Jvm.exec) (hZ : Z.Warmed39 s.vm) (hw : ∀ d ∈ tables_1, d.before a0 Z = true) (hby : c.code = code) (hml : c.maxLocals = 10) (hown : s.vm.findClass "com/example/uniform_data_access/uniformdataaccess/model/KeyIndexHashPinLaw" = some m.cls) (e0 : T0.heap = h0) (N0 : Fr n0 locs) (Z0 : n0 ≤ h0.size) (g_o5 : n0 ≤ o5) (hne : o4 ≠ o5) (P : OwA Z h0 o4 .long 8 own_pv) (B : OwA Z h0 o5 .byte n (own_f j1 1)) (hlt : ¬ 1 < n) :
    ∃ (T' : State) (h' : Heap) (locs' : List Loc), Stand p l e room_1 s m args below meth c T' locs' 2 16 ∧ T'.heap = h' ∧ Fr n0 locs' ∧ n0 ≤ h'.size ∧ OwA Z h' o4 .long 8 own_pv ∧ OwA Z h' o5 .byte n (own_f j1 2) ∧
      ∀ target, Steps p.tables e below (T'.setTop (mkF m 94 #[s0, .val (.long j1), .second, .val (.int (Int32.ofNat n)), .val (.ref o4), .val (.ref o5), s6, s7, s8, s9] [])) target → Steps p.tables e below (T0.setTop (mkF m 80 #[s0, .val (.long j1), .second, .val (.int (Int32.ofNat n)), .val (.ref o4), .val (.ref o5), s6, s7, s8, s9] [])) target := by
  have hc82 : ¬ ((1 : Int32) < Int32.ofNat n) := fun q => hlt ((own_ltn (i := 1) (by omega) (by omega)).mp q)
  refine ⟨T0, h0, locs, X0, e0, N0, Z0, P, owa_congr B (fun j hj => own_fskip j1 1 j n hj hlt), fun target kt => ?_⟩
  show Steps p.tables e below (T0.setTop (mkF m 80 #[s0, .val (.long j1), .second, .val (.int (Int32.ofNat n)), .val (.ref o4), .val (.ref o5), s6, s7, s8, s9] [])) _
  refine XS.iloadN X0.here hx rfl (hb hby at_80) rfl ?_
  show Steps p.tables e below (T0.setTop (mkF m 81 #[s0, .val (.long j1), .second, .val (.int (Int32.ofNat n)), .val (.ref o4), .val (.ref o5), s6, s7, s8, s9] [(.int (Int32.ofNat n))])) _
  refine XS.iconst X0.here hx rfl (hb hby at_81) ?_
  show Steps p.tables e below (T0.setTop (mkF m 82 #[s0, .val (.long j1), .second, .val (.int (Int32.ofNat n)), .val (.ref o4), .val (.ref o5), s6, s7, s8, s9] [(.int (1 : Int32)), (.int (Int32.ofNat n))])) _
  refine XS.icmpYes X0.here hx rfl (pc0 := 82) (pc' := 94) rfl (hb hby at_82) rfl (flt hc82).2.2.2 (by decide) (by decide) ?_
  exact kt
set_option maxRecDepth 65536 in
set_option maxHeartbeats 40000000 in
theorem blk1 {p : Program} {l : Launch} {e : Env} {s : State} {m : MethodId} {args : Array Value} {below : List Frame} {meth : Method} {c : Code} {T0 : State} {locs : List Loc} {Z : State} {a0 : Array Value} {h0 : Heap} (s0 : Slot) (j1 : Int64) (n : Nat) (hn : n ≤ 8) (o4 o5 : Addr) (s6 s7 s8 s9 : Slot) (n0 : Nat)
    (X0 : Stand p l e room_1 s m args below meth c T0 locs 2 16) (hx : p.tables.exec = Jvm.exec) (hZ : Z.Warmed39 s.vm) (hw : ∀ d ∈ tables_1, d.before a0 Z = true) (hby : c.code = code) (hml : c.maxLocals = 10) (hown : s.vm.findClass "com/example/uniform_data_access/uniformdataaccess/model/KeyIndexHashPinLaw" = some m.cls) (e0 : T0.heap = h0) (N0 : Fr n0 locs) (Z0 : n0 ≤ h0.size) (g_o5 : n0 ≤ o5) (hne : o4 ≠ o5) (P : OwA Z h0 o4 .long 8 own_pv) (B : OwA Z h0 o5 .byte n (own_f j1 1)) :
    ∃ (T' : State) (h' : Heap) (locs' : List Loc), Stand p l e room_1 s m args below meth c T' locs' 2 16 ∧ T'.heap = h' ∧ Fr n0 locs' ∧ n0 ≤ h'.size ∧ OwA Z h' o4 .long 8 own_pv ∧ OwA Z h' o5 .byte n (own_f j1 2) ∧
      ∀ target, Steps p.tables e below (T'.setTop (mkF m 94 #[s0, .val (.long j1), .second, .val (.int (Int32.ofNat n)), .val (.ref o4), .val (.ref o5), s6, s7, s8, s9] [])) target → Steps p.tables e below (T0.setTop (mkF m 80 #[s0, .val (.long j1), .second, .val (.int (Int32.ofNat n)), .val (.ref o4), .val (.ref o5), s6, s7, s8, s9] [])) target := by
  by_cases hlt : 1 < n
  · exact blk1f s0 j1 n hn o4 o5 s6 s7 s8 s9 n0 X0 hx hZ hw hby hml hown e0 N0 Z0 g_o5 hne P B hlt
  · exact blk1t s0 j1 n hn o4 o5 s6 s7 s8 s9 n0 X0 hx hZ hw hby hml hown e0 N0 Z0 g_o5 hne P B hlt
set_option maxRecDepth 65536 in
set_option maxHeartbeats 40000000 in
theorem blk2f {p : Program} {l : Launch} {e : Env} {s : State} {m : MethodId} {args : Array Value} {below : List Frame} {meth : Method} {c : Code} {T0 : State} {locs : List Loc} {Z : State} {a0 : Array Value} {h0 : Heap} (s0 : Slot) (j1 : Int64) (n : Nat) (hn : n ≤ 8) (o4 o5 : Addr) (s6 s7 s8 s9 : Slot) (n0 : Nat)
    (X0 : Stand p l e room_1 s m args below meth c T0 locs 2 16) (hx : p.tables.exec = Jvm.exec) (hZ : Z.Warmed39 s.vm) (hw : ∀ d ∈ tables_1, d.before a0 Z = true) (hby : c.code = code) (hml : c.maxLocals = 10) (hown : s.vm.findClass "com/example/uniform_data_access/uniformdataaccess/model/KeyIndexHashPinLaw" = some m.cls) (e0 : T0.heap = h0) (N0 : Fr n0 locs) (Z0 : n0 ≤ h0.size) (g_o5 : n0 ≤ o5) (hne : o4 ≠ o5) (P : OwA Z h0 o4 .long 8 own_pv) (B : OwA Z h0 o5 .byte n (own_f j1 2)) (hlt : 2 < n) :
    ∃ (T' : State) (h' : Heap) (locs' : List Loc), Stand p l e room_1 s m args below meth c T' locs' 2 16 ∧ T'.heap = h' ∧ Fr n0 locs' ∧ n0 ≤ h'.size ∧ OwA Z h' o4 .long 8 own_pv ∧ OwA Z h' o5 .byte n (own_f j1 3) ∧
      ∀ target, Steps p.tables e below (T'.setTop (mkF m 108 #[s0, .val (.long j1), .second, .val (.int (Int32.ofNat n)), .val (.ref o4), .val (.ref o5), s6, s7, s8, s9] [])) target → Steps p.tables e below (T0.setTop (mkF m 94 #[s0, .val (.long j1), .second, .val (.int (Int32.ofNat n)), .val (.ref o4), .val (.ref o5), s6, s7, s8, s9] [])) target := by
  have hc96 : (2 : Int32) < Int32.ofNat n := (own_ltn (i := 2) (by omega) (by omega)).mpr hlt
  obtain ⟨_, _, ⟨T3, L3, k3, n3⟩, -, X3, ⟨Lc3, hQ3, l3, y3, z3⟩, st3⟩ := Jvm.LawKit.callS X0 hx (y := (⟨"com/example/uniform_data_access/uniformdataaccess/model/KeyIndexHashPinLaw", "at", "(JI)B"⟩ : MethodName)) hown (mvT hZ (hw _ (List.mem_of_getElem? (i := 19) rfl))) (mvT hZ (hw _ (List.mem_of_getElem? (i := 20) rfl))) (mvT hZ (hw _ (List.mem_of_getElem? (i := 11) rfl))) (mvT hZ (hw _ (List.mem_of_getElem? (i := 21) rfl))) (by decide) (backOf (W := 2) (rm3 l Z a0 hw [] j1 (2 : Int32) h0 n0 Z0) hZ (hw _ (List.mem_of_getElem? (i := 21) rfl)) (hw _ (List.mem_of_getElem? (i := 11) rfl)) (by decide) (by decide)) (g := (mkF m 104 #[s0, .val (.long j1), .second, .val (.int (Int32.ofNat n)), .val (.ref o4), .val (.ref o5), s6, s7, s8, s9] [(.int (2 : Int32)), (.long j1), (.int (2 : Int32)), (.ref o5)])) rfl (by rw [hml]; rfl) (argsL := [(.long j1), (.int (2 : Int32))]) (rest := [(.int (2 : Int32)), (.ref o5)]) (lenOf pd_0_2 rfl) rfl (by show 2 * 0 + _ ≤ _; exact Nat.le_of_eq rfl) (hb hby at_104) (fun _ _ => ⟨rfl, e0, (by decide : 2 + 0 ≤ _), (by decide : 16 + 0 ≤ _)⟩)
  dsimp only [Pt.U, Pt.locs, Pt.cells, Pt.slots] at X3 l3 y3 z3 st3 hQ3
  subst l3 y3 z3
  obtain ⟨rfl, N3q, e3⟩ := hQ3
  have Z3 : n0 ≤ T3.heap.size := by rw [e3]; exact Z0
  have N3 := Fr.app N0 N3q
  have P3 := owa_heap P e3
  have B3 := owa_heap B e3
  obtain ⟨cl_o5, Ar_o5, S_o5, H_o5⟩ := B3
  have hin107 : ¬ ((2 : Int32) < 0 ∨ cl_o5.slots.size ≤ ((2 : Int32)).toNatClampNeg) := owa_in S_o5 (by decide) (by show 2 < n; exact hlt)
  obtain ⟨T4, h4, X4, e4, W4, st4⟩ := stB X3 hx hZ rfl Ar_o5 (j := (2 : Int32)) hin107 (g := (mkF m 107 #[s0, .val (.long j1), .second, .val (.int (Int32.ofNat n)), .val (.ref o4), .val (.ref o5), s6, s7, s8, s9] [(.int (own_at j1 (2 : Int32))), (.int (2 : Int32)), (.ref o5)])) rfl rfl (hb hby at_107)
  have N4 := Fr.snoc X4 N3 g_o5
  have B4 : OwA Z h4 o5 .byte n (own_f j1 3) := by
    have q := owa_set (owa_heap B e3) W4
    rw [own_nara] at q
    exact owa_congr q (fun j hj => own_fset j1 2 j)
  refine ⟨T4, h4, _, X4, e4, N4, Nat.le_trans Z3 (Keep.of_wr W4).1, owa_other P3 W4 hne, B4, fun target kt => ?_⟩
  show Steps p.tables e below (T0.setTop (mkF m 94 #[s0, .val (.long j1), .second, .val (.int (Int32.ofNat n)), .val (.ref o4), .val (.ref o5), s6, s7, s8, s9] [])) _
  refine XS.iloadN X0.here hx rfl (hb hby at_94) rfl ?_
  show Steps p.tables e below (T0.setTop (mkF m 95 #[s0, .val (.long j1), .second, .val (.int (Int32.ofNat n)), .val (.ref o4), .val (.ref o5), s6, s7, s8, s9] [(.int (Int32.ofNat n))])) _
  refine XS.iconst X0.here hx rfl (hb hby at_95) ?_
  show Steps p.tables e below (T0.setTop (mkF m 96 #[s0, .val (.long j1), .second, .val (.int (Int32.ofNat n)), .val (.ref o4), .val (.ref o5), s6, s7, s8, s9] [(.int (2 : Int32)), (.int (Int32.ofNat n))])) _
  refine XS.icmpNo X0.here hx rfl (hb hby at_96) rfl (tlt hc96).2.2.2 ?_
  show Steps p.tables e below (T0.setTop (mkF m 99 #[s0, .val (.long j1), .second, .val (.int (Int32.ofNat n)), .val (.ref o4), .val (.ref o5), s6, s7, s8, s9] [])) _
  refine XS.aload X0.here hx rfl (hb hby at_99) rfl rfl ?_
  show Steps p.tables e below (T0.setTop (mkF m 101 #[s0, .val (.long j1), .second, .val (.int (Int32.ofNat n)), .val (.ref o4), .val (.ref o5), s6, s7, s8, s9] [(.ref o5)])) _
  refine XS.iconst X0.here hx rfl (hb hby at_101) ?_
  show Steps p.tables e below (T0.setTop (mkF m 102 #[s0, .val (.long j1), .second, .val (.int (Int32.ofNat n)), .val (.ref o4), .val (.ref o5), s6, s7, s8, s9] [(.int (2 : Int32)), (.ref o5)])) _
  refine XS.lloadN X0.here hx rfl (hb hby at_102) rfl ?_
  show Steps p.tables e below (T0.setTop (mkF m 103 #[s0, .val (.long j1), .second, .val (.int (Int32.ofNat n)), .val (.ref o4), .val (.ref o5), s6, s7, s8, s9] [(.long j1), (.int (2 : Int32)), (.ref o5)])) _
  refine XS.iconst X0.here hx rfl (hb hby at_103) ?_
  show Steps p.tables e below (T0.setTop (mkF m 104 #[s0, .val (.long j1), .second, .val (.int (Int32.ofNat n)), .val (.ref o4), .val (.ref o5), s6, s7, s8, s9] [(.int (2 : Int32)), (.long j1), (.int (2 : Int32)), (.ref o5)])) _
  refine st3 _ ?_
  show Steps p.tables e below (T3.setTop (mkF m 107 #[s0, .val (.long j1), .second, .val (.int (Int32.ofNat n)), .val (.ref o4), .val (.ref o5), s6, s7, s8, s9] [(.int (own_at j1 (2 : Int32))), (.int (2 : Int32)), (.ref o5)])) _
  refine st4 _ ?_
  exact kt
set_option maxRecDepth 65536 in
set_option maxHeartbeats 40000000 in
theorem blk2t {p : Program} {l : Launch} {e : Env} {s : State} {m : MethodId} {args : Array Value} {below : List Frame} {meth : Method} {c : Code} {T0 : State} {locs : List Loc} {Z : State} {a0 : Array Value} {h0 : Heap} (s0 : Slot) (j1 : Int64) (n : Nat) (hn : n ≤ 8) (o4 o5 : Addr) (s6 s7 s8 s9 : Slot) (n0 : Nat)
    (X0 : Stand p l e room_1 s m args below meth c T0 locs 2 16) (hx : p.tables.exec = Jvm.exec) (hZ : Z.Warmed39 s.vm) (hw : ∀ d ∈ tables_1, d.before a0 Z = true) (hby : c.code = code) (hml : c.maxLocals = 10) (hown : s.vm.findClass "com/example/uniform_data_access/uniformdataaccess/model/KeyIndexHashPinLaw" = some m.cls) (e0 : T0.heap = h0) (N0 : Fr n0 locs) (Z0 : n0 ≤ h0.size) (g_o5 : n0 ≤ o5) (hne : o4 ≠ o5) (P : OwA Z h0 o4 .long 8 own_pv) (B : OwA Z h0 o5 .byte n (own_f j1 2)) (hlt : ¬ 2 < n) :
    ∃ (T' : State) (h' : Heap) (locs' : List Loc), Stand p l e room_1 s m args below meth c T' locs' 2 16 ∧ T'.heap = h' ∧ Fr n0 locs' ∧ n0 ≤ h'.size ∧ OwA Z h' o4 .long 8 own_pv ∧ OwA Z h' o5 .byte n (own_f j1 3) ∧
      ∀ target, Steps p.tables e below (T'.setTop (mkF m 108 #[s0, .val (.long j1), .second, .val (.int (Int32.ofNat n)), .val (.ref o4), .val (.ref o5), s6, s7, s8, s9] [])) target → Steps p.tables e below (T0.setTop (mkF m 94 #[s0, .val (.long j1), .second, .val (.int (Int32.ofNat n)), .val (.ref o4), .val (.ref o5), s6, s7, s8, s9] [])) target := by
  have hc96 : ¬ ((2 : Int32) < Int32.ofNat n) := fun q => hlt ((own_ltn (i := 2) (by omega) (by omega)).mp q)
  refine ⟨T0, h0, locs, X0, e0, N0, Z0, P, owa_congr B (fun j hj => own_fskip j1 2 j n hj hlt), fun target kt => ?_⟩
  show Steps p.tables e below (T0.setTop (mkF m 94 #[s0, .val (.long j1), .second, .val (.int (Int32.ofNat n)), .val (.ref o4), .val (.ref o5), s6, s7, s8, s9] [])) _
  refine XS.iloadN X0.here hx rfl (hb hby at_94) rfl ?_
  show Steps p.tables e below (T0.setTop (mkF m 95 #[s0, .val (.long j1), .second, .val (.int (Int32.ofNat n)), .val (.ref o4), .val (.ref o5), s6, s7, s8, s9] [(.int (Int32.ofNat n))])) _
  refine XS.iconst X0.here hx rfl (hb hby at_95) ?_
  show Steps p.tables e below (T0.setTop (mkF m 96 #[s0, .val (.long j1), .second, .val (.int (Int32.ofNat n)), .val (.ref o4), .val (.ref o5), s6, s7, s8, s9] [(.int (2 : Int32)), (.int (Int32.ofNat n))])) _
  refine XS.icmpYes X0.here hx rfl (pc0 := 96) (pc' := 108) rfl (hb hby at_96) rfl (flt hc96).2.2.2 (by decide) (by decide) ?_
  exact kt
set_option maxRecDepth 65536 in
set_option maxHeartbeats 40000000 in
theorem blk2 {p : Program} {l : Launch} {e : Env} {s : State} {m : MethodId} {args : Array Value} {below : List Frame} {meth : Method} {c : Code} {T0 : State} {locs : List Loc} {Z : State} {a0 : Array Value} {h0 : Heap} (s0 : Slot) (j1 : Int64) (n : Nat) (hn : n ≤ 8) (o4 o5 : Addr) (s6 s7 s8 s9 : Slot) (n0 : Nat)
    (X0 : Stand p l e room_1 s m args below meth c T0 locs 2 16) (hx : p.tables.exec = Jvm.exec) (hZ : Z.Warmed39 s.vm) (hw : ∀ d ∈ tables_1, d.before a0 Z = true) (hby : c.code = code) (hml : c.maxLocals = 10) (hown : s.vm.findClass "com/example/uniform_data_access/uniformdataaccess/model/KeyIndexHashPinLaw" = some m.cls) (e0 : T0.heap = h0) (N0 : Fr n0 locs) (Z0 : n0 ≤ h0.size) (g_o5 : n0 ≤ o5) (hne : o4 ≠ o5) (P : OwA Z h0 o4 .long 8 own_pv) (B : OwA Z h0 o5 .byte n (own_f j1 2)) :
    ∃ (T' : State) (h' : Heap) (locs' : List Loc), Stand p l e room_1 s m args below meth c T' locs' 2 16 ∧ T'.heap = h' ∧ Fr n0 locs' ∧ n0 ≤ h'.size ∧ OwA Z h' o4 .long 8 own_pv ∧ OwA Z h' o5 .byte n (own_f j1 3) ∧
      ∀ target, Steps p.tables e below (T'.setTop (mkF m 108 #[s0, .val (.long j1), .second, .val (.int (Int32.ofNat n)), .val (.ref o4), .val (.ref o5), s6, s7, s8, s9] [])) target → Steps p.tables e below (T0.setTop (mkF m 94 #[s0, .val (.long j1), .second, .val (.int (Int32.ofNat n)), .val (.ref o4), .val (.ref o5), s6, s7, s8, s9] [])) target := by
  by_cases hlt : 2 < n
  · exact blk2f s0 j1 n hn o4 o5 s6 s7 s8 s9 n0 X0 hx hZ hw hby hml hown e0 N0 Z0 g_o5 hne P B hlt
  · exact blk2t s0 j1 n hn o4 o5 s6 s7 s8 s9 n0 X0 hx hZ hw hby hml hown e0 N0 Z0 g_o5 hne P B hlt
set_option maxRecDepth 65536 in
set_option maxHeartbeats 40000000 in
theorem blk3f {p : Program} {l : Launch} {e : Env} {s : State} {m : MethodId} {args : Array Value} {below : List Frame} {meth : Method} {c : Code} {T0 : State} {locs : List Loc} {Z : State} {a0 : Array Value} {h0 : Heap} (s0 : Slot) (j1 : Int64) (n : Nat) (hn : n ≤ 8) (o4 o5 : Addr) (s6 s7 s8 s9 : Slot) (n0 : Nat)
    (X0 : Stand p l e room_1 s m args below meth c T0 locs 2 16) (hx : p.tables.exec = Jvm.exec) (hZ : Z.Warmed39 s.vm) (hw : ∀ d ∈ tables_1, d.before a0 Z = true) (hby : c.code = code) (hml : c.maxLocals = 10) (hown : s.vm.findClass "com/example/uniform_data_access/uniformdataaccess/model/KeyIndexHashPinLaw" = some m.cls) (e0 : T0.heap = h0) (N0 : Fr n0 locs) (Z0 : n0 ≤ h0.size) (g_o5 : n0 ≤ o5) (hne : o4 ≠ o5) (P : OwA Z h0 o4 .long 8 own_pv) (B : OwA Z h0 o5 .byte n (own_f j1 3)) (hlt : 3 < n) :
    ∃ (T' : State) (h' : Heap) (locs' : List Loc), Stand p l e room_1 s m args below meth c T' locs' 2 16 ∧ T'.heap = h' ∧ Fr n0 locs' ∧ n0 ≤ h'.size ∧ OwA Z h' o4 .long 8 own_pv ∧ OwA Z h' o5 .byte n (own_f j1 4) ∧
      ∀ target, Steps p.tables e below (T'.setTop (mkF m 122 #[s0, .val (.long j1), .second, .val (.int (Int32.ofNat n)), .val (.ref o4), .val (.ref o5), s6, s7, s8, s9] [])) target → Steps p.tables e below (T0.setTop (mkF m 108 #[s0, .val (.long j1), .second, .val (.int (Int32.ofNat n)), .val (.ref o4), .val (.ref o5), s6, s7, s8, s9] [])) target := by
  have hc110 : (3 : Int32) < Int32.ofNat n := (own_ltn (i := 3) (by omega) (by omega)).mpr hlt
  obtain ⟨_, _, ⟨T3, L3, k3, n3⟩, -, X3, ⟨Lc3, hQ3, l3, y3, z3⟩, st3⟩ := Jvm.LawKit.callS X0 hx (y := (⟨"com/example/uniform_data_access/uniformdataaccess/model/KeyIndexHashPinLaw", "at", "(JI)B"⟩ : MethodName)) hown (mvT hZ (hw _ (List.mem_of_getElem? (i := 19) rfl))) (mvT hZ (hw _ (List.mem_of_getElem? (i := 20) rfl))) (mvT hZ (hw _ (List.mem_of_getElem? (i := 11) rfl))) (mvT hZ (hw _ (List.mem_of_getElem? (i := 21) rfl))) (by decide) (backOf (W := 2) (rm3 l Z a0 hw [] j1 (3 : Int32) h0 n0 Z0) hZ (hw _ (List.mem_of_getElem? (i := 21) rfl)) (hw _ (List.mem_of_getElem? (i := 11) rfl)) (by decide) (by decide)) (g := (mkF m 118 #[s0, .val (.long j1), .second, .val (.int (Int32.ofNat n)), .val (.ref o4), .val (.ref o5), s6, s7, s8, s9] [(.int (3 : Int32)), (.long j1), (.int (3 : Int32)), (.ref o5)])) rfl (by rw [hml]; rfl) (argsL := [(.long j1), (.int (3 : Int32))]) (rest := [(.int (3 : Int32)), (.ref o5)]) (lenOf pd_0_2 rfl) rfl (by show 2 * 0 + _ ≤ _; exact Nat.le_of_eq rfl) (hb hby at_118) (fun _ _ => ⟨rfl, e0, (by decide : 2 + 0 ≤ _), (by decide : 16 + 0 ≤ _)⟩)
  dsimp only [Pt.U, Pt.locs, Pt.cells, Pt.slots] at X3 l3 y3 z3 st3 hQ3
  subst l3 y3 z3
  obtain ⟨rfl, N3q, e3⟩ := hQ3
  have Z3 : n0 ≤ T3.heap.size := by rw [e3]; exact Z0
  have N3 := Fr.app N0 N3q
  have P3 := owa_heap P e3
  have B3 := owa_heap B e3
  obtain ⟨cl_o5, Ar_o5, S_o5, H_o5⟩ := B3
  have hin121 : ¬ ((3 : Int32) < 0 ∨ cl_o5.slots.size ≤ ((3 : Int32)).toNatClampNeg) := owa_in S_o5 (by decide) (by show 3 < n; exact hlt)
  obtain ⟨T4, h4, X4, e4, W4, st4⟩ := stB X3 hx hZ rfl Ar_o5 (j := (3 : Int32)) hin121 (g := (mkF m 121 #[s0, .val (.long j1), .second, .val (.int (Int32.ofNat n)), .val (.ref o4), .val (.ref o5), s6, s7, s8, s9] [(.int (own_at j1 (3 : Int32))), (.int (3 : Int32)), (.ref o5)])) rfl rfl (hb hby at_121)
  have N4 := Fr.snoc X4 N3 g_o5
  have B4 : OwA Z h4 o5 .byte n (own_f j1 4) := by
    have q := owa_set (owa_heap B e3) W4
    rw [own_nara] at q
    exact owa_congr q (fun j hj => own_fset j1 3 j)
  refine ⟨T4, h4, _, X4, e4, N4, Nat.le_trans Z3 (Keep.of_wr W4).1, owa_other P3 W4 hne, B4, fun target kt => ?_⟩
  show Steps p.tables e below (T0.setTop (mkF m 108 #[s0, .val (.long j1), .second, .val (.int (Int32.ofNat n)), .val (.ref o4), .val (.ref o5), s6, s7, s8, s9] [])) _
  refine XS.iloadN X0.here hx rfl (hb hby at_108) rfl ?_
  show Steps p.tables e below (T0.setTop (mkF m 109 #[s0, .val (.long j1), .second, .val (.int (Int32.ofNat n)), .val (.ref o4), .val (.ref o5), s6, s7, s8, s9] [(.int (Int32.ofNat n))])) _
  refine XS.iconst X0.here hx rfl (hb hby at_109) ?_
  show Steps p.tables e below (T0.setTop (mkF m 110 #[s0, .val (.long j1), .second, .val (.int (Int32.ofNat n)), .val (.ref o4), .val (.ref o5), s6, s7, s8, s9] [(.int (3 : Int32)), (.int (Int32.ofNat n))])) _
  refine XS.icmpNo X0.here hx rfl (hb hby at_110) rfl (tlt hc110).2.2.2 ?_
  show Steps p.tables e below (T0.setTop (mkF m 113 #[s0, .val (.long j1), .second, .val (.int (Int32.ofNat n)), .val (.ref o4), .val (.ref o5), s6, s7, s8, s9] [])) _
  refine XS.aload X0.here hx rfl (hb hby at_113) rfl rfl ?_
  show Steps p.tables e below (T0.setTop (mkF m 115 #[s0, .val (.long j1), .second, .val (.int (Int32.ofNat n)), .val (.ref o4), .val (.ref o5), s6, s7, s8, s9] [(.ref o5)])) _
  refine XS.iconst X0.here hx rfl (hb hby at_115) ?_
  show Steps p.tables e below (T0.setTop (mkF m 116 #[s0, .val (.long j1), .second, .val (.int (Int32.ofNat n)), .val (.ref o4), .val (.ref o5), s6, s7, s8, s9] [(.int (3 : Int32)), (.ref o5)])) _
  refine XS.lloadN X0.here hx rfl (hb hby at_116) rfl ?_
  show Steps p.tables e below (T0.setTop (mkF m 117 #[s0, .val (.long j1), .second, .val (.int (Int32.ofNat n)), .val (.ref o4), .val (.ref o5), s6, s7, s8, s9] [(.long j1), (.int (3 : Int32)), (.ref o5)])) _
  refine XS.iconst X0.here hx rfl (hb hby at_117) ?_
  show Steps p.tables e below (T0.setTop (mkF m 118 #[s0, .val (.long j1), .second, .val (.int (Int32.ofNat n)), .val (.ref o4), .val (.ref o5), s6, s7, s8, s9] [(.int (3 : Int32)), (.long j1), (.int (3 : Int32)), (.ref o5)])) _
  refine st3 _ ?_
  show Steps p.tables e below (T3.setTop (mkF m 121 #[s0, .val (.long j1), .second, .val (.int (Int32.ofNat n)), .val (.ref o4), .val (.ref o5), s6, s7, s8, s9] [(.int (own_at j1 (3 : Int32))), (.int (3 : Int32)), (.ref o5)])) _
  refine st4 _ ?_
  exact kt
set_option maxRecDepth 65536 in
set_option maxHeartbeats 40000000 in
theorem blk3t {p : Program} {l : Launch} {e : Env} {s : State} {m : MethodId} {args : Array Value} {below : List Frame} {meth : Method} {c : Code} {T0 : State} {locs : List Loc} {Z : State} {a0 : Array Value} {h0 : Heap} (s0 : Slot) (j1 : Int64) (n : Nat) (hn : n ≤ 8) (o4 o5 : Addr) (s6 s7 s8 s9 : Slot) (n0 : Nat)
    (X0 : Stand p l e room_1 s m args below meth c T0 locs 2 16) (hx : p.tables.exec = Jvm.exec) (hZ : Z.Warmed39 s.vm) (hw : ∀ d ∈ tables_1, d.before a0 Z = true) (hby : c.code = code) (hml : c.maxLocals = 10) (hown : s.vm.findClass "com/example/uniform_data_access/uniformdataaccess/model/KeyIndexHashPinLaw" = some m.cls) (e0 : T0.heap = h0) (N0 : Fr n0 locs) (Z0 : n0 ≤ h0.size) (g_o5 : n0 ≤ o5) (hne : o4 ≠ o5) (P : OwA Z h0 o4 .long 8 own_pv) (B : OwA Z h0 o5 .byte n (own_f j1 3)) (hlt : ¬ 3 < n) :
    ∃ (T' : State) (h' : Heap) (locs' : List Loc), Stand p l e room_1 s m args below meth c T' locs' 2 16 ∧ T'.heap = h' ∧ Fr n0 locs' ∧ n0 ≤ h'.size ∧ OwA Z h' o4 .long 8 own_pv ∧ OwA Z h' o5 .byte n (own_f j1 4) ∧
      ∀ target, Steps p.tables e below (T'.setTop (mkF m 122 #[s0, .val (.long j1), .second, .val (.int (Int32.ofNat n)), .val (.ref o4), .val (.ref o5), s6, s7, s8, s9] [])) target → Steps p.tables e below (T0.setTop (mkF m 108 #[s0, .val (.long j1), .second, .val (.int (Int32.ofNat n)), .val (.ref o4), .val (.ref o5), s6, s7, s8, s9] [])) target := by
  have hc110 : ¬ ((3 : Int32) < Int32.ofNat n) := fun q => hlt ((own_ltn (i := 3) (by omega) (by omega)).mp q)
  refine ⟨T0, h0, locs, X0, e0, N0, Z0, P, owa_congr B (fun j hj => own_fskip j1 3 j n hj hlt), fun target kt => ?_⟩
  show Steps p.tables e below (T0.setTop (mkF m 108 #[s0, .val (.long j1), .second, .val (.int (Int32.ofNat n)), .val (.ref o4), .val (.ref o5), s6, s7, s8, s9] [])) _
  refine XS.iloadN X0.here hx rfl (hb hby at_108) rfl ?_
  show Steps p.tables e below (T0.setTop (mkF m 109 #[s0, .val (.long j1), .second, .val (.int (Int32.ofNat n)), .val (.ref o4), .val (.ref o5), s6, s7, s8, s9] [(.int (Int32.ofNat n))])) _
  refine XS.iconst X0.here hx rfl (hb hby at_109) ?_
  show Steps p.tables e below (T0.setTop (mkF m 110 #[s0, .val (.long j1), .second, .val (.int (Int32.ofNat n)), .val (.ref o4), .val (.ref o5), s6, s7, s8, s9] [(.int (3 : Int32)), (.int (Int32.ofNat n))])) _
  refine XS.icmpYes X0.here hx rfl (pc0 := 110) (pc' := 122) rfl (hb hby at_110) rfl (flt hc110).2.2.2 (by decide) (by decide) ?_
  exact kt
set_option maxRecDepth 65536 in
set_option maxHeartbeats 40000000 in
theorem blk3 {p : Program} {l : Launch} {e : Env} {s : State} {m : MethodId} {args : Array Value} {below : List Frame} {meth : Method} {c : Code} {T0 : State} {locs : List Loc} {Z : State} {a0 : Array Value} {h0 : Heap} (s0 : Slot) (j1 : Int64) (n : Nat) (hn : n ≤ 8) (o4 o5 : Addr) (s6 s7 s8 s9 : Slot) (n0 : Nat)
    (X0 : Stand p l e room_1 s m args below meth c T0 locs 2 16) (hx : p.tables.exec = Jvm.exec) (hZ : Z.Warmed39 s.vm) (hw : ∀ d ∈ tables_1, d.before a0 Z = true) (hby : c.code = code) (hml : c.maxLocals = 10) (hown : s.vm.findClass "com/example/uniform_data_access/uniformdataaccess/model/KeyIndexHashPinLaw" = some m.cls) (e0 : T0.heap = h0) (N0 : Fr n0 locs) (Z0 : n0 ≤ h0.size) (g_o5 : n0 ≤ o5) (hne : o4 ≠ o5) (P : OwA Z h0 o4 .long 8 own_pv) (B : OwA Z h0 o5 .byte n (own_f j1 3)) :
    ∃ (T' : State) (h' : Heap) (locs' : List Loc), Stand p l e room_1 s m args below meth c T' locs' 2 16 ∧ T'.heap = h' ∧ Fr n0 locs' ∧ n0 ≤ h'.size ∧ OwA Z h' o4 .long 8 own_pv ∧ OwA Z h' o5 .byte n (own_f j1 4) ∧
      ∀ target, Steps p.tables e below (T'.setTop (mkF m 122 #[s0, .val (.long j1), .second, .val (.int (Int32.ofNat n)), .val (.ref o4), .val (.ref o5), s6, s7, s8, s9] [])) target → Steps p.tables e below (T0.setTop (mkF m 108 #[s0, .val (.long j1), .second, .val (.int (Int32.ofNat n)), .val (.ref o4), .val (.ref o5), s6, s7, s8, s9] [])) target := by
  by_cases hlt : 3 < n
  · exact blk3f s0 j1 n hn o4 o5 s6 s7 s8 s9 n0 X0 hx hZ hw hby hml hown e0 N0 Z0 g_o5 hne P B hlt
  · exact blk3t s0 j1 n hn o4 o5 s6 s7 s8 s9 n0 X0 hx hZ hw hby hml hown e0 N0 Z0 g_o5 hne P B hlt
set_option maxRecDepth 65536 in
set_option maxHeartbeats 40000000 in
theorem blk4f {p : Program} {l : Launch} {e : Env} {s : State} {m : MethodId} {args : Array Value} {below : List Frame} {meth : Method} {c : Code} {T0 : State} {locs : List Loc} {Z : State} {a0 : Array Value} {h0 : Heap} (s0 : Slot) (j1 : Int64) (n : Nat) (hn : n ≤ 8) (o4 o5 : Addr) (s6 s7 s8 s9 : Slot) (n0 : Nat)
    (X0 : Stand p l e room_1 s m args below meth c T0 locs 2 16) (hx : p.tables.exec = Jvm.exec) (hZ : Z.Warmed39 s.vm) (hw : ∀ d ∈ tables_1, d.before a0 Z = true) (hby : c.code = code) (hml : c.maxLocals = 10) (hown : s.vm.findClass "com/example/uniform_data_access/uniformdataaccess/model/KeyIndexHashPinLaw" = some m.cls) (e0 : T0.heap = h0) (N0 : Fr n0 locs) (Z0 : n0 ≤ h0.size) (g_o5 : n0 ≤ o5) (hne : o4 ≠ o5) (P : OwA Z h0 o4 .long 8 own_pv) (B : OwA Z h0 o5 .byte n (own_f j1 4)) (hlt : 4 < n) :
    ∃ (T' : State) (h' : Heap) (locs' : List Loc), Stand p l e room_1 s m args below meth c T' locs' 2 16 ∧ T'.heap = h' ∧ Fr n0 locs' ∧ n0 ≤ h'.size ∧ OwA Z h' o4 .long 8 own_pv ∧ OwA Z h' o5 .byte n (own_f j1 5) ∧
      ∀ target, Steps p.tables e below (T'.setTop (mkF m 136 #[s0, .val (.long j1), .second, .val (.int (Int32.ofNat n)), .val (.ref o4), .val (.ref o5), s6, s7, s8, s9] [])) target → Steps p.tables e below (T0.setTop (mkF m 122 #[s0, .val (.long j1), .second, .val (.int (Int32.ofNat n)), .val (.ref o4), .val (.ref o5), s6, s7, s8, s9] [])) target := by
  have hc124 : (4 : Int32) < Int32.ofNat n := (own_ltn (i := 4) (by omega) (by omega)).mpr hlt
  obtain ⟨_, _, ⟨T3, L3, k3, n3⟩, -, X3, ⟨Lc3, hQ3, l3, y3, z3⟩, st3⟩ := Jvm.LawKit.callS X0 hx (y := (⟨"com/example/uniform_data_access/uniformdataaccess/model/KeyIndexHashPinLaw", "at", "(JI)B"⟩ : MethodName)) hown (mvT hZ (hw _ (List.mem_of_getElem? (i := 19) rfl))) (mvT hZ (hw _ (List.mem_of_getElem? (i := 20) rfl))) (mvT hZ (hw _ (List.mem_of_getElem? (i := 11) rfl))) (mvT hZ (hw _ (List.mem_of_getElem? (i := 21) rfl))) (by decide) (backOf (W := 2) (rm3 l Z a0 hw [] j1 (4 : Int32) h0 n0 Z0) hZ (hw _ (List.mem_of_getElem? (i := 21) rfl)) (hw _ (List.mem_of_getElem? (i := 11) rfl)) (by decide) (by decide)) (g := (mkF m 132 #[s0, .val (.long j1), .second, .val (.int (Int32.ofNat n)), .val (.ref o4), .val (.ref o5), s6, s7, s8, s9] [(.int (4 : Int32)), (.long j1), (.int (4 : Int32)), (.ref o5)])) rfl (by rw [hml]; rfl) (argsL := [(.long j1), (.int (4 : Int32))]) (rest := [(.int (4 : Int32)), (.ref o5)]) (lenOf pd_0_2 rfl) rfl (by show 2 * 0 + _ ≤ _; exact Nat.le_of_eq rfl) (hb hby at_132) (fun _ _ => ⟨rfl, e0, (by decide : 2 + 0 ≤ _), (by decide : 16 + 0 ≤ _)⟩)
  dsimp only [Pt.U, Pt.locs, Pt.cells, Pt.slots] at X3 l3 y3 z3 st3 hQ3
  subst l3 y3 z3
  obtain ⟨rfl, N3q, e3⟩ := hQ3
  have Z3 : n0 ≤ T3.heap.size := by rw [e3]; exact Z0
  have N3 := Fr.app N0 N3q
  have P3 := owa_heap P e3
  have B3 := owa_heap B e3
  obtain ⟨cl_o5, Ar_o5, S_o5, H_o5⟩ := B3
  have hin135 : ¬ ((4 : Int32) < 0 ∨ cl_o5.slots.size ≤ ((4 : Int32)).toNatClampNeg) := owa_in S_o5 (by decide) (by show 4 < n; exact hlt)
  obtain ⟨T4, h4, X4, e4, W4, st4⟩ := stB X3 hx hZ rfl Ar_o5 (j := (4 : Int32)) hin135 (g := (mkF m 135 #[s0, .val (.long j1), .second, .val (.int (Int32.ofNat n)), .val (.ref o4), .val (.ref o5), s6, s7, s8, s9] [(.int (own_at j1 (4 : Int32))), (.int (4 : Int32)), (.ref o5)])) rfl rfl (hb hby at_135)
  have N4 := Fr.snoc X4 N3 g_o5
  have B4 : OwA Z h4 o5 .byte n (own_f j1 5) := by
    have q := owa_set (owa_heap B e3) W4
    rw [own_nara] at q
    exact owa_congr q (fun j hj => own_fset j1 4 j)
  refine ⟨T4, h4, _, X4, e4, N4, Nat.le_trans Z3 (Keep.of_wr W4).1, owa_other P3 W4 hne, B4, fun target kt => ?_⟩
  show Steps p.tables e below (T0.setTop (mkF m 122 #[s0, .val (.long j1), .second, .val (.int (Int32.ofNat n)), .val (.ref o4), .val (.ref o5), s6, s7, s8, s9] [])) _
  refine XS.iloadN X0.here hx rfl (hb hby at_122) rfl ?_
  show Steps p.tables e below (T0.setTop (mkF m 123 #[s0, .val (.long j1), .second, .val (.int (Int32.ofNat n)), .val (.ref o4), .val (.ref o5), s6, s7, s8, s9] [(.int (Int32.ofNat n))])) _
  refine XS.iconst X0.here hx rfl (hb hby at_123) ?_
  show Steps p.tables e below (T0.setTop (mkF m 124 #[s0, .val (.long j1), .second, .val (.int (Int32.ofNat n)), .val (.ref o4), .val (.ref o5), s6, s7, s8, s9] [(.int (4 : Int32)), (.int (Int32.ofNat n))])) _
  refine XS.icmpNo X0.here hx rfl (hb hby at_124) rfl (tlt hc124).2.2.2 ?_
  show Steps p.tables e below (T0.setTop (mkF m 127 #[s0, .val (.long j1), .second, .val (.int (Int32.ofNat n)), .val (.ref o4), .val (.ref o5), s6, s7, s8, s9] [])) _
  refine XS.aload X0.here hx rfl (hb hby at_127) rfl rfl ?_
  show Steps p.tables e below (T0.setTop (mkF m 129 #[s0, .val (.long j1), .second, .val (.int (Int32.ofNat n)), .val (.ref o4), .val (.ref o5), s6, s7, s8, s9] [(.ref o5)])) _
  refine XS.iconst X0.here hx rfl (hb hby at_129) ?_
  show Steps p.tables e below (T0.setTop (mkF m 130 #[s0, .val (.long j1), .second, .val (.int (Int32.ofNat n)), .val (.ref o4), .val (.ref o5), s6, s7, s8, s9] [(.int (4 : Int32)), (.ref o5)])) _
  refine XS.lloadN X0.here hx rfl (hb hby at_130) rfl ?_
  show Steps p.tables e below (T0.setTop (mkF m 131 #[s0, .val (.long j1), .second, .val (.int (Int32.ofNat n)), .val (.ref o4), .val (.ref o5), s6, s7, s8, s9] [(.long j1), (.int (4 : Int32)), (.ref o5)])) _
  refine XS.iconst X0.here hx rfl (hb hby at_131) ?_
  show Steps p.tables e below (T0.setTop (mkF m 132 #[s0, .val (.long j1), .second, .val (.int (Int32.ofNat n)), .val (.ref o4), .val (.ref o5), s6, s7, s8, s9] [(.int (4 : Int32)), (.long j1), (.int (4 : Int32)), (.ref o5)])) _
  refine st3 _ ?_
  show Steps p.tables e below (T3.setTop (mkF m 135 #[s0, .val (.long j1), .second, .val (.int (Int32.ofNat n)), .val (.ref o4), .val (.ref o5), s6, s7, s8, s9] [(.int (own_at j1 (4 : Int32))), (.int (4 : Int32)), (.ref o5)])) _
  refine st4 _ ?_
  exact kt
set_option maxRecDepth 65536 in
set_option maxHeartbeats 40000000 in
theorem blk4t {p : Program} {l : Launch} {e : Env} {s : State} {m : MethodId} {args : Array Value} {below : List Frame} {meth : Method} {c : Code} {T0 : State} {locs : List Loc} {Z : State} {a0 : Array Value} {h0 : Heap} (s0 : Slot) (j1 : Int64) (n : Nat) (hn : n ≤ 8) (o4 o5 : Addr) (s6 s7 s8 s9 : Slot) (n0 : Nat)
    (X0 : Stand p l e room_1 s m args below meth c T0 locs 2 16) (hx : p.tables.exec = Jvm.exec) (hZ : Z.Warmed39 s.vm) (hw : ∀ d ∈ tables_1, d.before a0 Z = true) (hby : c.code = code) (hml : c.maxLocals = 10) (hown : s.vm.findClass "com/example/uniform_data_access/uniformdataaccess/model/KeyIndexHashPinLaw" = some m.cls) (e0 : T0.heap = h0) (N0 : Fr n0 locs) (Z0 : n0 ≤ h0.size) (g_o5 : n0 ≤ o5) (hne : o4 ≠ o5) (P : OwA Z h0 o4 .long 8 own_pv) (B : OwA Z h0 o5 .byte n (own_f j1 4)) (hlt : ¬ 4 < n) :
    ∃ (T' : State) (h' : Heap) (locs' : List Loc), Stand p l e room_1 s m args below meth c T' locs' 2 16 ∧ T'.heap = h' ∧ Fr n0 locs' ∧ n0 ≤ h'.size ∧ OwA Z h' o4 .long 8 own_pv ∧ OwA Z h' o5 .byte n (own_f j1 5) ∧
      ∀ target, Steps p.tables e below (T'.setTop (mkF m 136 #[s0, .val (.long j1), .second, .val (.int (Int32.ofNat n)), .val (.ref o4), .val (.ref o5), s6, s7, s8, s9] [])) target → Steps p.tables e below (T0.setTop (mkF m 122 #[s0, .val (.long j1), .second, .val (.int (Int32.ofNat n)), .val (.ref o4), .val (.ref o5), s6, s7, s8, s9] [])) target := by
  have hc124 : ¬ ((4 : Int32) < Int32.ofNat n) := fun q => hlt ((own_ltn (i := 4) (by omega) (by omega)).mp q)
  refine ⟨T0, h0, locs, X0, e0, N0, Z0, P, owa_congr B (fun j hj => own_fskip j1 4 j n hj hlt), fun target kt => ?_⟩
  show Steps p.tables e below (T0.setTop (mkF m 122 #[s0, .val (.long j1), .second, .val (.int (Int32.ofNat n)), .val (.ref o4), .val (.ref o5), s6, s7, s8, s9] [])) _
  refine XS.iloadN X0.here hx rfl (hb hby at_122) rfl ?_
  show Steps p.tables e below (T0.setTop (mkF m 123 #[s0, .val (.long j1), .second, .val (.int (Int32.ofNat n)), .val (.ref o4), .val (.ref o5), s6, s7, s8, s9] [(.int (Int32.ofNat n))])) _
  refine XS.iconst X0.here hx rfl (hb hby at_123) ?_
  show Steps p.tables e below (T0.setTop (mkF m 124 #[s0, .val (.long j1), .second, .val (.int (Int32.ofNat n)), .val (.ref o4), .val (.ref o5), s6, s7, s8, s9] [(.int (4 : Int32)), (.int (Int32.ofNat n))])) _
  refine XS.icmpYes X0.here hx rfl (pc0 := 124) (pc' := 136) rfl (hb hby at_124) rfl (flt hc124).2.2.2 (by decide) (by decide) ?_
  exact kt
set_option maxRecDepth 65536 in
set_option maxHeartbeats 40000000 in
theorem blk4 {p : Program} {l : Launch} {e : Env} {s : State} {m : MethodId} {args : Array Value} {below : List Frame} {meth : Method} {c : Code} {T0 : State} {locs : List Loc} {Z : State} {a0 : Array Value} {h0 : Heap} (s0 : Slot) (j1 : Int64) (n : Nat) (hn : n ≤ 8) (o4 o5 : Addr) (s6 s7 s8 s9 : Slot) (n0 : Nat)
    (X0 : Stand p l e room_1 s m args below meth c T0 locs 2 16) (hx : p.tables.exec = Jvm.exec) (hZ : Z.Warmed39 s.vm) (hw : ∀ d ∈ tables_1, d.before a0 Z = true) (hby : c.code = code) (hml : c.maxLocals = 10) (hown : s.vm.findClass "com/example/uniform_data_access/uniformdataaccess/model/KeyIndexHashPinLaw" = some m.cls) (e0 : T0.heap = h0) (N0 : Fr n0 locs) (Z0 : n0 ≤ h0.size) (g_o5 : n0 ≤ o5) (hne : o4 ≠ o5) (P : OwA Z h0 o4 .long 8 own_pv) (B : OwA Z h0 o5 .byte n (own_f j1 4)) :
    ∃ (T' : State) (h' : Heap) (locs' : List Loc), Stand p l e room_1 s m args below meth c T' locs' 2 16 ∧ T'.heap = h' ∧ Fr n0 locs' ∧ n0 ≤ h'.size ∧ OwA Z h' o4 .long 8 own_pv ∧ OwA Z h' o5 .byte n (own_f j1 5) ∧
      ∀ target, Steps p.tables e below (T'.setTop (mkF m 136 #[s0, .val (.long j1), .second, .val (.int (Int32.ofNat n)), .val (.ref o4), .val (.ref o5), s6, s7, s8, s9] [])) target → Steps p.tables e below (T0.setTop (mkF m 122 #[s0, .val (.long j1), .second, .val (.int (Int32.ofNat n)), .val (.ref o4), .val (.ref o5), s6, s7, s8, s9] [])) target := by
  by_cases hlt : 4 < n
  · exact blk4f s0 j1 n hn o4 o5 s6 s7 s8 s9 n0 X0 hx hZ hw hby hml hown e0 N0 Z0 g_o5 hne P B hlt
  · exact blk4t s0 j1 n hn o4 o5 s6 s7 s8 s9 n0 X0 hx hZ hw hby hml hown e0 N0 Z0 g_o5 hne P B hlt
set_option maxRecDepth 65536 in
set_option maxHeartbeats 40000000 in
theorem blk5f {p : Program} {l : Launch} {e : Env} {s : State} {m : MethodId} {args : Array Value} {below : List Frame} {meth : Method} {c : Code} {T0 : State} {locs : List Loc} {Z : State} {a0 : Array Value} {h0 : Heap} (s0 : Slot) (j1 : Int64) (n : Nat) (hn : n ≤ 8) (o4 o5 : Addr) (s6 s7 s8 s9 : Slot) (n0 : Nat)
    (X0 : Stand p l e room_1 s m args below meth c T0 locs 2 16) (hx : p.tables.exec = Jvm.exec) (hZ : Z.Warmed39 s.vm) (hw : ∀ d ∈ tables_1, d.before a0 Z = true) (hby : c.code = code) (hml : c.maxLocals = 10) (hown : s.vm.findClass "com/example/uniform_data_access/uniformdataaccess/model/KeyIndexHashPinLaw" = some m.cls) (e0 : T0.heap = h0) (N0 : Fr n0 locs) (Z0 : n0 ≤ h0.size) (g_o5 : n0 ≤ o5) (hne : o4 ≠ o5) (P : OwA Z h0 o4 .long 8 own_pv) (B : OwA Z h0 o5 .byte n (own_f j1 5)) (hlt : 5 < n) :
    ∃ (T' : State) (h' : Heap) (locs' : List Loc), Stand p l e room_1 s m args below meth c T' locs' 2 16 ∧ T'.heap = h' ∧ Fr n0 locs' ∧ n0 ≤ h'.size ∧ OwA Z h' o4 .long 8 own_pv ∧ OwA Z h' o5 .byte n (own_f j1 6) ∧
      ∀ target, Steps p.tables e below (T'.setTop (mkF m 150 #[s0, .val (.long j1), .second, .val (.int (Int32.ofNat n)), .val (.ref o4), .val (.ref o5), s6, s7, s8, s9] [])) target → Steps p.tables e below (T0.setTop (mkF m 136 #[s0, .val (.long j1), .second, .val (.int (Int32.ofNat n)), .val (.ref o4), .val (.ref o5), s6, s7, s8, s9] [])) target := by
  have hc138 : (5 : Int32) < Int32.ofNat n := (own_ltn (i := 5) (by omega) (by omega)).mpr hlt
  obtain ⟨_, _, ⟨T3, L3, k3, n3⟩, -, X3, ⟨Lc3, hQ3, l3, y3, z3⟩, st3⟩ := Jvm.LawKit.callS X0 hx (y := (⟨"com/example/uniform_data_access/uniformdataaccess/model/KeyIndexHashPinLaw", "at", "(JI)B"⟩ : MethodName)) hown (mvT hZ (hw _ (List.mem_of_getElem? (i := 19) rfl))) (mvT hZ (hw _ (List.mem_of_getElem? (i := 20) rfl))) (mvT hZ (hw _ (List.mem_of_getElem? (i := 11) rfl))) (mvT hZ (hw _ (List.mem_of_getElem? (i := 21) rfl))) (by decide) (backOf (W := 2) (rm3 l Z a0 hw [] j1 (5 : Int32) h0 n0 Z0) hZ (hw _ (List.mem_of_getElem? (i := 21) rfl)) (hw _ (List.mem_of_getElem? (i := 11) rfl)) (by decide) (by decide)) (g := (mkF m 146 #[s0, .val (.long j1), .second, .val (.int (Int32.ofNat n)), .val (.ref o4), .val (.ref o5), s6, s7, s8, s9] [(.int (5 : Int32)), (.long j1), (.int (5 : Int32)), (.ref o5)])) rfl (by rw [hml]; rfl) (argsL := [(.long j1), (.int (5 : Int32))]) (rest := [(.int (5 : Int32)), (.ref o5)]) (lenOf pd_0_2 rfl) rfl (by show 2 * 0 + _ ≤ _; exact Nat.le_of_eq rfl) (hb hby at_146) (fun _ _ => ⟨rfl, e0, (by decide : 2 + 0 ≤ _), (by decide : 16 + 0 ≤ _)⟩)
  dsimp only [Pt.U, Pt.locs, Pt.cells, Pt.slots] at X3 l3 y3 z3 st3 hQ3
  subst l3 y3 z3
  obtain ⟨rfl, N3q, e3⟩ := hQ3
  have Z3 : n0 ≤ T3.heap.size := by rw [e3]; exact Z0
  have N3 := Fr.app N0 N3q
  have P3 := owa_heap P e3
  have B3 := owa_heap B e3
  obtain ⟨cl_o5, Ar_o5, S_o5, H_o5⟩ := B3
  have hin149 : ¬ ((5 : Int32) < 0 ∨ cl_o5.slots.size ≤ ((5 : Int32)).toNatClampNeg) := owa_in S_o5 (by decide) (by show 5 < n; exact hlt)
  obtain ⟨T4, h4, X4, e4, W4, st4⟩ := stB X3 hx hZ rfl Ar_o5 (j := (5 : Int32)) hin149 (g := (mkF m 149 #[s0, .val (.long j1), .second, .val (.int (Int32.ofNat n)), .val (.ref o4), .val (.ref o5), s6, s7, s8, s9] [(.int (own_at j1 (5 : Int32))), (.int (5 : Int32)), (.ref o5)])) rfl rfl (hb hby at_149)
  have N4 := Fr.snoc X4 N3 g_o5
  have B4 : OwA Z h4 o5 .byte n (own_f j1 6) := by
    have q := owa_set (owa_heap B e3) W4
    rw [own_nara] at q
    exact owa_congr q (fun j hj => own_fset j1 5 j)
  refine ⟨T4, h4, _, X4, e4, N4, Nat.le_trans Z3 (Keep.of_wr W4).1, owa_other P3 W4 hne, B4, fun target kt => ?_⟩
  show Steps p.tables e below (T0.setTop (mkF m 136 #[s0, .val (.long j1), .second, .val (.int (Int32.ofNat n)), .val (.ref o4), .val (.ref o5), s6, s7, s8, s9] [])) _
  refine XS.iloadN X0.here hx rfl (hb hby at_136) rfl ?_
  show Steps p.tables e below (T0.setTop (mkF m 137 #[s0, .val (.long j1), .second, .val (.int (Int32.ofNat n)), .val (.ref o4), .val (.ref o5), s6, s7, s8, s9] [(.int (Int32.ofNat n))])) _
  refine XS.iconst X0.here hx rfl (hb hby at_137) ?_
  show Steps p.tables e below (T0.setTop (mkF m 138 #[s0, .val (.long j1), .second, .val (.int (Int32.ofNat n)), .val (.ref o4), .val (.ref o5), s6, s7, s8, s9] [(.int (5 : Int32)), (.int (Int32.ofNat n))])) _
  refine XS.icmpNo X0.here hx rfl (hb hby at_138) rfl (tlt hc138).2.2.2 ?_
  show Steps p.tables e below (T0.setTop (mkF m 141 #[s0, .val (.long j1), .second, .val (.int (Int32.ofNat n)), .val (.ref o4), .val (.ref o5), s6, s7, s8, s9] [])) _
  refine XS.aload X0.here hx rfl (hb hby at_141) rfl rfl ?_
  show Steps p.tables e below (T0.setTop (mkF m 143 #[s0, .val (.long j1), .second, .val (.int (Int32.ofNat n)), .val (.ref o4), .val (.ref o5), s6, s7, s8, s9] [(.ref o5)])) _
  refine XS.iconst X0.here hx rfl (hb hby at_143) ?_
  show Steps p.tables e below (T0.setTop (mkF m 144 #[s0, .val (.long j1), .second, .val (.int (Int32.ofNat n)), .val (.ref o4), .val (.ref o5), s6, s7, s8, s9] [(.int (5 : Int32)), (.ref o5)])) _
  refine XS.lloadN X0.here hx rfl (hb hby at_144) rfl ?_
  show Steps p.tables e below (T0.setTop (mkF m 145 #[s0, .val (.long j1), .second, .val (.int (Int32.ofNat n)), .val (.ref o4), .val (.ref o5), s6, s7, s8, s9] [(.long j1), (.int (5 : Int32)), (.ref o5)])) _
  refine XS.iconst X0.here hx rfl (hb hby at_145) ?_
  show Steps p.tables e below (T0.setTop (mkF m 146 #[s0, .val (.long j1), .second, .val (.int (Int32.ofNat n)), .val (.ref o4), .val (.ref o5), s6, s7, s8, s9] [(.int (5 : Int32)), (.long j1), (.int (5 : Int32)), (.ref o5)])) _
  refine st3 _ ?_
  show Steps p.tables e below (T3.setTop (mkF m 149 #[s0, .val (.long j1), .second, .val (.int (Int32.ofNat n)), .val (.ref o4), .val (.ref o5), s6, s7, s8, s9] [(.int (own_at j1 (5 : Int32))), (.int (5 : Int32)), (.ref o5)])) _
  refine st4 _ ?_
  exact kt
set_option maxRecDepth 65536 in
set_option maxHeartbeats 40000000 in
theorem blk5t {p : Program} {l : Launch} {e : Env} {s : State} {m : MethodId} {args : Array Value} {below : List Frame} {meth : Method} {c : Code} {T0 : State} {locs : List Loc} {Z : State} {a0 : Array Value} {h0 : Heap} (s0 : Slot) (j1 : Int64) (n : Nat) (hn : n ≤ 8) (o4 o5 : Addr) (s6 s7 s8 s9 : Slot) (n0 : Nat)
    (X0 : Stand p l e room_1 s m args below meth c T0 locs 2 16) (hx : p.tables.exec = Jvm.exec) (hZ : Z.Warmed39 s.vm) (hw : ∀ d ∈ tables_1, d.before a0 Z = true) (hby : c.code = code) (hml : c.maxLocals = 10) (hown : s.vm.findClass "com/example/uniform_data_access/uniformdataaccess/model/KeyIndexHashPinLaw" = some m.cls) (e0 : T0.heap = h0) (N0 : Fr n0 locs) (Z0 : n0 ≤ h0.size) (g_o5 : n0 ≤ o5) (hne : o4 ≠ o5) (P : OwA Z h0 o4 .long 8 own_pv) (B : OwA Z h0 o5 .byte n (own_f j1 5)) (hlt : ¬ 5 < n) :
    ∃ (T' : State) (h' : Heap) (locs' : List Loc), Stand p l e room_1 s m args below meth c T' locs' 2 16 ∧ T'.heap = h' ∧ Fr n0 locs' ∧ n0 ≤ h'.size ∧ OwA Z h' o4 .long 8 own_pv ∧ OwA Z h' o5 .byte n (own_f j1 6) ∧
      ∀ target, Steps p.tables e below (T'.setTop (mkF m 150 #[s0, .val (.long j1), .second, .val (.int (Int32.ofNat n)), .val (.ref o4), .val (.ref o5), s6, s7, s8, s9] [])) target → Steps p.tables e below (T0.setTop (mkF m 136 #[s0, .val (.long j1), .second, .val (.int (Int32.ofNat n)), .val (.ref o4), .val (.ref o5), s6, s7, s8, s9] [])) target := by
  have hc138 : ¬ ((5 : Int32) < Int32.ofNat n) := fun q => hlt ((own_ltn (i := 5) (by omega) (by omega)).mp q)
  refine ⟨T0, h0, locs, X0, e0, N0, Z0, P, owa_congr B (fun j hj => own_fskip j1 5 j n hj hlt), fun target kt => ?_⟩
  show Steps p.tables e below (T0.setTop (mkF m 136 #[s0, .val (.long j1), .second, .val (.int (Int32.ofNat n)), .val (.ref o4), .val (.ref o5), s6, s7, s8, s9] [])) _
  refine XS.iloadN X0.here hx rfl (hb hby at_136) rfl ?_
  show Steps p.tables e below (T0.setTop (mkF m 137 #[s0, .val (.long j1), .second, .val (.int (Int32.ofNat n)), .val (.ref o4), .val (.ref o5), s6, s7, s8, s9] [(.int (Int32.ofNat n))])) _
  refine XS.iconst X0.here hx rfl (hb hby at_137) ?_
  show Steps p.tables e below (T0.setTop (mkF m 138 #[s0, .val (.long j1), .second, .val (.int (Int32.ofNat n)), .val (.ref o4), .val (.ref o5), s6, s7, s8, s9] [(.int (5 : Int32)), (.int (Int32.ofNat n))])) _
  refine XS.icmpYes X0.here hx rfl (pc0 := 138) (pc' := 150) rfl (hb hby at_138) rfl (flt hc138).2.2.2 (by decide) (by decide) ?_
  exact kt
set_option maxRecDepth 65536 in
set_option maxHeartbeats 40000000 in
theorem blk5 {p : Program} {l : Launch} {e : Env} {s : State} {m : MethodId} {args : Array Value} {below : List Frame} {meth : Method} {c : Code} {T0 : State} {locs : List Loc} {Z : State} {a0 : Array Value} {h0 : Heap} (s0 : Slot) (j1 : Int64) (n : Nat) (hn : n ≤ 8) (o4 o5 : Addr) (s6 s7 s8 s9 : Slot) (n0 : Nat)
    (X0 : Stand p l e room_1 s m args below meth c T0 locs 2 16) (hx : p.tables.exec = Jvm.exec) (hZ : Z.Warmed39 s.vm) (hw : ∀ d ∈ tables_1, d.before a0 Z = true) (hby : c.code = code) (hml : c.maxLocals = 10) (hown : s.vm.findClass "com/example/uniform_data_access/uniformdataaccess/model/KeyIndexHashPinLaw" = some m.cls) (e0 : T0.heap = h0) (N0 : Fr n0 locs) (Z0 : n0 ≤ h0.size) (g_o5 : n0 ≤ o5) (hne : o4 ≠ o5) (P : OwA Z h0 o4 .long 8 own_pv) (B : OwA Z h0 o5 .byte n (own_f j1 5)) :
    ∃ (T' : State) (h' : Heap) (locs' : List Loc), Stand p l e room_1 s m args below meth c T' locs' 2 16 ∧ T'.heap = h' ∧ Fr n0 locs' ∧ n0 ≤ h'.size ∧ OwA Z h' o4 .long 8 own_pv ∧ OwA Z h' o5 .byte n (own_f j1 6) ∧
      ∀ target, Steps p.tables e below (T'.setTop (mkF m 150 #[s0, .val (.long j1), .second, .val (.int (Int32.ofNat n)), .val (.ref o4), .val (.ref o5), s6, s7, s8, s9] [])) target → Steps p.tables e below (T0.setTop (mkF m 136 #[s0, .val (.long j1), .second, .val (.int (Int32.ofNat n)), .val (.ref o4), .val (.ref o5), s6, s7, s8, s9] [])) target := by
  by_cases hlt : 5 < n
  · exact blk5f s0 j1 n hn o4 o5 s6 s7 s8 s9 n0 X0 hx hZ hw hby hml hown e0 N0 Z0 g_o5 hne P B hlt
  · exact blk5t s0 j1 n hn o4 o5 s6 s7 s8 s9 n0 X0 hx hZ hw hby hml hown e0 N0 Z0 g_o5 hne P B hlt
set_option maxRecDepth 65536 in
set_option maxHeartbeats 40000000 in
theorem blk6f {p : Program} {l : Launch} {e : Env} {s : State} {m : MethodId} {args : Array Value} {below : List Frame} {meth : Method} {c : Code} {T0 : State} {locs : List Loc} {Z : State} {a0 : Array Value} {h0 : Heap} (s0 : Slot) (j1 : Int64) (n : Nat) (hn : n ≤ 8) (o4 o5 : Addr) (s6 s7 s8 s9 : Slot) (n0 : Nat)
    (X0 : Stand p l e room_1 s m args below meth c T0 locs 2 16) (hx : p.tables.exec = Jvm.exec) (hZ : Z.Warmed39 s.vm) (hw : ∀ d ∈ tables_1, d.before a0 Z = true) (hby : c.code = code) (hml : c.maxLocals = 10) (hown : s.vm.findClass "com/example/uniform_data_access/uniformdataaccess/model/KeyIndexHashPinLaw" = some m.cls) (e0 : T0.heap = h0) (N0 : Fr n0 locs) (Z0 : n0 ≤ h0.size) (g_o5 : n0 ≤ o5) (hne : o4 ≠ o5) (P : OwA Z h0 o4 .long 8 own_pv) (B : OwA Z h0 o5 .byte n (own_f j1 6)) (hlt : 6 < n) :
    ∃ (T' : State) (h' : Heap) (locs' : List Loc), Stand p l e room_1 s m args below meth c T' locs' 2 16 ∧ T'.heap = h' ∧ Fr n0 locs' ∧ n0 ≤ h'.size ∧ OwA Z h' o4 .long 8 own_pv ∧ OwA Z h' o5 .byte n (own_f j1 7) ∧
      ∀ target, Steps p.tables e below (T'.setTop (mkF m 167 #[s0, .val (.long j1), .second, .val (.int (Int32.ofNat n)), .val (.ref o4), .val (.ref o5), s6, s7, s8, s9] [])) target → Steps p.tables e below (T0.setTop (mkF m 150 #[s0, .val (.long j1), .second, .val (.int (Int32.ofNat n)), .val (.ref o4), .val (.ref o5), s6, s7, s8, s9] [])) target := by
  have hc153 : (6 : Int32) < Int32.ofNat n := (own_ltn (i := 6) (by omega) (by omega)).mpr hlt
  obtain ⟨_, _, ⟨T3, L3, k3, n3⟩, -, X3, ⟨Lc3, hQ3, l3, y3, z3⟩, st3⟩ := Jvm.LawKit.callS X0 hx (y := (⟨"com/example/uniform_data_access/uniformdataaccess/model/KeyIndexHashPinLaw", "at", "(JI)B"⟩ : MethodName)) hown (mvT hZ (hw _ (List.mem_of_getElem? (i := 19) rfl))) (mvT hZ (hw _ (List.mem_of_getElem? (i := 20) rfl))) (mvT hZ (hw _ (List.mem_of_getElem? (i := 11) rfl))) (mvT hZ (hw _ (List.mem_of_getElem? (i := 21) rfl))) (by decide) (backOf (W := 2) (rm3 l Z a0 hw [] j1 (6 : Int32) h0 n0 Z0) hZ (hw _ (List.mem_of_getElem? (i := 21) rfl)) (hw _ (List.mem_of_getElem? (i := 11) rfl)) (by decide) (by decide)) (g := (mkF m 163 #[s0, .val (.long j1), .second, .val (.int (Int32.ofNat n)), .val (.ref o4), .val (.ref o5), s6, s7, s8, s9] [(.int (6 : Int32)), (.long j1), (.int (6 : Int32)), (.ref o5)])) rfl (by rw [hml]; rfl) (argsL := [(.long j1), (.int (6 : Int32))]) (rest := [(.int (6 : Int32)), (.ref o5)]) (lenOf pd_0_2 rfl) rfl (by show 2 * 0 + _ ≤ _; exact Nat.le_of_eq rfl) (hb hby at_163) (fun _ _ => ⟨rfl, e0, (by decide : 2 + 0 ≤ _), (by decide : 16 + 0 ≤ _)⟩)
  dsimp only [Pt.U, Pt.locs, Pt.cells, Pt.slots] at X3 l3 y3 z3 st3 hQ3
  subst l3 y3 z3
  obtain ⟨rfl, N3q, e3⟩ := hQ3
  have Z3 : n0 ≤ T3.heap.size := by rw [e3]; exact Z0
  have N3 := Fr.app N0 N3q
  have P3 := owa_heap P e3
  have B3 := owa_heap B e3
  obtain ⟨cl_o5, Ar_o5, S_o5, H_o5⟩ := B3
  have hin166 : ¬ ((6 : Int32) < 0 ∨ cl_o5.slots.size ≤ ((6 : Int32)).toNatClampNeg) := owa_in S_o5 (by decide) (by show 6 < n; exact hlt)
  obtain ⟨T4, h4, X4, e4, W4, st4⟩ := stB X3 hx hZ rfl Ar_o5 (j := (6 : Int32)) hin166 (g := (mkF m 166 #[s0, .val (.long j1), .second, .val (.int (Int32.ofNat n)), .val (.ref o4), .val (.ref o5), s6, s7, s8, s9] [(.int (own_at j1 (6 : Int32))), (.int (6 : Int32)), (.ref o5)])) rfl rfl (hb hby at_166)
  have N4 := Fr.snoc X4 N3 g_o5
  have B4 : OwA Z h4 o5 .byte n (own_f j1 7) := by
    have q := owa_set (owa_heap B e3) W4
    rw [own_nara] at q
    exact owa_congr q (fun j hj => own_fset j1 6 j)
  refine ⟨T4, h4, _, X4, e4, N4, Nat.le_trans Z3 (Keep.of_wr W4).1, owa_other P3 W4 hne, B4, fun target kt => ?_⟩
  show Steps p.tables e below (T0.setTop (mkF m 150 #[s0, .val (.long j1), .second, .val (.int (Int32.ofNat n)), .val (.ref o4), .val (.ref o5), s6, s7, s8, s9] [])) _
  refine XS.iloadN X0.here hx rfl (hb hby at_150) rfl ?_
  show Steps p.tables e below (T0.setTop (mkF m 151 #[s0, .val (.long j1), .second, .val (.int (Int32.ofNat n)), .val (.ref o4), .val (.ref o5), s6, s7, s8, s9] [(.int (Int32.ofNat n))])) _
  refine XS.bipush X0.here hx rfl (hb hby at_151) ?_
  show Steps p.tables e below (T0.setTop (mkF m 153 #[s0, .val (.long j1), .second, .val (.int (Int32.ofNat n)), .val (.ref o4), .val (.ref o5), s6, s7, s8, s9] [(.int (6 : Int32)), (.int (Int32.ofNat n))])) _
  refine XS.icmpNo X0.here hx rfl (hb hby at_153) rfl (tlt hc153).2.2.2 ?_
  show Steps p.tables e below (T0.setTop (mkF m 156 #[s0, .val (.long j1), .second, .val (.int (Int32.ofNat n)), .val (.ref o4), .val (.ref o5), s6, s7, s8, s9] [])) _
  refine XS.aload X0.here hx rfl (hb hby at_156) rfl rfl ?_
  show Steps p.tables e below (T0.setTop (mkF m 158 #[s0, .val (.long j1), .second, .val (.int (Int32.ofNat n)), .val (.ref o4), .val (.ref o5), s6, s7, s8, s9] [(.ref o5)])) _
  refine XS.bipush X0.here hx rfl (hb hby at_158) ?_
  show Steps p.tables e below (T0.setTop (mkF m 160 #[s0, .val (.long j1), .second, .val (.int (Int32.ofNat n)), .val (.ref o4), .val (.ref o5), s6, s7, s8, s9] [(.int (6 : Int32)), (.ref o5)])) _
  refine XS.lloadN X0.here hx rfl (hb hby at_160) rfl ?_
  show Steps p.tables e below (T0.setTop (mkF m 161 #[s0, .val (.long j1), .second, .val (.int (Int32.ofNat n)), .val (.ref o4), .val (.ref o5), s6, s7, s8, s9] [(.long j1), (.int (6 : Int32)), (.ref o5)])) _
  refine XS.bipush X0.here hx rfl (hb hby at_161) ?_
  show Steps p.tables e below (T0.setTop (mkF m 163 #[s0, .val (.long j1), .second, .val (.int (Int32.ofNat n)), .val (.ref o4), .val (.ref o5), s6, s7, s8, s9] [(.int (6 : Int32)), (.long j1), (.int (6 : Int32)), (.ref o5)])) _
  refine st3 _ ?_
  show Steps p.tables e below (T3.setTop (mkF m 166 #[s0, .val (.long j1), .second, .val (.int (Int32.ofNat n)), .val (.ref o4), .val (.ref o5), s6, s7, s8, s9] [(.int (own_at j1 (6 : Int32))), (.int (6 : Int32)), (.ref o5)])) _
  refine st4 _ ?_
  exact kt
set_option maxRecDepth 65536 in
set_option maxHeartbeats 40000000 in
theorem blk6t {p : Program} {l : Launch} {e : Env} {s : State} {m : MethodId} {args : Array Value} {below : List Frame} {meth : Method} {c : Code} {T0 : State} {locs : List Loc} {Z : State} {a0 : Array Value} {h0 : Heap} (s0 : Slot) (j1 : Int64) (n : Nat) (hn : n ≤ 8) (o4 o5 : Addr) (s6 s7 s8 s9 : Slot) (n0 : Nat)
    (X0 : Stand p l e room_1 s m args below meth c T0 locs 2 16) (hx : p.tables.exec = Jvm.exec) (hZ : Z.Warmed39 s.vm) (hw : ∀ d ∈ tables_1, d.before a0 Z = true) (hby : c.code = code) (hml : c.maxLocals = 10) (hown : s.vm.findClass "com/example/uniform_data_access/uniformdataaccess/model/KeyIndexHashPinLaw" = some m.cls) (e0 : T0.heap = h0) (N0 : Fr n0 locs) (Z0 : n0 ≤ h0.size) (g_o5 : n0 ≤ o5) (hne : o4 ≠ o5) (P : OwA Z h0 o4 .long 8 own_pv) (B : OwA Z h0 o5 .byte n (own_f j1 6)) (hlt : ¬ 6 < n) :
    ∃ (T' : State) (h' : Heap) (locs' : List Loc), Stand p l e room_1 s m args below meth c T' locs' 2 16 ∧ T'.heap = h' ∧ Fr n0 locs' ∧ n0 ≤ h'.size ∧ OwA Z h' o4 .long 8 own_pv ∧ OwA Z h' o5 .byte n (own_f j1 7) ∧
      ∀ target, Steps p.tables e below (T'.setTop (mkF m 167 #[s0, .val (.long j1), .second, .val (.int (Int32.ofNat n)), .val (.ref o4), .val (.ref o5), s6, s7, s8, s9] [])) target → Steps p.tables e below (T0.setTop (mkF m 150 #[s0, .val (.long j1), .second, .val (.int (Int32.ofNat n)), .val (.ref o4), .val (.ref o5), s6, s7, s8, s9] [])) target := by
  have hc153 : ¬ ((6 : Int32) < Int32.ofNat n) := fun q => hlt ((own_ltn (i := 6) (by omega) (by omega)).mp q)
  refine ⟨T0, h0, locs, X0, e0, N0, Z0, P, owa_congr B (fun j hj => own_fskip j1 6 j n hj hlt), fun target kt => ?_⟩
  show Steps p.tables e below (T0.setTop (mkF m 150 #[s0, .val (.long j1), .second, .val (.int (Int32.ofNat n)), .val (.ref o4), .val (.ref o5), s6, s7, s8, s9] [])) _
  refine XS.iloadN X0.here hx rfl (hb hby at_150) rfl ?_
  show Steps p.tables e below (T0.setTop (mkF m 151 #[s0, .val (.long j1), .second, .val (.int (Int32.ofNat n)), .val (.ref o4), .val (.ref o5), s6, s7, s8, s9] [(.int (Int32.ofNat n))])) _
  refine XS.bipush X0.here hx rfl (hb hby at_151) ?_
  show Steps p.tables e below (T0.setTop (mkF m 153 #[s0, .val (.long j1), .second, .val (.int (Int32.ofNat n)), .val (.ref o4), .val (.ref o5), s6, s7, s8, s9] [(.int (6 : Int32)), (.int (Int32.ofNat n))])) _
  refine XS.icmpYes X0.here hx rfl (pc0 := 153) (pc' := 167) rfl (hb hby at_153) rfl (flt hc153).2.2.2 (by decide) (by decide) ?_
  exact kt
set_option maxRecDepth 65536 in
set_option maxHeartbeats 40000000 in
theorem blk6 {p : Program} {l : Launch} {e : Env} {s : State} {m : MethodId} {args : Array Value} {below : List Frame} {meth : Method} {c : Code} {T0 : State} {locs : List Loc} {Z : State} {a0 : Array Value} {h0 : Heap} (s0 : Slot) (j1 : Int64) (n : Nat) (hn : n ≤ 8) (o4 o5 : Addr) (s6 s7 s8 s9 : Slot) (n0 : Nat)
    (X0 : Stand p l e room_1 s m args below meth c T0 locs 2 16) (hx : p.tables.exec = Jvm.exec) (hZ : Z.Warmed39 s.vm) (hw : ∀ d ∈ tables_1, d.before a0 Z = true) (hby : c.code = code) (hml : c.maxLocals = 10) (hown : s.vm.findClass "com/example/uniform_data_access/uniformdataaccess/model/KeyIndexHashPinLaw" = some m.cls) (e0 : T0.heap = h0) (N0 : Fr n0 locs) (Z0 : n0 ≤ h0.size) (g_o5 : n0 ≤ o5) (hne : o4 ≠ o5) (P : OwA Z h0 o4 .long 8 own_pv) (B : OwA Z h0 o5 .byte n (own_f j1 6)) :
    ∃ (T' : State) (h' : Heap) (locs' : List Loc), Stand p l e room_1 s m args below meth c T' locs' 2 16 ∧ T'.heap = h' ∧ Fr n0 locs' ∧ n0 ≤ h'.size ∧ OwA Z h' o4 .long 8 own_pv ∧ OwA Z h' o5 .byte n (own_f j1 7) ∧
      ∀ target, Steps p.tables e below (T'.setTop (mkF m 167 #[s0, .val (.long j1), .second, .val (.int (Int32.ofNat n)), .val (.ref o4), .val (.ref o5), s6, s7, s8, s9] [])) target → Steps p.tables e below (T0.setTop (mkF m 150 #[s0, .val (.long j1), .second, .val (.int (Int32.ofNat n)), .val (.ref o4), .val (.ref o5), s6, s7, s8, s9] [])) target := by
  by_cases hlt : 6 < n
  · exact blk6f s0 j1 n hn o4 o5 s6 s7 s8 s9 n0 X0 hx hZ hw hby hml hown e0 N0 Z0 g_o5 hne P B hlt
  · exact blk6t s0 j1 n hn o4 o5 s6 s7 s8 s9 n0 X0 hx hZ hw hby hml hown e0 N0 Z0 g_o5 hne P B hlt
set_option maxRecDepth 65536 in
set_option maxHeartbeats 40000000 in
theorem blk7f {p : Program} {l : Launch} {e : Env} {s : State} {m : MethodId} {args : Array Value} {below : List Frame} {meth : Method} {c : Code} {T0 : State} {locs : List Loc} {Z : State} {a0 : Array Value} {h0 : Heap} (s0 : Slot) (j1 : Int64) (n : Nat) (hn : n ≤ 8) (o4 o5 : Addr) (s6 s7 s8 s9 : Slot) (n0 : Nat)
    (X0 : Stand p l e room_1 s m args below meth c T0 locs 2 16) (hx : p.tables.exec = Jvm.exec) (hZ : Z.Warmed39 s.vm) (hw : ∀ d ∈ tables_1, d.before a0 Z = true) (hby : c.code = code) (hml : c.maxLocals = 10) (hown : s.vm.findClass "com/example/uniform_data_access/uniformdataaccess/model/KeyIndexHashPinLaw" = some m.cls) (e0 : T0.heap = h0) (N0 : Fr n0 locs) (Z0 : n0 ≤ h0.size) (g_o5 : n0 ≤ o5) (hne : o4 ≠ o5) (P : OwA Z h0 o4 .long 8 own_pv) (B : OwA Z h0 o5 .byte n (own_f j1 7)) (hlt : 7 < n) :
    ∃ (T' : State) (h' : Heap) (locs' : List Loc), Stand p l e room_1 s m args below meth c T' locs' 2 16 ∧ T'.heap = h' ∧ Fr n0 locs' ∧ n0 ≤ h'.size ∧ OwA Z h' o4 .long 8 own_pv ∧ OwA Z h' o5 .byte n (own_f j1 8) ∧
      ∀ target, Steps p.tables e below (T'.setTop (mkF m 184 #[s0, .val (.long j1), .second, .val (.int (Int32.ofNat n)), .val (.ref o4), .val (.ref o5), s6, s7, s8, s9] [])) target → Steps p.tables e below (T0.setTop (mkF m 167 #[s0, .val (.long j1), .second, .val (.int (Int32.ofNat n)), .val (.ref o4), .val (.ref o5), s6, s7, s8, s9] [])) target := by
  have hc170 : (7 : Int32) < Int32.ofNat n := (own_ltn (i := 7) (by omega) (by omega)).mpr hlt
  obtain ⟨_, _, ⟨T3, L3, k3, n3⟩, -, X3, ⟨Lc3, hQ3, l3, y3, z3⟩, st3⟩ := Jvm.LawKit.callS X0 hx (y := (⟨"com/example/uniform_data_access/uniformdataaccess/model/KeyIndexHashPinLaw", "at", "(JI)B"⟩ : MethodName)) hown (mvT hZ (hw _ (List.mem_of_getElem? (i := 19) rfl))) (mvT hZ (hw _ (List.mem_of_getElem? (i := 20) rfl))) (mvT hZ (hw _ (List.mem_of_getElem? (i := 11) rfl))) (mvT hZ (hw _ (List.mem_of_getElem? (i := 21) rfl))) (by decide) (backOf (W := 2) (rm3 l Z a0 hw [] j1 (7 : Int32) h0 n0 Z0) hZ (hw _ (List.mem_of_getElem? (i := 21) rfl)) (hw _ (List.mem_of_getElem? (i := 11) rfl)) (by decide) (by decide)) (g := (mkF m 180 #[s0, .val (.long j1), .second, .val (.int (Int32.ofNat n)), .val (.ref o4), .val (.ref o5), s6, s7, s8, s9] [(.int (7 : Int32)), (.long j1), (.int (7 : Int32)), (.ref o5)])) rfl (by rw [hml]; rfl) (argsL := [(.long j1), (.int (7 : Int32))]) (rest := [(.int (7 : Int32)), (.ref o5)]) (lenOf pd_0_2 rfl) rfl (by show 2 * 0 + _ ≤ _; exact Nat.le_of_eq rfl) (hb hby at_180) (fun _ _ => ⟨rfl, e0, (by decide : 2 + 0 ≤ _), (by decide : 16 + 0 ≤ _)⟩)
  dsimp only [Pt.U, Pt.locs, Pt.cells, Pt.slots] at X3 l3 y3 z3 st3 hQ3
  subst l3 y3 z3
  obtain ⟨rfl, N3q, e3⟩ := hQ3
  have Z3 : n0 ≤ T3.heap.size := by rw [e3]; exact Z0
  have N3 := Fr.app N0 N3q
  have P3 := owa_heap P e3
  have B3 := owa_heap B e3
  obtain ⟨cl_o5, Ar_o5, S_o5, H_o5⟩ := B3
  have hin183 : ¬ ((7 : Int32) < 0 ∨ cl_o5.slots.size ≤ ((7 : Int32)).toNatClampNeg) := owa_in S_o5 (by decide) (by show 7 < n; exact hlt)
  obtain ⟨T4, h4, X4, e4, W4, st4⟩ := stB X3 hx hZ rfl Ar_o5 (j := (7 : Int32)) hin183 (g := (mkF m 183 #[s0, .val (.long j1), .second, .val (.int (Int32.ofNat n)), .val (.ref o4), .val (.ref o5), s6, s7, s8, s9] [(.int (own_at j1 (7 : Int32))), (.int (7 : Int32)), (.ref o5)])) rfl rfl (hb hby at_183)
  have N4 := Fr.snoc X4 N3 g_o5
  have B4 : OwA Z h4 o5 .byte n (own_f j1 8) := by
    have q := owa_set (owa_heap B e3) W4
    rw [own_nara] at q
    exact owa_congr q (fun j hj => own_fset j1 7 j)
  refine ⟨T4, h4, _, X4, e4, N4, Nat.le_trans Z3 (Keep.of_wr W4).1, owa_other P3 W4 hne, B4, fun target kt => ?_⟩
  show Steps p.tables e below (T0.setTop (mkF m 167 #[s0, .val (.long j1), .second, .val (.int (Int32.ofNat n)), .val (.ref o4), .val (.ref o5), s6, s7, s8, s9] [])) _
  refine XS.iloadN X0.here hx rfl (hb hby at_167) rfl ?_
  show Steps p.tables e below (T0.setTop (mkF m 168 #[s0, .val (.long j1), .second, .val (.int (Int32.ofNat n)), .val (.ref o4), .val (.ref o5), s6, s7, s8, s9] [(.int (Int32.ofNat n))])) _
  refine XS.bipush X0.here hx rfl (hb hby at_168) ?_
  show Steps p.tables e below (T0.setTop (mkF m 170 #[s0, .val (.long j1), .second, .val (.int (Int32.ofNat n)), .val (.ref o4), .val (.ref o5), s6, s7, s8, s9] [(.int (7 : Int32)), (.int (Int32.ofNat n))])) _
  refine XS.icmpNo X0.here hx rfl (hb hby at_170) rfl (tlt hc170).2.2.2 ?_
  show Steps p.tables e below (T0.setTop (mkF m 173 #[s0, .val (.long j1), .second, .val (.int (Int32.ofNat n)), .val (.ref o4), .val (.ref o5), s6, s7, s8, s9] [])) _
  refine XS.aload X0.here hx rfl (hb hby at_173) rfl rfl ?_
  show Steps p.tables e below (T0.setTop (mkF m 175 #[s0, .val (.long j1), .second, .val (.int (Int32.ofNat n)), .val (.ref o4), .val (.ref o5), s6, s7, s8, s9] [(.ref o5)])) _
  refine XS.bipush X0.here hx rfl (hb hby at_175) ?_
  show Steps p.tables e below (T0.setTop (mkF m 177 #[s0, .val (.long j1), .second, .val (.int (Int32.ofNat n)), .val (.ref o4), .val (.ref o5), s6, s7, s8, s9] [(.int (7 : Int32)), (.ref o5)])) _
  refine XS.lloadN X0.here hx rfl (hb hby at_177) rfl ?_
  show Steps p.tables e below (T0.setTop (mkF m 178 #[s0, .val (.long j1), .second, .val (.int (Int32.ofNat n)), .val (.ref o4), .val (.ref o5), s6, s7, s8, s9] [(.long j1), (.int (7 : Int32)), (.ref o5)])) _
  refine XS.bipush X0.here hx rfl (hb hby at_178) ?_
  show Steps p.tables e below (T0.setTop (mkF m 180 #[s0, .val (.long j1), .second, .val (.int (Int32.ofNat n)), .val (.ref o4), .val (.ref o5), s6, s7, s8, s9] [(.int (7 : Int32)), (.long j1), (.int (7 : Int32)), (.ref o5)])) _
  refine st3 _ ?_
  show Steps p.tables e below (T3.setTop (mkF m 183 #[s0, .val (.long j1), .second, .val (.int (Int32.ofNat n)), .val (.ref o4), .val (.ref o5), s6, s7, s8, s9] [(.int (own_at j1 (7 : Int32))), (.int (7 : Int32)), (.ref o5)])) _
  refine st4 _ ?_
  exact kt
set_option maxRecDepth 65536 in
set_option maxHeartbeats 40000000 in
theorem blk7t {p : Program} {l : Launch} {e : Env} {s : State} {m : MethodId} {args : Array Value} {below : List Frame} {meth : Method} {c : Code} {T0 : State} {locs : List Loc} {Z : State} {a0 : Array Value} {h0 : Heap} (s0 : Slot) (j1 : Int64) (n : Nat) (hn : n ≤ 8) (o4 o5 : Addr) (s6 s7 s8 s9 : Slot) (n0 : Nat)
    (X0 : Stand p l e room_1 s m args below meth c T0 locs 2 16) (hx : p.tables.exec = Jvm.exec) (hZ : Z.Warmed39 s.vm) (hw : ∀ d ∈ tables_1, d.before a0 Z = true) (hby : c.code = code) (hml : c.maxLocals = 10) (hown : s.vm.findClass "com/example/uniform_data_access/uniformdataaccess/model/KeyIndexHashPinLaw" = some m.cls) (e0 : T0.heap = h0) (N0 : Fr n0 locs) (Z0 : n0 ≤ h0.size) (g_o5 : n0 ≤ o5) (hne : o4 ≠ o5) (P : OwA Z h0 o4 .long 8 own_pv) (B : OwA Z h0 o5 .byte n (own_f j1 7)) (hlt : ¬ 7 < n) :
    ∃ (T' : State) (h' : Heap) (locs' : List Loc), Stand p l e room_1 s m args below meth c T' locs' 2 16 ∧ T'.heap = h' ∧ Fr n0 locs' ∧ n0 ≤ h'.size ∧ OwA Z h' o4 .long 8 own_pv ∧ OwA Z h' o5 .byte n (own_f j1 8) ∧
      ∀ target, Steps p.tables e below (T'.setTop (mkF m 184 #[s0, .val (.long j1), .second, .val (.int (Int32.ofNat n)), .val (.ref o4), .val (.ref o5), s6, s7, s8, s9] [])) target → Steps p.tables e below (T0.setTop (mkF m 167 #[s0, .val (.long j1), .second, .val (.int (Int32.ofNat n)), .val (.ref o4), .val (.ref o5), s6, s7, s8, s9] [])) target := by
  have hc170 : ¬ ((7 : Int32) < Int32.ofNat n) := fun q => hlt ((own_ltn (i := 7) (by omega) (by omega)).mp q)
  refine ⟨T0, h0, locs, X0, e0, N0, Z0, P, owa_congr B (fun j hj => own_fskip j1 7 j n hj hlt), fun target kt => ?_⟩
  show Steps p.tables e below (T0.setTop (mkF m 167 #[s0, .val (.long j1), .second, .val (.int (Int32.ofNat n)), .val (.ref o4), .val (.ref o5), s6, s7, s8, s9] [])) _
  refine XS.iloadN X0.here hx rfl (hb hby at_167) rfl ?_
  show Steps p.tables e below (T0.setTop (mkF m 168 #[s0, .val (.long j1), .second, .val (.int (Int32.ofNat n)), .val (.ref o4), .val (.ref o5), s6, s7, s8, s9] [(.int (Int32.ofNat n))])) _
  refine XS.bipush X0.here hx rfl (hb hby at_168) ?_
  show Steps p.tables e below (T0.setTop (mkF m 170 #[s0, .val (.long j1), .second, .val (.int (Int32.ofNat n)), .val (.ref o4), .val (.ref o5), s6, s7, s8, s9] [(.int (7 : Int32)), (.int (Int32.ofNat n))])) _
  refine XS.icmpYes X0.here hx rfl (pc0 := 170) (pc' := 184) rfl (hb hby at_170) rfl (flt hc170).2.2.2 (by decide) (by decide) ?_
  exact kt
set_option maxRecDepth 65536 in
set_option maxHeartbeats 40000000 in
theorem blk7 {p : Program} {l : Launch} {e : Env} {s : State} {m : MethodId} {args : Array Value} {below : List Frame} {meth : Method} {c : Code} {T0 : State} {locs : List Loc} {Z : State} {a0 : Array Value} {h0 : Heap} (s0 : Slot) (j1 : Int64) (n : Nat) (hn : n ≤ 8) (o4 o5 : Addr) (s6 s7 s8 s9 : Slot) (n0 : Nat)
    (X0 : Stand p l e room_1 s m args below meth c T0 locs 2 16) (hx : p.tables.exec = Jvm.exec) (hZ : Z.Warmed39 s.vm) (hw : ∀ d ∈ tables_1, d.before a0 Z = true) (hby : c.code = code) (hml : c.maxLocals = 10) (hown : s.vm.findClass "com/example/uniform_data_access/uniformdataaccess/model/KeyIndexHashPinLaw" = some m.cls) (e0 : T0.heap = h0) (N0 : Fr n0 locs) (Z0 : n0 ≤ h0.size) (g_o5 : n0 ≤ o5) (hne : o4 ≠ o5) (P : OwA Z h0 o4 .long 8 own_pv) (B : OwA Z h0 o5 .byte n (own_f j1 7)) :
    ∃ (T' : State) (h' : Heap) (locs' : List Loc), Stand p l e room_1 s m args below meth c T' locs' 2 16 ∧ T'.heap = h' ∧ Fr n0 locs' ∧ n0 ≤ h'.size ∧ OwA Z h' o4 .long 8 own_pv ∧ OwA Z h' o5 .byte n (own_f j1 8) ∧
      ∀ target, Steps p.tables e below (T'.setTop (mkF m 184 #[s0, .val (.long j1), .second, .val (.int (Int32.ofNat n)), .val (.ref o4), .val (.ref o5), s6, s7, s8, s9] [])) target → Steps p.tables e below (T0.setTop (mkF m 167 #[s0, .val (.long j1), .second, .val (.int (Int32.ofNat n)), .val (.ref o4), .val (.ref o5), s6, s7, s8, s9] [])) target := by
  by_cases hlt : 7 < n
  · exact blk7f s0 j1 n hn o4 o5 s6 s7 s8 s9 n0 X0 hx hZ hw hby hml hown e0 N0 Z0 g_o5 hne P B hlt
  · exact blk7t s0 j1 n hn o4 o5 s6 s7 s8 s9 n0 X0 hx hZ hw hby hml hown e0 N0 Z0 g_o5 hne P B hlt
def Q0 (Z : State) (p1 : Int32) (q2 : Int64) (h0 : Heap) (n0 : Nat) (v : Option Value) (h : Heap) (L : List Loc) : Prop := v = some (.int (1 : Int32)) ∧ Fr n0 L
set_option maxRecDepth 65536 in
set_option maxHeartbeats 40000000 in
theorem rm0n (l : Launch) (Z : State) (a0 : Array Value) (hw : ∀ d ∈ tables_1, d.before a0 Z = true) (ws : List Jvm.Cond) (p1 : Int32) (q2 : Int64) (h0 : Heap) (n0 : Nat) (Z0 : n0 ≤ h0.size) (n : Nat) (hn : n ≤ 8) (en : ((p1 &&& (15 : Int32)) % (9 : Int32)) = Int32.ofNat n) :
    MetFree l x (head1 (Jvm.Cond.code x code maxLocals ret :: ws) room_1) (fun a U => a = #[(.int p1), (.long q2)] ∧ Z.Warmed39 U.vm ∧ U.heap = h0) (fun _ _ _ _ _ => True) (fun _ U o U' => ∃ v L, o = .returned v ∧ Q0 Z p1 q2 h0 n0 v U'.heap L ∧ FrameEnd U o U' L room_1.cells room_1.slots) := by
  refine MetFree.of_bodySF (plainFor_of_name pn_0) hisR ?_
  intro p e s m args below meth c s₁ Bd hml0 hP hK
  obtain ⟨rfl, hZ, hh⟩ := hP
  have hx := Bd.exec
  have hby := Bd.bytes
  have hml : c.maxLocals = 10 := hml0
  have hown : s.vm.findClass "com/example/uniform_data_access/uniformdataaccess/model/KeyIndexHashPinLaw" = some m.cls := findClass_of_methodNamed Bd.named
  have hnm := (name_of_methodNamed Bd.named Bd.method).1
  have X0 : Stand p l e room_1 s m #[(.int p1), (.long q2)] below meth c s₁ [] 0 0 := Stand.of_body Bd
  have e0 : s₁.heap = h0 := by rw [← hh, Bd.state]; rfl
  have N0 := Fr.nil n0
  have pre0 : ∀ t, Steps p.tables e below (s₁.setTop (mkF m 0 #[.val (.int p1), .val (.long q2), .second, .unset, .unset, .unset, .unset, .unset, .unset, .unset] [])) t → Steps p.tables e below (s₁.setTop (entryFrame m #[(.int p1), (.long q2)] maxLocals)) t := fun t k => castTop (ef_0 m p1 q2) k
  obtain ⟨T3, h3, k3, X3, e3, E3, A3, st3⟩ := newP X0 hx hZ (hw _ (List.mem_of_getElem? (i := 0) rfl)) e0 (g := (mkF m 10 #[.val (.int p1), .val (.long q2), .second, .val (.int (Int32.ofNat n)), .unset, .unset, .unset, .unset, .unset, .unset] [(.int (8 : Int32))])) rfl (hb hby at_10) rfl (by decide) (cap := 8) (by decide) (by decide) (by decide) (by decide)
  obtain ⟨b3, g3⟩ : ∃ z, z = h0.size := ⟨_, rfl⟩
  rw [← g3] at A3 st3
  have V_b3 : Arv Z h3 b3 k3 .long (8 : Int32) [(.long (0 : Int64)), (.long (0 : Int64)), (.long (0 : Int64)), (.long (0 : Int64)), (.long (0 : Int64)), (.long (0 : Int64)), (.long (0 : Int64)), (.long (0 : Int64))] (.long (0 : Int64)) := (Arv.new A3 (by decide)).pad (pad_rep [] (.long (0 : Int64)) 8)
  have g_b3 : n0 ≤ b3 := Nat.le_trans Z0 (Nat.le_of_eq g3.symm)
  have sz_b3 : h0.size ≤ b3 := (Nat.le_trans (Keep.refl h0 []).1 (Nat.le_of_eq g3.symm))
  have K3 : Keep h0 h3 [] := (Keep.refl h0 []).ext E3
  obtain ⟨cl_b3_15, Ar_b3, q_b3, S_b3, N_b3, H_b3, G_b3⟩ := V_b3
  have hin15 : ¬ ((0 : Int32) < 0 ∨ cl_b3_15.slots.size ≤ ((0 : Int32)).toNatClampNeg) := inb_of S_b3 ⟨by decide, by decide⟩
  obtain ⟨T4, h4, X4, e4, W4, st4⟩ := stJ X3 hx hZ e3 Ar_b3 (j := (0 : Int32)) hin15 (g := (mkF m 15 #[.val (.int p1), .val (.long q2), .second, .val (.int (Int32.ofNat n)), .unset, .unset, .unset, .unset, .unset, .unset] [(.long (1 : Int64)), (.int (0 : Int32)), (.ref b3), (.ref b3)])) rfl rfl (hb hby at_15)
  have V_b3_4 := Arv.set Ar_b3 q_b3 S_b3 N_b3 H_b3 G_b3 rfl W4 0 rfl (Nat.le_of_ble_eq_true rfl)
  have K4 : Keep h0 h4 [] := K3.wr W4 (Or.inr sz_b3)
  have N4 := Fr.snoc X4 N0 g_b3
  obtain ⟨cl_b3_21, Ar_b3, q_b3, S_b3, N_b3, H_b3, G_b3⟩ := V_b3_4
  have hin21 : ¬ ((1 : Int32) < 0 ∨ cl_b3_21.slots.size ≤ ((1 : Int32)).toNatClampNeg) := inb_of S_b3 ⟨by decide, by decide⟩
  obtain ⟨T5, h5, X5, e5, W5, st5⟩ := stJ X4 hx hZ e4 Ar_b3 (j := (1 : Int32)) hin21 (g := (mkF m 21 #[.val (.int p1), .val (.long q2), .second, .val (.int (Int32.ofNat n)), .unset, .unset, .unset, .unset, .unset, .unset] [(.long (31 : Int64)), (.int (1 : Int32)), (.ref b3), (.ref b3)])) rfl rfl (hb hby at_21)
  have V_b3_5 := Arv.set Ar_b3 q_b3 S_b3 N_b3 H_b3 G_b3 rfl W5 1 rfl (Nat.le_of_ble_eq_true rfl)
  have K5 : Keep h0 h5 [] := K4.wr W5 (Or.inr sz_b3)
  have N5 := Fr.snoc X5 N4 g_b3
  obtain ⟨cl_b3_27, Ar_b3, q_b3, S_b3, N_b3, H_b3, G_b3⟩ := V_b3_5
  have hin27 : ¬ ((2 : Int32) < 0 ∨ cl_b3_27.slots.size ≤ ((2 : Int32)).toNatClampNeg) := inb_of S_b3 ⟨by decide, by decide⟩
  obtain ⟨T6, h6, X6, e6, W6, st6⟩ := stJ X5 hx hZ e5 Ar_b3 (j := (2 : Int32)) hin27 (g := (mkF m 27 #[.val (.int p1), .val (.long q2), .second, .val (.int (Int32.ofNat n)), .unset, .unset, .unset, .unset, .unset, .unset] [(.long (961 : Int64)), (.int (2 : Int32)), (.ref b3), (.ref b3)])) rfl rfl (hb hby at_27)
  have V_b3_6 := Arv.set Ar_b3 q_b3 S_b3 N_b3 H_b3 G_b3 rfl W6 2 rfl (Nat.le_of_ble_eq_true rfl)
  have K6 : Keep h0 h6 [] := K5.wr W6 (Or.inr sz_b3)
  have N6 := Fr.snoc X6 N5 g_b3
  obtain ⟨cl_b3_33, Ar_b3, q_b3, S_b3, N_b3, H_b3, G_b3⟩ := V_b3_6
  have hin33 : ¬ ((3 : Int32) < 0 ∨ cl_b3_33.slots.size ≤ ((3 : Int32)).toNatClampNeg) := inb_of S_b3 ⟨by decide, by decide⟩
  obtain ⟨T7, h7, X7, e7, W7, st7⟩ := stJ X6 hx hZ e6 Ar_b3 (j := (3 : Int32)) hin33 (g := (mkF m 33 #[.val (.int p1), .val (.long q2), .second, .val (.int (Int32.ofNat n)), .unset, .unset, .unset, .unset, .unset, .unset] [(.long (29791 : Int64)), (.int (3 : Int32)), (.ref b3), (.ref b3)])) rfl rfl (hb hby at_33)
  have V_b3_7 := Arv.set Ar_b3 q_b3 S_b3 N_b3 H_b3 G_b3 rfl W7 3 rfl (Nat.le_of_ble_eq_true rfl)
  have K7 : Keep h0 h7 [] := K6.wr W7 (Or.inr sz_b3)
  have N7 := Fr.snoc X7 N6 g_b3
  obtain ⟨cl_b3_39, Ar_b3, q_b3, S_b3, N_b3, H_b3, G_b3⟩ := V_b3_7
  have hin39 : ¬ ((4 : Int32) < 0 ∨ cl_b3_39.slots.size ≤ ((4 : Int32)).toNatClampNeg) := inb_of S_b3 ⟨by decide, by decide⟩
  obtain ⟨T8, h8, X8, e8, W8, st8⟩ := stJ X7 hx hZ e7 Ar_b3 (j := (4 : Int32)) hin39 (g := (mkF m 39 #[.val (.int p1), .val (.long q2), .second, .val (.int (Int32.ofNat n)), .unset, .unset, .unset, .unset, .unset, .unset] [(.long (923521 : Int64)), (.int (4 : Int32)), (.ref b3), (.ref b3)])) rfl rfl (hb hby at_39)
  have V_b3_8 := Arv.set Ar_b3 q_b3 S_b3 N_b3 H_b3 G_b3 rfl W8 4 rfl (Nat.le_of_ble_eq_true rfl)
  have K8 : Keep h0 h8 [] := K7.wr W8 (Or.inr sz_b3)
  have N8 := Fr.snoc X8 N7 g_b3
  obtain ⟨cl_b3_45, Ar_b3, q_b3, S_b3, N_b3, H_b3, G_b3⟩ := V_b3_8
  have hin45 : ¬ ((5 : Int32) < 0 ∨ cl_b3_45.slots.size ≤ ((5 : Int32)).toNatClampNeg) := inb_of S_b3 ⟨by decide, by decide⟩
  obtain ⟨T9, h9, X9, e9, W9, st9⟩ := stJ X8 hx hZ e8 Ar_b3 (j := (5 : Int32)) hin45 (g := (mkF m 45 #[.val (.int p1), .val (.long q2), .second, .val (.int (Int32.ofNat n)), .unset, .unset, .unset, .unset, .unset, .unset] [(.long (28629151 : Int64)), (.int (5 : Int32)), (.ref b3), (.ref b3)])) rfl rfl (hb hby at_45)
  have V_b3_9 := Arv.set Ar_b3 q_b3 S_b3 N_b3 H_b3 G_b3 rfl W9 5 rfl (Nat.le_of_ble_eq_true rfl)
  have K9 : Keep h0 h9 [] := K8.wr W9 (Or.inr sz_b3)
  have N9 := Fr.snoc X9 N8 g_b3
  obtain ⟨cl_b3_52, Ar_b3, q_b3, S_b3, N_b3, H_b3, G_b3⟩ := V_b3_9
  have hin52 : ¬ ((6 : Int32) < 0 ∨ cl_b3_52.slots.size ≤ ((6 : Int32)).toNatClampNeg) := inb_of S_b3 ⟨by decide, by decide⟩
  obtain ⟨T10, h10, X10, e10, W10, st10⟩ := stJ X9 hx hZ e9 Ar_b3 (j := (6 : Int32)) hin52 (g := (mkF m 52 #[.val (.int p1), .val (.long q2), .second, .val (.int (Int32.ofNat n)), .unset, .unset, .unset, .unset, .unset, .unset] [(.long (887503681 : Int64)), (.int (6 : Int32)), (.ref b3), (.ref b3)])) rfl rfl (hb hby at_52)
  have V_b3_10 := Arv.set Ar_b3 q_b3 S_b3 N_b3 H_b3 G_b3 rfl W10 6 rfl (Nat.le_of_ble_eq_true rfl)
  have K10 : Keep h0 h10 [] := K9.wr W10 (Or.inr sz_b3)
  have N10 := Fr.snoc X10 N9 g_b3
  obtain ⟨cl_b3_59, Ar_b3, q_b3, S_b3, N_b3, H_b3, G_b3⟩ := V_b3_10
  have hin59 : ¬ ((7 : Int32) < 0 ∨ cl_b3_59.slots.size ≤ ((7 : Int32)).toNatClampNeg) := inb_of S_b3 ⟨by decide, by decide⟩
  obtain ⟨T11, h11, X11, e11, W11, st11⟩ := stJ X10 hx hZ e10 Ar_b3 (j := (7 : Int32)) hin59 (g := (mkF m 59 #[.val (.int p1), .val (.long q2), .second, .val (.int (Int32.ofNat n)), .unset, .unset, .unset, .unset, .unset, .unset] [(.long (27512614111 : Int64)), (.int (7 : Int32)), (.ref b3), (.ref b3)])) rfl rfl (hb hby at_59)
  have V_b3_11 := Arv.set Ar_b3 q_b3 S_b3 N_b3 H_b3 G_b3 rfl W11 7 rfl (Nat.le_of_ble_eq_true rfl)
  have K11 : Keep h0 h11 [] := K10.wr W11 (Or.inr sz_b3)
  have N11 := Fr.snoc X11 N10 g_b3
  obtain ⟨T12, h12, k12, X12, e12, E12, A12, st12⟩ := newP X11 hx hZ (hw _ (List.mem_of_getElem? (i := 8) rfl)) e11 (g := (mkF m 63 #[.val (.int p1), .val (.long q2), .second, .val (.int (Int32.ofNat n)), .val (.ref b3), .unset, .unset, .unset, .unset, .unset] [(.int (Int32.ofNat n))])) rfl (hb hby at_63) rfl (own_pos (by omega)) (cap := 8) (by rw [own_clamp (by omega)]; exact hn) (by decide) (by decide) (by decide)
  obtain ⟨b12, g12⟩ : ∃ z, z = h11.size := ⟨_, rfl⟩
  rw [← g12] at A12 st12
  have g_b12 : n0 ≤ b12 := Nat.le_trans (Nat.le_trans (Nat.le_trans (Nat.le_trans (Nat.le_trans (Nat.le_trans (Nat.le_trans (Nat.le_trans (Nat.le_trans (Nat.le_trans Z0 E3.1) (Keep.of_wr W4).1) (Keep.of_wr W5).1) (Keep.of_wr W6).1) (Keep.of_wr W7).1) (Keep.of_wr W8).1) (Keep.of_wr W9).1) (Keep.of_wr W10).1) (Keep.of_wr W11).1) (Nat.le_of_eq g12.symm)
  have sz_b12 : h0.size ≤ b12 := (Nat.le_trans K11.1 (Nat.le_of_eq g12.symm))
  have K12 : Keep h0 h12 [] := K11.ext E12
  have P12 : OwA Z h12 b3 .long 8 own_pv := by
    obtain ⟨cl_b3, Ar_b3, q_b3, S_b3, N_b3, H_b3, G_b3⟩ := V_b3_11
    exact owa_ext ⟨cl_b3, Ar_b3, S_b3, fun j hj => (H_b3 j (by rw [S_b3]; exact hj)).trans (congrArg some (own_pows _ j hj rfl _))⟩ E12
  have B12 : OwA Z h12 b12 .byte n (own_f q2 0) := owa_congr (owa_new A12 (own_clamp (by omega))) (fun j hj => rfl)
  have hne12 : b3 ≠ b12 := by
    have q := owa_lt (owa_ext (by
      obtain ⟨cl_b3, Ar_b3, q_b3, S_b3, N_b3, H_b3, G_b3⟩ := V_b3_11
      exact (⟨cl_b3, Ar_b3, S_b3, fun j hj => (H_b3 j (by rw [S_b3]; exact hj)).trans (congrArg some (own_pows _ j hj rfl _))⟩ : OwA Z h11 b3 .long 8 own_pv)) (⟨Nat.le_refl _, fun _ _ q => q⟩ : Ext h11 h11))
    exact fun u => absurd (u ▸ q) (by rw [g12]; exact Nat.lt_irrefl _)
  have Z12 : n0 ≤ h12.size := Nat.le_trans Z0 K12.1
  obtain ⟨U0, hU0, LU0, XU0, eU0, NU0, ZU0, PU0, BU0, stU0⟩ := blk0 (.val (.int p1)) q2 n hn b3 b12 .unset .unset .unset .unset n0 X12 hx hZ hw hby hml hown e12 N11 Z12 g_b12 hne12 P12 B12
  obtain ⟨U1, hU1, LU1, XU1, eU1, NU1, ZU1, PU1, BU1, stU1⟩ := blk1 (.val (.int p1)) q2 n hn b3 b12 .unset .unset .unset .unset n0 XU0 hx hZ hw hby hml hown eU0 NU0 ZU0 g_b12 hne12 PU0 BU0
  obtain ⟨U2, hU2, LU2, XU2, eU2, NU2, ZU2, PU2, BU2, stU2⟩ := blk2 (.val (.int p1)) q2 n hn b3 b12 .unset .unset .unset .unset n0 XU1 hx hZ hw hby hml hown eU1 NU1 ZU1 g_b12 hne12 PU1 BU1
  obtain ⟨U3, hU3, LU3, XU3, eU3, NU3, ZU3, PU3, BU3, stU3⟩ := blk3 (.val (.int p1)) q2 n hn b3 b12 .unset .unset .unset .unset n0 XU2 hx hZ hw hby hml hown eU2 NU2 ZU2 g_b12 hne12 PU2 BU2
  obtain ⟨U4, hU4, LU4, XU4, eU4, NU4, ZU4, PU4, BU4, stU4⟩ := blk4 (.val (.int p1)) q2 n hn b3 b12 .unset .unset .unset .unset n0 XU3 hx hZ hw hby hml hown eU3 NU3 ZU3 g_b12 hne12 PU3 BU3
  obtain ⟨U5, hU5, LU5, XU5, eU5, NU5, ZU5, PU5, BU5, stU5⟩ := blk5 (.val (.int p1)) q2 n hn b3 b12 .unset .unset .unset .unset n0 XU4 hx hZ hw hby hml hown eU4 NU4 ZU4 g_b12 hne12 PU4 BU4
  obtain ⟨U6, hU6, LU6, XU6, eU6, NU6, ZU6, PU6, BU6, stU6⟩ := blk6 (.val (.int p1)) q2 n hn b3 b12 .unset .unset .unset .unset n0 XU5 hx hZ hw hby hml hown eU5 NU5 ZU5 g_b12 hne12 PU5 BU5
  obtain ⟨U7, hU7, LU7, XU7, eU7, NU7, ZU7, PU7, BU7, stU7⟩ := blk7 (.val (.int p1)) q2 n hn b3 b12 .unset .unset .unset .unset n0 XU6 hx hZ hw hby hml hown eU6 NU6 ZU6 g_b12 hne12 PU6 BU6
  obtain ⟨_, _, ⟨T13, L13, k13, n13⟩, -, X13, ⟨Lc13, hQ13, l13, y13, z13⟩, st13⟩ := Jvm.LawKit.callS XU7 hx (y := (⟨"com/example/uniform_data_access/uniformdataaccess/model/KeyIndexHashPinLaw", "term", "(JII[J)J"⟩ : MethodName)) hown (mvT hZ (hw _ (List.mem_of_getElem? (i := 9) rfl))) (mvT hZ (hw _ (List.mem_of_getElem? (i := 10) rfl))) (mvT hZ (hw _ (List.mem_of_getElem? (i := 11) rfl))) (mvT hZ (hw _ (List.mem_of_getElem? (i := 12) rfl))) (by decide) (backOf (W := 0) (rm1 l Z a0 hw [] q2 (0 : Int32) (Int32.ofNat n) b3 0 n hU7 n0 ZU7 hn (by decide) rfl rfl PU7) hZ (hw _ (List.mem_of_getElem? (i := 12) rfl)) (hw _ (List.mem_of_getElem? (i := 11) rfl)) (by decide) (by decide)) (g := (mkF m 189 #[.val (.int p1), .val (.long q2), .second, .val (.int (Int32.ofNat n)), .val (.ref b3), .val (.ref b12), .unset, .unset, .unset, .unset] [(.ref b3), (.int (Int32.ofNat n)), (.int (0 : Int32)), (.long q2)])) rfl (by rw [hml]; rfl) (argsL := [(.long q2), (.int (0 : Int32)), (.int (Int32.ofNat n)), (.ref b3)]) (rest := []) (lenOf pd_0_0 rfl) rfl (by show 2 * 0 + _ ≤ _; exact Nat.le_of_eq rfl) (hb hby at_189) (fun _ _ => ⟨rfl, eU7, (by decide : 2 + 0 ≤ _), (by decide : 16 + 0 ≤ _)⟩)
  dsimp only [Pt.U, Pt.locs, Pt.cells, Pt.slots] at X13 l13 y13 z13 st13 hQ13
  subst l13 y13 z13
  obtain ⟨rfl, N13q, e13⟩ := hQ13
  have Z13 : n0 ≤ T13.heap.size := by rw [e13]; exact ZU7
  have P13 := owa_heap PU7 e13
  have B13 := owa_heap (owa_congr BU7 (fun j hj => own_fend q2 j n hj hn)) e13
  have N13 := Fr.app NU7 N13q
  obtain ⟨_, _, ⟨T14, L14, k14, n14⟩, -, X14, ⟨Lc14, hQ14, l14, y14, z14⟩, st14⟩ := Jvm.LawKit.callS X13 hx (y := (⟨"com/example/uniform_data_access/uniformdataaccess/model/KeyIndexHashPinLaw", "term", "(JII[J)J"⟩ : MethodName)) hown (mvT hZ (hw _ (List.mem_of_getElem? (i := 9) rfl))) (mvT hZ (hw _ (List.mem_of_getElem? (i := 10) rfl))) (mvT hZ (hw _ (List.mem_of_getElem? (i := 11) rfl))) (mvT hZ (hw _ (List.mem_of_getElem? (i := 12) rfl))) (by decide) (backOf (W := 2) (rm1 l Z a0 hw [] q2 (1 : Int32) (Int32.ofNat n) b3 1 n T13.heap n0 Z13 hn (by decide) rfl rfl P13) hZ (hw _ (List.mem_of_getElem? (i := 12) rfl)) (hw _ (List.mem_of_getElem? (i := 11) rfl)) (by decide) (by decide)) (g := (mkF m 197 #[.val (.int p1), .val (.long q2), .second, .val (.int (Int32.ofNat n)), .val (.ref b3), .val (.ref b12), .unset, .unset, .unset, .unset] [(.ref b3), (.int (Int32.ofNat n)), (.int (1 : Int32)), (.long q2), (.long (own_term q2 0 n))])) rfl (by rw [hml]; rfl) (argsL := [(.long q2), (.int (1 : Int32)), (.int (Int32.ofNat n)), (.ref b3)]) (rest := [(.long (own_term q2 0 n))]) (lenOf pd_0_0 rfl) rfl (by show 2 * 0 + _ ≤ _; exact Nat.le_of_eq rfl) (hb hby at_197) (fun _ _ => ⟨rfl, rfl, (by decide : 2 + 0 ≤ _), (by decide : 16 + 0 ≤ _)⟩)
  dsimp only [Pt.U, Pt.locs, Pt.cells, Pt.slots] at X14 l14 y14 z14 st14 hQ14
  subst l14 y14 z14
  obtain ⟨rfl, N14q, e14⟩ := hQ14
  have Z14 : n0 ≤ T14.heap.size := by rw [e14]; exact Z13
  have P14 := owa_heap P13 e14
  have B14 := owa_heap B13 e14
  have N14 := Fr.app N13 N14q
  obtain ⟨_, _, ⟨T15, L15, k15, n15⟩, -, X15, ⟨Lc15, hQ15, l15, y15, z15⟩, st15⟩ := Jvm.LawKit.callS X14 hx (y := (⟨"com/example/uniform_data_access/uniformdataaccess/model/KeyIndexHashPinLaw", "term", "(JII[J)J"⟩ : MethodName)) hown (mvT hZ (hw _ (List.mem_of_getElem? (i := 9) rfl))) (mvT hZ (hw _ (List.mem_of_getElem? (i := 10) rfl))) (mvT hZ (hw _ (List.mem_of_getElem? (i := 11) rfl))) (mvT hZ (hw _ (List.mem_of_getElem? (i := 12) rfl))) (by decide) (backOf (W := 2) (rm1 l Z a0 hw [] q2 (2 : Int32) (Int32.ofNat n) b3 2 n T14.heap n0 Z14 hn (by decide) rfl rfl P14) hZ (hw _ (List.mem_of_getElem? (i := 12) rfl)) (hw _ (List.mem_of_getElem? (i := 11) rfl)) (by decide) (by decide)) (g := (mkF m 206 #[.val (.int p1), .val (.long q2), .second, .val (.int (Int32.ofNat n)), .val (.ref b3), .val (.ref b12), .unset, .unset, .unset, .unset] [(.ref b3), (.int (Int32.ofNat n)), (.int (2 : Int32)), (.long q2), (.long ((own_term q2 0 n) + (own_term q2 1 n)))])) rfl (by rw [hml]; rfl) (argsL := [(.long q2), (.int (2 : Int32)), (.int (Int32.ofNat n)), (.ref b3)]) (rest := [(.long ((own_term q2 0 n) + (own_term q2 1 n)))]) (lenOf pd_0_0 rfl) rfl (by show 2 * 0 + _ ≤ _; exact Nat.le_of_eq rfl) (hb hby at_206) (fun _ _ => ⟨rfl, rfl, (by decide : 2 + 0 ≤ _), (by decide : 16 + 0 ≤ _)⟩)
  dsimp only [Pt.U, Pt.locs, Pt.cells, Pt.slots] at X15 l15 y15 z15 st15 hQ15
  subst l15 y15 z15
  obtain ⟨rfl, N15q, e15⟩ := hQ15
  have Z15 : n0 ≤ T15.heap.size := by rw [e15]; exact Z14
  have P15 := owa_heap P14 e15
  have B15 := owa_heap B14 e15
  have N15 := Fr.app N14 N15q
  obtain ⟨_, _, ⟨T16, L16, k16, n16⟩, -, X16, ⟨Lc16, hQ16, l16, y16, z16⟩, st16⟩ := Jvm.LawKit.callS X15 hx (y := (⟨"com/example/uniform_data_access/uniformdataaccess/model/KeyIndexHashPinLaw", "term", "(JII[J)J"⟩ : MethodName)) hown (mvT hZ (hw _ (List.mem_of_getElem? (i := 9) rfl))) (mvT hZ (hw _ (List.mem_of_getElem? (i := 10) rfl))) (mvT hZ (hw _ (List.mem_of_getElem? (i := 11) rfl))) (mvT hZ (hw _ (List.mem_of_getElem? (i := 12) rfl))) (by decide) (backOf (W := 2) (rm1 l Z a0 hw [] q2 (3 : Int32) (Int32.ofNat n) b3 3 n T15.heap n0 Z15 hn (by decide) rfl rfl P15) hZ (hw _ (List.mem_of_getElem? (i := 12) rfl)) (hw _ (List.mem_of_getElem? (i := 11) rfl)) (by decide) (by decide)) (g := (mkF m 215 #[.val (.int p1), .val (.long q2), .second, .val (.int (Int32.ofNat n)), .val (.ref b3), .val (.ref b12), .unset, .unset, .unset, .unset] [(.ref b3), (.int (Int32.ofNat n)), (.int (3 : Int32)), (.long q2), (.long (((own_term q2 0 n) + (own_term q2 1 n)) + (own_term q2 2 n)))])) rfl (by rw [hml]; rfl) (argsL := [(.long q2), (.int (3 : Int32)), (.int (Int32.ofNat n)), (.ref b3)]) (rest := [(.long (((own_term q2 0 n) + (own_term q2 1 n)) + (own_term q2 2 n)))]) (lenOf pd_0_0 rfl) rfl (by show 2 * 0 + _ ≤ _; exact Nat.le_of_eq rfl) (hb hby at_215) (fun _ _ => ⟨rfl, rfl, (by decide : 2 + 0 ≤ _), (by decide : 16 + 0 ≤ _)⟩)
  dsimp only [Pt.U, Pt.locs, Pt.cells, Pt.slots] at X16 l16 y16 z16 st16 hQ16
  subst l16 y16 z16
  obtain ⟨rfl, N16q, e16⟩ := hQ16
  have Z16 : n0 ≤ T16.heap.size := by rw [e16]; exact Z15
  have P16 := owa_heap P15 e16
  have B16 := owa_heap B15 e16
  have N16 := Fr.app N15 N16q
  obtain ⟨_, _, ⟨T17, L17, k17, n17⟩, -, X17, ⟨Lc17, hQ17, l17, y17, z17⟩, st17⟩ := Jvm.LawKit.callS X16 hx (y := (⟨"com/example/uniform_data_access/uniformdataaccess/model/KeyIndexHashPinLaw", "term", "(JII[J)J"⟩ : MethodName)) hown (mvT hZ (hw _ (List.mem_of_getElem? (i := 9) rfl))) (mvT hZ (hw _ (List.mem_of_getElem? (i := 10) rfl))) (mvT hZ (hw _ (List.mem_of_getElem? (i := 11) rfl))) (mvT hZ (hw _ (List.mem_of_getElem? (i := 12) rfl))) (by decide) (backOf (W := 2) (rm1 l Z a0 hw [] q2 (4 : Int32) (Int32.ofNat n) b3 4 n T16.heap n0 Z16 hn (by decide) rfl rfl P16) hZ (hw _ (List.mem_of_getElem? (i := 12) rfl)) (hw _ (List.mem_of_getElem? (i := 11) rfl)) (by decide) (by decide)) (g := (mkF m 224 #[.val (.int p1), .val (.long q2), .second, .val (.int (Int32.ofNat n)), .val (.ref b3), .val (.ref b12), .unset, .unset, .unset, .unset] [(.ref b3), (.int (Int32.ofNat n)), (.int (4 : Int32)), (.long q2), (.long ((((own_term q2 0 n) + (own_term q2 1 n)) + (own_term q2 2 n)) + (own_term q2 3 n)))])) rfl (by rw [hml]; rfl) (argsL := [(.long q2), (.int (4 : Int32)), (.int (Int32.ofNat n)), (.ref b3)]) (rest := [(.long ((((own_term q2 0 n) + (own_term q2 1 n)) + (own_term q2 2 n)) + (own_term q2 3 n)))]) (lenOf pd_0_0 rfl) rfl (by show 2 * 0 + _ ≤ _; exact Nat.le_of_eq rfl) (hb hby at_224) (fun _ _ => ⟨rfl, rfl, (by decide : 2 + 0 ≤ _), (by decide : 16 + 0 ≤ _)⟩)
  dsimp only [Pt.U, Pt.locs, Pt.cells, Pt.slots] at X17 l17 y17 z17 st17 hQ17
  subst l17 y17 z17
  obtain ⟨rfl, N17q, e17⟩ := hQ17
  have Z17 : n0 ≤ T17.heap.size := by rw [e17]; exact Z16
  have P17 := owa_heap P16 e17
  have B17 := owa_heap B16 e17
  have N17 := Fr.app N16 N17q
  obtain ⟨_, _, ⟨T18, L18, k18, n18⟩, -, X18, ⟨Lc18, hQ18, l18, y18, z18⟩, st18⟩ := Jvm.LawKit.callS X17 hx (y := (⟨"com/example/uniform_data_access/uniformdataaccess/model/KeyIndexHashPinLaw", "term", "(JII[J)J"⟩ : MethodName)) hown (mvT hZ (hw _ (List.mem_of_getElem? (i := 9) rfl))) (mvT hZ (hw _ (List.mem_of_getElem? (i := 10) rfl))) (mvT hZ (hw _ (List.mem_of_getElem? (i := 11) rfl))) (mvT hZ (hw _ (List.mem_of_getElem? (i := 12) rfl))) (by decide) (backOf (W := 2) (rm1 l Z a0 hw [] q2 (5 : Int32) (Int32.ofNat n) b3 5 n T17.heap n0 Z17 hn (by decide) rfl rfl P17) hZ (hw _ (List.mem_of_getElem? (i := 12) rfl)) (hw _ (List.mem_of_getElem? (i := 11) rfl)) (by decide) (by decide)) (g := (mkF m 233 #[.val (.int p1), .val (.long q2), .second, .val (.int (Int32.ofNat n)), .val (.ref b3), .val (.ref b12), .unset, .unset, .unset, .unset] [(.ref b3), (.int (Int32.ofNat n)), (.int (5 : Int32)), (.long q2), (.long (((((own_term q2 0 n) + (own_term q2 1 n)) + (own_term q2 2 n)) + (own_term q2 3 n)) + (own_term q2 4 n)))])) rfl (by rw [hml]; rfl) (argsL := [(.long q2), (.int (5 : Int32)), (.int (Int32.ofNat n)), (.ref b3)]) (rest := [(.long (((((own_term q2 0 n) + (own_term q2 1 n)) + (own_term q2 2 n)) + (own_term q2 3 n)) + (own_term q2 4 n)))]) (lenOf pd_0_0 rfl) rfl (by show 2 * 0 + _ ≤ _; exact Nat.le_of_eq rfl) (hb hby at_233) (fun _ _ => ⟨rfl, rfl, (by decide : 2 + 0 ≤ _), (by decide : 16 + 0 ≤ _)⟩)
  dsimp only [Pt.U, Pt.locs, Pt.cells, Pt.slots] at X18 l18 y18 z18 st18 hQ18
  subst l18 y18 z18
  obtain ⟨rfl, N18q, e18⟩ := hQ18
  have Z18 : n0 ≤ T18.heap.size := by rw [e18]; exact Z17
  have P18 := owa_heap P17 e18
  have B18 := owa_heap B17 e18
  have N18 := Fr.app N17 N18q
  obtain ⟨_, _, ⟨T19, L19, k19, n19⟩, -, X19, ⟨Lc19, hQ19, l19, y19, z19⟩, st19⟩ := Jvm.LawKit.callS X18 hx (y := (⟨"com/example/uniform_data_access/uniformdataaccess/model/KeyIndexHashPinLaw", "term", "(JII[J)J"⟩ : MethodName)) hown (mvT hZ (hw _ (List.mem_of_getElem? (i := 9) rfl))) (mvT hZ (hw _ (List.mem_of_getElem? (i := 10) rfl))) (mvT hZ (hw _ (List.mem_of_getElem? (i := 11) rfl))) (mvT hZ (hw _ (List.mem_of_getElem? (i := 12) rfl))) (by decide) (backOf (W := 2) (rm1 l Z a0 hw [] q2 (6 : Int32) (Int32.ofNat n) b3 6 n T18.heap n0 Z18 hn (by decide) rfl rfl P18) hZ (hw _ (List.mem_of_getElem? (i := 12) rfl)) (hw _ (List.mem_of_getElem? (i := 11) rfl)) (by decide) (by decide)) (g := (mkF m 243 #[.val (.int p1), .val (.long q2), .second, .val (.int (Int32.ofNat n)), .val (.ref b3), .val (.ref b12), .unset, .unset, .unset, .unset] [(.ref b3), (.int (Int32.ofNat n)), (.int (6 : Int32)), (.long q2), (.long ((((((own_term q2 0 n) + (own_term q2 1 n)) + (own_term q2 2 n)) + (own_term q2 3 n)) + (own_term q2 4 n)) + (own_term q2 5 n)))])) rfl (by rw [hml]; rfl) (argsL := [(.long q2), (.int (6 : Int32)), (.int (Int32.ofNat n)), (.ref b3)]) (rest := [(.long ((((((own_term q2 0 n) + (own_term q2 1 n)) + (own_term q2 2 n)) + (own_term q2 3 n)) + (own_term q2 4 n)) + (own_term q2 5 n)))]) (lenOf pd_0_0 rfl) rfl (by show 2 * 0 + _ ≤ _; exact Nat.le_of_eq rfl) (hb hby at_243) (fun _ _ => ⟨rfl, rfl, (by decide : 2 + 0 ≤ _), (by decide : 16 + 0 ≤ _)⟩)
  dsimp only [Pt.U, Pt.locs, Pt.cells, Pt.slots] at X19 l19 y19 z19 st19 hQ19
  subst l19 y19 z19
  obtain ⟨rfl, N19q, e19⟩ := hQ19
  have Z19 : n0 ≤ T19.heap.size := by rw [e19]; exact Z18
  have P19 := owa_heap P18 e19
  have B19 := owa_heap B18 e19
  have N19 := Fr.app N18 N19q
  obtain ⟨_, _, ⟨T20, L20, k20, n20⟩, -, X20, ⟨Lc20, hQ20, l20, y20, z20⟩, st20⟩ := Jvm.LawKit.callS X19 hx (y := (⟨"com/example/uniform_data_access/uniformdataaccess/model/KeyIndexHashPinLaw", "term", "(JII[J)J"⟩ : MethodName)) hown (mvT hZ (hw _ (List.mem_of_getElem? (i := 9) rfl))) (mvT hZ (hw _ (List.mem_of_getElem? (i := 10) rfl))) (mvT hZ (hw _ (List.mem_of_getElem? (i := 11) rfl))) (mvT hZ (hw _ (List.mem_of_getElem? (i := 12) rfl))) (by decide) (backOf (W := 2) (rm1 l Z a0 hw [] q2 (7 : Int32) (Int32.ofNat n) b3 7 n T19.heap n0 Z19 hn (by decide) rfl rfl P19) hZ (hw _ (List.mem_of_getElem? (i := 12) rfl)) (hw _ (List.mem_of_getElem? (i := 11) rfl)) (by decide) (by decide)) (g := (mkF m 253 #[.val (.int p1), .val (.long q2), .second, .val (.int (Int32.ofNat n)), .val (.ref b3), .val (.ref b12), .unset, .unset, .unset, .unset] [(.ref b3), (.int (Int32.ofNat n)), (.int (7 : Int32)), (.long q2), (.long (((((((own_term q2 0 n) + (own_term q2 1 n)) + (own_term q2 2 n)) + (own_term q2 3 n)) + (own_term q2 4 n)) + (own_term q2 5 n)) + (own_term q2 6 n)))])) rfl (by rw [hml]; rfl) (argsL := [(.long q2), (.int (7 : Int32)), (.int (Int32.ofNat n)), (.ref b3)]) (rest := [(.long (((((((own_term q2 0 n) + (own_term q2 1 n)) + (own_term q2 2 n)) + (own_term q2 3 n)) + (own_term q2 4 n)) + (own_term q2 5 n)) + (own_term q2 6 n)))]) (lenOf pd_0_0 rfl) rfl (by show 2 * 0 + _ ≤ _; exact Nat.le_of_eq rfl) (hb hby at_253) (fun _ _ => ⟨rfl, rfl, (by decide : 2 + 0 ≤ _), (by decide : 16 + 0 ≤ _)⟩)
  dsimp only [Pt.U, Pt.locs, Pt.cells, Pt.slots] at X20 l20 y20 z20 st20 hQ20
  subst l20 y20 z20
  obtain ⟨rfl, N20q, e20⟩ := hQ20
  have Z20 : n0 ≤ T20.heap.size := by rw [e20]; exact Z19
  have P20 := owa_heap P19 e20
  have B20 := owa_heap B19 e20
  have N20 := Fr.app N19 N20q
  obtain ⟨_, _, ⟨T21, L21, k21, n21⟩, -, X21, ⟨Lc21, hQ21, l21, y21, z21⟩, st21⟩ := Jvm.LawKit.callS X20 hx (y := (⟨"com/example/uniform_data_access/uniformdataaccess/model/KeyIndex", "hash", "([B)I"⟩ : MethodName)) hown (mvT hZ (hw _ (List.mem_of_getElem? (i := 14) rfl))) (mvT hZ (hw _ (List.mem_of_getElem? (i := 15) rfl))) (mvT hZ (hw _ (List.mem_of_getElem? (i := 16) rfl))) (mvT hZ (hw _ (List.mem_of_getElem? (i := 17) rfl))) (by decide) (backOf (W := 0) (rm2 l Z a0 hw [] b12 n (fun j => own_at q2 (Int32.ofNat j)) T20.heap n0 Z20 hn B20) hZ (hw _ (List.mem_of_getElem? (i := 17) rfl)) (hw _ (List.mem_of_getElem? (i := 16) rfl)) (by decide) (by decide)) (g := (mkF m 273 #[.val (.int p1), .val (.long q2), .second, .val (.int (Int32.ofNat n)), .val (.ref b3), .val (.ref b12), .val (.long ((((((((own_term q2 0 n) + (own_term q2 1 n)) + (own_term q2 2 n)) + (own_term q2 3 n)) + (own_term q2 4 n)) + (own_term q2 5 n)) + (own_term q2 6 n)) + (own_term q2 7 n))), .second, .val (.int (((((((((own_term q2 0 n) + (own_term q2 1 n)) + (own_term q2 2 n)) + (own_term q2 3 n)) + (own_term q2 4 n)) + (own_term q2 5 n)) + (own_term q2 6 n)) + (own_term q2 7 n)).toInt32)), .val (.int ((((((((((own_term q2 0 n) + (own_term q2 1 n)) + (own_term q2 2 n)) + (own_term q2 3 n)) + (own_term q2 4 n)) + (own_term q2 5 n)) + (own_term q2 6 n)) + (own_term q2 7 n)).toInt32) * (-1640531527 : Int32)))] [(.ref b12)])) rfl (by rw [hml]; rfl) (argsL := [(.ref b12)]) (rest := []) (lenOf pd_0_1 rfl) rfl (by show 2 * 0 + _ ≤ _; exact Nat.le_of_eq rfl) (hb hby at_273) (fun _ _ => ⟨rfl, rfl, (by decide : 2 + 0 ≤ _), (by decide : 16 + 0 ≤ _)⟩)
  dsimp only [Pt.U, Pt.locs, Pt.cells, Pt.slots] at X21 l21 y21 z21 st21 hQ21
  subst l21 y21 z21
  obtain ⟨rfl, N21q, e21⟩ := hQ21
  have Z21 : n0 ≤ T21.heap.size := by rw [e21]; exact Z20
  have N21 := Fr.app N20 N21q
  obtain ⟨fs, hr, hrun, hended, hW, hsame⟩ := X21.leave (v := some (.int (1 : Int32))) (fun h => by rw [Bd.returns] at h; cases h)
  refine ⟨_, _, pre0 _ ?_, hrun, hended, _, _, rfl, ?_, ⟨_, rfl⟩, hW, hsame.mono (by decide) (by decide)⟩
  · show Steps p.tables e below (s₁.setTop (mkF m 0 #[.val (.int p1), .val (.long q2), .second, .unset, .unset, .unset, .unset, .unset, .unset, .unset] [])) _
    refine XS.iloadN X0.here hx rfl (hb hby at_0) rfl ?_
    show Steps p.tables e below (s₁.setTop (mkF m 1 #[.val (.int p1), .val (.long q2), .second, .unset, .unset, .unset, .unset, .unset, .unset, .unset] [(.int p1)])) _
    refine XS.bipush X0.here hx rfl (hb hby at_1) ?_
    show Steps p.tables e below (s₁.setTop (mkF m 3 #[.val (.int p1), .val (.long q2), .second, .unset, .unset, .unset, .unset, .unset, .unset, .unset] [(.int (15 : Int32)), (.int p1)])) _
    refine XS.iand X0.here hx rfl (hb hby at_3) rfl ?_
    show Steps p.tables e below (s₁.setTop (mkF m 4 #[.val (.int p1), .val (.long q2), .second, .unset, .unset, .unset, .unset, .unset, .unset, .unset] [(.int (p1 &&& (15 : Int32)))])) _
    refine XS.bipush X0.here hx rfl (hb hby at_4) ?_
    show Steps p.tables e below (s₁.setTop (mkF m 6 #[.val (.int p1), .val (.long q2), .second, .unset, .unset, .unset, .unset, .unset, .unset, .unset] [(.int (9 : Int32)), (.int (p1 &&& (15 : Int32)))])) _
    refine iremM X0 hx rfl (hb hby at_6) rfl (by decide) ?_
    rw [en]
    show Steps p.tables e below (s₁.setTop (mkF m 7 #[.val (.int p1), .val (.long q2), .second, .unset, .unset, .unset, .unset, .unset, .unset, .unset] [(.int (Int32.ofNat n))])) _
    refine XS.istoreN X0.here hx rfl (hb hby at_7) rfl (l' := #[.val (.int p1), .val (.long q2), .second, .val (.int (Int32.ofNat n)), .unset, .unset, .unset, .unset, .unset, .unset]) rfl ?_
    show Steps p.tables e below (s₁.setTop (mkF m 8 #[.val (.int p1), .val (.long q2), .second, .val (.int (Int32.ofNat n)), .unset, .unset, .unset, .unset, .unset, .unset] [])) _
    refine XS.bipush X0.here hx rfl (hb hby at_8) ?_
    show Steps p.tables e below (s₁.setTop (mkF m 10 #[.val (.int p1), .val (.long q2), .second, .val (.int (Int32.ofNat n)), .unset, .unset, .unset, .unset, .unset, .unset] [(.int (8 : Int32))])) _
    refine st3 _ ?_
    show Steps p.tables e below (T3.setTop (mkF m 12 #[.val (.int p1), .val (.long q2), .second, .val (.int (Int32.ofNat n)), .unset, .unset, .unset, .unset, .unset, .unset] [(.ref b3)])) _
    refine XS.dup X3.here hx rfl (hb hby at_12) rfl rfl ?_
    show Steps p.tables e below (T3.setTop (mkF m 13 #[.val (.int p1), .val (.long q2), .second, .val (.int (Int32.ofNat n)), .unset, .unset, .unset, .unset, .unset, .unset] [(.ref b3), (.ref b3)])) _
    refine XS.iconst X3.here hx rfl (hb hby at_13) ?_
    show Steps p.tables e below (T3.setTop (mkF m 14 #[.val (.int p1), .val (.long q2), .second, .val (.int (Int32.ofNat n)), .unset, .unset, .unset, .unset, .unset, .unset] [(.int (0 : Int32)), (.ref b3), (.ref b3)])) _
    refine XS.lconst X3.here hx rfl (hb hby at_14) ?_
    show Steps p.tables e below (T3.setTop (mkF m 15 #[.val (.int p1), .val (.long q2), .second, .val (.int (Int32.ofNat n)), .unset, .unset, .unset, .unset, .unset, .unset] [(.long (1 : Int64)), (.int (0 : Int32)), (.ref b3), (.ref b3)])) _
    refine st4 _ ?_
    show Steps p.tables e below (T4.setTop (mkF m 16 #[.val (.int p1), .val (.long q2), .second, .val (.int (Int32.ofNat n)), .unset, .unset, .unset, .unset, .unset, .unset] [(.ref b3)])) _
    refine XS.dup X4.here hx rfl (hb hby at_16) rfl rfl ?_
    show Steps p.tables e below (T4.setTop (mkF m 17 #[.val (.int p1), .val (.long q2), .second, .val (.int (Int32.ofNat n)), .unset, .unset, .unset, .unset, .unset, .unset] [(.ref b3), (.ref b3)])) _
    refine XS.iconst X4.here hx rfl (hb hby at_17) ?_
    show Steps p.tables e below (T4.setTop (mkF m 18 #[.val (.int p1), .val (.long q2), .second, .val (.int (Int32.ofNat n)), .unset, .unset, .unset, .unset, .unset, .unset] [(.int (1 : Int32)), (.ref b3), (.ref b3)])) _
    refine X4.ldc2Long hx hown (mvT hZ (hw _ (List.mem_of_getElem? (i := 1) rfl))) (g := (mkF m 18 #[.val (.int p1), .val (.long q2), .second, .val (.int (Int32.ofNat n)), .unset, .unset, .unset, .unset, .unset, .unset] [(.int (1 : Int32)), (.ref b3), (.ref b3)])) rfl (hb hby at_18) _ ?_
    show Steps p.tables e below (T4.setTop (mkF m 21 #[.val (.int p1), .val (.long q2), .second, .val (.int (Int32.ofNat n)), .unset, .unset, .unset, .unset, .unset, .unset] [(.long (31 : Int64)), (.int (1 : Int32)), (.ref b3), (.ref b3)])) _
    refine st5 _ ?_
    show Steps p.tables e below (T5.setTop (mkF m 22 #[.val (.int p1), .val (.long q2), .second, .val (.int (Int32.ofNat n)), .unset, .unset, .unset, .unset, .unset, .unset] [(.ref b3)])) _
    refine XS.dup X5.here hx rfl (hb hby at_22) rfl rfl ?_
    show Steps p.tables e below (T5.setTop (mkF m 23 #[.val (.int p1), .val (.long q2), .second, .val (.int (Int32.ofNat n)), .unset, .unset, .unset, .unset, .unset, .unset] [(.ref b3), (.ref b3)])) _
    refine XS.iconst X5.here hx rfl (hb hby at_23) ?_
    show Steps p.tables e below (T5.setTop (mkF m 24 #[.val (.int p1), .val (.long q2), .second, .val (.int (Int32.ofNat n)), .unset, .unset, .unset, .unset, .unset, .unset] [(.int (2 : Int32)), (.ref b3), (.ref b3)])) _
    refine X5.ldc2Long hx hown (mvT hZ (hw _ (List.mem_of_getElem? (i := 2) rfl))) (g := (mkF m 24 #[.val (.int p1), .val (.long q2), .second, .val (.int (Int32.ofNat n)), .unset, .unset, .unset, .unset, .unset, .unset] [(.int (2 : Int32)), (.ref b3), (.ref b3)])) rfl (hb hby at_24) _ ?_
    show Steps p.tables e below (T5.setTop (mkF m 27 #[.val (.int p1), .val (.long q2), .second, .val (.int (Int32.ofNat n)), .unset, .unset, .unset, .unset, .unset, .unset] [(.long (961 : Int64)), (.int (2 : Int32)), (.ref b3), (.ref b3)])) _
    refine st6 _ ?_
    show Steps p.tables e below (T6.setTop (mkF m 28 #[.val (.int p1), .val (.long q2), .second, .val (.int (Int32.ofNat n)), .unset, .unset, .unset, .unset, .unset, .unset] [(.ref b3)])) _
    refine XS.dup X6.here hx rfl (hb hby at_28) rfl rfl ?_
    show Steps p.tables e below (T6.setTop (mkF m 29 #[.val (.int p1), .val (.long q2), .second, .val (.int (Int32.ofNat n)), .unset, .unset, .unset, .unset, .unset, .unset] [(.ref b3), (.ref b3)])) _
    refine XS.iconst X6.here hx rfl (hb hby at_29) ?_
    show Steps p.tables e below (T6.setTop (mkF m 30 #[.val (.int p1), .val (.long q2), .second, .val (.int (Int32.ofNat n)), .unset, .unset, .unset, .unset, .unset, .unset] [(.int (3 : Int32)), (.ref b3), (.ref b3)])) _
    refine X6.ldc2Long hx hown (mvT hZ (hw _ (List.mem_of_getElem? (i := 3) rfl))) (g := (mkF m 30 #[.val (.int p1), .val (.long q2), .second, .val (.int (Int32.ofNat n)), .unset, .unset, .unset, .unset, .unset, .unset] [(.int (3 : Int32)), (.ref b3), (.ref b3)])) rfl (hb hby at_30) _ ?_
    show Steps p.tables e below (T6.setTop (mkF m 33 #[.val (.int p1), .val (.long q2), .second, .val (.int (Int32.ofNat n)), .unset, .unset, .unset, .unset, .unset, .unset] [(.long (29791 : Int64)), (.int (3 : Int32)), (.ref b3), (.ref b3)])) _
    refine st7 _ ?_
    show Steps p.tables e below (T7.setTop (mkF m 34 #[.val (.int p1), .val (.long q2), .second, .val (.int (Int32.ofNat n)), .unset, .unset, .unset, .unset, .unset, .unset] [(.ref b3)])) _
    refine XS.dup X7.here hx rfl (hb hby at_34) rfl rfl ?_
    show Steps p.tables e below (T7.setTop (mkF m 35 #[.val (.int p1), .val (.long q2), .second, .val (.int (Int32.ofNat n)), .unset, .unset, .unset, .unset, .unset, .unset] [(.ref b3), (.ref b3)])) _
    refine XS.iconst X7.here hx rfl (hb hby at_35) ?_
    show Steps p.tables e below (T7.setTop (mkF m 36 #[.val (.int p1), .val (.long q2), .second, .val (.int (Int32.ofNat n)), .unset, .unset, .unset, .unset, .unset, .unset] [(.int (4 : Int32)), (.ref b3), (.ref b3)])) _
    refine X7.ldc2Long hx hown (mvT hZ (hw _ (List.mem_of_getElem? (i := 4) rfl))) (g := (mkF m 36 #[.val (.int p1), .val (.long q2), .second, .val (.int (Int32.ofNat n)), .unset, .unset, .unset, .unset, .unset, .unset] [(.int (4 : Int32)), (.ref b3), (.ref b3)])) rfl (hb hby at_36) _ ?_
    show Steps p.tables e below (T7.setTop (mkF m 39 #[.val (.int p1), .val (.long q2), .second, .val (.int (Int32.ofNat n)), .unset, .unset, .unset, .unset, .unset, .unset] [(.long (923521 : Int64)), (.int (4 : Int32)), (.ref b3), (.ref b3)])) _
    refine st8 _ ?_
    show Steps p.tables e below (T8.setTop (mkF m 40 #[.val (.int p1), .val (.long q2), .second, .val (.int (Int32.ofNat n)), .unset, .unset, .unset, .unset, .unset, .unset] [(.ref b3)])) _
    refine XS.dup X8.here hx rfl (hb hby at_40) rfl rfl ?_
    show Steps p.tables e below (T8.setTop (mkF m 41 #[.val (.int p1), .val (.long q2), .second, .val (.int (Int32.ofNat n)), .unset, .unset, .unset, .unset, .unset, .unset] [(.ref b3), (.ref b3)])) _
    refine XS.iconst X8.here hx rfl (hb hby at_41) ?_
    show Steps p.tables e below (T8.setTop (mkF m 42 #[.val (.int p1), .val (.long q2), .second, .val (.int (Int32.ofNat n)), .unset, .unset, .unset, .unset, .unset, .unset] [(.int (5 : Int32)), (.ref b3), (.ref b3)])) _
    refine X8.ldc2Long hx hown (mvT hZ (hw _ (List.mem_of_getElem? (i := 5) rfl))) (g := (mkF m 42 #[.val (.int p1), .val (.long q2), .second, .val (.int (Int32.ofNat n)), .unset, .unset, .unset, .unset, .unset, .unset] [(.int (5 : Int32)), (.ref b3), (.ref b3)])) rfl (hb hby at_42) _ ?_
    show Steps p.tables e below (T8.setTop (mkF m 45 #[.val (.int p1), .val (.long q2), .second, .val (.int (Int32.ofNat n)), .unset, .unset, .unset, .unset, .unset, .unset] [(.long (28629151 : Int64)), (.int (5 : Int32)), (.ref b3), (.ref b3)])) _
    refine st9 _ ?_
    show Steps p.tables e below (T9.setTop (mkF m 46 #[.val (.int p1), .val (.long q2), .second, .val (.int (Int32.ofNat n)), .unset, .unset, .unset, .unset, .unset, .unset] [(.ref b3)])) _
    refine XS.dup X9.here hx rfl (hb hby at_46) rfl rfl ?_
    show Steps p.tables e below (T9.setTop (mkF m 47 #[.val (.int p1), .val (.long q2), .second, .val (.int (Int32.ofNat n)), .unset, .unset, .unset, .unset, .unset, .unset] [(.ref b3), (.ref b3)])) _
    refine XS.bipush X9.here hx rfl (hb hby at_47) ?_
    show Steps p.tables e below (T9.setTop (mkF m 49 #[.val (.int p1), .val (.long q2), .second, .val (.int (Int32.ofNat n)), .unset, .unset, .unset, .unset, .unset, .unset] [(.int (6 : Int32)), (.ref b3), (.ref b3)])) _
    refine X9.ldc2Long hx hown (mvT hZ (hw _ (List.mem_of_getElem? (i := 6) rfl))) (g := (mkF m 49 #[.val (.int p1), .val (.long q2), .second, .val (.int (Int32.ofNat n)), .unset, .unset, .unset, .unset, .unset, .unset] [(.int (6 : Int32)), (.ref b3), (.ref b3)])) rfl (hb hby at_49) _ ?_
    show Steps p.tables e below (T9.setTop (mkF m 52 #[.val (.int p1), .val (.long q2), .second, .val (.int (Int32.ofNat n)), .unset, .unset, .unset, .unset, .unset, .unset] [(.long (887503681 : Int64)), (.int (6 : Int32)), (.ref b3), (.ref b3)])) _
    refine st10 _ ?_
    show Steps p.tables e below (T10.setTop (mkF m 53 #[.val (.int p1), .val (.long q2), .second, .val (.int (Int32.ofNat n)), .unset, .unset, .unset, .unset, .unset, .unset] [(.ref b3)])) _
    refine XS.dup X10.here hx rfl (hb hby at_53) rfl rfl ?_
    show Steps p.tables e below (T10.setTop (mkF m 54 #[.val (.int p1), .val (.long q2), .second, .val (.int (Int32.ofNat n)), .unset, .unset, .unset, .unset, .unset, .unset] [(.ref b3), (.ref b3)])) _
    refine XS.bipush X10.here hx rfl (hb hby at_54) ?_
    show Steps p.tables e below (T10.setTop (mkF m 56 #[.val (.int p1), .val (.long q2), .second, .val (.int (Int32.ofNat n)), .unset, .unset, .unset, .unset, .unset, .unset] [(.int (7 : Int32)), (.ref b3), (.ref b3)])) _
    refine X10.ldc2Long hx hown (mvT hZ (hw _ (List.mem_of_getElem? (i := 7) rfl))) (g := (mkF m 56 #[.val (.int p1), .val (.long q2), .second, .val (.int (Int32.ofNat n)), .unset, .unset, .unset, .unset, .unset, .unset] [(.int (7 : Int32)), (.ref b3), (.ref b3)])) rfl (hb hby at_56) _ ?_
    show Steps p.tables e below (T10.setTop (mkF m 59 #[.val (.int p1), .val (.long q2), .second, .val (.int (Int32.ofNat n)), .unset, .unset, .unset, .unset, .unset, .unset] [(.long (27512614111 : Int64)), (.int (7 : Int32)), (.ref b3), (.ref b3)])) _
    refine st11 _ ?_
    show Steps p.tables e below (T11.setTop (mkF m 60 #[.val (.int p1), .val (.long q2), .second, .val (.int (Int32.ofNat n)), .unset, .unset, .unset, .unset, .unset, .unset] [(.ref b3)])) _
    refine XS.astore X11.here hx rfl (hb hby at_60) rfl rfl (l' := #[.val (.int p1), .val (.long q2), .second, .val (.int (Int32.ofNat n)), .val (.ref b3), .unset, .unset, .unset, .unset, .unset]) rfl ?_
    show Steps p.tables e below (T11.setTop (mkF m 62 #[.val (.int p1), .val (.long q2), .second, .val (.int (Int32.ofNat n)), .val (.ref b3), .unset, .unset, .unset, .unset, .unset] [])) _
    refine XS.iloadN X11.here hx rfl (hb hby at_62) rfl ?_
    show Steps p.tables e below (T11.setTop (mkF m 63 #[.val (.int p1), .val (.long q2), .second, .val (.int (Int32.ofNat n)), .val (.ref b3), .unset, .unset, .unset, .unset, .unset] [(.int (Int32.ofNat n))])) _
    refine st12 _ ?_
    show Steps p.tables e below (T12.setTop (mkF m 65 #[.val (.int p1), .val (.long q2), .second, .val (.int (Int32.ofNat n)), .val (.ref b3), .unset, .unset, .unset, .unset, .unset] [(.ref b12)])) _
    refine XS.astore X12.here hx rfl (hb hby at_65) rfl rfl (l' := #[.val (.int p1), .val (.long q2), .second, .val (.int (Int32.ofNat n)), .val (.ref b3), .val (.ref b12), .unset, .unset, .unset, .unset]) rfl ?_
    show Steps p.tables e below (T12.setTop (mkF m 67 #[.val (.int p1), .val (.long q2), .second, .val (.int (Int32.ofNat n)), .val (.ref b3), .val (.ref b12), .unset, .unset, .unset, .unset] [])) _
    refine stU0 _ ?_
    refine stU1 _ ?_
    refine stU2 _ ?_
    refine stU3 _ ?_
    refine stU4 _ ?_
    refine stU5 _ ?_
    refine stU6 _ ?_
    refine stU7 _ ?_
    show Steps p.tables e below (U7.setTop (mkF m 184 #[.val (.int p1), .val (.long q2), .second, .val (.int (Int32.ofNat n)), .val (.ref b3), .val (.ref b12), .unset, .unset, .unset, .unset] [])) _
    refine XS.lloadN XU7.here hx rfl (hb hby at_184) rfl ?_
    show Steps p.tables e below (U7.setTop (mkF m 185 #[.val (.int p1), .val (.long q2), .second, .val (.int (Int32.ofNat n)), .val (.ref b3), .val (.ref b12), .unset, .unset, .unset, .unset] [(.long q2)])) _
    refine XS.iconst XU7.here hx rfl (hb hby at_185) ?_
    show Steps p.tables e below (U7.setTop (mkF m 186 #[.val (.int p1), .val (.long q2), .second, .val (.int (Int32.ofNat n)), .val (.ref b3), .val (.ref b12), .unset, .unset, .unset, .unset] [(.int (0 : Int32)), (.long q2)])) _
    refine XS.iloadN XU7.here hx rfl (hb hby at_186) rfl ?_
    show Steps p.tables e below (U7.setTop (mkF m 187 #[.val (.int p1), .val (.long q2), .second, .val (.int (Int32.ofNat n)), .val (.ref b3), .val (.ref b12), .unset, .unset, .unset, .unset] [(.int (Int32.ofNat n)), (.int (0 : Int32)), (.long q2)])) _
    refine XS.aload XU7.here hx rfl (hb hby at_187) rfl rfl ?_
    show Steps p.tables e below (U7.setTop (mkF m 189 #[.val (.int p1), .val (.long q2), .second, .val (.int (Int32.ofNat n)), .val (.ref b3), .val (.ref b12), .unset, .unset, .unset, .unset] [(.ref b3), (.int (Int32.ofNat n)), (.int (0 : Int32)), (.long q2)])) _
    refine st13 _ ?_
    show Steps p.tables e below (T13.setTop (mkF m 192 #[.val (.int p1), .val (.long q2), .second, .val (.int (Int32.ofNat n)), .val (.ref b3), .val (.ref b12), .unset, .unset, .unset, .unset] [(.long (own_term q2 0 n))])) _
    refine XS.lloadN X13.here hx rfl (hb hby at_192) rfl ?_
    show Steps p.tables e below (T13.setTop (mkF m 193 #[.val (.int p1), .val (.long q2), .second, .val (.int (Int32.ofNat n)), .val (.ref b3), .val (.ref b12), .unset, .unset, .unset, .unset] [(.long q2), (.long (own_term q2 0 n))])) _
    refine XS.iconst X13.here hx rfl (hb hby at_193) ?_
    show Steps p.tables e below (T13.setTop (mkF m 194 #[.val (.int p1), .val (.long q2), .second, .val (.int (Int32.ofNat n)), .val (.ref b3), .val (.ref b12), .unset, .unset, .unset, .unset] [(.int (1 : Int32)), (.long q2), (.long (own_term q2 0 n))])) _
    refine XS.iloadN X13.here hx rfl (hb hby at_194) rfl ?_
    show Steps p.tables e below (T13.setTop (mkF m 195 #[.val (.int p1), .val (.long q2), .second, .val (.int (Int32.ofNat n)), .val (.ref b3), .val (.ref b12), .unset, .unset, .unset, .unset] [(.int (Int32.ofNat n)), (.int (1 : Int32)), (.long q2), (.long (own_term q2 0 n))])) _
    refine XS.aload X13.here hx rfl (hb hby at_195) rfl rfl ?_
    show Steps p.tables e below (T13.setTop (mkF m 197 #[.val (.int p1), .val (.long q2), .second, .val (.int (Int32.ofNat n)), .val (.ref b3), .val (.ref b12), .unset, .unset, .unset, .unset] [(.ref b3), (.int (Int32.ofNat n)), (.int (1 : Int32)), (.long q2), (.long (own_term q2 0 n))])) _
    refine st14 _ ?_
    show Steps p.tables e below (T14.setTop (mkF m 200 #[.val (.int p1), .val (.long q2), .second, .val (.int (Int32.ofNat n)), .val (.ref b3), .val (.ref b12), .unset, .unset, .unset, .unset] [(.long (own_term q2 1 n)), (.long (own_term q2 0 n))])) _
    refine XS.ladd X14.here hx rfl (hb hby at_200) rfl ?_
    show Steps p.tables e below (T14.setTop (mkF m 201 #[.val (.int p1), .val (.long q2), .second, .val (.int (Int32.ofNat n)), .val (.ref b3), .val (.ref b12), .unset, .unset, .unset, .unset] [(.long ((own_term q2 0 n) + (own_term q2 1 n)))])) _
    refine XS.lloadN X14.here hx rfl (hb hby at_201) rfl ?_
    show Steps p.tables e below (T14.setTop (mkF m 202 #[.val (.int p1), .val (.long q2), .second, .val (.int (Int32.ofNat n)), .val (.ref b3), .val (.ref b12), .unset, .unset, .unset, .unset] [(.long q2), (.long ((own_term q2 0 n) + (own_term q2 1 n)))])) _
    refine XS.iconst X14.here hx rfl (hb hby at_202) ?_
    show Steps p.tables e below (T14.setTop (mkF m 203 #[.val (.int p1), .val (.long q2), .second, .val (.int (Int32.ofNat n)), .val (.ref b3), .val (.ref b12), .unset, .unset, .unset, .unset] [(.int (2 : Int32)), (.long q2), (.long ((own_term q2 0 n) + (own_term q2 1 n)))])) _
    refine XS.iloadN X14.here hx rfl (hb hby at_203) rfl ?_
    show Steps p.tables e below (T14.setTop (mkF m 204 #[.val (.int p1), .val (.long q2), .second, .val (.int (Int32.ofNat n)), .val (.ref b3), .val (.ref b12), .unset, .unset, .unset, .unset] [(.int (Int32.ofNat n)), (.int (2 : Int32)), (.long q2), (.long ((own_term q2 0 n) + (own_term q2 1 n)))])) _
    refine XS.aload X14.here hx rfl (hb hby at_204) rfl rfl ?_
    show Steps p.tables e below (T14.setTop (mkF m 206 #[.val (.int p1), .val (.long q2), .second, .val (.int (Int32.ofNat n)), .val (.ref b3), .val (.ref b12), .unset, .unset, .unset, .unset] [(.ref b3), (.int (Int32.ofNat n)), (.int (2 : Int32)), (.long q2), (.long ((own_term q2 0 n) + (own_term q2 1 n)))])) _
    refine st15 _ ?_
    show Steps p.tables e below (T15.setTop (mkF m 209 #[.val (.int p1), .val (.long q2), .second, .val (.int (Int32.ofNat n)), .val (.ref b3), .val (.ref b12), .unset, .unset, .unset, .unset] [(.long (own_term q2 2 n)), (.long ((own_term q2 0 n) + (own_term q2 1 n)))])) _
    refine XS.ladd X15.here hx rfl (hb hby at_209) rfl ?_
    show Steps p.tables e below (T15.setTop (mkF m 210 #[.val (.int p1), .val (.long q2), .second, .val (.int (Int32.ofNat n)), .val (.ref b3), .val (.ref b12), .unset, .unset, .unset, .unset] [(.long (((own_term q2 0 n) + (own_term q2 1 n)) + (own_term q2 2 n)))])) _
    refine XS.lloadN X15.here hx rfl (hb hby at_210) rfl ?_
    show Steps p.tables e below (T15.setTop (mkF m 211 #[.val (.int p1), .val (.long q2), .second, .val (.int (Int32.ofNat n)), .val (.ref b3), .val (.ref b12), .unset, .unset, .unset, .unset] [(.long q2), (.long (((own_term q2 0 n) + (own_term q2 1 n)) + (own_term q2 2 n)))])) _
    refine XS.iconst X15.here hx rfl (hb hby at_211) ?_
    show Steps p.tables e below (T15.setTop (mkF m 212 #[.val (.int p1), .val (.long q2), .second, .val (.int (Int32.ofNat n)), .val (.ref b3), .val (.ref b12), .unset, .unset, .unset, .unset] [(.int (3 : Int32)), (.long q2), (.long (((own_term q2 0 n) + (own_term q2 1 n)) + (own_term q2 2 n)))])) _
    refine XS.iloadN X15.here hx rfl (hb hby at_212) rfl ?_
    show Steps p.tables e below (T15.setTop (mkF m 213 #[.val (.int p1), .val (.long q2), .second, .val (.int (Int32.ofNat n)), .val (.ref b3), .val (.ref b12), .unset, .unset, .unset, .unset] [(.int (Int32.ofNat n)), (.int (3 : Int32)), (.long q2), (.long (((own_term q2 0 n) + (own_term q2 1 n)) + (own_term q2 2 n)))])) _
    refine XS.aload X15.here hx rfl (hb hby at_213) rfl rfl ?_
    show Steps p.tables e below (T15.setTop (mkF m 215 #[.val (.int p1), .val (.long q2), .second, .val (.int (Int32.ofNat n)), .val (.ref b3), .val (.ref b12), .unset, .unset, .unset, .unset] [(.ref b3), (.int (Int32.ofNat n)), (.int (3 : Int32)), (.long q2), (.long (((own_term q2 0 n) + (own_term q2 1 n)) + (own_term q2 2 n)))])) _
    refine st16 _ ?_
    show Steps p.tables e below (T16.setTop (mkF m 218 #[.val (.int p1), .val (.long q2), .second, .val (.int (Int32.ofNat n)), .val (.ref b3), .val (.ref b12), .unset, .unset, .unset, .unset] [(.long (own_term q2 3 n)), (.long (((own_term q2 0 n) + (own_term q2 1 n)) + (own_term q2 2 n)))])) _
    refine XS.ladd X16.here hx rfl (hb hby at_218) rfl ?_
    show Steps p.tables e below (T16.setTop (mkF m 219 #[.val (.int p1), .val (.long q2), .second, .val (.int (Int32.ofNat n)), .val (.ref b3), .val (.ref b12), .unset, .unset, .unset, .unset] [(.long ((((own_term q2 0 n) + (own_term q2 1 n)) + (own_term q2 2 n)) + (own_term q2 3 n)))])) _
    refine XS.lloadN X16.here hx rfl (hb hby at_219) rfl ?_
    show Steps p.tables e below (T16.setTop (mkF m 220 #[.val (.int p1), .val (.long q2), .second, .val (.int (Int32.ofNat n)), .val (.ref b3), .val (.ref b12), .unset, .unset, .unset, .unset] [(.long q2), (.long ((((own_term q2 0 n) + (own_term q2 1 n)) + (own_term q2 2 n)) + (own_term q2 3 n)))])) _
    refine XS.iconst X16.here hx rfl (hb hby at_220) ?_
    show Steps p.tables e below (T16.setTop (mkF m 221 #[.val (.int p1), .val (.long q2), .second, .val (.int (Int32.ofNat n)), .val (.ref b3), .val (.ref b12), .unset, .unset, .unset, .unset] [(.int (4 : Int32)), (.long q2), (.long ((((own_term q2 0 n) + (own_term q2 1 n)) + (own_term q2 2 n)) + (own_term q2 3 n)))])) _
    refine XS.iloadN X16.here hx rfl (hb hby at_221) rfl ?_
    show Steps p.tables e below (T16.setTop (mkF m 222 #[.val (.int p1), .val (.long q2), .second, .val (.int (Int32.ofNat n)), .val (.ref b3), .val (.ref b12), .unset, .unset, .unset, .unset] [(.int (Int32.ofNat n)), (.int (4 : Int32)), (.long q2), (.long ((((own_term q2 0 n) + (own_term q2 1 n)) + (own_term q2 2 n)) + (own_term q2 3 n)))])) _
    refine XS.aload X16.here hx rfl (hb hby at_222) rfl rfl ?_
    show Steps p.tables e below (T16.setTop (mkF m 224 #[.val (.int p1), .val (.long q2), .second, .val (.int (Int32.ofNat n)), .val (.ref b3), .val (.ref b12), .unset, .unset, .unset, .unset] [(.ref b3), (.int (Int32.ofNat n)), (.int (4 : Int32)), (.long q2), (.long ((((own_term q2 0 n) + (own_term q2 1 n)) + (own_term q2 2 n)) + (own_term q2 3 n)))])) _
    refine st17 _ ?_
    show Steps p.tables e below (T17.setTop (mkF m 227 #[.val (.int p1), .val (.long q2), .second, .val (.int (Int32.ofNat n)), .val (.ref b3), .val (.ref b12), .unset, .unset, .unset, .unset] [(.long (own_term q2 4 n)), (.long ((((own_term q2 0 n) + (own_term q2 1 n)) + (own_term q2 2 n)) + (own_term q2 3 n)))])) _
    refine XS.ladd X17.here hx rfl (hb hby at_227) rfl ?_
    show Steps p.tables e below (T17.setTop (mkF m 228 #[.val (.int p1), .val (.long q2), .second, .val (.int (Int32.ofNat n)), .val (.ref b3), .val (.ref b12), .unset, .unset, .unset, .unset] [(.long (((((own_term q2 0 n) + (own_term q2 1 n)) + (own_term q2 2 n)) + (own_term q2 3 n)) + (own_term q2 4 n)))])) _
    refine XS.lloadN X17.here hx rfl (hb hby at_228) rfl ?_
    show Steps p.tables e below (T17.setTop (mkF m 229 #[.val (.int p1), .val (.long q2), .second, .val (.int (Int32.ofNat n)), .val (.ref b3), .val (.ref b12), .unset, .unset, .unset, .unset] [(.long q2), (.long (((((own_term q2 0 n) + (own_term q2 1 n)) + (own_term q2 2 n)) + (own_term q2 3 n)) + (own_term q2 4 n)))])) _
    refine XS.iconst X17.here hx rfl (hb hby at_229) ?_
    show Steps p.tables e below (T17.setTop (mkF m 230 #[.val (.int p1), .val (.long q2), .second, .val (.int (Int32.ofNat n)), .val (.ref b3), .val (.ref b12), .unset, .unset, .unset, .unset] [(.int (5 : Int32)), (.long q2), (.long (((((own_term q2 0 n) + (own_term q2 1 n)) + (own_term q2 2 n)) + (own_term q2 3 n)) + (own_term q2 4 n)))])) _
    refine XS.iloadN X17.here hx rfl (hb hby at_230) rfl ?_
    show Steps p.tables e below (T17.setTop (mkF m 231 #[.val (.int p1), .val (.long q2), .second, .val (.int (Int32.ofNat n)), .val (.ref b3), .val (.ref b12), .unset, .unset, .unset, .unset] [(.int (Int32.ofNat n)), (.int (5 : Int32)), (.long q2), (.long (((((own_term q2 0 n) + (own_term q2 1 n)) + (own_term q2 2 n)) + (own_term q2 3 n)) + (own_term q2 4 n)))])) _
    refine XS.aload X17.here hx rfl (hb hby at_231) rfl rfl ?_
    show Steps p.tables e below (T17.setTop (mkF m 233 #[.val (.int p1), .val (.long q2), .second, .val (.int (Int32.ofNat n)), .val (.ref b3), .val (.ref b12), .unset, .unset, .unset, .unset] [(.ref b3), (.int (Int32.ofNat n)), (.int (5 : Int32)), (.long q2), (.long (((((own_term q2 0 n) + (own_term q2 1 n)) + (own_term q2 2 n)) + (own_term q2 3 n)) + (own_term q2 4 n)))])) _
    refine st18 _ ?_
    show Steps p.tables e below (T18.setTop (mkF m 236 #[.val (.int p1), .val (.long q2), .second, .val (.int (Int32.ofNat n)), .val (.ref b3), .val (.ref b12), .unset, .unset, .unset, .unset] [(.long (own_term q2 5 n)), (.long (((((own_term q2 0 n) + (own_term q2 1 n)) + (own_term q2 2 n)) + (own_term q2 3 n)) + (own_term q2 4 n)))])) _
    refine XS.ladd X18.here hx rfl (hb hby at_236) rfl ?_
    show Steps p.tables e below (T18.setTop (mkF m 237 #[.val (.int p1), .val (.long q2), .second, .val (.int (Int32.ofNat n)), .val (.ref b3), .val (.ref b12), .unset, .unset, .unset, .unset] [(.long ((((((own_term q2 0 n) + (own_term q2 1 n)) + (own_term q2 2 n)) + (own_term q2 3 n)) + (own_term q2 4 n)) + (own_term q2 5 n)))])) _
    refine XS.lloadN X18.here hx rfl (hb hby at_237) rfl ?_
    show Steps p.tables e below (T18.setTop (mkF m 238 #[.val (.int p1), .val (.long q2), .second, .val (.int (Int32.ofNat n)), .val (.ref b3), .val (.ref b12), .unset, .unset, .unset, .unset] [(.long q2), (.long ((((((own_term q2 0 n) + (own_term q2 1 n)) + (own_term q2 2 n)) + (own_term q2 3 n)) + (own_term q2 4 n)) + (own_term q2 5 n)))])) _
    refine XS.bipush X18.here hx rfl (hb hby at_238) ?_
    show Steps p.tables e below (T18.setTop (mkF m 240 #[.val (.int p1), .val (.long q2), .second, .val (.int (Int32.ofNat n)), .val (.ref b3), .val (.ref b12), .unset, .unset, .unset, .unset] [(.int (6 : Int32)), (.long q2), (.long ((((((own_term q2 0 n) + (own_term q2 1 n)) + (own_term q2 2 n)) + (own_term q2 3 n)) + (own_term q2 4 n)) + (own_term q2 5 n)))])) _
    refine XS.iloadN X18.here hx rfl (hb hby at_240) rfl ?_
    show Steps p.tables e below (T18.setTop (mkF m 241 #[.val (.int p1), .val (.long q2), .second, .val (.int (Int32.ofNat n)), .val (.ref b3), .val (.ref b12), .unset, .unset, .unset, .unset] [(.int (Int32.ofNat n)), (.int (6 : Int32)), (.long q2), (.long ((((((own_term q2 0 n) + (own_term q2 1 n)) + (own_term q2 2 n)) + (own_term q2 3 n)) + (own_term q2 4 n)) + (own_term q2 5 n)))])) _
    refine XS.aload X18.here hx rfl (hb hby at_241) rfl rfl ?_
    show Steps p.tables e below (T18.setTop (mkF m 243 #[.val (.int p1), .val (.long q2), .second, .val (.int (Int32.ofNat n)), .val (.ref b3), .val (.ref b12), .unset, .unset, .unset, .unset] [(.ref b3), (.int (Int32.ofNat n)), (.int (6 : Int32)), (.long q2), (.long ((((((own_term q2 0 n) + (own_term q2 1 n)) + (own_term q2 2 n)) + (own_term q2 3 n)) + (own_term q2 4 n)) + (own_term q2 5 n)))])) _
    refine st19 _ ?_
    show Steps p.tables e below (T19.setTop (mkF m 246 #[.val (.int p1), .val (.long q2), .second, .val (.int (Int32.ofNat n)), .val (.ref b3), .val (.ref b12), .unset, .unset, .unset, .unset] [(.long (own_term q2 6 n)), (.long ((((((own_term q2 0 n) + (own_term q2 1 n)) + (own_term q2 2 n)) + (own_term q2 3 n)) + (own_term q2 4 n)) + (own_term q2 5 n)))])) _
    refine XS.ladd X19.here hx rfl (hb hby at_246) rfl ?_
    show Steps p.tables e below (T19.setTop (mkF m 247 #[.val (.int p1), .val (.long q2), .second, .val (.int (Int32.ofNat n)), .val (.ref b3), .val (.ref b12), .unset, .unset, .unset, .unset] [(.long (((((((own_term q2 0 n) + (own_term q2 1 n)) + (own_term q2 2 n)) + (own_term q2 3 n)) + (own_term q2 4 n)) + (own_term q2 5 n)) + (own_term q2 6 n)))])) _
    refine XS.lloadN X19.here hx rfl (hb hby at_247) rfl ?_
    show Steps p.tables e below (T19.setTop (mkF m 248 #[.val (.int p1), .val (.long q2), .second, .val (.int (Int32.ofNat n)), .val (.ref b3), .val (.ref b12), .unset, .unset, .unset, .unset] [(.long q2), (.long (((((((own_term q2 0 n) + (own_term q2 1 n)) + (own_term q2 2 n)) + (own_term q2 3 n)) + (own_term q2 4 n)) + (own_term q2 5 n)) + (own_term q2 6 n)))])) _
    refine XS.bipush X19.here hx rfl (hb hby at_248) ?_
    show Steps p.tables e below (T19.setTop (mkF m 250 #[.val (.int p1), .val (.long q2), .second, .val (.int (Int32.ofNat n)), .val (.ref b3), .val (.ref b12), .unset, .unset, .unset, .unset] [(.int (7 : Int32)), (.long q2), (.long (((((((own_term q2 0 n) + (own_term q2 1 n)) + (own_term q2 2 n)) + (own_term q2 3 n)) + (own_term q2 4 n)) + (own_term q2 5 n)) + (own_term q2 6 n)))])) _
    refine XS.iloadN X19.here hx rfl (hb hby at_250) rfl ?_
    show Steps p.tables e below (T19.setTop (mkF m 251 #[.val (.int p1), .val (.long q2), .second, .val (.int (Int32.ofNat n)), .val (.ref b3), .val (.ref b12), .unset, .unset, .unset, .unset] [(.int (Int32.ofNat n)), (.int (7 : Int32)), (.long q2), (.long (((((((own_term q2 0 n) + (own_term q2 1 n)) + (own_term q2 2 n)) + (own_term q2 3 n)) + (own_term q2 4 n)) + (own_term q2 5 n)) + (own_term q2 6 n)))])) _
    refine XS.aload X19.here hx rfl (hb hby at_251) rfl rfl ?_
    show Steps p.tables e below (T19.setTop (mkF m 253 #[.val (.int p1), .val (.long q2), .second, .val (.int (Int32.ofNat n)), .val (.ref b3), .val (.ref b12), .unset, .unset, .unset, .unset] [(.ref b3), (.int (Int32.ofNat n)), (.int (7 : Int32)), (.long q2), (.long (((((((own_term q2 0 n) + (own_term q2 1 n)) + (own_term q2 2 n)) + (own_term q2 3 n)) + (own_term q2 4 n)) + (own_term q2 5 n)) + (own_term q2 6 n)))])) _
    refine st20 _ ?_
    show Steps p.tables e below (T20.setTop (mkF m 256 #[.val (.int p1), .val (.long q2), .second, .val (.int (Int32.ofNat n)), .val (.ref b3), .val (.ref b12), .unset, .unset, .unset, .unset] [(.long (own_term q2 7 n)), (.long (((((((own_term q2 0 n) + (own_term q2 1 n)) + (own_term q2 2 n)) + (own_term q2 3 n)) + (own_term q2 4 n)) + (own_term q2 5 n)) + (own_term q2 6 n)))])) _
    refine XS.ladd X20.here hx rfl (hb hby at_256) rfl ?_
    show Steps p.tables e below (T20.setTop (mkF m 257 #[.val (.int p1), .val (.long q2), .second, .val (.int (Int32.ofNat n)), .val (.ref b3), .val (.ref b12), .unset, .unset, .unset, .unset] [(.long ((((((((own_term q2 0 n) + (own_term q2 1 n)) + (own_term q2 2 n)) + (own_term q2 3 n)) + (own_term q2 4 n)) + (own_term q2 5 n)) + (own_term q2 6 n)) + (own_term q2 7 n)))])) _
    refine XS.lstore X20.here hx rfl (hb hby at_257) rfl (l' := #[.val (.int p1), .val (.long q2), .second, .val (.int (Int32.ofNat n)), .val (.ref b3), .val (.ref b12), .val (.long ((((((((own_term q2 0 n) + (own_term q2 1 n)) + (own_term q2 2 n)) + (own_term q2 3 n)) + (own_term q2 4 n)) + (own_term q2 5 n)) + (own_term q2 6 n)) + (own_term q2 7 n))), .second, .unset, .unset]) rfl ?_
    show Steps p.tables e below (T20.setTop (mkF m 259 #[.val (.int p1), .val (.long q2), .second, .val (.int (Int32.ofNat n)), .val (.ref b3), .val (.ref b12), .val (.long ((((((((own_term q2 0 n) + (own_term q2 1 n)) + (own_term q2 2 n)) + (own_term q2 3 n)) + (own_term q2 4 n)) + (own_term q2 5 n)) + (own_term q2 6 n)) + (own_term q2 7 n))), .second, .unset, .unset] [])) _
    refine XS.lload X20.here hx rfl (hb hby at_259) rfl ?_
    show Steps p.tables e below (T20.setTop (mkF m 261 #[.val (.int p1), .val (.long q2), .second, .val (.int (Int32.ofNat n)), .val (.ref b3), .val (.ref b12), .val (.long ((((((((own_term q2 0 n) + (own_term q2 1 n)) + (own_term q2 2 n)) + (own_term q2 3 n)) + (own_term q2 4 n)) + (own_term q2 5 n)) + (own_term q2 6 n)) + (own_term q2 7 n))), .second, .unset, .unset] [(.long ((((((((own_term q2 0 n) + (own_term q2 1 n)) + (own_term q2 2 n)) + (own_term q2 3 n)) + (own_term q2 4 n)) + (own_term q2 5 n)) + (own_term q2 6 n)) + (own_term q2 7 n)))])) _
    refine XS.l2i X20.here hx rfl (hb hby at_261) rfl ?_
    show Steps p.tables e below (T20.setTop (mkF m 262 #[.val (.int p1), .val (.long q2), .second, .val (.int (Int32.ofNat n)), .val (.ref b3), .val (.ref b12), .val (.long ((((((((own_term q2 0 n) + (own_term q2 1 n)) + (own_term q2 2 n)) + (own_term q2 3 n)) + (own_term q2 4 n)) + (own_term q2 5 n)) + (own_term q2 6 n)) + (own_term q2 7 n))), .second, .unset, .unset] [(.int (((((((((own_term q2 0 n) + (own_term q2 1 n)) + (own_term q2 2 n)) + (own_term q2 3 n)) + (own_term q2 4 n)) + (own_term q2 5 n)) + (own_term q2 6 n)) + (own_term q2 7 n)).toInt32))])) _
    refine XS.istore X20.here hx rfl (hb hby at_262) rfl (l' := #[.val (.int p1), .val (.long q2), .second, .val (.int (Int32.ofNat n)), .val (.ref b3), .val (.ref b12), .val (.long ((((((((own_term q2 0 n) + (own_term q2 1 n)) + (own_term q2 2 n)) + (own_term q2 3 n)) + (own_term q2 4 n)) + (own_term q2 5 n)) + (own_term q2 6 n)) + (own_term q2 7 n))), .second, .val (.int (((((((((own_term q2 0 n) + (own_term q2 1 n)) + (own_term q2 2 n)) + (own_term q2 3 n)) + (own_term q2 4 n)) + (own_term q2 5 n)) + (own_term q2 6 n)) + (own_term q2 7 n)).toInt32)), .unset]) rfl ?_
    show Steps p.tables e below (T20.setTop (mkF m 264 #[.val (.int p1), .val (.long q2), .second, .val (.int (Int32.ofNat n)), .val (.ref b3), .val (.ref b12), .val (.long ((((((((own_term q2 0 n) + (own_term q2 1 n)) + (own_term q2 2 n)) + (own_term q2 3 n)) + (own_term q2 4 n)) + (own_term q2 5 n)) + (own_term q2 6 n)) + (own_term q2 7 n))), .second, .val (.int (((((((((own_term q2 0 n) + (own_term q2 1 n)) + (own_term q2 2 n)) + (own_term q2 3 n)) + (own_term q2 4 n)) + (own_term q2 5 n)) + (own_term q2 6 n)) + (own_term q2 7 n)).toInt32)), .unset] [])) _
    refine XS.iload X20.here hx rfl (hb hby at_264) rfl ?_
    show Steps p.tables e below (T20.setTop (mkF m 266 #[.val (.int p1), .val (.long q2), .second, .val (.int (Int32.ofNat n)), .val (.ref b3), .val (.ref b12), .val (.long ((((((((own_term q2 0 n) + (own_term q2 1 n)) + (own_term q2 2 n)) + (own_term q2 3 n)) + (own_term q2 4 n)) + (own_term q2 5 n)) + (own_term q2 6 n)) + (own_term q2 7 n))), .second, .val (.int (((((((((own_term q2 0 n) + (own_term q2 1 n)) + (own_term q2 2 n)) + (own_term q2 3 n)) + (own_term q2 4 n)) + (own_term q2 5 n)) + (own_term q2 6 n)) + (own_term q2 7 n)).toInt32)), .unset] [(.int (((((((((own_term q2 0 n) + (own_term q2 1 n)) + (own_term q2 2 n)) + (own_term q2 3 n)) + (own_term q2 4 n)) + (own_term q2 5 n)) + (own_term q2 6 n)) + (own_term q2 7 n)).toInt32))])) _
    refine X20.ldcInt hx hown (mvT hZ (hw _ (List.mem_of_getElem? (i := 13) rfl))) (g := (mkF m 266 #[.val (.int p1), .val (.long q2), .second, .val (.int (Int32.ofNat n)), .val (.ref b3), .val (.ref b12), .val (.long ((((((((own_term q2 0 n) + (own_term q2 1 n)) + (own_term q2 2 n)) + (own_term q2 3 n)) + (own_term q2 4 n)) + (own_term q2 5 n)) + (own_term q2 6 n)) + (own_term q2 7 n))), .second, .val (.int (((((((((own_term q2 0 n) + (own_term q2 1 n)) + (own_term q2 2 n)) + (own_term q2 3 n)) + (own_term q2 4 n)) + (own_term q2 5 n)) + (own_term q2 6 n)) + (own_term q2 7 n)).toInt32)), .unset] [(.int (((((((((own_term q2 0 n) + (own_term q2 1 n)) + (own_term q2 2 n)) + (own_term q2 3 n)) + (own_term q2 4 n)) + (own_term q2 5 n)) + (own_term q2 6 n)) + (own_term q2 7 n)).toInt32))])) rfl (hb hby at_266) _ ?_
    show Steps p.tables e below (T20.setTop (mkF m 268 #[.val (.int p1), .val (.long q2), .second, .val (.int (Int32.ofNat n)), .val (.ref b3), .val (.ref b12), .val (.long ((((((((own_term q2 0 n) + (own_term q2 1 n)) + (own_term q2 2 n)) + (own_term q2 3 n)) + (own_term q2 4 n)) + (own_term q2 5 n)) + (own_term q2 6 n)) + (own_term q2 7 n))), .second, .val (.int (((((((((own_term q2 0 n) + (own_term q2 1 n)) + (own_term q2 2 n)) + (own_term q2 3 n)) + (own_term q2 4 n)) + (own_term q2 5 n)) + (own_term q2 6 n)) + (own_term q2 7 n)).toInt32)), .unset] [(.int (-1640531527 : Int32)), (.int (((((((((own_term q2 0 n) + (own_term q2 1 n)) + (own_term q2 2 n)) + (own_term q2 3 n)) + (own_term q2 4 n)) + (own_term q2 5 n)) + (own_term q2 6 n)) + (own_term q2 7 n)).toInt32))])) _
    refine XS.imul X20.here hx rfl (hb hby at_268) rfl ?_
    show Steps p.tables e below (T20.setTop (mkF m 269 #[.val (.int p1), .val (.long q2), .second, .val (.int (Int32.ofNat n)), .val (.ref b3), .val (.ref b12), .val (.long ((((((((own_term q2 0 n) + (own_term q2 1 n)) + (own_term q2 2 n)) + (own_term q2 3 n)) + (own_term q2 4 n)) + (own_term q2 5 n)) + (own_term q2 6 n)) + (own_term q2 7 n))), .second, .val (.int (((((((((own_term q2 0 n) + (own_term q2 1 n)) + (own_term q2 2 n)) + (own_term q2 3 n)) + (own_term q2 4 n)) + (own_term q2 5 n)) + (own_term q2 6 n)) + (own_term q2 7 n)).toInt32)), .unset] [(.int ((((((((((own_term q2 0 n) + (own_term q2 1 n)) + (own_term q2 2 n)) + (own_term q2 3 n)) + (own_term q2 4 n)) + (own_term q2 5 n)) + (own_term q2 6 n)) + (own_term q2 7 n)).toInt32) * (-1640531527 : Int32)))])) _
    refine XS.istore X20.here hx rfl (hb hby at_269) rfl (l' := #[.val (.int p1), .val (.long q2), .second, .val (.int (Int32.ofNat n)), .val (.ref b3), .val (.ref b12), .val (.long ((((((((own_term q2 0 n) + (own_term q2 1 n)) + (own_term q2 2 n)) + (own_term q2 3 n)) + (own_term q2 4 n)) + (own_term q2 5 n)) + (own_term q2 6 n)) + (own_term q2 7 n))), .second, .val (.int (((((((((own_term q2 0 n) + (own_term q2 1 n)) + (own_term q2 2 n)) + (own_term q2 3 n)) + (own_term q2 4 n)) + (own_term q2 5 n)) + (own_term q2 6 n)) + (own_term q2 7 n)).toInt32)), .val (.int ((((((((((own_term q2 0 n) + (own_term q2 1 n)) + (own_term q2 2 n)) + (own_term q2 3 n)) + (own_term q2 4 n)) + (own_term q2 5 n)) + (own_term q2 6 n)) + (own_term q2 7 n)).toInt32) * (-1640531527 : Int32)))]) rfl ?_
    show Steps p.tables e below (T20.setTop (mkF m 271 #[.val (.int p1), .val (.long q2), .second, .val (.int (Int32.ofNat n)), .val (.ref b3), .val (.ref b12), .val (.long ((((((((own_term q2 0 n) + (own_term q2 1 n)) + (own_term q2 2 n)) + (own_term q2 3 n)) + (own_term q2 4 n)) + (own_term q2 5 n)) + (own_term q2 6 n)) + (own_term q2 7 n))), .second, .val (.int (((((((((own_term q2 0 n) + (own_term q2 1 n)) + (own_term q2 2 n)) + (own_term q2 3 n)) + (own_term q2 4 n)) + (own_term q2 5 n)) + (own_term q2 6 n)) + (own_term q2 7 n)).toInt32)), .val (.int ((((((((((own_term q2 0 n) + (own_term q2 1 n)) + (own_term q2 2 n)) + (own_term q2 3 n)) + (own_term q2 4 n)) + (own_term q2 5 n)) + (own_term q2 6 n)) + (own_term q2 7 n)).toInt32) * (-1640531527 : Int32)))] [])) _
    refine XS.aload X20.here hx rfl (hb hby at_271) rfl rfl ?_
    show Steps p.tables e below (T20.setTop (mkF m 273 #[.val (.int p1), .val (.long q2), .second, .val (.int (Int32.ofNat n)), .val (.ref b3), .val (.ref b12), .val (.long ((((((((own_term q2 0 n) + (own_term q2 1 n)) + (own_term q2 2 n)) + (own_term q2 3 n)) + (own_term q2 4 n)) + (own_term q2 5 n)) + (own_term q2 6 n)) + (own_term q2 7 n))), .second, .val (.int (((((((((own_term q2 0 n) + (own_term q2 1 n)) + (own_term q2 2 n)) + (own_term q2 3 n)) + (own_term q2 4 n)) + (own_term q2 5 n)) + (own_term q2 6 n)) + (own_term q2 7 n)).toInt32)), .val (.int ((((((((((own_term q2 0 n) + (own_term q2 1 n)) + (own_term q2 2 n)) + (own_term q2 3 n)) + (own_term q2 4 n)) + (own_term q2 5 n)) + (own_term q2 6 n)) + (own_term q2 7 n)).toInt32) * (-1640531527 : Int32)))] [(.ref b12)])) _
    refine st21 _ ?_
    show Steps p.tables e below (T21.setTop (mkF m 276 #[.val (.int p1), .val (.long q2), .second, .val (.int (Int32.ofNat n)), .val (.ref b3), .val (.ref b12), .val (.long ((((((((own_term q2 0 n) + (own_term q2 1 n)) + (own_term q2 2 n)) + (own_term q2 3 n)) + (own_term q2 4 n)) + (own_term q2 5 n)) + (own_term q2 6 n)) + (own_term q2 7 n))), .second, .val (.int (((((((((own_term q2 0 n) + (own_term q2 1 n)) + (own_term q2 2 n)) + (own_term q2 3 n)) + (own_term q2 4 n)) + (own_term q2 5 n)) + (own_term q2 6 n)) + (own_term q2 7 n)).toInt32)), .val (.int ((((((((((own_term q2 0 n) + (own_term q2 1 n)) + (own_term q2 2 n)) + (own_term q2 3 n)) + (own_term q2 4 n)) + (own_term q2 5 n)) + (own_term q2 6 n)) + (own_term q2 7 n)).toInt32) * (-1640531527 : Int32)))] [(.int (own_hor (fun j => own_at q2 (Int32.ofNat j)) n * (-1640531527 : Int32)))])) _
    refine XS.iload X21.here hx rfl (hb hby at_276) rfl ?_
    show Steps p.tables e below (T21.setTop (mkF m 278 #[.val (.int p1), .val (.long q2), .second, .val (.int (Int32.ofNat n)), .val (.ref b3), .val (.ref b12), .val (.long ((((((((own_term q2 0 n) + (own_term q2 1 n)) + (own_term q2 2 n)) + (own_term q2 3 n)) + (own_term q2 4 n)) + (own_term q2 5 n)) + (own_term q2 6 n)) + (own_term q2 7 n))), .second, .val (.int (((((((((own_term q2 0 n) + (own_term q2 1 n)) + (own_term q2 2 n)) + (own_term q2 3 n)) + (own_term q2 4 n)) + (own_term q2 5 n)) + (own_term q2 6 n)) + (own_term q2 7 n)).toInt32)), .val (.int ((((((((((own_term q2 0 n) + (own_term q2 1 n)) + (own_term q2 2 n)) + (own_term q2 3 n)) + (own_term q2 4 n)) + (own_term q2 5 n)) + (own_term q2 6 n)) + (own_term q2 7 n)).toInt32) * (-1640531527 : Int32)))] [(.int ((((((((((own_term q2 0 n) + (own_term q2 1 n)) + (own_term q2 2 n)) + (own_term q2 3 n)) + (own_term q2 4 n)) + (own_term q2 5 n)) + (own_term q2 6 n)) + (own_term q2 7 n)).toInt32) * (-1640531527 : Int32))), (.int (own_hor (fun j => own_at q2 (Int32.ofNat j)) n * (-1640531527 : Int32)))])) _
    refine XS.icmpNo X21.here hx rfl (hb hby at_278) rfl (teq (by rw [own_eq q2 n hn] : (own_hor (fun j => own_at q2 (Int32.ofNat j)) n * (-1640531527 : Int32)) = ((((((((((own_term q2 0 n) + (own_term q2 1 n)) + (own_term q2 2 n)) + (own_term q2 3 n)) + (own_term q2 4 n)) + (own_term q2 5 n)) + (own_term q2 6 n)) + (own_term q2 7 n)).toInt32) * (-1640531527 : Int32)))).2 ?_
    show Steps p.tables e below (T21.setTop (mkF m 281 #[.val (.int p1), .val (.long q2), .second, .val (.int (Int32.ofNat n)), .val (.ref b3), .val (.ref b12), .val (.long ((((((((own_term q2 0 n) + (own_term q2 1 n)) + (own_term q2 2 n)) + (own_term q2 3 n)) + (own_term q2 4 n)) + (own_term q2 5 n)) + (own_term q2 6 n)) + (own_term q2 7 n))), .second, .val (.int (((((((((own_term q2 0 n) + (own_term q2 1 n)) + (own_term q2 2 n)) + (own_term q2 3 n)) + (own_term q2 4 n)) + (own_term q2 5 n)) + (own_term q2 6 n)) + (own_term q2 7 n)).toInt32)), .val (.int ((((((((((own_term q2 0 n) + (own_term q2 1 n)) + (own_term q2 2 n)) + (own_term q2 3 n)) + (own_term q2 4 n)) + (own_term q2 5 n)) + (own_term q2 6 n)) + (own_term q2 7 n)).toInt32) * (-1640531527 : Int32)))] [])) _
    refine XS.iconst X21.here hx rfl (hb hby at_281) ?_
    show Steps p.tables e below (T21.setTop (mkF m 282 #[.val (.int p1), .val (.long q2), .second, .val (.int (Int32.ofNat n)), .val (.ref b3), .val (.ref b12), .val (.long ((((((((own_term q2 0 n) + (own_term q2 1 n)) + (own_term q2 2 n)) + (own_term q2 3 n)) + (own_term q2 4 n)) + (own_term q2 5 n)) + (own_term q2 6 n)) + (own_term q2 7 n))), .second, .val (.int (((((((((own_term q2 0 n) + (own_term q2 1 n)) + (own_term q2 2 n)) + (own_term q2 3 n)) + (own_term q2 4 n)) + (own_term q2 5 n)) + (own_term q2 6 n)) + (own_term q2 7 n)).toInt32)), .val (.int ((((((((((own_term q2 0 n) + (own_term q2 1 n)) + (own_term q2 2 n)) + (own_term q2 3 n)) + (own_term q2 4 n)) + (own_term q2 5 n)) + (own_term q2 6 n)) + (own_term q2 7 n)).toInt32) * (-1640531527 : Int32)))] [(.int (1 : Int32))])) _
    refine XS.goto X21.here hx rfl (pc0 := 282) (pc' := 286) rfl (hb hby at_282) (by decide) (by decide) ?_
    show Steps p.tables e below (T21.setTop (mkF m 286 #[.val (.int p1), .val (.long q2), .second, .val (.int (Int32.ofNat n)), .val (.ref b3), .val (.ref b12), .val (.long ((((((((own_term q2 0 n) + (own_term q2 1 n)) + (own_term q2 2 n)) + (own_term q2 3 n)) + (own_term q2 4 n)) + (own_term q2 5 n)) + (own_term q2 6 n)) + (own_term q2 7 n))), .second, .val (.int (((((((((own_term q2 0 n) + (own_term q2 1 n)) + (own_term q2 2 n)) + (own_term q2 3 n)) + (own_term q2 4 n)) + (own_term q2 5 n)) + (own_term q2 6 n)) + (own_term q2 7 n)).toInt32)), .val (.int ((((((((((own_term q2 0 n) + (own_term q2 1 n)) + (own_term q2 2 n)) + (own_term q2 3 n)) + (own_term q2 4 n)) + (own_term q2 5 n)) + (own_term q2 6 n)) + (own_term q2 7 n)).toInt32) * (-1640531527 : Int32)))] [(.int (1 : Int32))])) _
    exact retN X21 hx (t := .boolean) Bd.returns (by simp) (hb hby at_286) hr
  · show Q0 Z p1 q2 h0 n0 _ T21.heap _
    exact ⟨rfl, N21⟩
set_option maxRecDepth 65536 in
set_option maxHeartbeats 40000000 in
theorem rm0 (l : Launch) (Z : State) (a0 : Array Value) (hw : ∀ d ∈ tables_1, d.before a0 Z = true) (ws : List Jvm.Cond) (p1 : Int32) (q2 : Int64) (h0 : Heap) (n0 : Nat) (Z0 : n0 ≤ h0.size) :
    MetFree l x (head1 (Jvm.Cond.code x code maxLocals ret :: ws) room_1) (fun a U => a = #[(.int p1), (.long q2)] ∧ Z.Warmed39 U.vm ∧ U.heap = h0) (fun _ _ _ _ _ => True) (fun _ U o U' => ∃ v L, o = .returned v ∧ Q0 Z p1 q2 h0 n0 v U'.heap L ∧ FrameEnd U o U' L room_1.cells room_1.slots) := by
  obtain ⟨n, hn, en⟩ := own_len p1
  exact rm0n l Z a0 hw ws p1 q2 h0 n0 Z0 n hn en
set_option maxRecDepth 65536 in
set_option maxHeartbeats 40000000 in
theorem comes_1 {Post : Tables → Env → Array Value → State → Outcome → State → Prop} (hpost : ∀ tb e args s v u, (limb_1_1.after args s (.returned v) u = true ∧ limb_1_2.after args s (.returned v) u = true ∧ True) → FrameEnd s (.returned v) u (Jvm.fieldLocs frame_1_writes args s ++ Jvm.arrayLocs frame_1_arrays args s ++ Jvm.staticLocs frame_1_statics s) 16 128 → Post tb e args s (.returned v) u) :
    ArmFor flags0 classFile x code maxLocals ret World_1 tables_1 room_1 Calls_1 rest_1 Pre_1 Post := by
  intro l hfl _ _ p e ha hc hk s m args below hf hA hF happ hP
  obtain ⟨hcalls, hrest, hpre⟩ := hP
  obtain ⟨-, -, -, hnamed, -, -, -, hat⟩ := (Spec.applies_iff hf).mp happ
  obtain ⟨hg, hn⟩ := and_e (Cond.before_iff.mp (show (Jvm.Cond.and given_1 narrow_1).before args s = true from hpre))
  obtain ⟨g22, g23⟩ := and_e hg
  obtain ⟨g24, g25⟩ := and_e g23
  obtain ⟨w0, w1, rfl⟩ : ∃ w0 w1 : Value, args = #[w0, w1] := by
    have hs : args.size = 2 := by simpa [Cond.value, given_1] using g22
    obtain ⟨L⟩ := args
    match L, hs with
    | [w0, w1], _ => exact ⟨w0, w1, rfl⟩
  have hw := fun d (hd : d ∈ tables_1) => atoms_spec (ws := Jvm.Cond.code x code maxLocals ret :: tables_1) hat d (List.mem_cons_of_mem _ hd)
  have hfit : Fit s := fun {y c} hc i hi => by
    obtain ⟨ha, rfl⟩ := Array.getElem?_eq_some_iff.mp hc
    have q := List.all_eq_true.mp ((Array.all_eq_true_iff_forall_mem.mp hF) _ (Array.getElem_mem ha)) i (List.mem_range.mpr hi)
    simpa [Array.getElem?_eq_getElem hi] using q
  obtain ⟨i0, ei0⟩ := is_v g24
  obtain rfl : w0 = (.int i0) := Option.some.inj ei0
  obtain ⟨i1, ei1⟩ := isL_v g25
  obtain rfl : w1 = (.long i1) := Option.some.inj ei1
  obtain ⟨n, o, h1, h2, h3, _, L, rfl, ⟨rfl, N⟩, hq⟩ := rm0 l s _ hw tables_1 i0 i1 s.heap s.heap.size (Nat.le_refl _) p e ha hc hk s m _ below hf ((Spec.applies_iff_loose hf).mp happ).1 ⟨rfl, State.Warmed39.refl s, rfl⟩ trivial
  refine ⟨n, _, h1, h2, h3, hpost _ _ _ _ _ _ ⟨Cond.after_iff.mpr rfl, Cond.after_iff.mpr (eq_i res_at (Term.int_eval (1)) rfl), trivial⟩ ⟨hq.1, hq.2.1, (hq.2.2.sift fun y hy => Or.inr (N y hy)).mono (by decide) (by decide)⟩⟩
theorem main_1_1 : Claimed_1_1 := comes_1 fun _ _ _ _ _ _ h hF => ⟨h.1, hF⟩
theorem main_1_2 : Claimed_1_2 := comes_1 fun _ _ _ _ _ _ h hF => ⟨h.2.1, hF⟩
end Jvm.Pilot.@@N@@
namespace Jvm.Pilot.@@N@@
open Jvm Jvm.ClassFile Sem Op Lib Jvm.Free Jvm.Stand Jvm.Pilot.@@N@@.Jvm.D
/-! MADE BY PROGRAM (witnessworld.py) out of the Statement's table words and the real class files: 11 classes; the members and pool entries that the words name. The judged class is class 1, her method 3. -/
namespace start1
open Jvm.ClassFile
def u (s : String) : CpInfo := .utf8 (stringToUtf16 s)
/-- a pool by its gaps: so many unusable entries, then the entry; so many at the end -/
def gap : Nat → List CpInfo → List CpInfo
  | 0, r => r
  | n + 1, r => .unusable :: gap n r
def poolList (es : List (Nat × CpInfo)) (last : Nat) : List CpInfo := es.foldr (fun e r => gap e.1 (e.2 :: r)) (gap last [])
def pool (es : List (Nat × CpInfo)) (last : Nat) : Array CpInfo := ⟨poolList es last⟩
def fileOf (pool : Array CpInfo) (this : Nat) (attrs : Array Attribute := #[]) (ms : Array MethodInfo := #[]) (fl : Nat := 33) (sup : Nat := 0) (ifs : Array Nat := #[]) (fds : Array FieldInfo := #[]) : ClassFile where
  minorVersion := 0
  majorVersion := 65
  constantPool := pool
  accessFlags := fl
  thisClass := this
  superClass := sup
  interfaces := ifs
  fields := fds
  methods := ms
  attributes := attrs
def plain (name : String) (sup : Option ClassId) : Class where
  name := name
  kind := .ordinary
  loader := none
  accessFlags := 33
  super := sup
  interfaces := #[]
  cf := none
  fields := #[]
  methods := #[]
  instanceTypes := #[]
  staticTypes := #[]
  resolved := #[]
  callSites := []
  init := .initialized
  statics := none
  mirror := none

def pool0 : Array CpInfo := pool [(5, u "<init>"), (0, u "()V"), (1, .class_ 10), (1, u "java/lang/Object")] 113

def k0m0 : Method := { name := "<init>", desc := "()V", sig := { parameters := [], returnType := none }, accessFlags := 1, code := none }
/-- java/lang/Object -/
def k0 : Class := { plain "java/lang/Object" none with
  accessFlags := 33
  interfaces := #[]
  cf := some (fileOf pool0 8 #[] #[{ accessFlags := 1, nameIndex := 5, descriptorIndex := 6, attributes := #[] }] 33 0 #[] #[])
  fields := #[]
  methods := #[k0m0]
  instanceTypes := #[]
  staticTypes := #[]
  resolved := Array.replicate 124 none
  statics := none }

def pool1 : Array CpInfo := pool [(2, .class_ 4), (1, u "java/lang/Object"), (0, u "<init>"), (0, u "()V"), (0, .methodref 8 9), (0, .class_ 10), (0, .nameAndType 11 12), (0, u "com/example/uniform_data_access/uniformdataaccess/model/KeyIndexHashPinLaw"), (0, u "at"), (0, u "(JI)B"), (0, .long 31), (1, .long 961), (1, .long 29791), (1, .long 923521), (1, .long 28629151), (1, .long 887503681), (1, .long 27512614111), (1, .methodref 8 28), (0, .nameAndType 29 30), (0, u "term"), (0, u "(JII[J)J"), (0, .integer 2654435769), (0, .methodref 33 34), (0, .class_ 35), (0, .nameAndType 36 37), (0, u "com/example/uniform_data_access/uniformdataaccess/model/KeyIndex"), (0, u "hash"), (0, u "([B)I"), (3, u "law"), (0, u "(IJ)Z")] 6

def k1m0 : Method := { name := "<init>", desc := "()V", sig := { parameters := [], returnType := none }, accessFlags := 2, code := none }
def k1c1 : Code := { maxStack := 4, maxLocals := 3, code := method_2_code, exceptionTable := #[], attributes := #[] }
def k1m1 : Method := { name := "at", desc := "(JI)B", sig := { parameters := [.long, .int], returnType := some .byte }, accessFlags := 10, code := some k1c1 }
def k1c2 : Code := { maxStack := 5, maxLocals := 5, code := method_3_code, exceptionTable := #[], attributes := #[] }
def k1m2 : Method := { name := "term", desc := "(JII[J)J", sig := { parameters := [.long, .int, .int, (.array .long)], returnType := some .long }, accessFlags := 10, code := some k1c2 }
def k1c3 : Code := { maxStack := 7, maxLocals := 10, code := code, exceptionTable := #[], attributes := #[] }
def k1m3 : Method := { name := "law", desc := "(IJ)Z", sig := { parameters := [.int, .long], returnType := some .boolean }, accessFlags := 9, code := some k1c3 }
/-- com/example/uniform_data_access/uniformdataaccess/model/KeyIndexHashPinLaw -/
def k1 : Class := { plain "com/example/uniform_data_access/uniformdataaccess/model/KeyIndexHashPinLaw" (some 0) with
  accessFlags := 49
  interfaces := #[]
  cf := some (fileOf pool1 8 #[] #[{ accessFlags := 2, nameIndex := 5, descriptorIndex := 6, attributes := #[] }, { accessFlags := 10, nameIndex := 11, descriptorIndex := 12, attributes := #[] }, { accessFlags := 10, nameIndex := 29, descriptorIndex := 30, attributes := #[] }, { accessFlags := 9, nameIndex := 41, descriptorIndex := 42, attributes := #[] }] 49 2 #[] #[])
  fields := #[]
  methods := #[k1m0, k1m1, k1m2, k1m3]
  instanceTypes := #[]
  staticTypes := #[]
  resolved := Array.replicate 49 none
  statics := none }

def pool2 : Array CpInfo := pool [(2, .class_ 4), (1, u "java/lang/Object"), (2, .class_ 8), (0, u "com/example/uniform_data_access/uniformdataaccess/model/KeyIndex"), (8, u "slots"), (0, u "Ljava/nio/IntBuffer;"), (2, u "keys"), (0, u "Lcom/example/uniform_data_access/uniformdataaccess/model/KeyIndex$Keys;"), (2, u "size"), (0, u "I"), (8, u "longest"), (15, .class_ 53), (1, u "com/example/uniform_data_access/uniformdataaccess/model/KeyIndex$Keys"), (44, .integer 2654435769), (2, u "hash"), (0, u "([B)I"), (9, u "FIRST_CAPACITY")] 16

def k2c0 : Code := { maxStack := 2, maxLocals := 6, code := prog_60_method_6_code, exceptionTable := #[], attributes := #[] }
def k2m0 : Method := { name := "hash", desc := "([B)I", sig := { parameters := [(.array .byte)], returnType := some .int }, accessFlags := 8, code := some k2c0 }
/-- com/example/uniform_data_access/uniformdataaccess/model/KeyIndex -/
def k2 : Class := { plain "com/example/uniform_data_access/uniformdataaccess/model/KeyIndex" (some 0) with
  accessFlags := 48
  interfaces := #[]
  cf := some (fileOf pool2 7 #[.nestMembers #[51]] #[{ accessFlags := 8, nameIndex := 101, descriptorIndex := 102, attributes := #[] }] 48 2 #[] #[{ accessFlags := 26, nameIndex := 112, descriptorIndex := 26, attributes := #[] }, { accessFlags := 18, nameIndex := 21, descriptorIndex := 22, attributes := #[] }, { accessFlags := 2, nameIndex := 17, descriptorIndex := 18, attributes := #[] }, { accessFlags := 2, nameIndex := 25, descriptorIndex := 26, attributes := #[] }, { accessFlags := 2, nameIndex := 35, descriptorIndex := 26, attributes := #[] }])
  fields := #[{ name := "FIRST_CAPACITY", type := .int, accessFlags := 26, slot := 0, constantValue := 0 }, { name := "keys", type := (.object "com/example/uniform_data_access/uniformdataaccess/model/KeyIndex$Keys"), accessFlags := 18, slot := 0, constantValue := 0 }, { name := "slots", type := (.object "java/nio/IntBuffer"), accessFlags := 2, slot := 1, constantValue := 0 }, { name := "size", type := .int, accessFlags := 2, slot := 2, constantValue := 0 }, { name := "longest", type := .int, accessFlags := 2, slot := 3, constantValue := 0 }]
  methods := #[k2m0]
  instanceTypes := #[(.object "com/example/uniform_data_access/uniformdataaccess/model/KeyIndex$Keys"), (.object "java/nio/IntBuffer"), .int, .int]
  staticTypes := #[.int]
  resolved := Array.replicate 129 none
  statics := none }

def pool3 : Array CpInfo := pool [(1, u "java/lang/Cloneable"), (0, .class_ 1), (0, u "java/lang/Object"), (0, .class_ 3)] 3

/-- java/lang/Cloneable -/
def k3 : Class := { plain "java/lang/Cloneable" (some 0) with
  accessFlags := 1537
  interfaces := #[]
  cf := some (fileOf pool3 2 #[] #[] 1537 4 #[] #[])
  fields := #[]
  methods := #[]
  instanceTypes := #[]
  staticTypes := #[]
  resolved := Array.replicate 8 none
  statics := none }

def pool4 : Array CpInfo := pool [(1, u "java/io/Serializable"), (0, .class_ 1), (0, u "java/lang/Object"), (0, .class_ 3)] 3

/-- java/io/Serializable -/
def k4 : Class := { plain "java/io/Serializable" (some 0) with
  accessFlags := 1537
  interfaces := #[]
  cf := some (fileOf pool4 2 #[] #[] 1537 4 #[] #[])
  fields := #[]
  methods := #[]
  instanceTypes := #[]
  staticTypes := #[]
  resolved := Array.replicate 8 none
  statics := none }

/-- the primitive byte -/
def k5 : Class := { plain "byte" none with kind := .primitive 'B', accessFlags := 0x411 }
/-- [B -/
def k6 : Class := { plain "[B" (some 0) with kind := .array 5 .byte, interfaces := #[3, 4], accessFlags := 1041 }

/-- the primitive int -/
def k7 : Class := { plain "int" none with kind := .primitive 'I', accessFlags := 0x411 }
/-- [I -/
def k8 : Class := { plain "[I" (some 0) with kind := .array 7 .int, interfaces := #[3, 4], accessFlags := 1041 }

/-- the primitive long -/
def k9 : Class := { plain "long" none with kind := .primitive 'J', accessFlags := 0x411 }
/-- [J -/
def k10 : Class := { plain "[J" (some 0) with kind := .array 9 .long, interfaces := #[3, 4], accessFlags := 1041 }

def heap : Heap := #[]
def classes : Array Class := #[k0, k1, k2, k3, k4, k5, k6, k7, k8, k9, k10]
def interned : List (Array UInt16 × Addr) := []
def slotsUsed : Nat := 0
def theMethod : MethodId := ⟨1, 3⟩
def args0 : Array Value := #[.int 5, .long 72623859790382856]
def aboutOver (below : List Frame) : State where
  vm := { classes := classes, interned := interned.toArray }
  heap := heap
  slotsUsed := slotsUsed
  threads := #[{ frames := .invoking theMethod args0 :: below }]
def below0 : List Frame := [.native { method := ⟨0, 0⟩, args := #[] }]
def about1 : State := aboutOver below0
def p0 : Program := .bare "" "" ""
def e0 : Env := launch0.env 0 0 0
theorem w_frames : about1.frames = Frame.invoking theMethod args0 :: below0 := rfl
set_option maxRecDepth 65536 in
theorem w_args : argsFit about1.vm theMethod args0 = true := by decide +kernel
set_option maxRecDepth 65536 in
theorem w_heap : heapFits about1 = true := by decide +kernel
set_option maxRecDepth 65536 in
theorem w_runnable : about1.curStatus? = some .runnable := by decide +kernel
set_option maxRecDepth 65536 in
theorem w_alone : about1.alone = true := by decide +kernel
set_option maxRecDepth 65536 in
theorem w_named : about1.methodNamed? x = some theMethod := by decide +kernel
set_option maxRecDepth 65536 in
theorem w_hears : about1.hears theMethod below0 = true := by decide +kernel
set_option maxRecDepth 65536 in
theorem w_ripe : about1.ripe theMethod args0 below0 = true := by decide +kernel
theorem w_running : about1.status = .running := rfl
set_option maxRecDepth 65536 in
theorem w_room : about1.hasRoom e0.platform room_1 = true :=
  launch0.hasRoom_least _ room_1 (by decide +kernel) (by decide +kernel) (by decide +kernel) (by decide +kernel) (by decide +kernel) (by decide +kernel)
theorem allAtoms_all (ts : List Jvm.Cond) (a : Array Jvm.Value) (st : Jvm.State) : (allAtoms ts).before a st = ts.all (fun c => c.before a st) := by
  induction ts with
  | nil => rfl
  | cons c t ih =>
    show (Jvm.Cond.and c (allAtoms t)).before a st = _
    rw [Jvm.Cond.before_and, ih, List.all_cons]
def words1 : List Jvm.Cond := Jvm.Cond.code x code maxLocals ret :: tables_1
/-- a 'code' word, met by the world's own term for the bytes: nothing is compared byte by byte -/
theorem code_word {y : MethodName} {bytes : ByteArray} {mx : Nat} {rt : Option FieldType} {a : Array Value} {s : State} {m : MethodId} {meth : Method} {c : Code} (h1 : s.methodNamed? y = some m) (h2 : s.vm.method? m = some meth) (h3 : meth.code = some c) (h4 : c.code = bytes)
    (h5 : (c.maxLocals == mx && c.exceptionTable.isEmpty && decide (c.maxStack ≤ mostOperands) && decide (meth.sig.returnType = rt) && !meth.locks && decide (parseMethodDescriptor y.desc = some meth.sig)) = true) : (Jvm.Cond.code y bytes mx rt).before a s = true := by
  simp only [Bool.and_eq_true, beq_iff_eq, Bool.not_eq_true', decide_eq_true_eq] at h5
  obtain ⟨⟨⟨⟨⟨g1, g2⟩, g3⟩, g4⟩, g5⟩, g6⟩ := h5
  simp [Cond.before, Cond.holds, Cond.value, h1, h2, h3, h4, g1, g2, g3, g4, g5, g6]
def isCode : Jvm.Cond → Bool
  | .code _ _ _ _ => true
  | _ => false
theorem all_split {L : List Jvm.Cond} {P : Jvm.Cond → Bool} (h1 : L.all (fun c => isCode c || P c) = true) (h2 : ∀ c ∈ L.filter isCode, P c = true) : L.all P = true := by
  refine List.all_eq_true.mpr fun c hc => ?_
  have h := List.all_eq_true.mp h1 c hc
  rcases Bool.eq_false_or_eq_true (isCode c) with hi | hi
  · exact h2 c (List.mem_filter.mpr ⟨hc, hi⟩)
  · simpa [hi] using h
set_option maxRecDepth 65536 in
theorem w_c0 : (Jvm.Cond.code x code maxLocals ret).before args0 about1 = true := code_word (m := ⟨1, 3⟩) (meth := k1m3) (c := k1c3) (by decide +kernel) rfl rfl rfl (by decide +kernel)
set_option maxRecDepth 65536 in
theorem w_c1 : (Jvm.Cond.code ({ cls := "com/example/uniform_data_access/uniformdataaccess/model/KeyIndexHashPinLaw", name := "term", desc := "(JII[J)J" } : Jvm.MethodName) method_3_code (5 : Nat) (Option.some Jvm.ClassFile.FieldType.long)).before args0 about1 = true := code_word (m := ⟨1, 2⟩) (meth := k1m2) (c := k1c2) (by decide +kernel) rfl rfl rfl (by decide +kernel)
set_option maxRecDepth 65536 in
theorem w_c2 : (Jvm.Cond.code ({ cls := "com/example/uniform_data_access/uniformdataaccess/model/KeyIndex", name := "hash", desc := "([B)I" } : Jvm.MethodName) prog_60_method_6_code (6 : Nat) (Option.some Jvm.ClassFile.FieldType.int)).before args0 about1 = true := code_word (m := ⟨2, 0⟩) (meth := k2m0) (c := k2c0) (by decide +kernel) rfl rfl rfl (by decide +kernel)
set_option maxRecDepth 65536 in
theorem w_c3 : (Jvm.Cond.code ({ cls := "com/example/uniform_data_access/uniformdataaccess/model/KeyIndexHashPinLaw", name := "at", desc := "(JI)B" } : Jvm.MethodName) method_2_code (3 : Nat) (Option.some Jvm.ClassFile.FieldType.byte)).before args0 about1 = true := code_word (m := ⟨1, 1⟩) (meth := k1m1) (c := k1c1) (by decide +kernel) rfl rfl rfl (by decide +kernel)
def codes1 : List Jvm.Cond := [Jvm.Cond.code x code maxLocals ret, Jvm.Cond.code ({ cls := "com/example/uniform_data_access/uniformdataaccess/model/KeyIndexHashPinLaw", name := "term", desc := "(JII[J)J" } : Jvm.MethodName) method_3_code (5 : Nat) (Option.some Jvm.ClassFile.FieldType.long), Jvm.Cond.code ({ cls := "com/example/uniform_data_access/uniformdataaccess/model/KeyIndex", name := "hash", desc := "([B)I" } : Jvm.MethodName) prog_60_method_6_code (6 : Nat) (Option.some Jvm.ClassFile.FieldType.int), Jvm.Cond.code ({ cls := "com/example/uniform_data_access/uniformdataaccess/model/KeyIndexHashPinLaw", name := "at", desc := "(JI)B" } : Jvm.MethodName) method_2_code (3 : Nat) (Option.some Jvm.ClassFile.FieldType.byte)]
set_option maxRecDepth 65536 in
theorem codes_eq : words1.filter isCode = codes1 := rfl
theorem w_codes : ∀ c ∈ words1.filter isCode, c.before args0 about1 = true := by
  rw [codes_eq]
  intro c hc
  simp only [codes1, List.mem_cons, List.not_mem_nil, or_false] at hc
  rcases hc with rfl | rfl | rfl | rfl
  · exact w_c0
  · exact w_c1
  · exact w_c2
  · exact w_c3
set_option maxRecDepth 65536 in
theorem w_t1 : words1.all (fun c => isCode c || c.before args0 about1) = true := by decide +kernel
theorem w_tables : (allAtoms (Jvm.Cond.code x code maxLocals ret :: tables_1)).before args0 about1 = true := by
  rw [allAtoms_all]
  show words1.all (fun c => c.before args0 about1) = true
  refine all_split ?_ w_codes
  rw [w_t1]
set_option maxRecDepth 65536 in
theorem w_case : (Jvm.Cond.and given_1 narrow_1).before args0 about1 = true := by decide +kernel
theorem w_applies : (headSpec (Jvm.Cond.code x code maxLocals ret :: tables_1) room_1).applies x e0.platform about1 = true :=
  (Spec.applies_iff w_frames).mpr ⟨w_running, w_runnable, w_alone, w_named, w_hears, w_ripe, w_room, w_tables⟩
theorem atStart : AtStart classFile x code maxLocals ret World_1 tables_1 room_1 Calls_1 rest_1 Pre_1 launch0 p0 e0 about1 theMethod args0 below0 :=
  ⟨lists_1, trivial, launch0.admits_env _ _ _, launch0.least_env, fairChoices_fair.cas, fairChoices_fair.clock, w_frames, w_args, w_heap, w_applies, trivial, trivial, w_case⟩
end start1
theorem witness_1 : WitnessClaimed_1 := ⟨start1.p0, start1.e0, start1.about1, start1.theMethod, start1.args0, start1.below0, start1.atStart⟩
end Jvm.Pilot.@@N@@
