import JvmDerived
import JvmDerived.Pilot.@@N@@Statement
import JvmDerived.Pilot.@@N@@Code
set_option linter.unusedVariables false
set_option linter.unusedSimpArgs false
@@BLOCK:NumsL.lean.txt@@
namespace Jvm.RoadKit
open Sem ClassFile Op Lib Jvm.Stand Jvm.Free Jvm.LawKit
section New
variable {p : Program} {l : Launch} {e : Env} {R : Room} {s : State} {m : MethodId} {args : Array Value} {below : List Frame} {meth : Method} {c : Code} {T : State} {locs : List Loc} {cells slots : Nat}
theorem retI (X : Stand p l e R s m args below meth c T locs cells slots) (hx : p.tables.exec = Jvm.exec) {pc : Nat} {Ls : Array Slot} {z : Int32} {rest : List Value} (hret : meth.sig.returnType = some .int) (hd : decode c.code pc = .ok (.ireturn, 1)) {fs : List Frame}
    (hl : ∀ (f : JFrame) (acts : List Action), f.method = m → f.locked = none → f.entered = [] → (doReturn e (T.setTop f) acts (some (.int z))).1 = T.setFrames fs) : Steps p.tables e below (T.setTop (mkF m pc Ls (.int z :: rest))) (T.setFrames fs) := by
  have hm' : T.vm.method? m = some meth := X.method'
  have hn : narrow .int (.int z) = .int z := rfl
  show Steps p.tables e below (T.setTop { method := m, pc := pc, locals := Ls, stack := _ :: rest, locked := none }) _
  jvm_step X.here [X.here.top, hx, hd, hm', hret, hn]
  first | (intro acts; rw [hl _ acts rfl rfl rfl]) | rw [hl _ _ rfl rfl rfl]
  exact Steps.refl _
end New
end Jvm.RoadKit
namespace Jvm.Pilot.@@N@@
open Jvm Jvm.ClassFile Sem Op Lib Jvm.Free Jvm.Stand Jvm.LawKit Jvm.RoadKit Bundle Jvm.Pilot.@@N@@.Jvm.D
def OwA (Z : State) (h : Heap) (a : Addr) (ty : FieldType) (n : Nat) (f : Nat → Value) : Prop := ∃ c : Cell, Arr Z h a c ty ∧ c.slots.size = n ∧ ∀ j, j < n → c.slots[j]? = some (f j)
theorem owa_lt {Z : State} {h : Heap} {a : Addr} {ty : FieldType} {n : Nat} {f : Nat → Value} (F : OwA Z h a ty n f) : a < h.size := by obtain ⟨c, A, -⟩ := F; exact A.lt
theorem owa_ext {Z : State} {h h' : Heap} {a : Addr} {ty : FieldType} {n : Nat} {f : Nat → Value} (F : OwA Z h a ty n f) (E : Ext h h') : OwA Z h' a ty n f := by obtain ⟨c, A, r⟩ := F; exact ⟨c, A.ext E, r⟩
theorem owa_other {Z : State} {h h' : Heap} {a b : Addr} {ty : FieldType} {n sl : Nat} {v : Value} {f : Nat → Value} (F : OwA Z h b ty n f) (W : Wr h h' a sl v) (q : b ≠ a) : OwA Z h' b ty n f := by obtain ⟨c, A, r⟩ := F; exact ⟨c, A.other W q, r⟩
theorem owa_keep {Z : State} {h h' : Heap} {a : Addr} {ty : FieldType} {n : Nat} {f : Nat → Value} {ws : List Addr} (F : OwA Z h a ty n f) (K : Keep h h' ws) (q : a ∉ ws) : OwA Z h' a ty n f := by obtain ⟨c, A, r⟩ := F; exact ⟨c, ⟨K.2.1 a c A.1 q, A.2⟩, r⟩
theorem owa_heap {Z : State} {h h' : Heap} {a : Addr} {ty : FieldType} {n : Nat} {f : Nat → Value} (F : OwA Z h a ty n f) (q : h' = h) : OwA Z h' a ty n f := by rw [q]; exact F
theorem owa_congr {Z : State} {h : Heap} {a : Addr} {ty : FieldType} {n : Nat} {f g : Nat → Value} (F : OwA Z h a ty n f) (q : ∀ j, j < n → f j = g j) : OwA Z h a ty n g := by
  obtain ⟨c, A, S, H⟩ := F; exact ⟨c, A, S, fun j hj => by rw [← q j hj]; exact H j hj⟩
theorem owa_set {Z : State} {h h' : Heap} {a : Addr} {ty : FieldType} {n sl : Nat} {v : Value} {f : Nat → Value} (F : OwA Z h a ty n f) (W : Wr h h' a sl v) : OwA Z h' a ty n (fun j => if j = sl then v else f j) := by
  obtain ⟨c, A, S, H⟩ := F
  refine ⟨_, A.same W, by rw [sz_set]; exact S, fun j hj => ?_⟩
  by_cases u : sl = j
  · subst u
    have hj' : sl < c.slots.size := by rw [S]; exact hj
    simp [Cell.setSlot, hj']
  · have hu : ¬ j = sl := fun q => u q.symm
    have := H j hj
    simp only [Cell.setSlot, hu, if_false] at this ⊢
    rw [Array.getElem?_setIfInBounds_ne u]; exact this
theorem owa_new {Z : State} {h : Heap} {a : Addr} {ty : FieldType} {k : ClassId} {z : Int32} {n : Nat} (A : Arr Z h a (newA k ty z) ty) (hn : z.toNatClampNeg = n) : OwA Z h a ty n (fun _ => defaultValue ty) :=
  ⟨_, A, by rw [sz_new]; exact hn, fun j hj => by
    have : j < z.toNatClampNeg := by rw [hn]; exact hj
    simp [newA, this]⟩
theorem owa_in {c : Cell} {n : Nat} {j : Int32} (S : c.slots.size = n) (h0 : ¬ j < 0) (h1 : j.toNatClampNeg < n) : ¬ (j < 0 ∨ c.slots.size ≤ j.toNatClampNeg) := by
  rintro (q | q)
  · exact h0 q
  · rw [S] at q; omega
theorem own_nat {i : Nat} (h : i < 2147483648) : (Int32.ofNat i).toInt = (i : Int) := Int32.toInt_ofNat_of_lt (by omega)
theorem own_clamp {i : Nat} (h : i < 2147483648) : (Int32.ofNat i).toNatClampNeg = i := by
  rw [Int32.toNatClampNeg, own_nat h]; omega
theorem own_pos {i : Nat} (h : i < 2147483648) : ¬ Int32.ofNat i < 0 := by
  rw [Int32.lt_iff_toInt_lt, own_nat h, Int32.toInt_zero]; omega
theorem own_ltn {i n : Nat} (hi : i < 2147483648) (hn : n < 2147483648) : Int32.ofNat i < Int32.ofNat n ↔ i < n := by
  rw [Int32.lt_iff_toInt_lt, own_nat hi, own_nat hn]; omega
theorem own_up1 (i : Nat) : Int32.ofNat i + (1 : Int32) = Int32.ofNat (i + 1) := (Int32.ofNat_add i 1).symm

theorem own_lc (x : Int64) : lcmpW x x = (0 : Int32) := (lw_eq x x).mpr rfl
def own_mn (x y : Int64) : Int64 := if (0 : Int32) < lcmpW x y then y else x
def own_mx (x y : Int64) : Int64 := if lcmpW x y < (0 : Int32) then y else x
theorem own_mn_a (v x : Int64) (h : lcmpW v x < (0 : Int32)) : own_mn x v = v := by rw [lw_lt] at h; rw [own_mn, if_pos ((lw_gt x v).mpr h)]
theorem own_mn_b (v x : Int64) (h : ¬ lcmpW v x < (0 : Int32)) : own_mn x v = x := by rw [lw_lt] at h; rw [own_mn, if_neg (fun q => h ((lw_gt x v).mp q))]
theorem own_mx_a (v x : Int64) (h : (0 : Int32) < lcmpW v x) : own_mx x v = v := by rw [lw_gt] at h; rw [own_mx, if_pos ((lw_lt x v).mpr h)]
theorem own_mx_b (v x : Int64) (h : ¬ (0 : Int32) < lcmpW v x) : own_mx x v = x := by rw [lw_gt] at h; rw [own_mx, if_neg (fun q => h ((lw_lt x v).mp q))]
def own_lo (g : Nat → Int64) (x : Int64) : Nat → Int64
  | 0 => x
  | k + 1 => own_mn (own_lo g x k) (g k)
def own_hi (g : Nat → Int64) (x : Int64) : Nat → Int64
  | 0 => x
  | k + 1 => own_mx (own_hi g x k) (g k)
def own_g (a b c d : Int64) (j : Nat) : Int64 := match j with | 0 => a | 1 => b | 2 => c | _ => d
def own_gv (a b c d : Int64) (j : Nat) : Value := .long (own_g a b c d j)
def own_rv (x y : Int64) (j : Nat) : Value := if j = 0 then .long x else .long y
def own_bey (n : Int32) : Int64 := if ((n.toUInt32 >>> ((2 : Int32) &&& 31).toUInt32).toInt32) &&& (1 : Int32) = (0 : Int32) then (-9223372036854775808 : Int64) else (9223372036854775807 : Int64)
theorem own_cnt (x : Int32) : ∃ n : Nat, n ≤ 3 ∧ (x &&& (3 : Int32)) = Int32.ofNat n := by
  have m : (x &&& (3 : Int32)).toInt = x.toInt % 2 ^ 2 := Jvm.Kit.i32_mask x 3 (k := 2) (by decide) (by decide)
  refine ⟨(x &&& (3 : Int32)).toInt.toNat, by omega, ?_⟩
  apply Int32.toInt_inj.mp
  rw [own_nat (by omega)]
  omega
def Two (s t : Slot) : Prop := (s = .unset ∧ t = .unset) ∨ ∃ w : Int64, s = .val (.long w) ∧ t = .second
theorem own_st7 {z0 z1 z2 z4 z6 : Value} {s7 s8 : Slot} {v : Int64} (h : Two s7 s8) : storeLocals #[.val z0, .val z1, .val z2, .second, .val z4, .second, .val z6, s7, s8] 7 (.long v) = some #[.val z0, .val z1, .val z2, .second, .val z4, .second, .val z6, .val (.long v), .second] := by
  rcases h with ⟨rfl, rfl⟩ | ⟨w, rfl, rfl⟩ <;> rfl
theorem d2_0 : decode jdk_29_method_70_code 0 = .ok (.lload_n 0, 1) := by decide +kernel
theorem d2_1 : decode jdk_29_method_70_code 1 = .ok (.lload_n 2, 1) := by decide +kernel
theorem d2_2 : decode jdk_29_method_70_code 2 = .ok (.lcmp, 1) := by decide +kernel
theorem d2_3 : decode jdk_29_method_70_code 3 = .ok (.ifCond .gt 7, 3) := by decide +kernel
theorem d2_10 : decode jdk_29_method_70_code 10 = .ok (.lload_n 2, 1) := by decide +kernel
theorem d2_11 : decode jdk_29_method_70_code 11 = .ok (.lreturn, 1) := by decide +kernel
theorem ef_2 (m : MethodId) (x0 : Int64) (x1 : Int64) : entryFrame m #[(.long x0), (.long x1)] 4 = mkF m 0 #[.val (.long x0), .second, .val (.long x1), .second] [] := by first | (simp [entryFrame, mkF, argsToLocals, Value.category]; done) | rfl
theorem d2_6 : decode jdk_29_method_70_code 6 = .ok (.lload_n 0, 1) := by decide +kernel
theorem d2_7 : decode jdk_29_method_70_code 7 = .ok (.goto 4, 3) := by decide +kernel
theorem d3_0 : decode jdk_29_method_66_code 0 = .ok (.lload_n 0, 1) := by decide +kernel
theorem d3_1 : decode jdk_29_method_66_code 1 = .ok (.lload_n 2, 1) := by decide +kernel
theorem d3_2 : decode jdk_29_method_66_code 2 = .ok (.lcmp, 1) := by decide +kernel
theorem d3_3 : decode jdk_29_method_66_code 3 = .ok (.ifCond .lt 7, 3) := by decide +kernel
theorem d3_10 : decode jdk_29_method_66_code 10 = .ok (.lload_n 2, 1) := by decide +kernel
theorem d3_11 : decode jdk_29_method_66_code 11 = .ok (.lreturn, 1) := by decide +kernel
theorem ef_3 (m : MethodId) (x0 : Int64) (x1 : Int64) : entryFrame m #[(.long x0), (.long x1)] 4 = mkF m 0 #[.val (.long x0), .second, .val (.long x1), .second] [] := by first | (simp [entryFrame, mkF, argsToLocals, Value.category]; done) | rfl
theorem d3_6 : decode jdk_29_method_66_code 6 = .ok (.lload_n 0, 1) := by decide +kernel
theorem d3_7 : decode jdk_29_method_66_code 7 = .ok (.goto 4, 3) := by decide +kernel
theorem d1_3 : decode prog_151_method_15_code 3 = .ok (.iload 6, 2) := by decide +kernel
theorem d1_5 : decode prog_151_method_15_code 5 = .ok (.iload_n 1, 1) := by decide +kernel
theorem d1_6 : decode prog_151_method_15_code 6 = .ok (.if_icmp .ge 37, 3) := by decide +kernel
theorem d1_9 : decode prog_151_method_15_code 9 = .ok (.aload_n 0, 1) := by decide +kernel
theorem d1_10 : decode prog_151_method_15_code 10 = .ok (.iload 6, 2) := by decide +kernel
theorem d1_12 : decode prog_151_method_15_code 12 = .ok (.laload, 1) := by decide +kernel
theorem d1_13 : decode prog_151_method_15_code 13 = .ok (.lstore 7, 2) := by decide +kernel
theorem d1_15 : decode prog_151_method_15_code 15 = .ok (.lload 7, 2) := by decide +kernel
theorem d1_17 : decode prog_151_method_15_code 17 = .ok (.lload_n 2, 1) := by decide +kernel
theorem d1_18 : decode prog_151_method_15_code 18 = .ok (.lcmp, 1) := by decide +kernel
theorem d1_19 : decode prog_151_method_15_code 19 = .ok (.ifCond .ge 6, 3) := by decide +kernel
theorem d1_22 : decode prog_151_method_15_code 22 = .ok (.lload 7, 2) := by decide +kernel
theorem d1_24 : decode prog_151_method_15_code 24 = .ok (.lstore_n 2, 1) := by decide +kernel
theorem d1_25 : decode prog_151_method_15_code 25 = .ok (.lload 7, 2) := by decide +kernel
theorem d1_27 : decode prog_151_method_15_code 27 = .ok (.lload 4, 2) := by decide +kernel
theorem d1_29 : decode prog_151_method_15_code 29 = .ok (.lcmp, 1) := by decide +kernel
theorem d1_30 : decode prog_151_method_15_code 30 = .ok (.ifCond .le 7, 3) := by decide +kernel
theorem d1_33 : decode prog_151_method_15_code 33 = .ok (.lload 7, 2) := by decide +kernel
theorem d1_35 : decode prog_151_method_15_code 35 = .ok (.lstore 4, 2) := by decide +kernel
theorem d1_37 : decode prog_151_method_15_code 37 = .ok (.iinc 6 1, 3) := by decide +kernel
theorem d1_40 : decode prog_151_method_15_code 40 = .ok (.goto (-37), 3) := by decide +kernel
theorem d1_0 : decode prog_151_method_15_code 0 = .ok (.iconst 0, 1) := by decide +kernel
theorem d1_1 : decode prog_151_method_15_code 1 = .ok (.istore 6, 2) := by decide +kernel
theorem d1_43 : decode prog_151_method_15_code 43 = .ok (.iconst 2, 1) := by decide +kernel
theorem d1_44 : decode prog_151_method_15_code 44 = .ok (.newarray .long, 2) := by decide +kernel
theorem d1_46 : decode prog_151_method_15_code 46 = .ok (.dup, 1) := by decide +kernel
theorem d1_47 : decode prog_151_method_15_code 47 = .ok (.iconst 0, 1) := by decide +kernel
theorem d1_48 : decode prog_151_method_15_code 48 = .ok (.lload_n 2, 1) := by decide +kernel
theorem d1_49 : decode prog_151_method_15_code 49 = .ok (.lastore, 1) := by decide +kernel
theorem d1_50 : decode prog_151_method_15_code 50 = .ok (.dup, 1) := by decide +kernel
theorem d1_51 : decode prog_151_method_15_code 51 = .ok (.iconst 1, 1) := by decide +kernel
theorem d1_52 : decode prog_151_method_15_code 52 = .ok (.lload 4, 2) := by decide +kernel
theorem d1_54 : decode prog_151_method_15_code 54 = .ok (.lastore, 1) := by decide +kernel
theorem d1_55 : decode prog_151_method_15_code 55 = .ok (.areturn, 1) := by decide +kernel
theorem pn_1 : plainName "com/example/fairjoin/fairjoin/operator/DirectKeys" = true := by first | (simp [plainName, overriddenIn]; done) | decide +kernel
theorem ef_1 (m : MethodId) (x0 : Addr) (x1 : Int32) (x2 : Int64) (x3 : Int64) : entryFrame m #[(.ref x0), (.int x1), (.long x2), (.long x3)] 9 = mkF m 0 #[.val (.ref x0), .val (.int x1), .val (.long x2), .second, .val (.long x3), .second, .unset, .unset, .unset] [] := by first | (simp [entryFrame, mkF, argsToLocals, Value.category]; done) | rfl
theorem pd_0_1 : parseMethodDescriptor "(JJ)J" = some ⟨[.long, .long], some .long⟩ := by decide +kernel
theorem pn_0 : plainName "com/example/fairjoin/fairjoin/operator/DirectKeysRangePinLaw" = true := by first | (simp [plainName, overriddenIn]; done) | decide +kernel
theorem pd_0_0 : parseMethodDescriptor "([JIJJ)[J" = some ⟨[(.array .long), .int, .long, .long], some (.array .long)⟩ := by decide +kernel
theorem ef_0 (m : MethodId) (x0 : Int64) (x1 : Int64) (x2 : Int64) (x3 : Int64) (x4 : Int64) (x5 : Int32) : entryFrame m #[(.long x0), (.long x1), (.long x2), (.long x3), (.long x4), (.int x5)] maxLocals = mkF m 0 #[.val (.long x0), .second, .val (.long x1), .second, .val (.long x2), .second, .val (.long x3), .second, .val (.long x4), .second, .val (.int x5), .unset, .unset, .unset, .unset, .unset, .unset, .unset, .unset, .unset] [] := by first | (simp [entryFrame, mkF, argsToLocals, Value.category, maxLocals]; done) | rfl
def Q2 (Z : State) (q1 : Int64) (q2 : Int64) (h0 : Heap) (n0 : Nat) (v : Option Value) (h : Heap) (L : List Loc) : Prop := v = some (.long (own_mn q1 q2)) ∧ Fr n0 L ∧ h = h0
set_option maxRecDepth 65536 in
set_option maxHeartbeats 40000000 in
theorem rm2a (l : Launch) (Z : State) (a0 : Array Value) (hw : ∀ d ∈ tables_1, d.before a0 Z = true) (ws : List Jvm.Cond) (q1 : Int64) (q2 : Int64) (h0 : Heap) (n0 : Nat) (Z0 : n0 ≤ h0.size) (hc3 : (0 : Int32) < (lcmpW q1 q2)) :
    MetFree l (⟨"java/lang/Math", "min", "(JJ)J"⟩ : MethodName) (head1 (Jvm.Cond.code (⟨"java/lang/Math", "min", "(JJ)J"⟩ : MethodName) jdk_29_method_70_code 4 (some .long) :: ws) ({ frames := 0, cells := 0, slots := 0, locals := 0 } : Room)) (fun a U => a = #[(.long q1), (.long q2)] ∧ Z.Warmed39 U.vm ∧ U.heap = h0) (fun _ _ _ _ _ => True) (fun _ U o U' => ∃ v L, o = .returned v ∧ Q2 Z q1 q2 h0 n0 v U'.heap L ∧ FrameEnd U o U' L ({ frames := 0, cells := 0, slots := 0, locals := 0 } : Room).cells ({ frames := 0, cells := 0, slots := 0, locals := 0 } : Room).slots) := by
  refine MetFree.of_bodySF (Jvm.Free.JP.mathPlain rfl (by decide +kernel)) hisR ?_
  intro p e s m args below meth c s₁ Bd hml0 hP hK
  obtain ⟨rfl, hZ, hh⟩ := hP
  have hx := Bd.exec
  have hby := Bd.bytes
  have hml : c.maxLocals = 4 := hml0
  have hown : s.vm.findClass "java/lang/Math" = some m.cls := findClass_of_methodNamed Bd.named
  have hnm := (name_of_methodNamed Bd.named Bd.method).1
  have X0 : Stand p l e ({ frames := 0, cells := 0, slots := 0, locals := 0 } : Room) s m #[(.long q1), (.long q2)] below meth c s₁ [] 0 0 := Stand.of_body Bd
  have e0 : s₁.heap = h0 := by rw [← hh, Bd.state]; rfl
  have N0 := Fr.nil n0
  have pre0 : ∀ t, Steps p.tables e below (s₁.setTop (mkF m 0 #[.val (.long q1), .second, .val (.long q2), .second] [])) t → Steps p.tables e below (s₁.setTop (entryFrame m #[(.long q1), (.long q2)] 4)) t := fun t k => castTop (ef_2 m q1 q2) k
  obtain ⟨fs, hr, hrun, hended, hW, hsame⟩ := X0.leave (v := some (.long q2)) (fun h => by rw [Bd.returns] at h; cases h)
  refine ⟨_, _, pre0 _ ?_, hrun, hended, _, _, rfl, ?_, ⟨_, rfl⟩, hW, hsame.mono (by decide) (by decide)⟩
  · show Steps p.tables e below (s₁.setTop (mkF m 0 #[.val (.long q1), .second, .val (.long q2), .second] [])) _
    refine XS.lloadN X0.here hx rfl (hb hby d2_0) rfl ?_
    show Steps p.tables e below (s₁.setTop (mkF m 1 #[.val (.long q1), .second, .val (.long q2), .second] [(.long q1)])) _
    refine XS.lloadN X0.here hx rfl (hb hby d2_1) rfl ?_
    show Steps p.tables e below (s₁.setTop (mkF m 2 #[.val (.long q1), .second, .val (.long q2), .second] [(.long q2), (.long q1)])) _
    refine XS.lcmp X0.here hx rfl (hb hby d2_2) rfl ?_
    show Steps p.tables e below (s₁.setTop (mkF m 3 #[.val (.long q1), .second, .val (.long q2), .second] [(.int (lcmpW q1 q2))])) _
    refine XS.ifYes X0.here hx rfl (pc0 := 3) (pc' := 10) rfl (hb hby d2_3) rfl ((if0 _ _).trans (tlt hc3).2.2.1) (by decide) (by decide) ?_
    show Steps p.tables e below (s₁.setTop (mkF m 10 #[.val (.long q1), .second, .val (.long q2), .second] [])) _
    refine XS.lloadN X0.here hx rfl (hb hby d2_10) rfl ?_
    show Steps p.tables e below (s₁.setTop (mkF m 11 #[.val (.long q1), .second, .val (.long q2), .second] [(.long q2)])) _
    jvm_step X0.here [X0.here.top, hx, (hb hby d2_11), X0.method', Bd.returns, narrow]
    first | (intro acts; rw [hr _ acts rfl rfl rfl]) | rw [hr _ _ rfl rfl rfl]
    exact Steps.refl _
  · show Q2 Z q1 q2 h0 n0 _ s₁.heap _
    rw [e0]
    exact ⟨by rw [own_mn, if_pos hc3], N0, rfl⟩
set_option maxRecDepth 65536 in
set_option maxHeartbeats 40000000 in
theorem rm2b (l : Launch) (Z : State) (a0 : Array Value) (hw : ∀ d ∈ tables_1, d.before a0 Z = true) (ws : List Jvm.Cond) (q1 : Int64) (q2 : Int64) (h0 : Heap) (n0 : Nat) (Z0 : n0 ≤ h0.size) (hc3 : ¬ ((0 : Int32) < (lcmpW q1 q2))) :
    MetFree l (⟨"java/lang/Math", "min", "(JJ)J"⟩ : MethodName) (head1 (Jvm.Cond.code (⟨"java/lang/Math", "min", "(JJ)J"⟩ : MethodName) jdk_29_method_70_code 4 (some .long) :: ws) ({ frames := 0, cells := 0, slots := 0, locals := 0 } : Room)) (fun a U => a = #[(.long q1), (.long q2)] ∧ Z.Warmed39 U.vm ∧ U.heap = h0) (fun _ _ _ _ _ => True) (fun _ U o U' => ∃ v L, o = .returned v ∧ Q2 Z q1 q2 h0 n0 v U'.heap L ∧ FrameEnd U o U' L ({ frames := 0, cells := 0, slots := 0, locals := 0 } : Room).cells ({ frames := 0, cells := 0, slots := 0, locals := 0 } : Room).slots) := by
  refine MetFree.of_bodySF (Jvm.Free.JP.mathPlain rfl (by decide +kernel)) hisR ?_
  intro p e s m args below meth c s₁ Bd hml0 hP hK
  obtain ⟨rfl, hZ, hh⟩ := hP
  have hx := Bd.exec
  have hby := Bd.bytes
  have hml : c.maxLocals = 4 := hml0
  have hown : s.vm.findClass "java/lang/Math" = some m.cls := findClass_of_methodNamed Bd.named
  have hnm := (name_of_methodNamed Bd.named Bd.method).1
  have X0 : Stand p l e ({ frames := 0, cells := 0, slots := 0, locals := 0 } : Room) s m #[(.long q1), (.long q2)] below meth c s₁ [] 0 0 := Stand.of_body Bd
  have e0 : s₁.heap = h0 := by rw [← hh, Bd.state]; rfl
  have N0 := Fr.nil n0
  have pre0 : ∀ t, Steps p.tables e below (s₁.setTop (mkF m 0 #[.val (.long q1), .second, .val (.long q2), .second] [])) t → Steps p.tables e below (s₁.setTop (entryFrame m #[(.long q1), (.long q2)] 4)) t := fun t k => castTop (ef_2 m q1 q2) k
  obtain ⟨fs, hr, hrun, hended, hW, hsame⟩ := X0.leave (v := some (.long q1)) (fun h => by rw [Bd.returns] at h; cases h)
  refine ⟨_, _, pre0 _ ?_, hrun, hended, _, _, rfl, ?_, ⟨_, rfl⟩, hW, hsame.mono (by decide) (by decide)⟩
  · show Steps p.tables e below (s₁.setTop (mkF m 0 #[.val (.long q1), .second, .val (.long q2), .second] [])) _
    refine XS.lloadN X0.here hx rfl (hb hby d2_0) rfl ?_
    show Steps p.tables e below (s₁.setTop (mkF m 1 #[.val (.long q1), .second, .val (.long q2), .second] [(.long q1)])) _
    refine XS.lloadN X0.here hx rfl (hb hby d2_1) rfl ?_
    show Steps p.tables e below (s₁.setTop (mkF m 2 #[.val (.long q1), .second, .val (.long q2), .second] [(.long q2), (.long q1)])) _
    refine XS.lcmp X0.here hx rfl (hb hby d2_2) rfl ?_
    show Steps p.tables e below (s₁.setTop (mkF m 3 #[.val (.long q1), .second, .val (.long q2), .second] [(.int (lcmpW q1 q2))])) _
    refine XS.ifNo X0.here hx rfl (hb hby d2_3) rfl ((if0 _ _).trans (flt hc3).2.2.1) ?_
    show Steps p.tables e below (s₁.setTop (mkF m 6 #[.val (.long q1), .second, .val (.long q2), .second] [])) _
    refine XS.lloadN X0.here hx rfl (hb hby d2_6) rfl ?_
    show Steps p.tables e below (s₁.setTop (mkF m 7 #[.val (.long q1), .second, .val (.long q2), .second] [(.long q1)])) _
    refine XS.goto X0.here hx rfl (pc0 := 7) (pc' := 11) rfl (hb hby d2_7) (by decide) (by decide) ?_
    show Steps p.tables e below (s₁.setTop (mkF m 11 #[.val (.long q1), .second, .val (.long q2), .second] [(.long q1)])) _
    jvm_step X0.here [X0.here.top, hx, (hb hby d2_11), X0.method', Bd.returns, narrow]
    first | (intro acts; rw [hr _ acts rfl rfl rfl]) | rw [hr _ _ rfl rfl rfl]
    exact Steps.refl _
  · show Q2 Z q1 q2 h0 n0 _ s₁.heap _
    rw [e0]
    exact ⟨by rw [own_mn, if_neg hc3], N0, rfl⟩
set_option maxRecDepth 65536 in
set_option maxHeartbeats 40000000 in
theorem rm2 (l : Launch) (Z : State) (a0 : Array Value) (hw : ∀ d ∈ tables_1, d.before a0 Z = true) (ws : List Jvm.Cond) (q1 : Int64) (q2 : Int64) (h0 : Heap) (n0 : Nat) (Z0 : n0 ≤ h0.size) :
    MetFree l (⟨"java/lang/Math", "min", "(JJ)J"⟩ : MethodName) (head1 (Jvm.Cond.code (⟨"java/lang/Math", "min", "(JJ)J"⟩ : MethodName) jdk_29_method_70_code 4 (some .long) :: ws) ({ frames := 0, cells := 0, slots := 0, locals := 0 } : Room)) (fun a U => a = #[(.long q1), (.long q2)] ∧ Z.Warmed39 U.vm ∧ U.heap = h0) (fun _ _ _ _ _ => True) (fun _ U o U' => ∃ v L, o = .returned v ∧ Q2 Z q1 q2 h0 n0 v U'.heap L ∧ FrameEnd U o U' L ({ frames := 0, cells := 0, slots := 0, locals := 0 } : Room).cells ({ frames := 0, cells := 0, slots := 0, locals := 0 } : Room).slots) := by
  by_cases hc3 : (0 : Int32) < (lcmpW q1 q2)
  · exact rm2a l Z a0 hw ws q1 q2 h0 n0 Z0 hc3
  · exact rm2b l Z a0 hw ws q1 q2 h0 n0 Z0 hc3
def Q3 (Z : State) (q1 : Int64) (q2 : Int64) (h0 : Heap) (n0 : Nat) (v : Option Value) (h : Heap) (L : List Loc) : Prop := v = some (.long (own_mx q1 q2)) ∧ Fr n0 L ∧ h = h0
set_option maxRecDepth 65536 in
set_option maxHeartbeats 40000000 in
theorem rm3a (l : Launch) (Z : State) (a0 : Array Value) (hw : ∀ d ∈ tables_1, d.before a0 Z = true) (ws : List Jvm.Cond) (q1 : Int64) (q2 : Int64) (h0 : Heap) (n0 : Nat) (Z0 : n0 ≤ h0.size) (hc3 : (lcmpW q1 q2) < (0 : Int32)) :
    MetFree l (⟨"java/lang/Math", "max", "(JJ)J"⟩ : MethodName) (head1 (Jvm.Cond.code (⟨"java/lang/Math", "max", "(JJ)J"⟩ : MethodName) jdk_29_method_66_code 4 (some .long) :: ws) ({ frames := 0, cells := 0, slots := 0, locals := 0 } : Room)) (fun a U => a = #[(.long q1), (.long q2)] ∧ Z.Warmed39 U.vm ∧ U.heap = h0) (fun _ _ _ _ _ => True) (fun _ U o U' => ∃ v L, o = .returned v ∧ Q3 Z q1 q2 h0 n0 v U'.heap L ∧ FrameEnd U o U' L ({ frames := 0, cells := 0, slots := 0, locals := 0 } : Room).cells ({ frames := 0, cells := 0, slots := 0, locals := 0 } : Room).slots) := by
  refine MetFree.of_bodySF (Jvm.Free.JP.mathPlain rfl (by decide +kernel)) hisR ?_
  intro p e s m args below meth c s₁ Bd hml0 hP hK
  obtain ⟨rfl, hZ, hh⟩ := hP
  have hx := Bd.exec
  have hby := Bd.bytes
  have hml : c.maxLocals = 4 := hml0
  have hown : s.vm.findClass "java/lang/Math" = some m.cls := findClass_of_methodNamed Bd.named
  have hnm := (name_of_methodNamed Bd.named Bd.method).1
  have X0 : Stand p l e ({ frames := 0, cells := 0, slots := 0, locals := 0 } : Room) s m #[(.long q1), (.long q2)] below meth c s₁ [] 0 0 := Stand.of_body Bd
  have e0 : s₁.heap = h0 := by rw [← hh, Bd.state]; rfl
  have N0 := Fr.nil n0
  have pre0 : ∀ t, Steps p.tables e below (s₁.setTop (mkF m 0 #[.val (.long q1), .second, .val (.long q2), .second] [])) t → Steps p.tables e below (s₁.setTop (entryFrame m #[(.long q1), (.long q2)] 4)) t := fun t k => castTop (ef_3 m q1 q2) k
  obtain ⟨fs, hr, hrun, hended, hW, hsame⟩ := X0.leave (v := some (.long q2)) (fun h => by rw [Bd.returns] at h; cases h)
  refine ⟨_, _, pre0 _ ?_, hrun, hended, _, _, rfl, ?_, ⟨_, rfl⟩, hW, hsame.mono (by decide) (by decide)⟩
  · show Steps p.tables e below (s₁.setTop (mkF m 0 #[.val (.long q1), .second, .val (.long q2), .second] [])) _
    refine XS.lloadN X0.here hx rfl (hb hby d3_0) rfl ?_
    show Steps p.tables e below (s₁.setTop (mkF m 1 #[.val (.long q1), .second, .val (.long q2), .second] [(.long q1)])) _
    refine XS.lloadN X0.here hx rfl (hb hby d3_1) rfl ?_
    show Steps p.tables e below (s₁.setTop (mkF m 2 #[.val (.long q1), .second, .val (.long q2), .second] [(.long q2), (.long q1)])) _
    refine XS.lcmp X0.here hx rfl (hb hby d3_2) rfl ?_
    show Steps p.tables e below (s₁.setTop (mkF m 3 #[.val (.long q1), .second, .val (.long q2), .second] [(.int (lcmpW q1 q2))])) _
    refine XS.ifYes X0.here hx rfl (pc0 := 3) (pc' := 10) rfl (hb hby d3_3) rfl ((if0 _ _).trans (tlt hc3).1) (by decide) (by decide) ?_
    show Steps p.tables e below (s₁.setTop (mkF m 10 #[.val (.long q1), .second, .val (.long q2), .second] [])) _
    refine XS.lloadN X0.here hx rfl (hb hby d3_10) rfl ?_
    show Steps p.tables e below (s₁.setTop (mkF m 11 #[.val (.long q1), .second, .val (.long q2), .second] [(.long q2)])) _
    jvm_step X0.here [X0.here.top, hx, (hb hby d3_11), X0.method', Bd.returns, narrow]
    first | (intro acts; rw [hr _ acts rfl rfl rfl]) | rw [hr _ _ rfl rfl rfl]
    exact Steps.refl _
  · show Q3 Z q1 q2 h0 n0 _ s₁.heap _
    rw [e0]
    exact ⟨by rw [own_mx, if_pos hc3], N0, rfl⟩
set_option maxRecDepth 65536 in
set_option maxHeartbeats 40000000 in
theorem rm3b (l : Launch) (Z : State) (a0 : Array Value) (hw : ∀ d ∈ tables_1, d.before a0 Z = true) (ws : List Jvm.Cond) (q1 : Int64) (q2 : Int64) (h0 : Heap) (n0 : Nat) (Z0 : n0 ≤ h0.size) (hc3 : ¬ ((lcmpW q1 q2) < (0 : Int32))) :
    MetFree l (⟨"java/lang/Math", "max", "(JJ)J"⟩ : MethodName) (head1 (Jvm.Cond.code (⟨"java/lang/Math", "max", "(JJ)J"⟩ : MethodName) jdk_29_method_66_code 4 (some .long) :: ws) ({ frames := 0, cells := 0, slots := 0, locals := 0 } : Room)) (fun a U => a = #[(.long q1), (.long q2)] ∧ Z.Warmed39 U.vm ∧ U.heap = h0) (fun _ _ _ _ _ => True) (fun _ U o U' => ∃ v L, o = .returned v ∧ Q3 Z q1 q2 h0 n0 v U'.heap L ∧ FrameEnd U o U' L ({ frames := 0, cells := 0, slots := 0, locals := 0 } : Room).cells ({ frames := 0, cells := 0, slots := 0, locals := 0 } : Room).slots) := by
  refine MetFree.of_bodySF (Jvm.Free.JP.mathPlain rfl (by decide +kernel)) hisR ?_
  intro p e s m args below meth c s₁ Bd hml0 hP hK
  obtain ⟨rfl, hZ, hh⟩ := hP
  have hx := Bd.exec
  have hby := Bd.bytes
  have hml : c.maxLocals = 4 := hml0
  have hown : s.vm.findClass "java/lang/Math" = some m.cls := findClass_of_methodNamed Bd.named
  have hnm := (name_of_methodNamed Bd.named Bd.method).1
  have X0 : Stand p l e ({ frames := 0, cells := 0, slots := 0, locals := 0 } : Room) s m #[(.long q1), (.long q2)] below meth c s₁ [] 0 0 := Stand.of_body Bd
  have e0 : s₁.heap = h0 := by rw [← hh, Bd.state]; rfl
  have N0 := Fr.nil n0
  have pre0 : ∀ t, Steps p.tables e below (s₁.setTop (mkF m 0 #[.val (.long q1), .second, .val (.long q2), .second] [])) t → Steps p.tables e below (s₁.setTop (entryFrame m #[(.long q1), (.long q2)] 4)) t := fun t k => castTop (ef_3 m q1 q2) k
  obtain ⟨fs, hr, hrun, hended, hW, hsame⟩ := X0.leave (v := some (.long q1)) (fun h => by rw [Bd.returns] at h; cases h)
  refine ⟨_, _, pre0 _ ?_, hrun, hended, _, _, rfl, ?_, ⟨_, rfl⟩, hW, hsame.mono (by decide) (by decide)⟩
  · show Steps p.tables e below (s₁.setTop (mkF m 0 #[.val (.long q1), .second, .val (.long q2), .second] [])) _
    refine XS.lloadN X0.here hx rfl (hb hby d3_0) rfl ?_
    show Steps p.tables e below (s₁.setTop (mkF m 1 #[.val (.long q1), .second, .val (.long q2), .second] [(.long q1)])) _
    refine XS.lloadN X0.here hx rfl (hb hby d3_1) rfl ?_
    show Steps p.tables e below (s₁.setTop (mkF m 2 #[.val (.long q1), .second, .val (.long q2), .second] [(.long q2), (.long q1)])) _
    refine XS.lcmp X0.here hx rfl (hb hby d3_2) rfl ?_
    show Steps p.tables e below (s₁.setTop (mkF m 3 #[.val (.long q1), .second, .val (.long q2), .second] [(.int (lcmpW q1 q2))])) _
    refine XS.ifNo X0.here hx rfl (hb hby d3_3) rfl ((if0 _ _).trans (flt hc3).1) ?_
    show Steps p.tables e below (s₁.setTop (mkF m 6 #[.val (.long q1), .second, .val (.long q2), .second] [])) _
    refine XS.lloadN X0.here hx rfl (hb hby d3_6) rfl ?_
    show Steps p.tables e below (s₁.setTop (mkF m 7 #[.val (.long q1), .second, .val (.long q2), .second] [(.long q1)])) _
    refine XS.goto X0.here hx rfl (pc0 := 7) (pc' := 11) rfl (hb hby d3_7) (by decide) (by decide) ?_
    show Steps p.tables e below (s₁.setTop (mkF m 11 #[.val (.long q1), .second, .val (.long q2), .second] [(.long q1)])) _
    jvm_step X0.here [X0.here.top, hx, (hb hby d3_11), X0.method', Bd.returns, narrow]
    first | (intro acts; rw [hr _ acts rfl rfl rfl]) | rw [hr _ _ rfl rfl rfl]
    exact Steps.refl _
  · show Q3 Z q1 q2 h0 n0 _ s₁.heap _
    rw [e0]
    exact ⟨by rw [own_mx, if_neg hc3], N0, rfl⟩
set_option maxRecDepth 65536 in
set_option maxHeartbeats 40000000 in
theorem rm3 (l : Launch) (Z : State) (a0 : Array Value) (hw : ∀ d ∈ tables_1, d.before a0 Z = true) (ws : List Jvm.Cond) (q1 : Int64) (q2 : Int64) (h0 : Heap) (n0 : Nat) (Z0 : n0 ≤ h0.size) :
    MetFree l (⟨"java/lang/Math", "max", "(JJ)J"⟩ : MethodName) (head1 (Jvm.Cond.code (⟨"java/lang/Math", "max", "(JJ)J"⟩ : MethodName) jdk_29_method_66_code 4 (some .long) :: ws) ({ frames := 0, cells := 0, slots := 0, locals := 0 } : Room)) (fun a U => a = #[(.long q1), (.long q2)] ∧ Z.Warmed39 U.vm ∧ U.heap = h0) (fun _ _ _ _ _ => True) (fun _ U o U' => ∃ v L, o = .returned v ∧ Q3 Z q1 q2 h0 n0 v U'.heap L ∧ FrameEnd U o U' L ({ frames := 0, cells := 0, slots := 0, locals := 0 } : Room).cells ({ frames := 0, cells := 0, slots := 0, locals := 0 } : Room).slots) := by
  by_cases hc3 : (lcmpW q1 q2) < (0 : Int32)
  · exact rm3a l Z a0 hw ws q1 q2 h0 n0 Z0 hc3
  · exact rm3b l Z a0 hw ws q1 q2 h0 n0 Z0 hc3
set_option maxRecDepth 65536 in
set_option maxHeartbeats 40000000 in
theorem tn1_ff {p : Program} {l : Launch} {e : Env} {R : Room} {s : State} {m : MethodId} {args : Array Value} {below : List Frame} {meth : Method} {c : Code} {T0 : State} {locs : List Loc} {cells slots : Nat} {Z : State} {a0 : Array Value} {h0 : Heap} (o0 : Addr) (i1 : Int32) (j2 : Int64) (j4 : Int64) (i6 : Int32) (s7 : Slot) (s8 : Slot) (h78 : Two s7 s8) (w5 : Int64) (cl_o0 : Cell)
    (X0 : Stand p l e R s m args below meth c T0 locs cells slots) (hx : p.tables.exec = Jvm.exec) (hZ : Z.Warmed39 s.vm) (hw : ∀ d ∈ tables_1, d.before a0 Z = true) (hby : c.code = prog_151_method_15_code) (hml : c.maxLocals = 9) (hown : s.vm.findClass "com/example/fairjoin/fairjoin/operator/DirectKeys" = some m.cls) (e0 : T0.heap = h0) (Ar_o0 : Arr Z h0 o0 cl_o0 .long) (hin12 : ¬ (i6 < 0 ∨ cl_o0.slots.size ≤ (i6).toNatClampNeg)) (hat12 : cl_o0.slots[(i6).toNatClampNeg]? = some (.long w5)) (hc6 : i6 < i1) (hc19 : (lcmpW w5 j2) < (0 : Int32)) (hc30 : (0 : Int32) < (lcmpW w5 j4)) :
    ∃ (T' : State), Stand p l e R s m args below meth c T' locs cells slots ∧ T'.heap = h0 ∧
      ∀ target, Steps p.tables e below (T'.setTop (mkF m 3 #[.val (.ref o0), .val (.int i1), .val (.long w5), .second, .val (.long w5), .second, .val (.int (i6 + (1 : Int32))), .val (.long w5), .second] [])) target → Steps p.tables e below (T0.setTop (mkF m 3 #[.val (.ref o0), .val (.int i1), .val (.long j2), .second, .val (.long j4), .second, .val (.int i6), s7, s8] [])) target := by
  refine ⟨T0, X0, e0, fun target kt => ?_⟩
  show Steps p.tables e below (T0.setTop (mkF m 3 #[.val (.ref o0), .val (.int i1), .val (.long j2), .second, .val (.long j4), .second, .val (.int i6), s7, s8] [])) _
  refine XS.iload X0.here hx rfl (hb hby d1_3) rfl ?_
  show Steps p.tables e below (T0.setTop (mkF m 5 #[.val (.ref o0), .val (.int i1), .val (.long j2), .second, .val (.long j4), .second, .val (.int i6), s7, s8] [(.int i6)])) _
  refine XS.iloadN X0.here hx rfl (hb hby d1_5) rfl ?_
  show Steps p.tables e below (T0.setTop (mkF m 6 #[.val (.ref o0), .val (.int i1), .val (.long j2), .second, .val (.long j4), .second, .val (.int i6), s7, s8] [(.int i1), (.int i6)])) _
  refine XS.icmpNo X0.here hx rfl (hb hby d1_6) rfl (tlt hc6).2.1 ?_
  show Steps p.tables e below (T0.setTop (mkF m 9 #[.val (.ref o0), .val (.int i1), .val (.long j2), .second, .val (.long j4), .second, .val (.int i6), s7, s8] [])) _
  refine XS.aloadN X0.here hx rfl (hb hby d1_9) rfl rfl ?_
  show Steps p.tables e below (T0.setTop (mkF m 10 #[.val (.ref o0), .val (.int i1), .val (.long j2), .second, .val (.long j4), .second, .val (.int i6), s7, s8] [(.ref o0)])) _
  refine XS.iload X0.here hx rfl (hb hby d1_10) rfl ?_
  show Steps p.tables e below (T0.setTop (mkF m 12 #[.val (.ref o0), .val (.int i1), .val (.long j2), .second, .val (.long j4), .second, .val (.int i6), s7, s8] [(.int i6), (.ref o0)])) _
  refine X0.laload hx (j := i6) (v := (.long w5)) (by rw [e0]; exact Ar_o0.1) (State.isArrayOf_alike hZ.alike Ar_o0.2.1) Ar_o0.2.2 hin12 hat12 (g := (mkF m 12 #[.val (.ref o0), .val (.int i1), .val (.long j2), .second, .val (.long j4), .second, .val (.int i6), s7, s8] [(.int i6), (.ref o0)])) rfl rfl (hb hby d1_12) _ ?_
  show Steps p.tables e below (T0.setTop (mkF m 13 #[.val (.ref o0), .val (.int i1), .val (.long j2), .second, .val (.long j4), .second, .val (.int i6), s7, s8] [(.long w5)])) _
  refine XS.lstore X0.here hx rfl (hb hby d1_13) rfl (l' := #[.val (.ref o0), .val (.int i1), .val (.long j2), .second, .val (.long j4), .second, .val (.int i6), .val (.long w5), .second]) (own_st7 h78) ?_
  show Steps p.tables e below (T0.setTop (mkF m 15 #[.val (.ref o0), .val (.int i1), .val (.long j2), .second, .val (.long j4), .second, .val (.int i6), .val (.long w5), .second] [])) _
  refine XS.lload X0.here hx rfl (hb hby d1_15) rfl ?_
  show Steps p.tables e below (T0.setTop (mkF m 17 #[.val (.ref o0), .val (.int i1), .val (.long j2), .second, .val (.long j4), .second, .val (.int i6), .val (.long w5), .second] [(.long w5)])) _
  refine XS.lloadN X0.here hx rfl (hb hby d1_17) rfl ?_
  show Steps p.tables e below (T0.setTop (mkF m 18 #[.val (.ref o0), .val (.int i1), .val (.long j2), .second, .val (.long j4), .second, .val (.int i6), .val (.long w5), .second] [(.long j2), (.long w5)])) _
  refine XS.lcmp X0.here hx rfl (hb hby d1_18) rfl ?_
  show Steps p.tables e below (T0.setTop (mkF m 19 #[.val (.ref o0), .val (.int i1), .val (.long j2), .second, .val (.long j4), .second, .val (.int i6), .val (.long w5), .second] [(.int (lcmpW w5 j2))])) _
  refine XS.ifNo X0.here hx rfl (hb hby d1_19) rfl ((if0 _ _).trans (tlt hc19).2.1) ?_
  show Steps p.tables e below (T0.setTop (mkF m 22 #[.val (.ref o0), .val (.int i1), .val (.long j2), .second, .val (.long j4), .second, .val (.int i6), .val (.long w5), .second] [])) _
  refine XS.lload X0.here hx rfl (hb hby d1_22) rfl ?_
  show Steps p.tables e below (T0.setTop (mkF m 24 #[.val (.ref o0), .val (.int i1), .val (.long j2), .second, .val (.long j4), .second, .val (.int i6), .val (.long w5), .second] [(.long w5)])) _
  refine XS.lstoreN X0.here hx rfl (hb hby d1_24) rfl (l' := #[.val (.ref o0), .val (.int i1), .val (.long w5), .second, .val (.long j4), .second, .val (.int i6), .val (.long w5), .second]) rfl ?_
  show Steps p.tables e below (T0.setTop (mkF m 25 #[.val (.ref o0), .val (.int i1), .val (.long w5), .second, .val (.long j4), .second, .val (.int i6), .val (.long w5), .second] [])) _
  refine XS.lload X0.here hx rfl (hb hby d1_25) rfl ?_
  show Steps p.tables e below (T0.setTop (mkF m 27 #[.val (.ref o0), .val (.int i1), .val (.long w5), .second, .val (.long j4), .second, .val (.int i6), .val (.long w5), .second] [(.long w5)])) _
  refine XS.lload X0.here hx rfl (hb hby d1_27) rfl ?_
  show Steps p.tables e below (T0.setTop (mkF m 29 #[.val (.ref o0), .val (.int i1), .val (.long w5), .second, .val (.long j4), .second, .val (.int i6), .val (.long w5), .second] [(.long j4), (.long w5)])) _
  refine XS.lcmp X0.here hx rfl (hb hby d1_29) rfl ?_
  show Steps p.tables e below (T0.setTop (mkF m 30 #[.val (.ref o0), .val (.int i1), .val (.long w5), .second, .val (.long j4), .second, .val (.int i6), .val (.long w5), .second] [(.int (lcmpW w5 j4))])) _
  refine XS.ifNo X0.here hx rfl (hb hby d1_30) rfl ((if0 _ _).trans (tlt hc30).2.2.2) ?_
  show Steps p.tables e below (T0.setTop (mkF m 33 #[.val (.ref o0), .val (.int i1), .val (.long w5), .second, .val (.long j4), .second, .val (.int i6), .val (.long w5), .second] [])) _
  refine XS.lload X0.here hx rfl (hb hby d1_33) rfl ?_
  show Steps p.tables e below (T0.setTop (mkF m 35 #[.val (.ref o0), .val (.int i1), .val (.long w5), .second, .val (.long j4), .second, .val (.int i6), .val (.long w5), .second] [(.long w5)])) _
  refine XS.lstore X0.here hx rfl (hb hby d1_35) rfl (l' := #[.val (.ref o0), .val (.int i1), .val (.long w5), .second, .val (.long w5), .second, .val (.int i6), .val (.long w5), .second]) rfl ?_
  show Steps p.tables e below (T0.setTop (mkF m 37 #[.val (.ref o0), .val (.int i1), .val (.long w5), .second, .val (.long w5), .second, .val (.int i6), .val (.long w5), .second] [])) _
  refine XS.iinc X0.here hx rfl (hb hby d1_37) rfl (l' := #[.val (.ref o0), .val (.int i1), .val (.long w5), .second, .val (.long w5), .second, .val (.int (i6 + (1 : Int32))), .val (.long w5), .second]) rfl ?_
  show Steps p.tables e below (T0.setTop (mkF m 40 #[.val (.ref o0), .val (.int i1), .val (.long w5), .second, .val (.long w5), .second, .val (.int (i6 + (1 : Int32))), .val (.long w5), .second] [])) _
  refine XS.goto X0.here hx rfl (pc0 := 40) (pc' := 3) rfl (hb hby d1_40) (by decide) (by decide) ?_
  exact kt
set_option maxRecDepth 65536 in
set_option maxHeartbeats 40000000 in
theorem tn1_ft {p : Program} {l : Launch} {e : Env} {R : Room} {s : State} {m : MethodId} {args : Array Value} {below : List Frame} {meth : Method} {c : Code} {T0 : State} {locs : List Loc} {cells slots : Nat} {Z : State} {a0 : Array Value} {h0 : Heap} (o0 : Addr) (i1 : Int32) (j2 : Int64) (j4 : Int64) (i6 : Int32) (s7 : Slot) (s8 : Slot) (h78 : Two s7 s8) (w5 : Int64) (cl_o0 : Cell)
    (X0 : Stand p l e R s m args below meth c T0 locs cells slots) (hx : p.tables.exec = Jvm.exec) (hZ : Z.Warmed39 s.vm) (hw : ∀ d ∈ tables_1, d.before a0 Z = true) (hby : c.code = prog_151_method_15_code) (hml : c.maxLocals = 9) (hown : s.vm.findClass "com/example/fairjoin/fairjoin/operator/DirectKeys" = some m.cls) (e0 : T0.heap = h0) (Ar_o0 : Arr Z h0 o0 cl_o0 .long) (hin12 : ¬ (i6 < 0 ∨ cl_o0.slots.size ≤ (i6).toNatClampNeg)) (hat12 : cl_o0.slots[(i6).toNatClampNeg]? = some (.long w5)) (hc6 : i6 < i1) (hc19 : (lcmpW w5 j2) < (0 : Int32)) (hc30 : ¬ ((0 : Int32) < (lcmpW w5 j4))) :
    ∃ (T' : State), Stand p l e R s m args below meth c T' locs cells slots ∧ T'.heap = h0 ∧
      ∀ target, Steps p.tables e below (T'.setTop (mkF m 3 #[.val (.ref o0), .val (.int i1), .val (.long w5), .second, .val (.long j4), .second, .val (.int (i6 + (1 : Int32))), .val (.long w5), .second] [])) target → Steps p.tables e below (T0.setTop (mkF m 3 #[.val (.ref o0), .val (.int i1), .val (.long j2), .second, .val (.long j4), .second, .val (.int i6), s7, s8] [])) target := by
  refine ⟨T0, X0, e0, fun target kt => ?_⟩
  show Steps p.tables e below (T0.setTop (mkF m 3 #[.val (.ref o0), .val (.int i1), .val (.long j2), .second, .val (.long j4), .second, .val (.int i6), s7, s8] [])) _
  refine XS.iload X0.here hx rfl (hb hby d1_3) rfl ?_
  show Steps p.tables e below (T0.setTop (mkF m 5 #[.val (.ref o0), .val (.int i1), .val (.long j2), .second, .val (.long j4), .second, .val (.int i6), s7, s8] [(.int i6)])) _
  refine XS.iloadN X0.here hx rfl (hb hby d1_5) rfl ?_
  show Steps p.tables e below (T0.setTop (mkF m 6 #[.val (.ref o0), .val (.int i1), .val (.long j2), .second, .val (.long j4), .second, .val (.int i6), s7, s8] [(.int i1), (.int i6)])) _
  refine XS.icmpNo X0.here hx rfl (hb hby d1_6) rfl (tlt hc6).2.1 ?_
  show Steps p.tables e below (T0.setTop (mkF m 9 #[.val (.ref o0), .val (.int i1), .val (.long j2), .second, .val (.long j4), .second, .val (.int i6), s7, s8] [])) _
  refine XS.aloadN X0.here hx rfl (hb hby d1_9) rfl rfl ?_
  show Steps p.tables e below (T0.setTop (mkF m 10 #[.val (.ref o0), .val (.int i1), .val (.long j2), .second, .val (.long j4), .second, .val (.int i6), s7, s8] [(.ref o0)])) _
  refine XS.iload X0.here hx rfl (hb hby d1_10) rfl ?_
  show Steps p.tables e below (T0.setTop (mkF m 12 #[.val (.ref o0), .val (.int i1), .val (.long j2), .second, .val (.long j4), .second, .val (.int i6), s7, s8] [(.int i6), (.ref o0)])) _
  refine X0.laload hx (j := i6) (v := (.long w5)) (by rw [e0]; exact Ar_o0.1) (State.isArrayOf_alike hZ.alike Ar_o0.2.1) Ar_o0.2.2 hin12 hat12 (g := (mkF m 12 #[.val (.ref o0), .val (.int i1), .val (.long j2), .second, .val (.long j4), .second, .val (.int i6), s7, s8] [(.int i6), (.ref o0)])) rfl rfl (hb hby d1_12) _ ?_
  show Steps p.tables e below (T0.setTop (mkF m 13 #[.val (.ref o0), .val (.int i1), .val (.long j2), .second, .val (.long j4), .second, .val (.int i6), s7, s8] [(.long w5)])) _
  refine XS.lstore X0.here hx rfl (hb hby d1_13) rfl (l' := #[.val (.ref o0), .val (.int i1), .val (.long j2), .second, .val (.long j4), .second, .val (.int i6), .val (.long w5), .second]) (own_st7 h78) ?_
  show Steps p.tables e below (T0.setTop (mkF m 15 #[.val (.ref o0), .val (.int i1), .val (.long j2), .second, .val (.long j4), .second, .val (.int i6), .val (.long w5), .second] [])) _
  refine XS.lload X0.here hx rfl (hb hby d1_15) rfl ?_
  show Steps p.tables e below (T0.setTop (mkF m 17 #[.val (.ref o0), .val (.int i1), .val (.long j2), .second, .val (.long j4), .second, .val (.int i6), .val (.long w5), .second] [(.long w5)])) _
  refine XS.lloadN X0.here hx rfl (hb hby d1_17) rfl ?_
  show Steps p.tables e below (T0.setTop (mkF m 18 #[.val (.ref o0), .val (.int i1), .val (.long j2), .second, .val (.long j4), .second, .val (.int i6), .val (.long w5), .second] [(.long j2), (.long w5)])) _
  refine XS.lcmp X0.here hx rfl (hb hby d1_18) rfl ?_
  show Steps p.tables e below (T0.setTop (mkF m 19 #[.val (.ref o0), .val (.int i1), .val (.long j2), .second, .val (.long j4), .second, .val (.int i6), .val (.long w5), .second] [(.int (lcmpW w5 j2))])) _
  refine XS.ifNo X0.here hx rfl (hb hby d1_19) rfl ((if0 _ _).trans (tlt hc19).2.1) ?_
  show Steps p.tables e below (T0.setTop (mkF m 22 #[.val (.ref o0), .val (.int i1), .val (.long j2), .second, .val (.long j4), .second, .val (.int i6), .val (.long w5), .second] [])) _
  refine XS.lload X0.here hx rfl (hb hby d1_22) rfl ?_
  show Steps p.tables e below (T0.setTop (mkF m 24 #[.val (.ref o0), .val (.int i1), .val (.long j2), .second, .val (.long j4), .second, .val (.int i6), .val (.long w5), .second] [(.long w5)])) _
  refine XS.lstoreN X0.here hx rfl (hb hby d1_24) rfl (l' := #[.val (.ref o0), .val (.int i1), .val (.long w5), .second, .val (.long j4), .second, .val (.int i6), .val (.long w5), .second]) rfl ?_
  show Steps p.tables e below (T0.setTop (mkF m 25 #[.val (.ref o0), .val (.int i1), .val (.long w5), .second, .val (.long j4), .second, .val (.int i6), .val (.long w5), .second] [])) _
  refine XS.lload X0.here hx rfl (hb hby d1_25) rfl ?_
  show Steps p.tables e below (T0.setTop (mkF m 27 #[.val (.ref o0), .val (.int i1), .val (.long w5), .second, .val (.long j4), .second, .val (.int i6), .val (.long w5), .second] [(.long w5)])) _
  refine XS.lload X0.here hx rfl (hb hby d1_27) rfl ?_
  show Steps p.tables e below (T0.setTop (mkF m 29 #[.val (.ref o0), .val (.int i1), .val (.long w5), .second, .val (.long j4), .second, .val (.int i6), .val (.long w5), .second] [(.long j4), (.long w5)])) _
  refine XS.lcmp X0.here hx rfl (hb hby d1_29) rfl ?_
  show Steps p.tables e below (T0.setTop (mkF m 30 #[.val (.ref o0), .val (.int i1), .val (.long w5), .second, .val (.long j4), .second, .val (.int i6), .val (.long w5), .second] [(.int (lcmpW w5 j4))])) _
  refine XS.ifYes X0.here hx rfl (pc0 := 30) (pc' := 37) rfl (hb hby d1_30) rfl ((if0 _ _).trans (flt hc30).2.2.2) (by decide) (by decide) ?_
  show Steps p.tables e below (T0.setTop (mkF m 37 #[.val (.ref o0), .val (.int i1), .val (.long w5), .second, .val (.long j4), .second, .val (.int i6), .val (.long w5), .second] [])) _
  refine XS.iinc X0.here hx rfl (hb hby d1_37) rfl (l' := #[.val (.ref o0), .val (.int i1), .val (.long w5), .second, .val (.long j4), .second, .val (.int (i6 + (1 : Int32))), .val (.long w5), .second]) rfl ?_
  show Steps p.tables e below (T0.setTop (mkF m 40 #[.val (.ref o0), .val (.int i1), .val (.long w5), .second, .val (.long j4), .second, .val (.int (i6 + (1 : Int32))), .val (.long w5), .second] [])) _
  refine XS.goto X0.here hx rfl (pc0 := 40) (pc' := 3) rfl (hb hby d1_40) (by decide) (by decide) ?_
  exact kt
set_option maxRecDepth 65536 in
set_option maxHeartbeats 40000000 in
theorem tn1_tf {p : Program} {l : Launch} {e : Env} {R : Room} {s : State} {m : MethodId} {args : Array Value} {below : List Frame} {meth : Method} {c : Code} {T0 : State} {locs : List Loc} {cells slots : Nat} {Z : State} {a0 : Array Value} {h0 : Heap} (o0 : Addr) (i1 : Int32) (j2 : Int64) (j4 : Int64) (i6 : Int32) (s7 : Slot) (s8 : Slot) (h78 : Two s7 s8) (w5 : Int64) (cl_o0 : Cell)
    (X0 : Stand p l e R s m args below meth c T0 locs cells slots) (hx : p.tables.exec = Jvm.exec) (hZ : Z.Warmed39 s.vm) (hw : ∀ d ∈ tables_1, d.before a0 Z = true) (hby : c.code = prog_151_method_15_code) (hml : c.maxLocals = 9) (hown : s.vm.findClass "com/example/fairjoin/fairjoin/operator/DirectKeys" = some m.cls) (e0 : T0.heap = h0) (Ar_o0 : Arr Z h0 o0 cl_o0 .long) (hin12 : ¬ (i6 < 0 ∨ cl_o0.slots.size ≤ (i6).toNatClampNeg)) (hat12 : cl_o0.slots[(i6).toNatClampNeg]? = some (.long w5)) (hc6 : i6 < i1) (hc19 : ¬ ((lcmpW w5 j2) < (0 : Int32))) (hc30 : (0 : Int32) < (lcmpW w5 j4)) :
    ∃ (T' : State), Stand p l e R s m args below meth c T' locs cells slots ∧ T'.heap = h0 ∧
      ∀ target, Steps p.tables e below (T'.setTop (mkF m 3 #[.val (.ref o0), .val (.int i1), .val (.long j2), .second, .val (.long w5), .second, .val (.int (i6 + (1 : Int32))), .val (.long w5), .second] [])) target → Steps p.tables e below (T0.setTop (mkF m 3 #[.val (.ref o0), .val (.int i1), .val (.long j2), .second, .val (.long j4), .second, .val (.int i6), s7, s8] [])) target := by
  refine ⟨T0, X0, e0, fun target kt => ?_⟩
  show Steps p.tables e below (T0.setTop (mkF m 3 #[.val (.ref o0), .val (.int i1), .val (.long j2), .second, .val (.long j4), .second, .val (.int i6), s7, s8] [])) _
  refine XS.iload X0.here hx rfl (hb hby d1_3) rfl ?_
  show Steps p.tables e below (T0.setTop (mkF m 5 #[.val (.ref o0), .val (.int i1), .val (.long j2), .second, .val (.long j4), .second, .val (.int i6), s7, s8] [(.int i6)])) _
  refine XS.iloadN X0.here hx rfl (hb hby d1_5) rfl ?_
  show Steps p.tables e below (T0.setTop (mkF m 6 #[.val (.ref o0), .val (.int i1), .val (.long j2), .second, .val (.long j4), .second, .val (.int i6), s7, s8] [(.int i1), (.int i6)])) _
  refine XS.icmpNo X0.here hx rfl (hb hby d1_6) rfl (tlt hc6).2.1 ?_
  show Steps p.tables e below (T0.setTop (mkF m 9 #[.val (.ref o0), .val (.int i1), .val (.long j2), .second, .val (.long j4), .second, .val (.int i6), s7, s8] [])) _
  refine XS.aloadN X0.here hx rfl (hb hby d1_9) rfl rfl ?_
  show Steps p.tables e below (T0.setTop (mkF m 10 #[.val (.ref o0), .val (.int i1), .val (.long j2), .second, .val (.long j4), .second, .val (.int i6), s7, s8] [(.ref o0)])) _
  refine XS.iload X0.here hx rfl (hb hby d1_10) rfl ?_
  show Steps p.tables e below (T0.setTop (mkF m 12 #[.val (.ref o0), .val (.int i1), .val (.long j2), .second, .val (.long j4), .second, .val (.int i6), s7, s8] [(.int i6), (.ref o0)])) _
  refine X0.laload hx (j := i6) (v := (.long w5)) (by rw [e0]; exact Ar_o0.1) (State.isArrayOf_alike hZ.alike Ar_o0.2.1) Ar_o0.2.2 hin12 hat12 (g := (mkF m 12 #[.val (.ref o0), .val (.int i1), .val (.long j2), .second, .val (.long j4), .second, .val (.int i6), s7, s8] [(.int i6), (.ref o0)])) rfl rfl (hb hby d1_12) _ ?_
  show Steps p.tables e below (T0.setTop (mkF m 13 #[.val (.ref o0), .val (.int i1), .val (.long j2), .second, .val (.long j4), .second, .val (.int i6), s7, s8] [(.long w5)])) _
  refine XS.lstore X0.here hx rfl (hb hby d1_13) rfl (l' := #[.val (.ref o0), .val (.int i1), .val (.long j2), .second, .val (.long j4), .second, .val (.int i6), .val (.long w5), .second]) (own_st7 h78) ?_
  show Steps p.tables e below (T0.setTop (mkF m 15 #[.val (.ref o0), .val (.int i1), .val (.long j2), .second, .val (.long j4), .second, .val (.int i6), .val (.long w5), .second] [])) _
  refine XS.lload X0.here hx rfl (hb hby d1_15) rfl ?_
  show Steps p.tables e below (T0.setTop (mkF m 17 #[.val (.ref o0), .val (.int i1), .val (.long j2), .second, .val (.long j4), .second, .val (.int i6), .val (.long w5), .second] [(.long w5)])) _
  refine XS.lloadN X0.here hx rfl (hb hby d1_17) rfl ?_
  show Steps p.tables e below (T0.setTop (mkF m 18 #[.val (.ref o0), .val (.int i1), .val (.long j2), .second, .val (.long j4), .second, .val (.int i6), .val (.long w5), .second] [(.long j2), (.long w5)])) _
  refine XS.lcmp X0.here hx rfl (hb hby d1_18) rfl ?_
  show Steps p.tables e below (T0.setTop (mkF m 19 #[.val (.ref o0), .val (.int i1), .val (.long j2), .second, .val (.long j4), .second, .val (.int i6), .val (.long w5), .second] [(.int (lcmpW w5 j2))])) _
  refine XS.ifYes X0.here hx rfl (pc0 := 19) (pc' := 25) rfl (hb hby d1_19) rfl ((if0 _ _).trans (flt hc19).2.1) (by decide) (by decide) ?_
  show Steps p.tables e below (T0.setTop (mkF m 25 #[.val (.ref o0), .val (.int i1), .val (.long j2), .second, .val (.long j4), .second, .val (.int i6), .val (.long w5), .second] [])) _
  refine XS.lload X0.here hx rfl (hb hby d1_25) rfl ?_
  show Steps p.tables e below (T0.setTop (mkF m 27 #[.val (.ref o0), .val (.int i1), .val (.long j2), .second, .val (.long j4), .second, .val (.int i6), .val (.long w5), .second] [(.long w5)])) _
  refine XS.lload X0.here hx rfl (hb hby d1_27) rfl ?_
  show Steps p.tables e below (T0.setTop (mkF m 29 #[.val (.ref o0), .val (.int i1), .val (.long j2), .second, .val (.long j4), .second, .val (.int i6), .val (.long w5), .second] [(.long j4), (.long w5)])) _
  refine XS.lcmp X0.here hx rfl (hb hby d1_29) rfl ?_
  show Steps p.tables e below (T0.setTop (mkF m 30 #[.val (.ref o0), .val (.int i1), .val (.long j2), .second, .val (.long j4), .second, .val (.int i6), .val (.long w5), .second] [(.int (lcmpW w5 j4))])) _
  refine XS.ifNo X0.here hx rfl (hb hby d1_30) rfl ((if0 _ _).trans (tlt hc30).2.2.2) ?_
  show Steps p.tables e below (T0.setTop (mkF m 33 #[.val (.ref o0), .val (.int i1), .val (.long j2), .second, .val (.long j4), .second, .val (.int i6), .val (.long w5), .second] [])) _
  refine XS.lload X0.here hx rfl (hb hby d1_33) rfl ?_
  show Steps p.tables e below (T0.setTop (mkF m 35 #[.val (.ref o0), .val (.int i1), .val (.long j2), .second, .val (.long j4), .second, .val (.int i6), .val (.long w5), .second] [(.long w5)])) _
  refine XS.lstore X0.here hx rfl (hb hby d1_35) rfl (l' := #[.val (.ref o0), .val (.int i1), .val (.long j2), .second, .val (.long w5), .second, .val (.int i6), .val (.long w5), .second]) rfl ?_
  show Steps p.tables e below (T0.setTop (mkF m 37 #[.val (.ref o0), .val (.int i1), .val (.long j2), .second, .val (.long w5), .second, .val (.int i6), .val (.long w5), .second] [])) _
  refine XS.iinc X0.here hx rfl (hb hby d1_37) rfl (l' := #[.val (.ref o0), .val (.int i1), .val (.long j2), .second, .val (.long w5), .second, .val (.int (i6 + (1 : Int32))), .val (.long w5), .second]) rfl ?_
  show Steps p.tables e below (T0.setTop (mkF m 40 #[.val (.ref o0), .val (.int i1), .val (.long j2), .second, .val (.long w5), .second, .val (.int (i6 + (1 : Int32))), .val (.long w5), .second] [])) _
  refine XS.goto X0.here hx rfl (pc0 := 40) (pc' := 3) rfl (hb hby d1_40) (by decide) (by decide) ?_
  exact kt
set_option maxRecDepth 65536 in
set_option maxHeartbeats 40000000 in
theorem tn1_tt {p : Program} {l : Launch} {e : Env} {R : Room} {s : State} {m : MethodId} {args : Array Value} {below : List Frame} {meth : Method} {c : Code} {T0 : State} {locs : List Loc} {cells slots : Nat} {Z : State} {a0 : Array Value} {h0 : Heap} (o0 : Addr) (i1 : Int32) (j2 : Int64) (j4 : Int64) (i6 : Int32) (s7 : Slot) (s8 : Slot) (h78 : Two s7 s8) (w5 : Int64) (cl_o0 : Cell)
    (X0 : Stand p l e R s m args below meth c T0 locs cells slots) (hx : p.tables.exec = Jvm.exec) (hZ : Z.Warmed39 s.vm) (hw : ∀ d ∈ tables_1, d.before a0 Z = true) (hby : c.code = prog_151_method_15_code) (hml : c.maxLocals = 9) (hown : s.vm.findClass "com/example/fairjoin/fairjoin/operator/DirectKeys" = some m.cls) (e0 : T0.heap = h0) (Ar_o0 : Arr Z h0 o0 cl_o0 .long) (hin12 : ¬ (i6 < 0 ∨ cl_o0.slots.size ≤ (i6).toNatClampNeg)) (hat12 : cl_o0.slots[(i6).toNatClampNeg]? = some (.long w5)) (hc6 : i6 < i1) (hc19 : ¬ ((lcmpW w5 j2) < (0 : Int32))) (hc30 : ¬ ((0 : Int32) < (lcmpW w5 j4))) :
    ∃ (T' : State), Stand p l e R s m args below meth c T' locs cells slots ∧ T'.heap = h0 ∧
      ∀ target, Steps p.tables e below (T'.setTop (mkF m 3 #[.val (.ref o0), .val (.int i1), .val (.long j2), .second, .val (.long j4), .second, .val (.int (i6 + (1 : Int32))), .val (.long w5), .second] [])) target → Steps p.tables e below (T0.setTop (mkF m 3 #[.val (.ref o0), .val (.int i1), .val (.long j2), .second, .val (.long j4), .second, .val (.int i6), s7, s8] [])) target := by
  refine ⟨T0, X0, e0, fun target kt => ?_⟩
  show Steps p.tables e below (T0.setTop (mkF m 3 #[.val (.ref o0), .val (.int i1), .val (.long j2), .second, .val (.long j4), .second, .val (.int i6), s7, s8] [])) _
  refine XS.iload X0.here hx rfl (hb hby d1_3) rfl ?_
  show Steps p.tables e below (T0.setTop (mkF m 5 #[.val (.ref o0), .val (.int i1), .val (.long j2), .second, .val (.long j4), .second, .val (.int i6), s7, s8] [(.int i6)])) _
  refine XS.iloadN X0.here hx rfl (hb hby d1_5) rfl ?_
  show Steps p.tables e below (T0.setTop (mkF m 6 #[.val (.ref o0), .val (.int i1), .val (.long j2), .second, .val (.long j4), .second, .val (.int i6), s7, s8] [(.int i1), (.int i6)])) _
  refine XS.icmpNo X0.here hx rfl (hb hby d1_6) rfl (tlt hc6).2.1 ?_
  show Steps p.tables e below (T0.setTop (mkF m 9 #[.val (.ref o0), .val (.int i1), .val (.long j2), .second, .val (.long j4), .second, .val (.int i6), s7, s8] [])) _
  refine XS.aloadN X0.here hx rfl (hb hby d1_9) rfl rfl ?_
  show Steps p.tables e below (T0.setTop (mkF m 10 #[.val (.ref o0), .val (.int i1), .val (.long j2), .second, .val (.long j4), .second, .val (.int i6), s7, s8] [(.ref o0)])) _
  refine XS.iload X0.here hx rfl (hb hby d1_10) rfl ?_
  show Steps p.tables e below (T0.setTop (mkF m 12 #[.val (.ref o0), .val (.int i1), .val (.long j2), .second, .val (.long j4), .second, .val (.int i6), s7, s8] [(.int i6), (.ref o0)])) _
  refine X0.laload hx (j := i6) (v := (.long w5)) (by rw [e0]; exact Ar_o0.1) (State.isArrayOf_alike hZ.alike Ar_o0.2.1) Ar_o0.2.2 hin12 hat12 (g := (mkF m 12 #[.val (.ref o0), .val (.int i1), .val (.long j2), .second, .val (.long j4), .second, .val (.int i6), s7, s8] [(.int i6), (.ref o0)])) rfl rfl (hb hby d1_12) _ ?_
  show Steps p.tables e below (T0.setTop (mkF m 13 #[.val (.ref o0), .val (.int i1), .val (.long j2), .second, .val (.long j4), .second, .val (.int i6), s7, s8] [(.long w5)])) _
  refine XS.lstore X0.here hx rfl (hb hby d1_13) rfl (l' := #[.val (.ref o0), .val (.int i1), .val (.long j2), .second, .val (.long j4), .second, .val (.int i6), .val (.long w5), .second]) (own_st7 h78) ?_
  show Steps p.tables e below (T0.setTop (mkF m 15 #[.val (.ref o0), .val (.int i1), .val (.long j2), .second, .val (.long j4), .second, .val (.int i6), .val (.long w5), .second] [])) _
  refine XS.lload X0.here hx rfl (hb hby d1_15) rfl ?_
  show Steps p.tables e below (T0.setTop (mkF m 17 #[.val (.ref o0), .val (.int i1), .val (.long j2), .second, .val (.long j4), .second, .val (.int i6), .val (.long w5), .second] [(.long w5)])) _
  refine XS.lloadN X0.here hx rfl (hb hby d1_17) rfl ?_
  show Steps p.tables e below (T0.setTop (mkF m 18 #[.val (.ref o0), .val (.int i1), .val (.long j2), .second, .val (.long j4), .second, .val (.int i6), .val (.long w5), .second] [(.long j2), (.long w5)])) _
  refine XS.lcmp X0.here hx rfl (hb hby d1_18) rfl ?_
  show Steps p.tables e below (T0.setTop (mkF m 19 #[.val (.ref o0), .val (.int i1), .val (.long j2), .second, .val (.long j4), .second, .val (.int i6), .val (.long w5), .second] [(.int (lcmpW w5 j2))])) _
  refine XS.ifYes X0.here hx rfl (pc0 := 19) (pc' := 25) rfl (hb hby d1_19) rfl ((if0 _ _).trans (flt hc19).2.1) (by decide) (by decide) ?_
  show Steps p.tables e below (T0.setTop (mkF m 25 #[.val (.ref o0), .val (.int i1), .val (.long j2), .second, .val (.long j4), .second, .val (.int i6), .val (.long w5), .second] [])) _
  refine XS.lload X0.here hx rfl (hb hby d1_25) rfl ?_
  show Steps p.tables e below (T0.setTop (mkF m 27 #[.val (.ref o0), .val (.int i1), .val (.long j2), .second, .val (.long j4), .second, .val (.int i6), .val (.long w5), .second] [(.long w5)])) _
  refine XS.lload X0.here hx rfl (hb hby d1_27) rfl ?_
  show Steps p.tables e below (T0.setTop (mkF m 29 #[.val (.ref o0), .val (.int i1), .val (.long j2), .second, .val (.long j4), .second, .val (.int i6), .val (.long w5), .second] [(.long j4), (.long w5)])) _
  refine XS.lcmp X0.here hx rfl (hb hby d1_29) rfl ?_
  show Steps p.tables e below (T0.setTop (mkF m 30 #[.val (.ref o0), .val (.int i1), .val (.long j2), .second, .val (.long j4), .second, .val (.int i6), .val (.long w5), .second] [(.int (lcmpW w5 j4))])) _
  refine XS.ifYes X0.here hx rfl (pc0 := 30) (pc' := 37) rfl (hb hby d1_30) rfl ((if0 _ _).trans (flt hc30).2.2.2) (by decide) (by decide) ?_
  show Steps p.tables e below (T0.setTop (mkF m 37 #[.val (.ref o0), .val (.int i1), .val (.long j2), .second, .val (.long j4), .second, .val (.int i6), .val (.long w5), .second] [])) _
  refine XS.iinc X0.here hx rfl (hb hby d1_37) rfl (l' := #[.val (.ref o0), .val (.int i1), .val (.long j2), .second, .val (.long j4), .second, .val (.int (i6 + (1 : Int32))), .val (.long w5), .second]) rfl ?_
  show Steps p.tables e below (T0.setTop (mkF m 40 #[.val (.ref o0), .val (.int i1), .val (.long j2), .second, .val (.long j4), .second, .val (.int (i6 + (1 : Int32))), .val (.long w5), .second] [])) _
  refine XS.goto X0.here hx rfl (pc0 := 40) (pc' := 3) rfl (hb hby d1_40) (by decide) (by decide) ?_
  exact kt
set_option maxRecDepth 65536 in
set_option maxHeartbeats 40000000 in
theorem tn1_3_43 {p : Program} {l : Launch} {e : Env} {R : Room} {s : State} {m : MethodId} {args : Array Value} {below : List Frame} {meth : Method} {c : Code} {T0 : State} {locs : List Loc} {cells slots : Nat} {Z : State} {a0 : Array Value} {h0 : Heap} (s0 : Slot) (i1 : Int32) (s2 : Slot) (s3 : Slot) (s4 : Slot) (s5 : Slot) (i6 : Int32) (s7 : Slot) (s8 : Slot)
    (X0 : Stand p l e R s m args below meth c T0 locs cells slots) (hx : p.tables.exec = Jvm.exec) (hZ : Z.Warmed39 s.vm) (hw : ∀ d ∈ tables_1, d.before a0 Z = true) (hby : c.code = prog_151_method_15_code) (hml : c.maxLocals = 9) (hown : s.vm.findClass "com/example/fairjoin/fairjoin/operator/DirectKeys" = some m.cls) (e0 : T0.heap = h0) (hc6 : ¬ (i6 < i1)) :
    ∃ (T' : State), Stand p l e R s m args below meth c T' locs cells slots ∧ T'.heap = h0 ∧
      ∀ target, Steps p.tables e below (T'.setTop (mkF m 43 #[s0, .val (.int i1), s2, s3, s4, s5, .val (.int i6), s7, s8] [])) target → Steps p.tables e below (T0.setTop (mkF m 3 #[s0, .val (.int i1), s2, s3, s4, s5, .val (.int i6), s7, s8] [])) target := by
  refine ⟨T0, X0, e0, fun target kt => ?_⟩
  show Steps p.tables e below (T0.setTop (mkF m 3 #[s0, .val (.int i1), s2, s3, s4, s5, .val (.int i6), s7, s8] [])) _
  refine XS.iload X0.here hx rfl (hb hby d1_3) rfl ?_
  show Steps p.tables e below (T0.setTop (mkF m 5 #[s0, .val (.int i1), s2, s3, s4, s5, .val (.int i6), s7, s8] [(.int i6)])) _
  refine XS.iloadN X0.here hx rfl (hb hby d1_5) rfl ?_
  show Steps p.tables e below (T0.setTop (mkF m 6 #[s0, .val (.int i1), s2, s3, s4, s5, .val (.int i6), s7, s8] [(.int i1), (.int i6)])) _
  refine XS.icmpYes X0.here hx rfl (pc0 := 6) (pc' := 43) rfl (hb hby d1_6) rfl (flt hc6).2.1 (by decide) (by decide) ?_
  exact kt

theorem loop1 {p : Program} {l : Launch} {e : Env} {R : Room} {s : State} {m : MethodId} {args : Array Value} {below : List Frame} {meth : Method} {c : Code} {locs : List Loc} {cells slots : Nat} {Z : State} {a0 : Array Value} {h0 : Heap} (o0 : Addr) (cl : Cell) (n : Nat) (hn : n ≤ 3) (g : Nat → Int64) (x y : Int64) (hx : p.tables.exec = Jvm.exec) (hZ : Z.Warmed39 s.vm) (hw : ∀ d ∈ tables_1, d.before a0 Z = true) (hby : c.code = prog_151_method_15_code) (hml : c.maxLocals = 9) (hown : s.vm.findClass "com/example/fairjoin/fairjoin/operator/DirectKeys" = some m.cls) (Ar : Arr Z h0 o0 cl .long) (S : cl.slots.size = 4) (H : ∀ j, j < 4 → cl.slots[j]? = some (.long (g j))) :
    ∀ (k i : Nat) (s7 s8 : Slot) (T0 : State), i + k = n → Two s7 s8 → Stand p l e R s m args below meth c T0 locs cells slots → T0.heap = h0 →
      ∃ (T' : State) (s7' s8' : Slot), Stand p l e R s m args below meth c T' locs cells slots ∧ T'.heap = h0 ∧
        ∀ target, Steps p.tables e below (T'.setTop (mkF m 43 #[.val (.ref o0), .val (.int (Int32.ofNat n)), .val (.long (own_lo g x n)), .second, .val (.long (own_hi g y n)), .second, .val (.int (Int32.ofNat n)), s7', s8'] [])) target → Steps p.tables e below (T0.setTop (mkF m 3 #[.val (.ref o0), .val (.int (Int32.ofNat n)), .val (.long (own_lo g x i)), .second, .val (.long (own_hi g y i)), .second, .val (.int (Int32.ofNat i)), s7, s8] [])) target := by
  intro k
  induction k with
  | zero =>
    intro i s7 s8 T0 hi h5 X0 e0
    have hi' : i = n := by omega
    rw [hi']
    obtain ⟨T1, X1, e1, st1⟩ := tn1_3_43 (.val (.ref o0)) (Int32.ofNat n) (.val (.long (own_lo g x n))) .second (.val (.long (own_hi g y n))) .second (Int32.ofNat n) s7 s8 X0 hx hZ hw hby hml hown e0 Int32.lt_irrefl
    exact ⟨T1, s7, s8, X1, e1, st1⟩
  | succ k ih =>
    intro i s7 s8 T0 hi h5 X0 e0
    have hcl : (Int32.ofNat i).toNatClampNeg = i := own_clamp (by omega)
    have hin := owa_in S (own_pos (i := i) (by omega)) (by rw [hcl]; omega)
    have hat : cl.slots[(Int32.ofNat i).toNatClampNeg]? = some (.long (g i)) := by rw [hcl]; exact H i (by omega)
    have hlt : Int32.ofNat i < Int32.ofNat n := (own_ltn (by omega) (by omega)).mpr (by omega)
    have one : ∃ T1, Stand p l e R s m args below meth c T1 locs cells slots ∧ T1.heap = h0 ∧
        ∀ target, Steps p.tables e below (T1.setTop (mkF m 3 #[.val (.ref o0), .val (.int (Int32.ofNat n)), .val (.long (own_lo g x (i + 1))), .second, .val (.long (own_hi g y (i + 1))), .second, .val (.int (Int32.ofNat i + (1 : Int32))), .val (.long (g i)), .second] [])) target → Steps p.tables e below (T0.setTop (mkF m 3 #[.val (.ref o0), .val (.int (Int32.ofNat n)), .val (.long (own_lo g x i)), .second, .val (.long (own_hi g y i)), .second, .val (.int (Int32.ofNat i)), s7, s8] [])) target := by
      by_cases c1 : lcmpW (g i) (own_lo g x i) < (0 : Int32)
      · by_cases c2 : (0 : Int32) < lcmpW (g i) (own_hi g y i)
        · rw [show own_lo g x (i + 1) = g i from own_mn_a _ _ c1, show own_hi g y (i + 1) = g i from own_mx_a _ _ c2]
          exact tn1_ff o0 (Int32.ofNat n) (own_lo g x i) (own_hi g y i) (Int32.ofNat i) s7 s8 h5 (g i) cl X0 hx hZ hw hby hml hown e0 Ar hin hat hlt c1 c2
        · rw [show own_lo g x (i + 1) = g i from own_mn_a _ _ c1, show own_hi g y (i + 1) = own_hi g y i from own_mx_b _ _ c2]
          exact tn1_ft o0 (Int32.ofNat n) (own_lo g x i) (own_hi g y i) (Int32.ofNat i) s7 s8 h5 (g i) cl X0 hx hZ hw hby hml hown e0 Ar hin hat hlt c1 c2
      · by_cases c2 : (0 : Int32) < lcmpW (g i) (own_hi g y i)
        · rw [show own_lo g x (i + 1) = own_lo g x i from own_mn_b _ _ c1, show own_hi g y (i + 1) = g i from own_mx_a _ _ c2]
          exact tn1_tf o0 (Int32.ofNat n) (own_lo g x i) (own_hi g y i) (Int32.ofNat i) s7 s8 h5 (g i) cl X0 hx hZ hw hby hml hown e0 Ar hin hat hlt c1 c2
        · rw [show own_lo g x (i + 1) = own_lo g x i from own_mn_b _ _ c1, show own_hi g y (i + 1) = own_hi g y i from own_mx_b _ _ c2]
          exact tn1_tt o0 (Int32.ofNat n) (own_lo g x i) (own_hi g y i) (Int32.ofNat i) s7 s8 h5 (g i) cl X0 hx hZ hw hby hml hown e0 Ar hin hat hlt c1 c2
    obtain ⟨T1, X1, e1, st1⟩ := one
    obtain ⟨T', s7', s8', X', e', st⟩ := ih (i + 1) (.val (.long (g i))) .second T1 (by omega) (Or.inr ⟨_, rfl, rfl⟩) X1 e1
    refine ⟨T', s7', s8', X', e', fun target h => st1 target ?_⟩
    rw [own_up1]
    exact st target h

def Q1 (Z : State) (a1 : Addr) (n : Nat) (g : Nat → Int64) (q3 : Int64) (q4 : Int64) (h0 : Heap) (n0 : Nat) (v : Option Value) (h : Heap) (L : List Loc) : Prop := ∃ r : Addr, v = some (.ref r) ∧ Fr n0 L ∧ Keep h0 h [] ∧ OwA Z h r .long 2 (own_rv (own_lo g q3 n) (own_hi g q4 n)) ∧ h0.size ≤ r
set_option maxRecDepth 65536 in
set_option maxHeartbeats 40000000 in
theorem rm1 (l : Launch) (Z : State) (a0 : Array Value) (hw : ∀ d ∈ tables_1, d.before a0 Z = true) (ws : List Jvm.Cond) (a1 : Addr) (n : Nat) (g : Nat → Int64) (q3 : Int64) (q4 : Int64) (h0 : Heap) (n0 : Nat) (Z0 : n0 ≤ h0.size) (hn : n ≤ 3) (V : OwA Z h0 a1 .long 4 (fun j => .long (g j))) :
    MetFree l (⟨"com/example/fairjoin/fairjoin/operator/DirectKeys", "range", "([JIJJ)[J"⟩ : MethodName) (head1 (Jvm.Cond.code (⟨"com/example/fairjoin/fairjoin/operator/DirectKeys", "range", "([JIJJ)[J"⟩ : MethodName) prog_151_method_15_code 9 (some (.array .long)) :: ws) ({ frames := 0, cells := 1, slots := 2, locals := 0 } : Room)) (fun a U => a = #[(.ref a1), (.int (Int32.ofNat n)), (.long q3), (.long q4)] ∧ Z.Warmed39 U.vm ∧ U.heap = h0) (fun _ _ _ _ _ => True) (fun _ U o U' => ∃ v L, o = .returned v ∧ Q1 Z a1 n g q3 q4 h0 n0 v U'.heap L ∧ FrameEnd U o U' L ({ frames := 0, cells := 1, slots := 2, locals := 0 } : Room).cells ({ frames := 0, cells := 1, slots := 2, locals := 0 } : Room).slots) := by
  refine MetFree.of_bodySF (plainFor_of_name pn_1) hisR ?_
  intro p e s m args below meth c s₁ Bd hml0 hP hK
  obtain ⟨rfl, hZ, hh⟩ := hP
  have hx := Bd.exec
  have hby := Bd.bytes
  have hml : c.maxLocals = 9 := hml0
  have hown : s.vm.findClass "com/example/fairjoin/fairjoin/operator/DirectKeys" = some m.cls := findClass_of_methodNamed Bd.named
  have hnm := (name_of_methodNamed Bd.named Bd.method).1
  have X0 : Stand p l e ({ frames := 0, cells := 1, slots := 2, locals := 0 } : Room) s m #[(.ref a1), (.int (Int32.ofNat n)), (.long q3), (.long q4)] below meth c s₁ [] 0 0 := Stand.of_body Bd
  have e0 : s₁.heap = h0 := by rw [← hh, Bd.state]; rfl
  have N0 := Fr.nil n0
  have pre0 : ∀ t, Steps p.tables e below (s₁.setTop (mkF m 0 #[.val (.ref a1), .val (.int (Int32.ofNat n)), .val (.long q3), .second, .val (.long q4), .second, .unset, .unset, .unset] [])) t → Steps p.tables e below (s₁.setTop (entryFrame m #[(.ref a1), (.int (Int32.ofNat n)), (.long q3), (.long q4)] 9)) t := fun t k => castTop (ef_1 m a1 (Int32.ofNat n) q3 q4) k
  obtain ⟨cl_a1, Ar_a1, S_a1, H_a1⟩ := V
  obtain ⟨TL, s7', s8', XL, eL, stL⟩ := loop1 a1 cl_a1 n hn g q3 q4 hx hZ hw hby hml hown Ar_a1 S_a1 H_a1 n 0 .unset .unset s₁ (by omega) (Or.inl ⟨rfl, rfl⟩) X0 e0
  obtain ⟨T5, h5, k5, X5, e5, E5, A5, st5⟩ := newP XL hx hZ (hw _ (List.mem_of_getElem? (i := 1) rfl)) eL (g := (mkF m 44 #[.val (.ref a1), .val (.int (Int32.ofNat n)), .val (.long (own_lo g q3 n)), .second, .val (.long (own_hi g q4 n)), .second, .val (.int (Int32.ofNat n)), s7', s8'] [(.int (2 : Int32))])) rfl (hb hby d1_44) rfl (by decide) (cap := 2) (by decide) (by decide) (by decide) (by decide)
  obtain ⟨b5, g5⟩ : ∃ z, z = h0.size := ⟨_, rfl⟩
  rw [← g5] at A5 st5
  have V_b5 : Arv Z h5 b5 k5 .long (2 : Int32) [(.long (0 : Int64)), (.long (0 : Int64))] (.long (0 : Int64)) := (Arv.new A5 (by decide)).pad (pad_rep [] (.long (0 : Int64)) 2)
  have g_b5 : n0 ≤ b5 := Nat.le_trans Z0 (Nat.le_of_eq g5.symm)
  have sz_b5 : h0.size ≤ b5 := (Nat.le_trans (Keep.refl h0 []).1 (Nat.le_of_eq g5.symm))
  have K5 : Keep h0 h5 [] := (Keep.refl h0 []).ext E5
  obtain ⟨cl_b5_49, Ar_b5, q_b5, S_b5, N_b5, H_b5, G_b5⟩ := V_b5
  have hin49 : ¬ ((0 : Int32) < 0 ∨ cl_b5_49.slots.size ≤ ((0 : Int32)).toNatClampNeg) := inb_of S_b5 ⟨by decide, by decide⟩
  obtain ⟨T6, h6, X6, e6, W6, st6⟩ := stJ X5 hx hZ e5 Ar_b5 (j := (0 : Int32)) hin49 (g := (mkF m 49 #[.val (.ref a1), .val (.int (Int32.ofNat n)), .val (.long (own_lo g q3 n)), .second, .val (.long (own_hi g q4 n)), .second, .val (.int (Int32.ofNat n)), s7', s8'] [(.long (own_lo g q3 n)), (.int (0 : Int32)), (.ref b5), (.ref b5)])) rfl rfl (hb hby d1_49)
  have V_b5_6 := Arv.set Ar_b5 q_b5 S_b5 N_b5 H_b5 G_b5 rfl W6 0 rfl (Nat.le_of_ble_eq_true rfl)
  have K6 : Keep h0 h6 [] := K5.wr W6 (Or.inr sz_b5)
  have N6 := Fr.snoc X6 N0 g_b5
  obtain ⟨cl_b5_54, Ar_b5, q_b5, S_b5, N_b5, H_b5, G_b5⟩ := V_b5_6
  have hin54 : ¬ ((1 : Int32) < 0 ∨ cl_b5_54.slots.size ≤ ((1 : Int32)).toNatClampNeg) := inb_of S_b5 ⟨by decide, by decide⟩
  obtain ⟨T7, h7, X7, e7, W7, st7⟩ := stJ X6 hx hZ e6 Ar_b5 (j := (1 : Int32)) hin54 (g := (mkF m 54 #[.val (.ref a1), .val (.int (Int32.ofNat n)), .val (.long (own_lo g q3 n)), .second, .val (.long (own_hi g q4 n)), .second, .val (.int (Int32.ofNat n)), s7', s8'] [(.long (own_hi g q4 n)), (.int (1 : Int32)), (.ref b5), (.ref b5)])) rfl rfl (hb hby d1_54)
  have V_b5_7 := Arv.set Ar_b5 q_b5 S_b5 N_b5 H_b5 G_b5 rfl W7 1 rfl (Nat.le_of_ble_eq_true rfl)
  have K7 : Keep h0 h7 [] := K6.wr W7 (Or.inr sz_b5)
  have N7 := Fr.snoc X7 N6 g_b5
  obtain ⟨fs, hr, hrun, hended, hW, hsame⟩ := X7.leave (v := some (.ref b5)) (fun h => by rw [Bd.returns] at h; cases h)
  refine ⟨_, _, pre0 _ ?_, hrun, hended, _, _, rfl, ?_, ⟨_, rfl⟩, hW, hsame.mono (by decide) (by decide)⟩
  · show Steps p.tables e below (s₁.setTop (mkF m 0 #[.val (.ref a1), .val (.int (Int32.ofNat n)), .val (.long q3), .second, .val (.long q4), .second, .unset, .unset, .unset] [])) _
    refine XS.iconst X0.here hx rfl (hb hby d1_0) ?_
    show Steps p.tables e below (s₁.setTop (mkF m 1 #[.val (.ref a1), .val (.int (Int32.ofNat n)), .val (.long q3), .second, .val (.long q4), .second, .unset, .unset, .unset] [(.int (0 : Int32))])) _
    refine XS.istore X0.here hx rfl (hb hby d1_1) rfl (l' := #[.val (.ref a1), .val (.int (Int32.ofNat n)), .val (.long q3), .second, .val (.long q4), .second, .val (.int (0 : Int32)), .unset, .unset]) rfl ?_
    show Steps p.tables e below (s₁.setTop (mkF m 3 #[.val (.ref a1), .val (.int (Int32.ofNat n)), .val (.long q3), .second, .val (.long q4), .second, .val (.int (0 : Int32)), .unset, .unset] [])) _
    refine stL _ ?_
    show Steps p.tables e below (TL.setTop (mkF m 43 #[.val (.ref a1), .val (.int (Int32.ofNat n)), .val (.long (own_lo g q3 n)), .second, .val (.long (own_hi g q4 n)), .second, .val (.int (Int32.ofNat n)), s7', s8'] [])) _
    refine XS.iconst XL.here hx rfl (hb hby d1_43) ?_
    show Steps p.tables e below (TL.setTop (mkF m 44 #[.val (.ref a1), .val (.int (Int32.ofNat n)), .val (.long (own_lo g q3 n)), .second, .val (.long (own_hi g q4 n)), .second, .val (.int (Int32.ofNat n)), s7', s8'] [(.int (2 : Int32))])) _
    refine st5 _ ?_
    show Steps p.tables e below (T5.setTop (mkF m 46 #[.val (.ref a1), .val (.int (Int32.ofNat n)), .val (.long (own_lo g q3 n)), .second, .val (.long (own_hi g q4 n)), .second, .val (.int (Int32.ofNat n)), s7', s8'] [(.ref b5)])) _
    refine XS.dup X5.here hx rfl (hb hby d1_46) rfl rfl ?_
    show Steps p.tables e below (T5.setTop (mkF m 47 #[.val (.ref a1), .val (.int (Int32.ofNat n)), .val (.long (own_lo g q3 n)), .second, .val (.long (own_hi g q4 n)), .second, .val (.int (Int32.ofNat n)), s7', s8'] [(.ref b5), (.ref b5)])) _
    refine XS.iconst X5.here hx rfl (hb hby d1_47) ?_
    show Steps p.tables e below (T5.setTop (mkF m 48 #[.val (.ref a1), .val (.int (Int32.ofNat n)), .val (.long (own_lo g q3 n)), .second, .val (.long (own_hi g q4 n)), .second, .val (.int (Int32.ofNat n)), s7', s8'] [(.int (0 : Int32)), (.ref b5), (.ref b5)])) _
    refine XS.lloadN X5.here hx rfl (hb hby d1_48) rfl ?_
    show Steps p.tables e below (T5.setTop (mkF m 49 #[.val (.ref a1), .val (.int (Int32.ofNat n)), .val (.long (own_lo g q3 n)), .second, .val (.long (own_hi g q4 n)), .second, .val (.int (Int32.ofNat n)), s7', s8'] [(.long (own_lo g q3 n)), (.int (0 : Int32)), (.ref b5), (.ref b5)])) _
    refine st6 _ ?_
    show Steps p.tables e below (T6.setTop (mkF m 50 #[.val (.ref a1), .val (.int (Int32.ofNat n)), .val (.long (own_lo g q3 n)), .second, .val (.long (own_hi g q4 n)), .second, .val (.int (Int32.ofNat n)), s7', s8'] [(.ref b5)])) _
    refine XS.dup X6.here hx rfl (hb hby d1_50) rfl rfl ?_
    show Steps p.tables e below (T6.setTop (mkF m 51 #[.val (.ref a1), .val (.int (Int32.ofNat n)), .val (.long (own_lo g q3 n)), .second, .val (.long (own_hi g q4 n)), .second, .val (.int (Int32.ofNat n)), s7', s8'] [(.ref b5), (.ref b5)])) _
    refine XS.iconst X6.here hx rfl (hb hby d1_51) ?_
    show Steps p.tables e below (T6.setTop (mkF m 52 #[.val (.ref a1), .val (.int (Int32.ofNat n)), .val (.long (own_lo g q3 n)), .second, .val (.long (own_hi g q4 n)), .second, .val (.int (Int32.ofNat n)), s7', s8'] [(.int (1 : Int32)), (.ref b5), (.ref b5)])) _
    refine XS.lload X6.here hx rfl (hb hby d1_52) rfl ?_
    show Steps p.tables e below (T6.setTop (mkF m 54 #[.val (.ref a1), .val (.int (Int32.ofNat n)), .val (.long (own_lo g q3 n)), .second, .val (.long (own_hi g q4 n)), .second, .val (.int (Int32.ofNat n)), s7', s8'] [(.long (own_hi g q4 n)), (.int (1 : Int32)), (.ref b5), (.ref b5)])) _
    refine st7 _ ?_
    show Steps p.tables e below (T7.setTop (mkF m 55 #[.val (.ref a1), .val (.int (Int32.ofNat n)), .val (.long (own_lo g q3 n)), .second, .val (.long (own_hi g q4 n)), .second, .val (.int (Int32.ofNat n)), s7', s8'] [(.ref b5)])) _
    jvm_step X7.here [X7.here.top, hx, (hb hby d1_55), X7.method', Bd.returns, Value.isRef, FieldType.isReference]
    first | (intro acts; rw [hr _ acts rfl rfl rfl]) | rw [hr _ _ rfl rfl rfl]
    exact Steps.refl _
  · show Q1 Z a1 n g q3 q4 h0 n0 _ T7.heap _
    rw [e7]
    obtain ⟨cl_b5, Ar_b5, q_b5, S_b5, N_b5, H_b5, G_b5⟩ := V_b5_7
    exact ⟨b5, rfl, N7, K7, ⟨cl_b5, Ar_b5, S_b5, fun j hj => by
      rw [H_b5 j (by rw [S_b5]; exact hj)]
      have hc : j = 0 ∨ j = 1 := by omega
      rcases hc with rfl | rfl <;> rfl⟩, sz_b5⟩
set_option maxRecDepth 65536 in
set_option maxHeartbeats 40000000 in
theorem pcAf {p : Program} {l : Launch} {e : Env} {R : Room} {s : State} {m : MethodId} {args : Array Value} {below : List Frame} {meth : Method} {c : Code} {T0 : State} {locs : List Loc} {cells slots : Nat} {Z : State} {a0 : Array Value} {h0 : Heap} (j0 : Int64) (j2 : Int64) (j4 : Int64) (j6 : Int64) (j8 : Int64) (i10 : Int32) (i11 : Int32)
    (X0 : Stand p l e R s m args below meth c T0 locs cells slots) (hx : p.tables.exec = Jvm.exec) (hZ : Z.Warmed39 s.vm) (hw : ∀ d ∈ tables_1, d.before a0 Z = true) (hby : c.code = code) (hml : c.maxLocals = 20) (hown : s.vm.findClass "com/example/fairjoin/fairjoin/operator/DirectKeysRangePinLaw" = some m.cls) (e0 : T0.heap = h0) (hc12 : (((i10.toUInt32 >>> ((2 : Int32) &&& 31).toUInt32).toInt32) &&& (1 : Int32)) = (0 : Int32)) :
    ∃ (T' : State), Stand p l e R s m args below meth c T' locs cells slots ∧ T'.heap = h0 ∧
      ∀ target, Steps p.tables e below (T'.setTop (mkF m 26 #[.val (.long j0), .second, .val (.long j2), .second, .val (.long j4), .second, .val (.long j6), .second, .val (.long j8), .second, .val (.int i10), .val (.int i11), .val (.long (-9223372036854775808 : Int64)), .second, .unset, .unset, .unset, .unset, .unset, .unset] [])) target → Steps p.tables e below (T0.setTop (mkF m 6 #[.val (.long j0), .second, .val (.long j2), .second, .val (.long j4), .second, .val (.long j6), .second, .val (.long j8), .second, .val (.int i10), .val (.int i11), .unset, .unset, .unset, .unset, .unset, .unset, .unset, .unset] [])) target := by
  refine ⟨T0, X0, e0, fun target kt => ?_⟩
  show Steps p.tables e below (T0.setTop (mkF m 6 #[.val (.long j0), .second, .val (.long j2), .second, .val (.long j4), .second, .val (.long j6), .second, .val (.long j8), .second, .val (.int i10), .val (.int i11), .unset, .unset, .unset, .unset, .unset, .unset, .unset, .unset] [])) _
  refine XS.iload X0.here hx rfl (hb hby at_6) rfl ?_
  show Steps p.tables e below (T0.setTop (mkF m 8 #[.val (.long j0), .second, .val (.long j2), .second, .val (.long j4), .second, .val (.long j6), .second, .val (.long j8), .second, .val (.int i10), .val (.int i11), .unset, .unset, .unset, .unset, .unset, .unset, .unset, .unset] [(.int i10)])) _
  refine XS.iconst X0.here hx rfl (hb hby at_8) ?_
  show Steps p.tables e below (T0.setTop (mkF m 9 #[.val (.long j0), .second, .val (.long j2), .second, .val (.long j4), .second, .val (.long j6), .second, .val (.long j8), .second, .val (.int i10), .val (.int i11), .unset, .unset, .unset, .unset, .unset, .unset, .unset, .unset] [(.int (2 : Int32)), (.int i10)])) _
  refine XS.iushr X0.here hx rfl (hb hby at_9) rfl ?_
  show Steps p.tables e below (T0.setTop (mkF m 10 #[.val (.long j0), .second, .val (.long j2), .second, .val (.long j4), .second, .val (.long j6), .second, .val (.long j8), .second, .val (.int i10), .val (.int i11), .unset, .unset, .unset, .unset, .unset, .unset, .unset, .unset] [(.int ((i10.toUInt32 >>> ((2 : Int32) &&& 31).toUInt32).toInt32))])) _
  refine XS.iconst X0.here hx rfl (hb hby at_10) ?_
  show Steps p.tables e below (T0.setTop (mkF m 11 #[.val (.long j0), .second, .val (.long j2), .second, .val (.long j4), .second, .val (.long j6), .second, .val (.long j8), .second, .val (.int i10), .val (.int i11), .unset, .unset, .unset, .unset, .unset, .unset, .unset, .unset] [(.int (1 : Int32)), (.int ((i10.toUInt32 >>> ((2 : Int32) &&& 31).toUInt32).toInt32))])) _
  refine XS.iand X0.here hx rfl (hb hby at_11) rfl ?_
  show Steps p.tables e below (T0.setTop (mkF m 12 #[.val (.long j0), .second, .val (.long j2), .second, .val (.long j4), .second, .val (.long j6), .second, .val (.long j8), .second, .val (.int i10), .val (.int i11), .unset, .unset, .unset, .unset, .unset, .unset, .unset, .unset] [(.int (((i10.toUInt32 >>> ((2 : Int32) &&& 31).toUInt32).toInt32) &&& (1 : Int32)))])) _
  refine XS.ifNo X0.here hx rfl (hb hby at_12) rfl ((if0 _ _).trans (teq hc12).2) ?_
  show Steps p.tables e below (T0.setTop (mkF m 15 #[.val (.long j0), .second, .val (.long j2), .second, .val (.long j4), .second, .val (.long j6), .second, .val (.long j8), .second, .val (.int i10), .val (.int i11), .unset, .unset, .unset, .unset, .unset, .unset, .unset, .unset] [])) _
  refine X0.ldc2Long hx hown (mvT hZ (hw _ (List.mem_of_getElem? (i := 0) rfl))) (g := (mkF m 15 #[.val (.long j0), .second, .val (.long j2), .second, .val (.long j4), .second, .val (.long j6), .second, .val (.long j8), .second, .val (.int i10), .val (.int i11), .unset, .unset, .unset, .unset, .unset, .unset, .unset, .unset] [])) rfl (hb hby at_15) _ ?_
  show Steps p.tables e below (T0.setTop (mkF m 18 #[.val (.long j0), .second, .val (.long j2), .second, .val (.long j4), .second, .val (.long j6), .second, .val (.long j8), .second, .val (.int i10), .val (.int i11), .unset, .unset, .unset, .unset, .unset, .unset, .unset, .unset] [(.long (-9223372036854775808 : Int64))])) _
  refine XS.goto X0.here hx rfl (pc0 := 18) (pc' := 24) rfl (hb hby at_18) (by decide) (by decide) ?_
  show Steps p.tables e below (T0.setTop (mkF m 24 #[.val (.long j0), .second, .val (.long j2), .second, .val (.long j4), .second, .val (.long j6), .second, .val (.long j8), .second, .val (.int i10), .val (.int i11), .unset, .unset, .unset, .unset, .unset, .unset, .unset, .unset] [(.long (-9223372036854775808 : Int64))])) _
  refine XS.lstore X0.here hx rfl (hb hby at_24) rfl (l' := #[.val (.long j0), .second, .val (.long j2), .second, .val (.long j4), .second, .val (.long j6), .second, .val (.long j8), .second, .val (.int i10), .val (.int i11), .val (.long (-9223372036854775808 : Int64)), .second, .unset, .unset, .unset, .unset, .unset, .unset]) rfl ?_
  exact kt
set_option maxRecDepth 65536 in
set_option maxHeartbeats 40000000 in
theorem pcAt {p : Program} {l : Launch} {e : Env} {R : Room} {s : State} {m : MethodId} {args : Array Value} {below : List Frame} {meth : Method} {c : Code} {T0 : State} {locs : List Loc} {cells slots : Nat} {Z : State} {a0 : Array Value} {h0 : Heap} (j0 : Int64) (j2 : Int64) (j4 : Int64) (j6 : Int64) (j8 : Int64) (i10 : Int32) (i11 : Int32)
    (X0 : Stand p l e R s m args below meth c T0 locs cells slots) (hx : p.tables.exec = Jvm.exec) (hZ : Z.Warmed39 s.vm) (hw : ∀ d ∈ tables_1, d.before a0 Z = true) (hby : c.code = code) (hml : c.maxLocals = 20) (hown : s.vm.findClass "com/example/fairjoin/fairjoin/operator/DirectKeysRangePinLaw" = some m.cls) (e0 : T0.heap = h0) (hc12 : ¬ ((((i10.toUInt32 >>> ((2 : Int32) &&& 31).toUInt32).toInt32) &&& (1 : Int32)) = (0 : Int32))) :
    ∃ (T' : State), Stand p l e R s m args below meth c T' locs cells slots ∧ T'.heap = h0 ∧
      ∀ target, Steps p.tables e below (T'.setTop (mkF m 26 #[.val (.long j0), .second, .val (.long j2), .second, .val (.long j4), .second, .val (.long j6), .second, .val (.long j8), .second, .val (.int i10), .val (.int i11), .val (.long (9223372036854775807 : Int64)), .second, .unset, .unset, .unset, .unset, .unset, .unset] [])) target → Steps p.tables e below (T0.setTop (mkF m 6 #[.val (.long j0), .second, .val (.long j2), .second, .val (.long j4), .second, .val (.long j6), .second, .val (.long j8), .second, .val (.int i10), .val (.int i11), .unset, .unset, .unset, .unset, .unset, .unset, .unset, .unset] [])) target := by
  refine ⟨T0, X0, e0, fun target kt => ?_⟩
  show Steps p.tables e below (T0.setTop (mkF m 6 #[.val (.long j0), .second, .val (.long j2), .second, .val (.long j4), .second, .val (.long j6), .second, .val (.long j8), .second, .val (.int i10), .val (.int i11), .unset, .unset, .unset, .unset, .unset, .unset, .unset, .unset] [])) _
  refine XS.iload X0.here hx rfl (hb hby at_6) rfl ?_
  show Steps p.tables e below (T0.setTop (mkF m 8 #[.val (.long j0), .second, .val (.long j2), .second, .val (.long j4), .second, .val (.long j6), .second, .val (.long j8), .second, .val (.int i10), .val (.int i11), .unset, .unset, .unset, .unset, .unset, .unset, .unset, .unset] [(.int i10)])) _
  refine XS.iconst X0.here hx rfl (hb hby at_8) ?_
  show Steps p.tables e below (T0.setTop (mkF m 9 #[.val (.long j0), .second, .val (.long j2), .second, .val (.long j4), .second, .val (.long j6), .second, .val (.long j8), .second, .val (.int i10), .val (.int i11), .unset, .unset, .unset, .unset, .unset, .unset, .unset, .unset] [(.int (2 : Int32)), (.int i10)])) _
  refine XS.iushr X0.here hx rfl (hb hby at_9) rfl ?_
  show Steps p.tables e below (T0.setTop (mkF m 10 #[.val (.long j0), .second, .val (.long j2), .second, .val (.long j4), .second, .val (.long j6), .second, .val (.long j8), .second, .val (.int i10), .val (.int i11), .unset, .unset, .unset, .unset, .unset, .unset, .unset, .unset] [(.int ((i10.toUInt32 >>> ((2 : Int32) &&& 31).toUInt32).toInt32))])) _
  refine XS.iconst X0.here hx rfl (hb hby at_10) ?_
  show Steps p.tables e below (T0.setTop (mkF m 11 #[.val (.long j0), .second, .val (.long j2), .second, .val (.long j4), .second, .val (.long j6), .second, .val (.long j8), .second, .val (.int i10), .val (.int i11), .unset, .unset, .unset, .unset, .unset, .unset, .unset, .unset] [(.int (1 : Int32)), (.int ((i10.toUInt32 >>> ((2 : Int32) &&& 31).toUInt32).toInt32))])) _
  refine XS.iand X0.here hx rfl (hb hby at_11) rfl ?_
  show Steps p.tables e below (T0.setTop (mkF m 12 #[.val (.long j0), .second, .val (.long j2), .second, .val (.long j4), .second, .val (.long j6), .second, .val (.long j8), .second, .val (.int i10), .val (.int i11), .unset, .unset, .unset, .unset, .unset, .unset, .unset, .unset] [(.int (((i10.toUInt32 >>> ((2 : Int32) &&& 31).toUInt32).toInt32) &&& (1 : Int32)))])) _
  refine XS.ifYes X0.here hx rfl (pc0 := 12) (pc' := 21) rfl (hb hby at_12) rfl ((if0 _ _).trans (feq hc12).2) (by decide) (by decide) ?_
  show Steps p.tables e below (T0.setTop (mkF m 21 #[.val (.long j0), .second, .val (.long j2), .second, .val (.long j4), .second, .val (.long j6), .second, .val (.long j8), .second, .val (.int i10), .val (.int i11), .unset, .unset, .unset, .unset, .unset, .unset, .unset, .unset] [])) _
  refine X0.ldc2Long hx hown (mvT hZ (hw _ (List.mem_of_getElem? (i := 13) rfl))) (g := (mkF m 21 #[.val (.long j0), .second, .val (.long j2), .second, .val (.long j4), .second, .val (.long j6), .second, .val (.long j8), .second, .val (.int i10), .val (.int i11), .unset, .unset, .unset, .unset, .unset, .unset, .unset, .unset] [])) rfl (hb hby at_21) _ ?_
  show Steps p.tables e below (T0.setTop (mkF m 24 #[.val (.long j0), .second, .val (.long j2), .second, .val (.long j4), .second, .val (.long j6), .second, .val (.long j8), .second, .val (.int i10), .val (.int i11), .unset, .unset, .unset, .unset, .unset, .unset, .unset, .unset] [(.long (9223372036854775807 : Int64))])) _
  refine XS.lstore X0.here hx rfl (hb hby at_24) rfl (l' := #[.val (.long j0), .second, .val (.long j2), .second, .val (.long j4), .second, .val (.long j6), .second, .val (.long j8), .second, .val (.int i10), .val (.int i11), .val (.long (9223372036854775807 : Int64)), .second, .unset, .unset, .unset, .unset, .unset, .unset]) rfl ?_
  exact kt
set_option maxRecDepth 65536 in
set_option maxHeartbeats 40000000 in
theorem pcA {R : Room} {cells slots : Nat} {p : Program} {l : Launch} {e : Env} {s : State} {m : MethodId} {args : Array Value} {below : List Frame} {meth : Method} {c : Code} {T0 : State} {locs : List Loc} {Z : State} {a0 : Array Value} {h0 : Heap} (j0 j2 j4 j6 j8 : Int64) (i10 i11 : Int32)
    (X0 : Stand p l e R s m args below meth c T0 locs cells slots) (hx : p.tables.exec = Jvm.exec) (hZ : Z.Warmed39 s.vm) (hw : ∀ d ∈ tables_1, d.before a0 Z = true) (hby : c.code = code) (hml : c.maxLocals = 20) (hown : s.vm.findClass "com/example/fairjoin/fairjoin/operator/DirectKeysRangePinLaw" = some m.cls) (e0 : T0.heap = h0) :
    ∃ (T' : State), Stand p l e R s m args below meth c T' locs cells slots ∧ T'.heap = h0 ∧
      ∀ target, Steps p.tables e below (T'.setTop (mkF m 26 #[.val (.long j0), .second, .val (.long j2), .second, .val (.long j4), .second, .val (.long j6), .second, .val (.long j8), .second, .val (.int i10), .val (.int i11), .val (.long (own_bey i10)), .second, .unset, .unset, .unset, .unset, .unset, .unset] [])) target → Steps p.tables e below (T0.setTop (mkF m 6 #[.val (.long j0), .second, .val (.long j2), .second, .val (.long j4), .second, .val (.long j6), .second, .val (.long j8), .second, .val (.int i10), .val (.int i11), .unset, .unset, .unset, .unset, .unset, .unset, .unset, .unset] [])) target := by
  by_cases hc12 : ((i10.toUInt32 >>> ((2 : Int32) &&& 31).toUInt32).toInt32) &&& (1 : Int32) = (0 : Int32)
  · rw [show own_bey i10 = (-9223372036854775808 : Int64) from if_pos hc12]
    exact pcAf j0 j2 j4 j6 j8 i10 i11 X0 hx hZ hw hby hml hown e0 hc12
  · rw [show own_bey i10 = (9223372036854775807 : Int64) from if_neg hc12]
    exact pcAt j0 j2 j4 j6 j8 i10 i11 X0 hx hZ hw hby hml hown e0 hc12
set_option maxRecDepth 65536 in
set_option maxHeartbeats 40000000 in
theorem pcB0f {p : Program} {l : Launch} {e : Env} {s : State} {m : MethodId} {args : Array Value} {below : List Frame} {meth : Method} {c : Code} {T0 : State} {locs : List Loc} {Z : State} {a0 : Array Value} {h0 : Heap} (j0 j2 j4 j6 j8 : Int64) (i10 : Int32) (n : Nat) (hn : n ≤ 3) (j12 : Int64) (o14 o15 : Addr) (n0 : Nat)
    (X0 : Stand p l e room_1 s m args below meth c T0 locs 2 6) (hx : p.tables.exec = Jvm.exec) (hZ : Z.Warmed39 s.vm) (hw : ∀ d ∈ tables_1, d.before a0 Z = true) (hby : c.code = code) (hml : c.maxLocals = 20) (hown : s.vm.findClass "com/example/fairjoin/fairjoin/operator/DirectKeysRangePinLaw" = some m.cls) (e0 : T0.heap = h0) (N0 : Fr n0 locs) (Z0 : n0 ≤ h0.size) (hlt : 0 < n) :
    ∃ (T' : State) (locs' : List Loc), Stand p l e room_1 s m args below meth c T' locs' 2 6 ∧ T'.heap = h0 ∧ Fr n0 locs' ∧
      ∀ target, Steps p.tables e below (T'.setTop (mkF m 105 #[.val (.long j0), .second, .val (.long j2), .second, .val (.long j4), .second, .val (.long j6), .second, .val (.long j8), .second, .val (.int i10), .val (.int (Int32.ofNat n)), .val (.long j12), .second, .val (.ref o14), .val (.ref o15), .val (.long (own_lo (own_g j0 j2 j4 j12) j6 (min n 1))), .second, .val (.long (own_hi (own_g j0 j2 j4 j12) j8 (min n 1))), .second] [])) target → Steps p.tables e below (T0.setTop (mkF m 84 #[.val (.long j0), .second, .val (.long j2), .second, .val (.long j4), .second, .val (.long j6), .second, .val (.long j8), .second, .val (.int i10), .val (.int (Int32.ofNat n)), .val (.long j12), .second, .val (.ref o14), .val (.ref o15), .val (.long (own_lo (own_g j0 j2 j4 j12) j6 (min n 0))), .second, .val (.long (own_hi (own_g j0 j2 j4 j12) j8 (min n 0))), .second] [])) target := by
  have hc86 : (0 : Int32) < Int32.ofNat n := (own_ltn (i := 0) (by omega) (by omega)).mpr hlt
  rw [show min n 1 = 1 from by omega, show min n 0 = 0 from by omega]
  obtain ⟨_, _, ⟨T7, L7, k7, n7⟩, -, X7, ⟨Lc7, hQ7, l7, y7, z7⟩, st7⟩ := Jvm.LawKit.callS X0 hx (y := (⟨"java/lang/Math", "min", "(JJ)J"⟩ : MethodName)) hown (mvT hZ (hw _ (List.mem_of_getElem? (i := 6) rfl))) (mvT hZ (hw _ (List.mem_of_getElem? (i := 7) rfl))) (mvT hZ (hw _ (List.mem_of_getElem? (i := 8) rfl))) (mvT hZ (hw _ (List.mem_of_getElem? (i := 9) rfl))) (by decide) (backOf (W := 0) (rm2 l Z a0 hw [] (own_lo (own_g j0 j2 j4 j12) j6 0) j0 h0 n0 Z0) hZ (hw _ (List.mem_of_getElem? (i := 9) rfl)) (hw _ (List.mem_of_getElem? (i := 8) rfl)) (by decide) (by decide)) (g := (mkF m 92 #[.val (.long j0), .second, .val (.long j2), .second, .val (.long j4), .second, .val (.long j6), .second, .val (.long j8), .second, .val (.int i10), .val (.int (Int32.ofNat n)), .val (.long j12), .second, .val (.ref o14), .val (.ref o15), .val (.long (own_lo (own_g j0 j2 j4 j12) j6 0)), .second, .val (.long (own_hi (own_g j0 j2 j4 j12) j8 0)), .second] [(.long j0), (.long (own_lo (own_g j0 j2 j4 j12) j6 0))])) rfl (by rw [hml]; rfl) (argsL := [(.long (own_lo (own_g j0 j2 j4 j12) j6 0)), (.long j0)]) (rest := []) (lenOf pd_0_1 rfl) rfl (by show 2 * 0 + _ ≤ _; exact Nat.le_of_eq rfl) (hb hby at_92) (fun _ _ => ⟨rfl, e0, (by decide : 2 + 0 ≤ _), (by decide : 6 + 0 ≤ _)⟩)
  dsimp only [Pt.U, Pt.locs, Pt.cells, Pt.slots] at X7 l7 y7 z7 st7 hQ7
  subst l7 y7 z7
  obtain ⟨rfl, N7q, e7⟩ := hQ7
  have Z7 : n0 ≤ T7.heap.size := by rw [e7]; exact Z0
  have N7 := Fr.app N0 N7q
  obtain ⟨_, _, ⟨T8, L8, k8, n8⟩, -, X8, ⟨Lc8, hQ8, l8, y8, z8⟩, st8⟩ := Jvm.LawKit.callS X7 hx (y := (⟨"java/lang/Math", "max", "(JJ)J"⟩ : MethodName)) hown (mvT hZ (hw _ (List.mem_of_getElem? (i := 10) rfl))) (mvT hZ (hw _ (List.mem_of_getElem? (i := 11) rfl))) (mvT hZ (hw _ (List.mem_of_getElem? (i := 8) rfl))) (mvT hZ (hw _ (List.mem_of_getElem? (i := 12) rfl))) (by decide) (backOf (W := 0) (rm3 l Z a0 hw [] (own_hi (own_g j0 j2 j4 j12) j8 0) j0 T7.heap n0 Z7) hZ (hw _ (List.mem_of_getElem? (i := 12) rfl)) (hw _ (List.mem_of_getElem? (i := 8) rfl)) (by decide) (by decide)) (g := (mkF m 100 #[.val (.long j0), .second, .val (.long j2), .second, .val (.long j4), .second, .val (.long j6), .second, .val (.long j8), .second, .val (.int i10), .val (.int (Int32.ofNat n)), .val (.long j12), .second, .val (.ref o14), .val (.ref o15), .val (.long (own_mn (own_lo (own_g j0 j2 j4 j12) j6 0) j0)), .second, .val (.long (own_hi (own_g j0 j2 j4 j12) j8 0)), .second] [(.long j0), (.long (own_hi (own_g j0 j2 j4 j12) j8 0))])) rfl (by rw [hml]; rfl) (argsL := [(.long (own_hi (own_g j0 j2 j4 j12) j8 0)), (.long j0)]) (rest := []) (lenOf pd_0_1 rfl) rfl (by show 2 * 0 + _ ≤ _; exact Nat.le_of_eq rfl) (hb hby at_100) (fun _ _ => ⟨rfl, rfl, (by decide : 2 + 0 ≤ _), (by decide : 6 + 0 ≤ _)⟩)
  dsimp only [Pt.U, Pt.locs, Pt.cells, Pt.slots] at X8 l8 y8 z8 st8 hQ8
  subst l8 y8 z8
  obtain ⟨rfl, N8q, e8⟩ := hQ8
  have Z8 : n0 ≤ T8.heap.size := by rw [e8]; exact Z7
  have N8 := Fr.app N7 N8q
  refine ⟨T8, _, X8, e8.trans e7, N8, fun target kt => ?_⟩
  show Steps p.tables e below (T0.setTop (mkF m 84 #[.val (.long j0), .second, .val (.long j2), .second, .val (.long j4), .second, .val (.long j6), .second, .val (.long j8), .second, .val (.int i10), .val (.int (Int32.ofNat n)), .val (.long j12), .second, .val (.ref o14), .val (.ref o15), .val (.long (own_lo (own_g j0 j2 j4 j12) j6 0)), .second, .val (.long (own_hi (own_g j0 j2 j4 j12) j8 0)), .second] [])) _
  refine XS.iload X0.here hx rfl (hb hby at_84) rfl ?_
  show Steps p.tables e below (T0.setTop (mkF m 86 #[.val (.long j0), .second, .val (.long j2), .second, .val (.long j4), .second, .val (.long j6), .second, .val (.long j8), .second, .val (.int i10), .val (.int (Int32.ofNat n)), .val (.long j12), .second, .val (.ref o14), .val (.ref o15), .val (.long (own_lo (own_g j0 j2 j4 j12) j6 0)), .second, .val (.long (own_hi (own_g j0 j2 j4 j12) j8 0)), .second] [(.int (Int32.ofNat n))])) _
  refine XS.ifNo X0.here hx rfl (hb hby at_86) rfl ((if0 _ _).trans (tlt hc86).2.2.2) ?_
  show Steps p.tables e below (T0.setTop (mkF m 89 #[.val (.long j0), .second, .val (.long j2), .second, .val (.long j4), .second, .val (.long j6), .second, .val (.long j8), .second, .val (.int i10), .val (.int (Int32.ofNat n)), .val (.long j12), .second, .val (.ref o14), .val (.ref o15), .val (.long (own_lo (own_g j0 j2 j4 j12) j6 0)), .second, .val (.long (own_hi (own_g j0 j2 j4 j12) j8 0)), .second] [])) _
  refine XS.lload X0.here hx rfl (hb hby at_89) rfl ?_
  show Steps p.tables e below (T0.setTop (mkF m 91 #[.val (.long j0), .second, .val (.long j2), .second, .val (.long j4), .second, .val (.long j6), .second, .val (.long j8), .second, .val (.int i10), .val (.int (Int32.ofNat n)), .val (.long j12), .second, .val (.ref o14), .val (.ref o15), .val (.long (own_lo (own_g j0 j2 j4 j12) j6 0)), .second, .val (.long (own_hi (own_g j0 j2 j4 j12) j8 0)), .second] [(.long (own_lo (own_g j0 j2 j4 j12) j6 0))])) _
  refine XS.lloadN X0.here hx rfl (hb hby at_91) rfl ?_
  show Steps p.tables e below (T0.setTop (mkF m 92 #[.val (.long j0), .second, .val (.long j2), .second, .val (.long j4), .second, .val (.long j6), .second, .val (.long j8), .second, .val (.int i10), .val (.int (Int32.ofNat n)), .val (.long j12), .second, .val (.ref o14), .val (.ref o15), .val (.long (own_lo (own_g j0 j2 j4 j12) j6 0)), .second, .val (.long (own_hi (own_g j0 j2 j4 j12) j8 0)), .second] [(.long j0), (.long (own_lo (own_g j0 j2 j4 j12) j6 0))])) _
  refine st7 _ ?_
  show Steps p.tables e below (T7.setTop (mkF m 95 #[.val (.long j0), .second, .val (.long j2), .second, .val (.long j4), .second, .val (.long j6), .second, .val (.long j8), .second, .val (.int i10), .val (.int (Int32.ofNat n)), .val (.long j12), .second, .val (.ref o14), .val (.ref o15), .val (.long (own_lo (own_g j0 j2 j4 j12) j6 0)), .second, .val (.long (own_hi (own_g j0 j2 j4 j12) j8 0)), .second] [(.long (own_mn (own_lo (own_g j0 j2 j4 j12) j6 0) j0))])) _
  refine XS.lstore X7.here hx rfl (hb hby at_95) rfl (l' := #[.val (.long j0), .second, .val (.long j2), .second, .val (.long j4), .second, .val (.long j6), .second, .val (.long j8), .second, .val (.int i10), .val (.int (Int32.ofNat n)), .val (.long j12), .second, .val (.ref o14), .val (.ref o15), .val (.long (own_mn (own_lo (own_g j0 j2 j4 j12) j6 0) j0)), .second, .val (.long (own_hi (own_g j0 j2 j4 j12) j8 0)), .second]) rfl ?_
  show Steps p.tables e below (T7.setTop (mkF m 97 #[.val (.long j0), .second, .val (.long j2), .second, .val (.long j4), .second, .val (.long j6), .second, .val (.long j8), .second, .val (.int i10), .val (.int (Int32.ofNat n)), .val (.long j12), .second, .val (.ref o14), .val (.ref o15), .val (.long (own_mn (own_lo (own_g j0 j2 j4 j12) j6 0) j0)), .second, .val (.long (own_hi (own_g j0 j2 j4 j12) j8 0)), .second] [])) _
  refine XS.lload X7.here hx rfl (hb hby at_97) rfl ?_
  show Steps p.tables e below (T7.setTop (mkF m 99 #[.val (.long j0), .second, .val (.long j2), .second, .val (.long j4), .second, .val (.long j6), .second, .val (.long j8), .second, .val (.int i10), .val (.int (Int32.ofNat n)), .val (.long j12), .second, .val (.ref o14), .val (.ref o15), .val (.long (own_mn (own_lo (own_g j0 j2 j4 j12) j6 0) j0)), .second, .val (.long (own_hi (own_g j0 j2 j4 j12) j8 0)), .second] [(.long (own_hi (own_g j0 j2 j4 j12) j8 0))])) _
  refine XS.lloadN X7.here hx rfl (hb hby at_99) rfl ?_
  show Steps p.tables e below (T7.setTop (mkF m 100 #[.val (.long j0), .second, .val (.long j2), .second, .val (.long j4), .second, .val (.long j6), .second, .val (.long j8), .second, .val (.int i10), .val (.int (Int32.ofNat n)), .val (.long j12), .second, .val (.ref o14), .val (.ref o15), .val (.long (own_mn (own_lo (own_g j0 j2 j4 j12) j6 0) j0)), .second, .val (.long (own_hi (own_g j0 j2 j4 j12) j8 0)), .second] [(.long j0), (.long (own_hi (own_g j0 j2 j4 j12) j8 0))])) _
  refine st8 _ ?_
  show Steps p.tables e below (T8.setTop (mkF m 103 #[.val (.long j0), .second, .val (.long j2), .second, .val (.long j4), .second, .val (.long j6), .second, .val (.long j8), .second, .val (.int i10), .val (.int (Int32.ofNat n)), .val (.long j12), .second, .val (.ref o14), .val (.ref o15), .val (.long (own_mn (own_lo (own_g j0 j2 j4 j12) j6 0) j0)), .second, .val (.long (own_hi (own_g j0 j2 j4 j12) j8 0)), .second] [(.long (own_mx (own_hi (own_g j0 j2 j4 j12) j8 0) j0))])) _
  refine XS.lstore X8.here hx rfl (hb hby at_103) rfl (l' := #[.val (.long j0), .second, .val (.long j2), .second, .val (.long j4), .second, .val (.long j6), .second, .val (.long j8), .second, .val (.int i10), .val (.int (Int32.ofNat n)), .val (.long j12), .second, .val (.ref o14), .val (.ref o15), .val (.long (own_mn (own_lo (own_g j0 j2 j4 j12) j6 0) j0)), .second, .val (.long (own_mx (own_hi (own_g j0 j2 j4 j12) j8 0) j0)), .second]) rfl ?_
  exact kt
set_option maxRecDepth 65536 in
set_option maxHeartbeats 40000000 in
theorem pcB0t {p : Program} {l : Launch} {e : Env} {s : State} {m : MethodId} {args : Array Value} {below : List Frame} {meth : Method} {c : Code} {T0 : State} {locs : List Loc} {Z : State} {a0 : Array Value} {h0 : Heap} (j0 j2 j4 j6 j8 : Int64) (i10 : Int32) (n : Nat) (hn : n ≤ 3) (j12 : Int64) (o14 o15 : Addr) (n0 : Nat)
    (X0 : Stand p l e room_1 s m args below meth c T0 locs 2 6) (hx : p.tables.exec = Jvm.exec) (hZ : Z.Warmed39 s.vm) (hw : ∀ d ∈ tables_1, d.before a0 Z = true) (hby : c.code = code) (hml : c.maxLocals = 20) (hown : s.vm.findClass "com/example/fairjoin/fairjoin/operator/DirectKeysRangePinLaw" = some m.cls) (e0 : T0.heap = h0) (N0 : Fr n0 locs) (Z0 : n0 ≤ h0.size) (hlt : ¬ 0 < n) :
    ∃ (T' : State) (locs' : List Loc), Stand p l e room_1 s m args below meth c T' locs' 2 6 ∧ T'.heap = h0 ∧ Fr n0 locs' ∧
      ∀ target, Steps p.tables e below (T'.setTop (mkF m 105 #[.val (.long j0), .second, .val (.long j2), .second, .val (.long j4), .second, .val (.long j6), .second, .val (.long j8), .second, .val (.int i10), .val (.int (Int32.ofNat n)), .val (.long j12), .second, .val (.ref o14), .val (.ref o15), .val (.long (own_lo (own_g j0 j2 j4 j12) j6 (min n 1))), .second, .val (.long (own_hi (own_g j0 j2 j4 j12) j8 (min n 1))), .second] [])) target → Steps p.tables e below (T0.setTop (mkF m 84 #[.val (.long j0), .second, .val (.long j2), .second, .val (.long j4), .second, .val (.long j6), .second, .val (.long j8), .second, .val (.int i10), .val (.int (Int32.ofNat n)), .val (.long j12), .second, .val (.ref o14), .val (.ref o15), .val (.long (own_lo (own_g j0 j2 j4 j12) j6 (min n 0))), .second, .val (.long (own_hi (own_g j0 j2 j4 j12) j8 (min n 0))), .second] [])) target := by
  have hc86 : ¬ ((0 : Int32) < Int32.ofNat n) := fun q => hlt ((own_ltn (i := 0) (by omega) (by omega)).mp q)
  rw [show min n 1 = min n 0 from by omega]
  refine ⟨T0, locs, X0, e0, N0, fun target kt => ?_⟩
  show Steps p.tables e below (T0.setTop (mkF m 84 #[.val (.long j0), .second, .val (.long j2), .second, .val (.long j4), .second, .val (.long j6), .second, .val (.long j8), .second, .val (.int i10), .val (.int (Int32.ofNat n)), .val (.long j12), .second, .val (.ref o14), .val (.ref o15), .val (.long (own_lo (own_g j0 j2 j4 j12) j6 (min n 0))), .second, .val (.long (own_hi (own_g j0 j2 j4 j12) j8 (min n 0))), .second] [])) _
  refine XS.iload X0.here hx rfl (hb hby at_84) rfl ?_
  show Steps p.tables e below (T0.setTop (mkF m 86 #[.val (.long j0), .second, .val (.long j2), .second, .val (.long j4), .second, .val (.long j6), .second, .val (.long j8), .second, .val (.int i10), .val (.int (Int32.ofNat n)), .val (.long j12), .second, .val (.ref o14), .val (.ref o15), .val (.long (own_lo (own_g j0 j2 j4 j12) j6 (min n 0))), .second, .val (.long (own_hi (own_g j0 j2 j4 j12) j8 (min n 0))), .second] [(.int (Int32.ofNat n))])) _
  refine XS.ifYes X0.here hx rfl (pc0 := 86) (pc' := 105) rfl (hb hby at_86) rfl ((if0 _ _).trans (flt hc86).2.2.2) (by decide) (by decide) ?_
  exact kt
set_option maxRecDepth 65536 in
set_option maxHeartbeats 40000000 in
theorem pcB0 {p : Program} {l : Launch} {e : Env} {s : State} {m : MethodId} {args : Array Value} {below : List Frame} {meth : Method} {c : Code} {T0 : State} {locs : List Loc} {Z : State} {a0 : Array Value} {h0 : Heap} (j0 j2 j4 j6 j8 : Int64) (i10 : Int32) (n : Nat) (hn : n ≤ 3) (j12 : Int64) (o14 o15 : Addr) (n0 : Nat)
    (X0 : Stand p l e room_1 s m args below meth c T0 locs 2 6) (hx : p.tables.exec = Jvm.exec) (hZ : Z.Warmed39 s.vm) (hw : ∀ d ∈ tables_1, d.before a0 Z = true) (hby : c.code = code) (hml : c.maxLocals = 20) (hown : s.vm.findClass "com/example/fairjoin/fairjoin/operator/DirectKeysRangePinLaw" = some m.cls) (e0 : T0.heap = h0) (N0 : Fr n0 locs) (Z0 : n0 ≤ h0.size) :
    ∃ (T' : State) (locs' : List Loc), Stand p l e room_1 s m args below meth c T' locs' 2 6 ∧ T'.heap = h0 ∧ Fr n0 locs' ∧
      ∀ target, Steps p.tables e below (T'.setTop (mkF m 105 #[.val (.long j0), .second, .val (.long j2), .second, .val (.long j4), .second, .val (.long j6), .second, .val (.long j8), .second, .val (.int i10), .val (.int (Int32.ofNat n)), .val (.long j12), .second, .val (.ref o14), .val (.ref o15), .val (.long (own_lo (own_g j0 j2 j4 j12) j6 (min n 1))), .second, .val (.long (own_hi (own_g j0 j2 j4 j12) j8 (min n 1))), .second] [])) target → Steps p.tables e below (T0.setTop (mkF m 84 #[.val (.long j0), .second, .val (.long j2), .second, .val (.long j4), .second, .val (.long j6), .second, .val (.long j8), .second, .val (.int i10), .val (.int (Int32.ofNat n)), .val (.long j12), .second, .val (.ref o14), .val (.ref o15), .val (.long (own_lo (own_g j0 j2 j4 j12) j6 (min n 0))), .second, .val (.long (own_hi (own_g j0 j2 j4 j12) j8 (min n 0))), .second] [])) target := by
  by_cases hlt : 0 < n
  · exact pcB0f j0 j2 j4 j6 j8 i10 n hn j12 o14 o15 n0 X0 hx hZ hw hby hml hown e0 N0 Z0 hlt
  · exact pcB0t j0 j2 j4 j6 j8 i10 n hn j12 o14 o15 n0 X0 hx hZ hw hby hml hown e0 N0 Z0 hlt
set_option maxRecDepth 65536 in
set_option maxHeartbeats 40000000 in
theorem pcB1f {p : Program} {l : Launch} {e : Env} {s : State} {m : MethodId} {args : Array Value} {below : List Frame} {meth : Method} {c : Code} {T0 : State} {locs : List Loc} {Z : State} {a0 : Array Value} {h0 : Heap} (j0 j2 j4 j6 j8 : Int64) (i10 : Int32) (n : Nat) (hn : n ≤ 3) (j12 : Int64) (o14 o15 : Addr) (n0 : Nat)
    (X0 : Stand p l e room_1 s m args below meth c T0 locs 2 6) (hx : p.tables.exec = Jvm.exec) (hZ : Z.Warmed39 s.vm) (hw : ∀ d ∈ tables_1, d.before a0 Z = true) (hby : c.code = code) (hml : c.maxLocals = 20) (hown : s.vm.findClass "com/example/fairjoin/fairjoin/operator/DirectKeysRangePinLaw" = some m.cls) (e0 : T0.heap = h0) (N0 : Fr n0 locs) (Z0 : n0 ≤ h0.size) (hlt : 1 < n) :
    ∃ (T' : State) (locs' : List Loc), Stand p l e room_1 s m args below meth c T' locs' 2 6 ∧ T'.heap = h0 ∧ Fr n0 locs' ∧
      ∀ target, Steps p.tables e below (T'.setTop (mkF m 127 #[.val (.long j0), .second, .val (.long j2), .second, .val (.long j4), .second, .val (.long j6), .second, .val (.long j8), .second, .val (.int i10), .val (.int (Int32.ofNat n)), .val (.long j12), .second, .val (.ref o14), .val (.ref o15), .val (.long (own_lo (own_g j0 j2 j4 j12) j6 (min n 2))), .second, .val (.long (own_hi (own_g j0 j2 j4 j12) j8 (min n 2))), .second] [])) target → Steps p.tables e below (T0.setTop (mkF m 105 #[.val (.long j0), .second, .val (.long j2), .second, .val (.long j4), .second, .val (.long j6), .second, .val (.long j8), .second, .val (.int i10), .val (.int (Int32.ofNat n)), .val (.long j12), .second, .val (.ref o14), .val (.ref o15), .val (.long (own_lo (own_g j0 j2 j4 j12) j6 (min n 1))), .second, .val (.long (own_hi (own_g j0 j2 j4 j12) j8 (min n 1))), .second] [])) target := by
  have hc108 : (1 : Int32) < Int32.ofNat n := (own_ltn (i := 1) (by omega) (by omega)).mpr hlt
  rw [show min n 2 = 2 from by omega, show min n 1 = 1 from by omega]
  obtain ⟨_, _, ⟨T7, L7, k7, n7⟩, -, X7, ⟨Lc7, hQ7, l7, y7, z7⟩, st7⟩ := Jvm.LawKit.callS X0 hx (y := (⟨"java/lang/Math", "min", "(JJ)J"⟩ : MethodName)) hown (mvT hZ (hw _ (List.mem_of_getElem? (i := 6) rfl))) (mvT hZ (hw _ (List.mem_of_getElem? (i := 7) rfl))) (mvT hZ (hw _ (List.mem_of_getElem? (i := 8) rfl))) (mvT hZ (hw _ (List.mem_of_getElem? (i := 9) rfl))) (by decide) (backOf (W := 0) (rm2 l Z a0 hw [] (own_lo (own_g j0 j2 j4 j12) j6 1) j2 h0 n0 Z0) hZ (hw _ (List.mem_of_getElem? (i := 9) rfl)) (hw _ (List.mem_of_getElem? (i := 8) rfl)) (by decide) (by decide)) (g := (mkF m 114 #[.val (.long j0), .second, .val (.long j2), .second, .val (.long j4), .second, .val (.long j6), .second, .val (.long j8), .second, .val (.int i10), .val (.int (Int32.ofNat n)), .val (.long j12), .second, .val (.ref o14), .val (.ref o15), .val (.long (own_lo (own_g j0 j2 j4 j12) j6 1)), .second, .val (.long (own_hi (own_g j0 j2 j4 j12) j8 1)), .second] [(.long j2), (.long (own_lo (own_g j0 j2 j4 j12) j6 1))])) rfl (by rw [hml]; rfl) (argsL := [(.long (own_lo (own_g j0 j2 j4 j12) j6 1)), (.long j2)]) (rest := []) (lenOf pd_0_1 rfl) rfl (by show 2 * 0 + _ ≤ _; exact Nat.le_of_eq rfl) (hb hby at_114) (fun _ _ => ⟨rfl, e0, (by decide : 2 + 0 ≤ _), (by decide : 6 + 0 ≤ _)⟩)
  dsimp only [Pt.U, Pt.locs, Pt.cells, Pt.slots] at X7 l7 y7 z7 st7 hQ7
  subst l7 y7 z7
  obtain ⟨rfl, N7q, e7⟩ := hQ7
  have Z7 : n0 ≤ T7.heap.size := by rw [e7]; exact Z0
  have N7 := Fr.app N0 N7q
  obtain ⟨_, _, ⟨T8, L8, k8, n8⟩, -, X8, ⟨Lc8, hQ8, l8, y8, z8⟩, st8⟩ := Jvm.LawKit.callS X7 hx (y := (⟨"java/lang/Math", "max", "(JJ)J"⟩ : MethodName)) hown (mvT hZ (hw _ (List.mem_of_getElem? (i := 10) rfl))) (mvT hZ (hw _ (List.mem_of_getElem? (i := 11) rfl))) (mvT hZ (hw _ (List.mem_of_getElem? (i := 8) rfl))) (mvT hZ (hw _ (List.mem_of_getElem? (i := 12) rfl))) (by decide) (backOf (W := 0) (rm3 l Z a0 hw [] (own_hi (own_g j0 j2 j4 j12) j8 1) j2 T7.heap n0 Z7) hZ (hw _ (List.mem_of_getElem? (i := 12) rfl)) (hw _ (List.mem_of_getElem? (i := 8) rfl)) (by decide) (by decide)) (g := (mkF m 122 #[.val (.long j0), .second, .val (.long j2), .second, .val (.long j4), .second, .val (.long j6), .second, .val (.long j8), .second, .val (.int i10), .val (.int (Int32.ofNat n)), .val (.long j12), .second, .val (.ref o14), .val (.ref o15), .val (.long (own_mn (own_lo (own_g j0 j2 j4 j12) j6 1) j2)), .second, .val (.long (own_hi (own_g j0 j2 j4 j12) j8 1)), .second] [(.long j2), (.long (own_hi (own_g j0 j2 j4 j12) j8 1))])) rfl (by rw [hml]; rfl) (argsL := [(.long (own_hi (own_g j0 j2 j4 j12) j8 1)), (.long j2)]) (rest := []) (lenOf pd_0_1 rfl) rfl (by show 2 * 0 + _ ≤ _; exact Nat.le_of_eq rfl) (hb hby at_122) (fun _ _ => ⟨rfl, rfl, (by decide : 2 + 0 ≤ _), (by decide : 6 + 0 ≤ _)⟩)
  dsimp only [Pt.U, Pt.locs, Pt.cells, Pt.slots] at X8 l8 y8 z8 st8 hQ8
  subst l8 y8 z8
  obtain ⟨rfl, N8q, e8⟩ := hQ8
  have Z8 : n0 ≤ T8.heap.size := by rw [e8]; exact Z7
  have N8 := Fr.app N7 N8q
  refine ⟨T8, _, X8, e8.trans e7, N8, fun target kt => ?_⟩
  show Steps p.tables e below (T0.setTop (mkF m 105 #[.val (.long j0), .second, .val (.long j2), .second, .val (.long j4), .second, .val (.long j6), .second, .val (.long j8), .second, .val (.int i10), .val (.int (Int32.ofNat n)), .val (.long j12), .second, .val (.ref o14), .val (.ref o15), .val (.long (own_lo (own_g j0 j2 j4 j12) j6 1)), .second, .val (.long (own_hi (own_g j0 j2 j4 j12) j8 1)), .second] [])) _
  refine XS.iload X0.here hx rfl (hb hby at_105) rfl ?_
  show Steps p.tables e below (T0.setTop (mkF m 107 #[.val (.long j0), .second, .val (.long j2), .second, .val (.long j4), .second, .val (.long j6), .second, .val (.long j8), .second, .val (.int i10), .val (.int (Int32.ofNat n)), .val (.long j12), .second, .val (.ref o14), .val (.ref o15), .val (.long (own_lo (own_g j0 j2 j4 j12) j6 1)), .second, .val (.long (own_hi (own_g j0 j2 j4 j12) j8 1)), .second] [(.int (Int32.ofNat n))])) _
  refine XS.iconst X0.here hx rfl (hb hby at_107) ?_
  show Steps p.tables e below (T0.setTop (mkF m 108 #[.val (.long j0), .second, .val (.long j2), .second, .val (.long j4), .second, .val (.long j6), .second, .val (.long j8), .second, .val (.int i10), .val (.int (Int32.ofNat n)), .val (.long j12), .second, .val (.ref o14), .val (.ref o15), .val (.long (own_lo (own_g j0 j2 j4 j12) j6 1)), .second, .val (.long (own_hi (own_g j0 j2 j4 j12) j8 1)), .second] [(.int (1 : Int32)), (.int (Int32.ofNat n))])) _
  refine XS.icmpNo X0.here hx rfl (hb hby at_108) rfl (tlt hc108).2.2.2 ?_
  show Steps p.tables e below (T0.setTop (mkF m 111 #[.val (.long j0), .second, .val (.long j2), .second, .val (.long j4), .second, .val (.long j6), .second, .val (.long j8), .second, .val (.int i10), .val (.int (Int32.ofNat n)), .val (.long j12), .second, .val (.ref o14), .val (.ref o15), .val (.long (own_lo (own_g j0 j2 j4 j12) j6 1)), .second, .val (.long (own_hi (own_g j0 j2 j4 j12) j8 1)), .second] [])) _
  refine XS.lload X0.here hx rfl (hb hby at_111) rfl ?_
  show Steps p.tables e below (T0.setTop (mkF m 113 #[.val (.long j0), .second, .val (.long j2), .second, .val (.long j4), .second, .val (.long j6), .second, .val (.long j8), .second, .val (.int i10), .val (.int (Int32.ofNat n)), .val (.long j12), .second, .val (.ref o14), .val (.ref o15), .val (.long (own_lo (own_g j0 j2 j4 j12) j6 1)), .second, .val (.long (own_hi (own_g j0 j2 j4 j12) j8 1)), .second] [(.long (own_lo (own_g j0 j2 j4 j12) j6 1))])) _
  refine XS.lloadN X0.here hx rfl (hb hby at_113) rfl ?_
  show Steps p.tables e below (T0.setTop (mkF m 114 #[.val (.long j0), .second, .val (.long j2), .second, .val (.long j4), .second, .val (.long j6), .second, .val (.long j8), .second, .val (.int i10), .val (.int (Int32.ofNat n)), .val (.long j12), .second, .val (.ref o14), .val (.ref o15), .val (.long (own_lo (own_g j0 j2 j4 j12) j6 1)), .second, .val (.long (own_hi (own_g j0 j2 j4 j12) j8 1)), .second] [(.long j2), (.long (own_lo (own_g j0 j2 j4 j12) j6 1))])) _
  refine st7 _ ?_
  show Steps p.tables e below (T7.setTop (mkF m 117 #[.val (.long j0), .second, .val (.long j2), .second, .val (.long j4), .second, .val (.long j6), .second, .val (.long j8), .second, .val (.int i10), .val (.int (Int32.ofNat n)), .val (.long j12), .second, .val (.ref o14), .val (.ref o15), .val (.long (own_lo (own_g j0 j2 j4 j12) j6 1)), .second, .val (.long (own_hi (own_g j0 j2 j4 j12) j8 1)), .second] [(.long (own_mn (own_lo (own_g j0 j2 j4 j12) j6 1) j2))])) _
  refine XS.lstore X7.here hx rfl (hb hby at_117) rfl (l' := #[.val (.long j0), .second, .val (.long j2), .second, .val (.long j4), .second, .val (.long j6), .second, .val (.long j8), .second, .val (.int i10), .val (.int (Int32.ofNat n)), .val (.long j12), .second, .val (.ref o14), .val (.ref o15), .val (.long (own_mn (own_lo (own_g j0 j2 j4 j12) j6 1) j2)), .second, .val (.long (own_hi (own_g j0 j2 j4 j12) j8 1)), .second]) rfl ?_
  show Steps p.tables e below (T7.setTop (mkF m 119 #[.val (.long j0), .second, .val (.long j2), .second, .val (.long j4), .second, .val (.long j6), .second, .val (.long j8), .second, .val (.int i10), .val (.int (Int32.ofNat n)), .val (.long j12), .second, .val (.ref o14), .val (.ref o15), .val (.long (own_mn (own_lo (own_g j0 j2 j4 j12) j6 1) j2)), .second, .val (.long (own_hi (own_g j0 j2 j4 j12) j8 1)), .second] [])) _
  refine XS.lload X7.here hx rfl (hb hby at_119) rfl ?_
  show Steps p.tables e below (T7.setTop (mkF m 121 #[.val (.long j0), .second, .val (.long j2), .second, .val (.long j4), .second, .val (.long j6), .second, .val (.long j8), .second, .val (.int i10), .val (.int (Int32.ofNat n)), .val (.long j12), .second, .val (.ref o14), .val (.ref o15), .val (.long (own_mn (own_lo (own_g j0 j2 j4 j12) j6 1) j2)), .second, .val (.long (own_hi (own_g j0 j2 j4 j12) j8 1)), .second] [(.long (own_hi (own_g j0 j2 j4 j12) j8 1))])) _
  refine XS.lloadN X7.here hx rfl (hb hby at_121) rfl ?_
  show Steps p.tables e below (T7.setTop (mkF m 122 #[.val (.long j0), .second, .val (.long j2), .second, .val (.long j4), .second, .val (.long j6), .second, .val (.long j8), .second, .val (.int i10), .val (.int (Int32.ofNat n)), .val (.long j12), .second, .val (.ref o14), .val (.ref o15), .val (.long (own_mn (own_lo (own_g j0 j2 j4 j12) j6 1) j2)), .second, .val (.long (own_hi (own_g j0 j2 j4 j12) j8 1)), .second] [(.long j2), (.long (own_hi (own_g j0 j2 j4 j12) j8 1))])) _
  refine st8 _ ?_
  show Steps p.tables e below (T8.setTop (mkF m 125 #[.val (.long j0), .second, .val (.long j2), .second, .val (.long j4), .second, .val (.long j6), .second, .val (.long j8), .second, .val (.int i10), .val (.int (Int32.ofNat n)), .val (.long j12), .second, .val (.ref o14), .val (.ref o15), .val (.long (own_mn (own_lo (own_g j0 j2 j4 j12) j6 1) j2)), .second, .val (.long (own_hi (own_g j0 j2 j4 j12) j8 1)), .second] [(.long (own_mx (own_hi (own_g j0 j2 j4 j12) j8 1) j2))])) _
  refine XS.lstore X8.here hx rfl (hb hby at_125) rfl (l' := #[.val (.long j0), .second, .val (.long j2), .second, .val (.long j4), .second, .val (.long j6), .second, .val (.long j8), .second, .val (.int i10), .val (.int (Int32.ofNat n)), .val (.long j12), .second, .val (.ref o14), .val (.ref o15), .val (.long (own_mn (own_lo (own_g j0 j2 j4 j12) j6 1) j2)), .second, .val (.long (own_mx (own_hi (own_g j0 j2 j4 j12) j8 1) j2)), .second]) rfl ?_
  exact kt
set_option maxRecDepth 65536 in
set_option maxHeartbeats 40000000 in
theorem pcB1t {p : Program} {l : Launch} {e : Env} {s : State} {m : MethodId} {args : Array Value} {below : List Frame} {meth : Method} {c : Code} {T0 : State} {locs : List Loc} {Z : State} {a0 : Array Value} {h0 : Heap} (j0 j2 j4 j6 j8 : Int64) (i10 : Int32) (n : Nat) (hn : n ≤ 3) (j12 : Int64) (o14 o15 : Addr) (n0 : Nat)
    (X0 : Stand p l e room_1 s m args below meth c T0 locs 2 6) (hx : p.tables.exec = Jvm.exec) (hZ : Z.Warmed39 s.vm) (hw : ∀ d ∈ tables_1, d.before a0 Z = true) (hby : c.code = code) (hml : c.maxLocals = 20) (hown : s.vm.findClass "com/example/fairjoin/fairjoin/operator/DirectKeysRangePinLaw" = some m.cls) (e0 : T0.heap = h0) (N0 : Fr n0 locs) (Z0 : n0 ≤ h0.size) (hlt : ¬ 1 < n) :
    ∃ (T' : State) (locs' : List Loc), Stand p l e room_1 s m args below meth c T' locs' 2 6 ∧ T'.heap = h0 ∧ Fr n0 locs' ∧
      ∀ target, Steps p.tables e below (T'.setTop (mkF m 127 #[.val (.long j0), .second, .val (.long j2), .second, .val (.long j4), .second, .val (.long j6), .second, .val (.long j8), .second, .val (.int i10), .val (.int (Int32.ofNat n)), .val (.long j12), .second, .val (.ref o14), .val (.ref o15), .val (.long (own_lo (own_g j0 j2 j4 j12) j6 (min n 2))), .second, .val (.long (own_hi (own_g j0 j2 j4 j12) j8 (min n 2))), .second] [])) target → Steps p.tables e below (T0.setTop (mkF m 105 #[.val (.long j0), .second, .val (.long j2), .second, .val (.long j4), .second, .val (.long j6), .second, .val (.long j8), .second, .val (.int i10), .val (.int (Int32.ofNat n)), .val (.long j12), .second, .val (.ref o14), .val (.ref o15), .val (.long (own_lo (own_g j0 j2 j4 j12) j6 (min n 1))), .second, .val (.long (own_hi (own_g j0 j2 j4 j12) j8 (min n 1))), .second] [])) target := by
  have hc108 : ¬ ((1 : Int32) < Int32.ofNat n) := fun q => hlt ((own_ltn (i := 1) (by omega) (by omega)).mp q)
  rw [show min n 2 = min n 1 from by omega]
  refine ⟨T0, locs, X0, e0, N0, fun target kt => ?_⟩
  show Steps p.tables e below (T0.setTop (mkF m 105 #[.val (.long j0), .second, .val (.long j2), .second, .val (.long j4), .second, .val (.long j6), .second, .val (.long j8), .second, .val (.int i10), .val (.int (Int32.ofNat n)), .val (.long j12), .second, .val (.ref o14), .val (.ref o15), .val (.long (own_lo (own_g j0 j2 j4 j12) j6 (min n 1))), .second, .val (.long (own_hi (own_g j0 j2 j4 j12) j8 (min n 1))), .second] [])) _
  refine XS.iload X0.here hx rfl (hb hby at_105) rfl ?_
  show Steps p.tables e below (T0.setTop (mkF m 107 #[.val (.long j0), .second, .val (.long j2), .second, .val (.long j4), .second, .val (.long j6), .second, .val (.long j8), .second, .val (.int i10), .val (.int (Int32.ofNat n)), .val (.long j12), .second, .val (.ref o14), .val (.ref o15), .val (.long (own_lo (own_g j0 j2 j4 j12) j6 (min n 1))), .second, .val (.long (own_hi (own_g j0 j2 j4 j12) j8 (min n 1))), .second] [(.int (Int32.ofNat n))])) _
  refine XS.iconst X0.here hx rfl (hb hby at_107) ?_
  show Steps p.tables e below (T0.setTop (mkF m 108 #[.val (.long j0), .second, .val (.long j2), .second, .val (.long j4), .second, .val (.long j6), .second, .val (.long j8), .second, .val (.int i10), .val (.int (Int32.ofNat n)), .val (.long j12), .second, .val (.ref o14), .val (.ref o15), .val (.long (own_lo (own_g j0 j2 j4 j12) j6 (min n 1))), .second, .val (.long (own_hi (own_g j0 j2 j4 j12) j8 (min n 1))), .second] [(.int (1 : Int32)), (.int (Int32.ofNat n))])) _
  refine XS.icmpYes X0.here hx rfl (pc0 := 108) (pc' := 127) rfl (hb hby at_108) rfl (flt hc108).2.2.2 (by decide) (by decide) ?_
  exact kt
set_option maxRecDepth 65536 in
set_option maxHeartbeats 40000000 in
theorem pcB1 {p : Program} {l : Launch} {e : Env} {s : State} {m : MethodId} {args : Array Value} {below : List Frame} {meth : Method} {c : Code} {T0 : State} {locs : List Loc} {Z : State} {a0 : Array Value} {h0 : Heap} (j0 j2 j4 j6 j8 : Int64) (i10 : Int32) (n : Nat) (hn : n ≤ 3) (j12 : Int64) (o14 o15 : Addr) (n0 : Nat)
    (X0 : Stand p l e room_1 s m args below meth c T0 locs 2 6) (hx : p.tables.exec = Jvm.exec) (hZ : Z.Warmed39 s.vm) (hw : ∀ d ∈ tables_1, d.before a0 Z = true) (hby : c.code = code) (hml : c.maxLocals = 20) (hown : s.vm.findClass "com/example/fairjoin/fairjoin/operator/DirectKeysRangePinLaw" = some m.cls) (e0 : T0.heap = h0) (N0 : Fr n0 locs) (Z0 : n0 ≤ h0.size) :
    ∃ (T' : State) (locs' : List Loc), Stand p l e room_1 s m args below meth c T' locs' 2 6 ∧ T'.heap = h0 ∧ Fr n0 locs' ∧
      ∀ target, Steps p.tables e below (T'.setTop (mkF m 127 #[.val (.long j0), .second, .val (.long j2), .second, .val (.long j4), .second, .val (.long j6), .second, .val (.long j8), .second, .val (.int i10), .val (.int (Int32.ofNat n)), .val (.long j12), .second, .val (.ref o14), .val (.ref o15), .val (.long (own_lo (own_g j0 j2 j4 j12) j6 (min n 2))), .second, .val (.long (own_hi (own_g j0 j2 j4 j12) j8 (min n 2))), .second] [])) target → Steps p.tables e below (T0.setTop (mkF m 105 #[.val (.long j0), .second, .val (.long j2), .second, .val (.long j4), .second, .val (.long j6), .second, .val (.long j8), .second, .val (.int i10), .val (.int (Int32.ofNat n)), .val (.long j12), .second, .val (.ref o14), .val (.ref o15), .val (.long (own_lo (own_g j0 j2 j4 j12) j6 (min n 1))), .second, .val (.long (own_hi (own_g j0 j2 j4 j12) j8 (min n 1))), .second] [])) target := by
  by_cases hlt : 1 < n
  · exact pcB1f j0 j2 j4 j6 j8 i10 n hn j12 o14 o15 n0 X0 hx hZ hw hby hml hown e0 N0 Z0 hlt
  · exact pcB1t j0 j2 j4 j6 j8 i10 n hn j12 o14 o15 n0 X0 hx hZ hw hby hml hown e0 N0 Z0 hlt
set_option maxRecDepth 65536 in
set_option maxHeartbeats 40000000 in
theorem pcB2f {p : Program} {l : Launch} {e : Env} {s : State} {m : MethodId} {args : Array Value} {below : List Frame} {meth : Method} {c : Code} {T0 : State} {locs : List Loc} {Z : State} {a0 : Array Value} {h0 : Heap} (j0 j2 j4 j6 j8 : Int64) (i10 : Int32) (n : Nat) (hn : n ≤ 3) (j12 : Int64) (o14 o15 : Addr) (n0 : Nat)
    (X0 : Stand p l e room_1 s m args below meth c T0 locs 2 6) (hx : p.tables.exec = Jvm.exec) (hZ : Z.Warmed39 s.vm) (hw : ∀ d ∈ tables_1, d.before a0 Z = true) (hby : c.code = code) (hml : c.maxLocals = 20) (hown : s.vm.findClass "com/example/fairjoin/fairjoin/operator/DirectKeysRangePinLaw" = some m.cls) (e0 : T0.heap = h0) (N0 : Fr n0 locs) (Z0 : n0 ≤ h0.size) (hlt : 2 < n) :
    ∃ (T' : State) (locs' : List Loc), Stand p l e room_1 s m args below meth c T' locs' 2 6 ∧ T'.heap = h0 ∧ Fr n0 locs' ∧
      ∀ target, Steps p.tables e below (T'.setTop (mkF m 151 #[.val (.long j0), .second, .val (.long j2), .second, .val (.long j4), .second, .val (.long j6), .second, .val (.long j8), .second, .val (.int i10), .val (.int (Int32.ofNat n)), .val (.long j12), .second, .val (.ref o14), .val (.ref o15), .val (.long (own_lo (own_g j0 j2 j4 j12) j6 (min n 3))), .second, .val (.long (own_hi (own_g j0 j2 j4 j12) j8 (min n 3))), .second] [])) target → Steps p.tables e below (T0.setTop (mkF m 127 #[.val (.long j0), .second, .val (.long j2), .second, .val (.long j4), .second, .val (.long j6), .second, .val (.long j8), .second, .val (.int i10), .val (.int (Int32.ofNat n)), .val (.long j12), .second, .val (.ref o14), .val (.ref o15), .val (.long (own_lo (own_g j0 j2 j4 j12) j6 (min n 2))), .second, .val (.long (own_hi (own_g j0 j2 j4 j12) j8 (min n 2))), .second] [])) target := by
  have hc130 : (2 : Int32) < Int32.ofNat n := (own_ltn (i := 2) (by omega) (by omega)).mpr hlt
  rw [show min n 3 = 3 from by omega, show min n 2 = 2 from by omega]
  obtain ⟨_, _, ⟨T7, L7, k7, n7⟩, -, X7, ⟨Lc7, hQ7, l7, y7, z7⟩, st7⟩ := Jvm.LawKit.callS X0 hx (y := (⟨"java/lang/Math", "min", "(JJ)J"⟩ : MethodName)) hown (mvT hZ (hw _ (List.mem_of_getElem? (i := 6) rfl))) (mvT hZ (hw _ (List.mem_of_getElem? (i := 7) rfl))) (mvT hZ (hw _ (List.mem_of_getElem? (i := 8) rfl))) (mvT hZ (hw _ (List.mem_of_getElem? (i := 9) rfl))) (by decide) (backOf (W := 0) (rm2 l Z a0 hw [] (own_lo (own_g j0 j2 j4 j12) j6 2) j4 h0 n0 Z0) hZ (hw _ (List.mem_of_getElem? (i := 9) rfl)) (hw _ (List.mem_of_getElem? (i := 8) rfl)) (by decide) (by decide)) (g := (mkF m 137 #[.val (.long j0), .second, .val (.long j2), .second, .val (.long j4), .second, .val (.long j6), .second, .val (.long j8), .second, .val (.int i10), .val (.int (Int32.ofNat n)), .val (.long j12), .second, .val (.ref o14), .val (.ref o15), .val (.long (own_lo (own_g j0 j2 j4 j12) j6 2)), .second, .val (.long (own_hi (own_g j0 j2 j4 j12) j8 2)), .second] [(.long j4), (.long (own_lo (own_g j0 j2 j4 j12) j6 2))])) rfl (by rw [hml]; rfl) (argsL := [(.long (own_lo (own_g j0 j2 j4 j12) j6 2)), (.long j4)]) (rest := []) (lenOf pd_0_1 rfl) rfl (by show 2 * 0 + _ ≤ _; exact Nat.le_of_eq rfl) (hb hby at_137) (fun _ _ => ⟨rfl, e0, (by decide : 2 + 0 ≤ _), (by decide : 6 + 0 ≤ _)⟩)
  dsimp only [Pt.U, Pt.locs, Pt.cells, Pt.slots] at X7 l7 y7 z7 st7 hQ7
  subst l7 y7 z7
  obtain ⟨rfl, N7q, e7⟩ := hQ7
  have Z7 : n0 ≤ T7.heap.size := by rw [e7]; exact Z0
  have N7 := Fr.app N0 N7q
  obtain ⟨_, _, ⟨T8, L8, k8, n8⟩, -, X8, ⟨Lc8, hQ8, l8, y8, z8⟩, st8⟩ := Jvm.LawKit.callS X7 hx (y := (⟨"java/lang/Math", "max", "(JJ)J"⟩ : MethodName)) hown (mvT hZ (hw _ (List.mem_of_getElem? (i := 10) rfl))) (mvT hZ (hw _ (List.mem_of_getElem? (i := 11) rfl))) (mvT hZ (hw _ (List.mem_of_getElem? (i := 8) rfl))) (mvT hZ (hw _ (List.mem_of_getElem? (i := 12) rfl))) (by decide) (backOf (W := 0) (rm3 l Z a0 hw [] (own_hi (own_g j0 j2 j4 j12) j8 2) j4 T7.heap n0 Z7) hZ (hw _ (List.mem_of_getElem? (i := 12) rfl)) (hw _ (List.mem_of_getElem? (i := 8) rfl)) (by decide) (by decide)) (g := (mkF m 146 #[.val (.long j0), .second, .val (.long j2), .second, .val (.long j4), .second, .val (.long j6), .second, .val (.long j8), .second, .val (.int i10), .val (.int (Int32.ofNat n)), .val (.long j12), .second, .val (.ref o14), .val (.ref o15), .val (.long (own_mn (own_lo (own_g j0 j2 j4 j12) j6 2) j4)), .second, .val (.long (own_hi (own_g j0 j2 j4 j12) j8 2)), .second] [(.long j4), (.long (own_hi (own_g j0 j2 j4 j12) j8 2))])) rfl (by rw [hml]; rfl) (argsL := [(.long (own_hi (own_g j0 j2 j4 j12) j8 2)), (.long j4)]) (rest := []) (lenOf pd_0_1 rfl) rfl (by show 2 * 0 + _ ≤ _; exact Nat.le_of_eq rfl) (hb hby at_146) (fun _ _ => ⟨rfl, rfl, (by decide : 2 + 0 ≤ _), (by decide : 6 + 0 ≤ _)⟩)
  dsimp only [Pt.U, Pt.locs, Pt.cells, Pt.slots] at X8 l8 y8 z8 st8 hQ8
  subst l8 y8 z8
  obtain ⟨rfl, N8q, e8⟩ := hQ8
  have Z8 : n0 ≤ T8.heap.size := by rw [e8]; exact Z7
  have N8 := Fr.app N7 N8q
  refine ⟨T8, _, X8, e8.trans e7, N8, fun target kt => ?_⟩
  show Steps p.tables e below (T0.setTop (mkF m 127 #[.val (.long j0), .second, .val (.long j2), .second, .val (.long j4), .second, .val (.long j6), .second, .val (.long j8), .second, .val (.int i10), .val (.int (Int32.ofNat n)), .val (.long j12), .second, .val (.ref o14), .val (.ref o15), .val (.long (own_lo (own_g j0 j2 j4 j12) j6 2)), .second, .val (.long (own_hi (own_g j0 j2 j4 j12) j8 2)), .second] [])) _
  refine XS.iload X0.here hx rfl (hb hby at_127) rfl ?_
  show Steps p.tables e below (T0.setTop (mkF m 129 #[.val (.long j0), .second, .val (.long j2), .second, .val (.long j4), .second, .val (.long j6), .second, .val (.long j8), .second, .val (.int i10), .val (.int (Int32.ofNat n)), .val (.long j12), .second, .val (.ref o14), .val (.ref o15), .val (.long (own_lo (own_g j0 j2 j4 j12) j6 2)), .second, .val (.long (own_hi (own_g j0 j2 j4 j12) j8 2)), .second] [(.int (Int32.ofNat n))])) _
  refine XS.iconst X0.here hx rfl (hb hby at_129) ?_
  show Steps p.tables e below (T0.setTop (mkF m 130 #[.val (.long j0), .second, .val (.long j2), .second, .val (.long j4), .second, .val (.long j6), .second, .val (.long j8), .second, .val (.int i10), .val (.int (Int32.ofNat n)), .val (.long j12), .second, .val (.ref o14), .val (.ref o15), .val (.long (own_lo (own_g j0 j2 j4 j12) j6 2)), .second, .val (.long (own_hi (own_g j0 j2 j4 j12) j8 2)), .second] [(.int (2 : Int32)), (.int (Int32.ofNat n))])) _
  refine XS.icmpNo X0.here hx rfl (hb hby at_130) rfl (tlt hc130).2.2.2 ?_
  show Steps p.tables e below (T0.setTop (mkF m 133 #[.val (.long j0), .second, .val (.long j2), .second, .val (.long j4), .second, .val (.long j6), .second, .val (.long j8), .second, .val (.int i10), .val (.int (Int32.ofNat n)), .val (.long j12), .second, .val (.ref o14), .val (.ref o15), .val (.long (own_lo (own_g j0 j2 j4 j12) j6 2)), .second, .val (.long (own_hi (own_g j0 j2 j4 j12) j8 2)), .second] [])) _
  refine XS.lload X0.here hx rfl (hb hby at_133) rfl ?_
  show Steps p.tables e below (T0.setTop (mkF m 135 #[.val (.long j0), .second, .val (.long j2), .second, .val (.long j4), .second, .val (.long j6), .second, .val (.long j8), .second, .val (.int i10), .val (.int (Int32.ofNat n)), .val (.long j12), .second, .val (.ref o14), .val (.ref o15), .val (.long (own_lo (own_g j0 j2 j4 j12) j6 2)), .second, .val (.long (own_hi (own_g j0 j2 j4 j12) j8 2)), .second] [(.long (own_lo (own_g j0 j2 j4 j12) j6 2))])) _
  refine XS.lload X0.here hx rfl (hb hby at_135) rfl ?_
  show Steps p.tables e below (T0.setTop (mkF m 137 #[.val (.long j0), .second, .val (.long j2), .second, .val (.long j4), .second, .val (.long j6), .second, .val (.long j8), .second, .val (.int i10), .val (.int (Int32.ofNat n)), .val (.long j12), .second, .val (.ref o14), .val (.ref o15), .val (.long (own_lo (own_g j0 j2 j4 j12) j6 2)), .second, .val (.long (own_hi (own_g j0 j2 j4 j12) j8 2)), .second] [(.long j4), (.long (own_lo (own_g j0 j2 j4 j12) j6 2))])) _
  refine st7 _ ?_
  show Steps p.tables e below (T7.setTop (mkF m 140 #[.val (.long j0), .second, .val (.long j2), .second, .val (.long j4), .second, .val (.long j6), .second, .val (.long j8), .second, .val (.int i10), .val (.int (Int32.ofNat n)), .val (.long j12), .second, .val (.ref o14), .val (.ref o15), .val (.long (own_lo (own_g j0 j2 j4 j12) j6 2)), .second, .val (.long (own_hi (own_g j0 j2 j4 j12) j8 2)), .second] [(.long (own_mn (own_lo (own_g j0 j2 j4 j12) j6 2) j4))])) _
  refine XS.lstore X7.here hx rfl (hb hby at_140) rfl (l' := #[.val (.long j0), .second, .val (.long j2), .second, .val (.long j4), .second, .val (.long j6), .second, .val (.long j8), .second, .val (.int i10), .val (.int (Int32.ofNat n)), .val (.long j12), .second, .val (.ref o14), .val (.ref o15), .val (.long (own_mn (own_lo (own_g j0 j2 j4 j12) j6 2) j4)), .second, .val (.long (own_hi (own_g j0 j2 j4 j12) j8 2)), .second]) rfl ?_
  show Steps p.tables e below (T7.setTop (mkF m 142 #[.val (.long j0), .second, .val (.long j2), .second, .val (.long j4), .second, .val (.long j6), .second, .val (.long j8), .second, .val (.int i10), .val (.int (Int32.ofNat n)), .val (.long j12), .second, .val (.ref o14), .val (.ref o15), .val (.long (own_mn (own_lo (own_g j0 j2 j4 j12) j6 2) j4)), .second, .val (.long (own_hi (own_g j0 j2 j4 j12) j8 2)), .second] [])) _
  refine XS.lload X7.here hx rfl (hb hby at_142) rfl ?_
  show Steps p.tables e below (T7.setTop (mkF m 144 #[.val (.long j0), .second, .val (.long j2), .second, .val (.long j4), .second, .val (.long j6), .second, .val (.long j8), .second, .val (.int i10), .val (.int (Int32.ofNat n)), .val (.long j12), .second, .val (.ref o14), .val (.ref o15), .val (.long (own_mn (own_lo (own_g j0 j2 j4 j12) j6 2) j4)), .second, .val (.long (own_hi (own_g j0 j2 j4 j12) j8 2)), .second] [(.long (own_hi (own_g j0 j2 j4 j12) j8 2))])) _
  refine XS.lload X7.here hx rfl (hb hby at_144) rfl ?_
  show Steps p.tables e below (T7.setTop (mkF m 146 #[.val (.long j0), .second, .val (.long j2), .second, .val (.long j4), .second, .val (.long j6), .second, .val (.long j8), .second, .val (.int i10), .val (.int (Int32.ofNat n)), .val (.long j12), .second, .val (.ref o14), .val (.ref o15), .val (.long (own_mn (own_lo (own_g j0 j2 j4 j12) j6 2) j4)), .second, .val (.long (own_hi (own_g j0 j2 j4 j12) j8 2)), .second] [(.long j4), (.long (own_hi (own_g j0 j2 j4 j12) j8 2))])) _
  refine st8 _ ?_
  show Steps p.tables e below (T8.setTop (mkF m 149 #[.val (.long j0), .second, .val (.long j2), .second, .val (.long j4), .second, .val (.long j6), .second, .val (.long j8), .second, .val (.int i10), .val (.int (Int32.ofNat n)), .val (.long j12), .second, .val (.ref o14), .val (.ref o15), .val (.long (own_mn (own_lo (own_g j0 j2 j4 j12) j6 2) j4)), .second, .val (.long (own_hi (own_g j0 j2 j4 j12) j8 2)), .second] [(.long (own_mx (own_hi (own_g j0 j2 j4 j12) j8 2) j4))])) _
  refine XS.lstore X8.here hx rfl (hb hby at_149) rfl (l' := #[.val (.long j0), .second, .val (.long j2), .second, .val (.long j4), .second, .val (.long j6), .second, .val (.long j8), .second, .val (.int i10), .val (.int (Int32.ofNat n)), .val (.long j12), .second, .val (.ref o14), .val (.ref o15), .val (.long (own_mn (own_lo (own_g j0 j2 j4 j12) j6 2) j4)), .second, .val (.long (own_mx (own_hi (own_g j0 j2 j4 j12) j8 2) j4)), .second]) rfl ?_
  exact kt
set_option maxRecDepth 65536 in
set_option maxHeartbeats 40000000 in
theorem pcB2t {p : Program} {l : Launch} {e : Env} {s : State} {m : MethodId} {args : Array Value} {below : List Frame} {meth : Method} {c : Code} {T0 : State} {locs : List Loc} {Z : State} {a0 : Array Value} {h0 : Heap} (j0 j2 j4 j6 j8 : Int64) (i10 : Int32) (n : Nat) (hn : n ≤ 3) (j12 : Int64) (o14 o15 : Addr) (n0 : Nat)
    (X0 : Stand p l e room_1 s m args below meth c T0 locs 2 6) (hx : p.tables.exec = Jvm.exec) (hZ : Z.Warmed39 s.vm) (hw : ∀ d ∈ tables_1, d.before a0 Z = true) (hby : c.code = code) (hml : c.maxLocals = 20) (hown : s.vm.findClass "com/example/fairjoin/fairjoin/operator/DirectKeysRangePinLaw" = some m.cls) (e0 : T0.heap = h0) (N0 : Fr n0 locs) (Z0 : n0 ≤ h0.size) (hlt : ¬ 2 < n) :
    ∃ (T' : State) (locs' : List Loc), Stand p l e room_1 s m args below meth c T' locs' 2 6 ∧ T'.heap = h0 ∧ Fr n0 locs' ∧
      ∀ target, Steps p.tables e below (T'.setTop (mkF m 151 #[.val (.long j0), .second, .val (.long j2), .second, .val (.long j4), .second, .val (.long j6), .second, .val (.long j8), .second, .val (.int i10), .val (.int (Int32.ofNat n)), .val (.long j12), .second, .val (.ref o14), .val (.ref o15), .val (.long (own_lo (own_g j0 j2 j4 j12) j6 (min n 3))), .second, .val (.long (own_hi (own_g j0 j2 j4 j12) j8 (min n 3))), .second] [])) target → Steps p.tables e below (T0.setTop (mkF m 127 #[.val (.long j0), .second, .val (.long j2), .second, .val (.long j4), .second, .val (.long j6), .second, .val (.long j8), .second, .val (.int i10), .val (.int (Int32.ofNat n)), .val (.long j12), .second, .val (.ref o14), .val (.ref o15), .val (.long (own_lo (own_g j0 j2 j4 j12) j6 (min n 2))), .second, .val (.long (own_hi (own_g j0 j2 j4 j12) j8 (min n 2))), .second] [])) target := by
  have hc130 : ¬ ((2 : Int32) < Int32.ofNat n) := fun q => hlt ((own_ltn (i := 2) (by omega) (by omega)).mp q)
  rw [show min n 3 = min n 2 from by omega]
  refine ⟨T0, locs, X0, e0, N0, fun target kt => ?_⟩
  show Steps p.tables e below (T0.setTop (mkF m 127 #[.val (.long j0), .second, .val (.long j2), .second, .val (.long j4), .second, .val (.long j6), .second, .val (.long j8), .second, .val (.int i10), .val (.int (Int32.ofNat n)), .val (.long j12), .second, .val (.ref o14), .val (.ref o15), .val (.long (own_lo (own_g j0 j2 j4 j12) j6 (min n 2))), .second, .val (.long (own_hi (own_g j0 j2 j4 j12) j8 (min n 2))), .second] [])) _
  refine XS.iload X0.here hx rfl (hb hby at_127) rfl ?_
  show Steps p.tables e below (T0.setTop (mkF m 129 #[.val (.long j0), .second, .val (.long j2), .second, .val (.long j4), .second, .val (.long j6), .second, .val (.long j8), .second, .val (.int i10), .val (.int (Int32.ofNat n)), .val (.long j12), .second, .val (.ref o14), .val (.ref o15), .val (.long (own_lo (own_g j0 j2 j4 j12) j6 (min n 2))), .second, .val (.long (own_hi (own_g j0 j2 j4 j12) j8 (min n 2))), .second] [(.int (Int32.ofNat n))])) _
  refine XS.iconst X0.here hx rfl (hb hby at_129) ?_
  show Steps p.tables e below (T0.setTop (mkF m 130 #[.val (.long j0), .second, .val (.long j2), .second, .val (.long j4), .second, .val (.long j6), .second, .val (.long j8), .second, .val (.int i10), .val (.int (Int32.ofNat n)), .val (.long j12), .second, .val (.ref o14), .val (.ref o15), .val (.long (own_lo (own_g j0 j2 j4 j12) j6 (min n 2))), .second, .val (.long (own_hi (own_g j0 j2 j4 j12) j8 (min n 2))), .second] [(.int (2 : Int32)), (.int (Int32.ofNat n))])) _
  refine XS.icmpYes X0.here hx rfl (pc0 := 130) (pc' := 151) rfl (hb hby at_130) rfl (flt hc130).2.2.2 (by decide) (by decide) ?_
  exact kt
set_option maxRecDepth 65536 in
set_option maxHeartbeats 40000000 in
theorem pcB2 {p : Program} {l : Launch} {e : Env} {s : State} {m : MethodId} {args : Array Value} {below : List Frame} {meth : Method} {c : Code} {T0 : State} {locs : List Loc} {Z : State} {a0 : Array Value} {h0 : Heap} (j0 j2 j4 j6 j8 : Int64) (i10 : Int32) (n : Nat) (hn : n ≤ 3) (j12 : Int64) (o14 o15 : Addr) (n0 : Nat)
    (X0 : Stand p l e room_1 s m args below meth c T0 locs 2 6) (hx : p.tables.exec = Jvm.exec) (hZ : Z.Warmed39 s.vm) (hw : ∀ d ∈ tables_1, d.before a0 Z = true) (hby : c.code = code) (hml : c.maxLocals = 20) (hown : s.vm.findClass "com/example/fairjoin/fairjoin/operator/DirectKeysRangePinLaw" = some m.cls) (e0 : T0.heap = h0) (N0 : Fr n0 locs) (Z0 : n0 ≤ h0.size) :
    ∃ (T' : State) (locs' : List Loc), Stand p l e room_1 s m args below meth c T' locs' 2 6 ∧ T'.heap = h0 ∧ Fr n0 locs' ∧
      ∀ target, Steps p.tables e below (T'.setTop (mkF m 151 #[.val (.long j0), .second, .val (.long j2), .second, .val (.long j4), .second, .val (.long j6), .second, .val (.long j8), .second, .val (.int i10), .val (.int (Int32.ofNat n)), .val (.long j12), .second, .val (.ref o14), .val (.ref o15), .val (.long (own_lo (own_g j0 j2 j4 j12) j6 (min n 3))), .second, .val (.long (own_hi (own_g j0 j2 j4 j12) j8 (min n 3))), .second] [])) target → Steps p.tables e below (T0.setTop (mkF m 127 #[.val (.long j0), .second, .val (.long j2), .second, .val (.long j4), .second, .val (.long j6), .second, .val (.long j8), .second, .val (.int i10), .val (.int (Int32.ofNat n)), .val (.long j12), .second, .val (.ref o14), .val (.ref o15), .val (.long (own_lo (own_g j0 j2 j4 j12) j6 (min n 2))), .second, .val (.long (own_hi (own_g j0 j2 j4 j12) j8 (min n 2))), .second] [])) target := by
  by_cases hlt : 2 < n
  · exact pcB2f j0 j2 j4 j6 j8 i10 n hn j12 o14 o15 n0 X0 hx hZ hw hby hml hown e0 N0 Z0 hlt
  · exact pcB2t j0 j2 j4 j6 j8 i10 n hn j12 o14 o15 n0 X0 hx hZ hw hby hml hown e0 N0 Z0 hlt
set_option maxRecDepth 65536 in
set_option maxHeartbeats 40000000 in
theorem pcD {R : Room} {cells slots : Nat} {p : Program} {l : Launch} {e : Env} {s : State} {m : MethodId} {args : Array Value} {below : List Frame} {meth : Method} {c : Code} {T0 : State} {locs : List Loc} {Z : State} {a0 : Array Value} {h0 : Heap} (j0 j2 j4 j6 j8 : Int64) (i10 i11 : Int32) (j12 : Int64) (o14 o15 : Addr) (j16 j18 : Int64)
    (X0 : Stand p l e R s m args below meth c T0 locs cells slots) (hx : p.tables.exec = Jvm.exec) (hZ : Z.Warmed39 s.vm) (hw : ∀ d ∈ tables_1, d.before a0 Z = true) (hby : c.code = code) (hml : c.maxLocals = 20) (hown : s.vm.findClass "com/example/fairjoin/fairjoin/operator/DirectKeysRangePinLaw" = some m.cls) (e0 : T0.heap = h0) (RR : OwA Z h0 o15 .long 2 (own_rv j16 j18)) (VV : OwA Z h0 o14 .long 4 (own_gv j0 j2 j4 j12)) :
    ∃ (T' : State), Stand p l e R s m args below meth c T' locs cells slots ∧ T'.heap = h0 ∧
      ∀ target, Steps p.tables e below (T'.setTop (mkF m 209 #[.val (.long j0), .second, .val (.long j2), .second, .val (.long j4), .second, .val (.long j6), .second, .val (.long j8), .second, .val (.int i10), .val (.int i11), .val (.long j12), .second, .val (.ref o14), .val (.ref o15), .val (.long j16), .second, .val (.long j18), .second] [])) target → Steps p.tables e below (T0.setTop (mkF m 151 #[.val (.long j0), .second, .val (.long j2), .second, .val (.long j4), .second, .val (.long j6), .second, .val (.long j8), .second, .val (.int i10), .val (.int i11), .val (.long j12), .second, .val (.ref o14), .val (.ref o15), .val (.long j16), .second, .val (.long j18), .second] [])) target := by
  obtain ⟨cl_o15, Ar_o15, S_o15, H_o15⟩ := RR
  obtain ⟨cl_o14, Ar_o14, S_o14, H_o14⟩ := VV
  have hin154 : ¬ ((0 : Int32) < 0 ∨ cl_o15.slots.size ≤ ((0 : Int32)).toNatClampNeg) := owa_in S_o15 (by decide) (by decide)
  have hat154 : cl_o15.slots[((0 : Int32)).toNatClampNeg]? = some (.long j16) := H_o15 0 (by decide)
  have hin164 : ¬ ((1 : Int32) < 0 ∨ cl_o15.slots.size ≤ ((1 : Int32)).toNatClampNeg) := owa_in S_o15 (by decide) (by decide)
  have hat164 : cl_o15.slots[((1 : Int32)).toNatClampNeg]? = some (.long j18) := H_o15 1 (by decide)
  have hin174 : ¬ ((0 : Int32) < 0 ∨ cl_o14.slots.size ≤ ((0 : Int32)).toNatClampNeg) := owa_in S_o14 (by decide) (by decide)
  have hat174 : cl_o14.slots[((0 : Int32)).toNatClampNeg]? = some (.long j0) := H_o14 0 (by decide)
  have hin183 : ¬ ((1 : Int32) < 0 ∨ cl_o14.slots.size ≤ ((1 : Int32)).toNatClampNeg) := owa_in S_o14 (by decide) (by decide)
  have hat183 : cl_o14.slots[((1 : Int32)).toNatClampNeg]? = some (.long j2) := H_o14 1 (by decide)
  have hin192 : ¬ ((2 : Int32) < 0 ∨ cl_o14.slots.size ≤ ((2 : Int32)).toNatClampNeg) := owa_in S_o14 (by decide) (by decide)
  have hat192 : cl_o14.slots[((2 : Int32)).toNatClampNeg]? = some (.long j4) := H_o14 2 (by decide)
  have hin202 : ¬ ((3 : Int32) < 0 ∨ cl_o14.slots.size ≤ ((3 : Int32)).toNatClampNeg) := owa_in S_o14 (by decide) (by decide)
  have hat202 : cl_o14.slots[((3 : Int32)).toNatClampNeg]? = some (.long j12) := H_o14 3 (by decide)
  have hc158 : lcmpW j16 j16 = (0 : Int32) := own_lc j16
  have hc168 : lcmpW j18 j18 = (0 : Int32) := own_lc j18
  have hc177 : lcmpW j0 j0 = (0 : Int32) := own_lc j0
  have hc186 : lcmpW j2 j2 = (0 : Int32) := own_lc j2
  have hc196 : lcmpW j4 j4 = (0 : Int32) := own_lc j4
  have hc206 : lcmpW j12 j12 = (0 : Int32) := own_lc j12
  refine ⟨T0, X0, e0, fun target kt => ?_⟩
  show Steps p.tables e below (T0.setTop (mkF m 151 #[.val (.long j0), .second, .val (.long j2), .second, .val (.long j4), .second, .val (.long j6), .second, .val (.long j8), .second, .val (.int i10), .val (.int i11), .val (.long j12), .second, .val (.ref o14), .val (.ref o15), .val (.long j16), .second, .val (.long j18), .second] [])) _
  refine XS.aload X0.here hx rfl (hb hby at_151) rfl rfl ?_
  show Steps p.tables e below (T0.setTop (mkF m 153 #[.val (.long j0), .second, .val (.long j2), .second, .val (.long j4), .second, .val (.long j6), .second, .val (.long j8), .second, .val (.int i10), .val (.int i11), .val (.long j12), .second, .val (.ref o14), .val (.ref o15), .val (.long j16), .second, .val (.long j18), .second] [(.ref o15)])) _
  refine XS.iconst X0.here hx rfl (hb hby at_153) ?_
  show Steps p.tables e below (T0.setTop (mkF m 154 #[.val (.long j0), .second, .val (.long j2), .second, .val (.long j4), .second, .val (.long j6), .second, .val (.long j8), .second, .val (.int i10), .val (.int i11), .val (.long j12), .second, .val (.ref o14), .val (.ref o15), .val (.long j16), .second, .val (.long j18), .second] [(.int (0 : Int32)), (.ref o15)])) _
  refine X0.laload hx (j := (0 : Int32)) (v := (.long j16)) (by rw [e0]; exact Ar_o15.1) (State.isArrayOf_alike hZ.alike Ar_o15.2.1) Ar_o15.2.2 hin154 hat154 (g := (mkF m 154 #[.val (.long j0), .second, .val (.long j2), .second, .val (.long j4), .second, .val (.long j6), .second, .val (.long j8), .second, .val (.int i10), .val (.int i11), .val (.long j12), .second, .val (.ref o14), .val (.ref o15), .val (.long j16), .second, .val (.long j18), .second] [(.int (0 : Int32)), (.ref o15)])) rfl rfl (hb hby at_154) _ ?_
  show Steps p.tables e below (T0.setTop (mkF m 155 #[.val (.long j0), .second, .val (.long j2), .second, .val (.long j4), .second, .val (.long j6), .second, .val (.long j8), .second, .val (.int i10), .val (.int i11), .val (.long j12), .second, .val (.ref o14), .val (.ref o15), .val (.long j16), .second, .val (.long j18), .second] [(.long j16)])) _
  refine XS.lload X0.here hx rfl (hb hby at_155) rfl ?_
  show Steps p.tables e below (T0.setTop (mkF m 157 #[.val (.long j0), .second, .val (.long j2), .second, .val (.long j4), .second, .val (.long j6), .second, .val (.long j8), .second, .val (.int i10), .val (.int i11), .val (.long j12), .second, .val (.ref o14), .val (.ref o15), .val (.long j16), .second, .val (.long j18), .second] [(.long j16), (.long j16)])) _
  refine XS.lcmp X0.here hx rfl (hb hby at_157) rfl ?_
  show Steps p.tables e below (T0.setTop (mkF m 158 #[.val (.long j0), .second, .val (.long j2), .second, .val (.long j4), .second, .val (.long j6), .second, .val (.long j8), .second, .val (.int i10), .val (.int i11), .val (.long j12), .second, .val (.ref o14), .val (.ref o15), .val (.long j16), .second, .val (.long j18), .second] [(.int (lcmpW j16 j16))])) _
  refine XS.ifNo X0.here hx rfl (hb hby at_158) rfl ((if0 _ _).trans (teq hc158).2) ?_
  show Steps p.tables e below (T0.setTop (mkF m 161 #[.val (.long j0), .second, .val (.long j2), .second, .val (.long j4), .second, .val (.long j6), .second, .val (.long j8), .second, .val (.int i10), .val (.int i11), .val (.long j12), .second, .val (.ref o14), .val (.ref o15), .val (.long j16), .second, .val (.long j18), .second] [])) _
  refine XS.aload X0.here hx rfl (hb hby at_161) rfl rfl ?_
  show Steps p.tables e below (T0.setTop (mkF m 163 #[.val (.long j0), .second, .val (.long j2), .second, .val (.long j4), .second, .val (.long j6), .second, .val (.long j8), .second, .val (.int i10), .val (.int i11), .val (.long j12), .second, .val (.ref o14), .val (.ref o15), .val (.long j16), .second, .val (.long j18), .second] [(.ref o15)])) _
  refine XS.iconst X0.here hx rfl (hb hby at_163) ?_
  show Steps p.tables e below (T0.setTop (mkF m 164 #[.val (.long j0), .second, .val (.long j2), .second, .val (.long j4), .second, .val (.long j6), .second, .val (.long j8), .second, .val (.int i10), .val (.int i11), .val (.long j12), .second, .val (.ref o14), .val (.ref o15), .val (.long j16), .second, .val (.long j18), .second] [(.int (1 : Int32)), (.ref o15)])) _
  refine X0.laload hx (j := (1 : Int32)) (v := (.long j18)) (by rw [e0]; exact Ar_o15.1) (State.isArrayOf_alike hZ.alike Ar_o15.2.1) Ar_o15.2.2 hin164 hat164 (g := (mkF m 164 #[.val (.long j0), .second, .val (.long j2), .second, .val (.long j4), .second, .val (.long j6), .second, .val (.long j8), .second, .val (.int i10), .val (.int i11), .val (.long j12), .second, .val (.ref o14), .val (.ref o15), .val (.long j16), .second, .val (.long j18), .second] [(.int (1 : Int32)), (.ref o15)])) rfl rfl (hb hby at_164) _ ?_
  show Steps p.tables e below (T0.setTop (mkF m 165 #[.val (.long j0), .second, .val (.long j2), .second, .val (.long j4), .second, .val (.long j6), .second, .val (.long j8), .second, .val (.int i10), .val (.int i11), .val (.long j12), .second, .val (.ref o14), .val (.ref o15), .val (.long j16), .second, .val (.long j18), .second] [(.long j18)])) _
  refine XS.lload X0.here hx rfl (hb hby at_165) rfl ?_
  show Steps p.tables e below (T0.setTop (mkF m 167 #[.val (.long j0), .second, .val (.long j2), .second, .val (.long j4), .second, .val (.long j6), .second, .val (.long j8), .second, .val (.int i10), .val (.int i11), .val (.long j12), .second, .val (.ref o14), .val (.ref o15), .val (.long j16), .second, .val (.long j18), .second] [(.long j18), (.long j18)])) _
  refine XS.lcmp X0.here hx rfl (hb hby at_167) rfl ?_
  show Steps p.tables e below (T0.setTop (mkF m 168 #[.val (.long j0), .second, .val (.long j2), .second, .val (.long j4), .second, .val (.long j6), .second, .val (.long j8), .second, .val (.int i10), .val (.int i11), .val (.long j12), .second, .val (.ref o14), .val (.ref o15), .val (.long j16), .second, .val (.long j18), .second] [(.int (lcmpW j18 j18))])) _
  refine XS.ifNo X0.here hx rfl (hb hby at_168) rfl ((if0 _ _).trans (teq hc168).2) ?_
  show Steps p.tables e below (T0.setTop (mkF m 171 #[.val (.long j0), .second, .val (.long j2), .second, .val (.long j4), .second, .val (.long j6), .second, .val (.long j8), .second, .val (.int i10), .val (.int i11), .val (.long j12), .second, .val (.ref o14), .val (.ref o15), .val (.long j16), .second, .val (.long j18), .second] [])) _
  refine XS.aload X0.here hx rfl (hb hby at_171) rfl rfl ?_
  show Steps p.tables e below (T0.setTop (mkF m 173 #[.val (.long j0), .second, .val (.long j2), .second, .val (.long j4), .second, .val (.long j6), .second, .val (.long j8), .second, .val (.int i10), .val (.int i11), .val (.long j12), .second, .val (.ref o14), .val (.ref o15), .val (.long j16), .second, .val (.long j18), .second] [(.ref o14)])) _
  refine XS.iconst X0.here hx rfl (hb hby at_173) ?_
  show Steps p.tables e below (T0.setTop (mkF m 174 #[.val (.long j0), .second, .val (.long j2), .second, .val (.long j4), .second, .val (.long j6), .second, .val (.long j8), .second, .val (.int i10), .val (.int i11), .val (.long j12), .second, .val (.ref o14), .val (.ref o15), .val (.long j16), .second, .val (.long j18), .second] [(.int (0 : Int32)), (.ref o14)])) _
  refine X0.laload hx (j := (0 : Int32)) (v := (.long j0)) (by rw [e0]; exact Ar_o14.1) (State.isArrayOf_alike hZ.alike Ar_o14.2.1) Ar_o14.2.2 hin174 hat174 (g := (mkF m 174 #[.val (.long j0), .second, .val (.long j2), .second, .val (.long j4), .second, .val (.long j6), .second, .val (.long j8), .second, .val (.int i10), .val (.int i11), .val (.long j12), .second, .val (.ref o14), .val (.ref o15), .val (.long j16), .second, .val (.long j18), .second] [(.int (0 : Int32)), (.ref o14)])) rfl rfl (hb hby at_174) _ ?_
  show Steps p.tables e below (T0.setTop (mkF m 175 #[.val (.long j0), .second, .val (.long j2), .second, .val (.long j4), .second, .val (.long j6), .second, .val (.long j8), .second, .val (.int i10), .val (.int i11), .val (.long j12), .second, .val (.ref o14), .val (.ref o15), .val (.long j16), .second, .val (.long j18), .second] [(.long j0)])) _
  refine XS.lloadN X0.here hx rfl (hb hby at_175) rfl ?_
  show Steps p.tables e below (T0.setTop (mkF m 176 #[.val (.long j0), .second, .val (.long j2), .second, .val (.long j4), .second, .val (.long j6), .second, .val (.long j8), .second, .val (.int i10), .val (.int i11), .val (.long j12), .second, .val (.ref o14), .val (.ref o15), .val (.long j16), .second, .val (.long j18), .second] [(.long j0), (.long j0)])) _
  refine XS.lcmp X0.here hx rfl (hb hby at_176) rfl ?_
  show Steps p.tables e below (T0.setTop (mkF m 177 #[.val (.long j0), .second, .val (.long j2), .second, .val (.long j4), .second, .val (.long j6), .second, .val (.long j8), .second, .val (.int i10), .val (.int i11), .val (.long j12), .second, .val (.ref o14), .val (.ref o15), .val (.long j16), .second, .val (.long j18), .second] [(.int (lcmpW j0 j0))])) _
  refine XS.ifNo X0.here hx rfl (hb hby at_177) rfl ((if0 _ _).trans (teq hc177).2) ?_
  show Steps p.tables e below (T0.setTop (mkF m 180 #[.val (.long j0), .second, .val (.long j2), .second, .val (.long j4), .second, .val (.long j6), .second, .val (.long j8), .second, .val (.int i10), .val (.int i11), .val (.long j12), .second, .val (.ref o14), .val (.ref o15), .val (.long j16), .second, .val (.long j18), .second] [])) _
  refine XS.aload X0.here hx rfl (hb hby at_180) rfl rfl ?_
  show Steps p.tables e below (T0.setTop (mkF m 182 #[.val (.long j0), .second, .val (.long j2), .second, .val (.long j4), .second, .val (.long j6), .second, .val (.long j8), .second, .val (.int i10), .val (.int i11), .val (.long j12), .second, .val (.ref o14), .val (.ref o15), .val (.long j16), .second, .val (.long j18), .second] [(.ref o14)])) _
  refine XS.iconst X0.here hx rfl (hb hby at_182) ?_
  show Steps p.tables e below (T0.setTop (mkF m 183 #[.val (.long j0), .second, .val (.long j2), .second, .val (.long j4), .second, .val (.long j6), .second, .val (.long j8), .second, .val (.int i10), .val (.int i11), .val (.long j12), .second, .val (.ref o14), .val (.ref o15), .val (.long j16), .second, .val (.long j18), .second] [(.int (1 : Int32)), (.ref o14)])) _
  refine X0.laload hx (j := (1 : Int32)) (v := (.long j2)) (by rw [e0]; exact Ar_o14.1) (State.isArrayOf_alike hZ.alike Ar_o14.2.1) Ar_o14.2.2 hin183 hat183 (g := (mkF m 183 #[.val (.long j0), .second, .val (.long j2), .second, .val (.long j4), .second, .val (.long j6), .second, .val (.long j8), .second, .val (.int i10), .val (.int i11), .val (.long j12), .second, .val (.ref o14), .val (.ref o15), .val (.long j16), .second, .val (.long j18), .second] [(.int (1 : Int32)), (.ref o14)])) rfl rfl (hb hby at_183) _ ?_
  show Steps p.tables e below (T0.setTop (mkF m 184 #[.val (.long j0), .second, .val (.long j2), .second, .val (.long j4), .second, .val (.long j6), .second, .val (.long j8), .second, .val (.int i10), .val (.int i11), .val (.long j12), .second, .val (.ref o14), .val (.ref o15), .val (.long j16), .second, .val (.long j18), .second] [(.long j2)])) _
  refine XS.lloadN X0.here hx rfl (hb hby at_184) rfl ?_
  show Steps p.tables e below (T0.setTop (mkF m 185 #[.val (.long j0), .second, .val (.long j2), .second, .val (.long j4), .second, .val (.long j6), .second, .val (.long j8), .second, .val (.int i10), .val (.int i11), .val (.long j12), .second, .val (.ref o14), .val (.ref o15), .val (.long j16), .second, .val (.long j18), .second] [(.long j2), (.long j2)])) _
  refine XS.lcmp X0.here hx rfl (hb hby at_185) rfl ?_
  show Steps p.tables e below (T0.setTop (mkF m 186 #[.val (.long j0), .second, .val (.long j2), .second, .val (.long j4), .second, .val (.long j6), .second, .val (.long j8), .second, .val (.int i10), .val (.int i11), .val (.long j12), .second, .val (.ref o14), .val (.ref o15), .val (.long j16), .second, .val (.long j18), .second] [(.int (lcmpW j2 j2))])) _
  refine XS.ifNo X0.here hx rfl (hb hby at_186) rfl ((if0 _ _).trans (teq hc186).2) ?_
  show Steps p.tables e below (T0.setTop (mkF m 189 #[.val (.long j0), .second, .val (.long j2), .second, .val (.long j4), .second, .val (.long j6), .second, .val (.long j8), .second, .val (.int i10), .val (.int i11), .val (.long j12), .second, .val (.ref o14), .val (.ref o15), .val (.long j16), .second, .val (.long j18), .second] [])) _
  refine XS.aload X0.here hx rfl (hb hby at_189) rfl rfl ?_
  show Steps p.tables e below (T0.setTop (mkF m 191 #[.val (.long j0), .second, .val (.long j2), .second, .val (.long j4), .second, .val (.long j6), .second, .val (.long j8), .second, .val (.int i10), .val (.int i11), .val (.long j12), .second, .val (.ref o14), .val (.ref o15), .val (.long j16), .second, .val (.long j18), .second] [(.ref o14)])) _
  refine XS.iconst X0.here hx rfl (hb hby at_191) ?_
  show Steps p.tables e below (T0.setTop (mkF m 192 #[.val (.long j0), .second, .val (.long j2), .second, .val (.long j4), .second, .val (.long j6), .second, .val (.long j8), .second, .val (.int i10), .val (.int i11), .val (.long j12), .second, .val (.ref o14), .val (.ref o15), .val (.long j16), .second, .val (.long j18), .second] [(.int (2 : Int32)), (.ref o14)])) _
  refine X0.laload hx (j := (2 : Int32)) (v := (.long j4)) (by rw [e0]; exact Ar_o14.1) (State.isArrayOf_alike hZ.alike Ar_o14.2.1) Ar_o14.2.2 hin192 hat192 (g := (mkF m 192 #[.val (.long j0), .second, .val (.long j2), .second, .val (.long j4), .second, .val (.long j6), .second, .val (.long j8), .second, .val (.int i10), .val (.int i11), .val (.long j12), .second, .val (.ref o14), .val (.ref o15), .val (.long j16), .second, .val (.long j18), .second] [(.int (2 : Int32)), (.ref o14)])) rfl rfl (hb hby at_192) _ ?_
  show Steps p.tables e below (T0.setTop (mkF m 193 #[.val (.long j0), .second, .val (.long j2), .second, .val (.long j4), .second, .val (.long j6), .second, .val (.long j8), .second, .val (.int i10), .val (.int i11), .val (.long j12), .second, .val (.ref o14), .val (.ref o15), .val (.long j16), .second, .val (.long j18), .second] [(.long j4)])) _
  refine XS.lload X0.here hx rfl (hb hby at_193) rfl ?_
  show Steps p.tables e below (T0.setTop (mkF m 195 #[.val (.long j0), .second, .val (.long j2), .second, .val (.long j4), .second, .val (.long j6), .second, .val (.long j8), .second, .val (.int i10), .val (.int i11), .val (.long j12), .second, .val (.ref o14), .val (.ref o15), .val (.long j16), .second, .val (.long j18), .second] [(.long j4), (.long j4)])) _
  refine XS.lcmp X0.here hx rfl (hb hby at_195) rfl ?_
  show Steps p.tables e below (T0.setTop (mkF m 196 #[.val (.long j0), .second, .val (.long j2), .second, .val (.long j4), .second, .val (.long j6), .second, .val (.long j8), .second, .val (.int i10), .val (.int i11), .val (.long j12), .second, .val (.ref o14), .val (.ref o15), .val (.long j16), .second, .val (.long j18), .second] [(.int (lcmpW j4 j4))])) _
  refine XS.ifNo X0.here hx rfl (hb hby at_196) rfl ((if0 _ _).trans (teq hc196).2) ?_
  show Steps p.tables e below (T0.setTop (mkF m 199 #[.val (.long j0), .second, .val (.long j2), .second, .val (.long j4), .second, .val (.long j6), .second, .val (.long j8), .second, .val (.int i10), .val (.int i11), .val (.long j12), .second, .val (.ref o14), .val (.ref o15), .val (.long j16), .second, .val (.long j18), .second] [])) _
  refine XS.aload X0.here hx rfl (hb hby at_199) rfl rfl ?_
  show Steps p.tables e below (T0.setTop (mkF m 201 #[.val (.long j0), .second, .val (.long j2), .second, .val (.long j4), .second, .val (.long j6), .second, .val (.long j8), .second, .val (.int i10), .val (.int i11), .val (.long j12), .second, .val (.ref o14), .val (.ref o15), .val (.long j16), .second, .val (.long j18), .second] [(.ref o14)])) _
  refine XS.iconst X0.here hx rfl (hb hby at_201) ?_
  show Steps p.tables e below (T0.setTop (mkF m 202 #[.val (.long j0), .second, .val (.long j2), .second, .val (.long j4), .second, .val (.long j6), .second, .val (.long j8), .second, .val (.int i10), .val (.int i11), .val (.long j12), .second, .val (.ref o14), .val (.ref o15), .val (.long j16), .second, .val (.long j18), .second] [(.int (3 : Int32)), (.ref o14)])) _
  refine X0.laload hx (j := (3 : Int32)) (v := (.long j12)) (by rw [e0]; exact Ar_o14.1) (State.isArrayOf_alike hZ.alike Ar_o14.2.1) Ar_o14.2.2 hin202 hat202 (g := (mkF m 202 #[.val (.long j0), .second, .val (.long j2), .second, .val (.long j4), .second, .val (.long j6), .second, .val (.long j8), .second, .val (.int i10), .val (.int i11), .val (.long j12), .second, .val (.ref o14), .val (.ref o15), .val (.long j16), .second, .val (.long j18), .second] [(.int (3 : Int32)), (.ref o14)])) rfl rfl (hb hby at_202) _ ?_
  show Steps p.tables e below (T0.setTop (mkF m 203 #[.val (.long j0), .second, .val (.long j2), .second, .val (.long j4), .second, .val (.long j6), .second, .val (.long j8), .second, .val (.int i10), .val (.int i11), .val (.long j12), .second, .val (.ref o14), .val (.ref o15), .val (.long j16), .second, .val (.long j18), .second] [(.long j12)])) _
  refine XS.lload X0.here hx rfl (hb hby at_203) rfl ?_
  show Steps p.tables e below (T0.setTop (mkF m 205 #[.val (.long j0), .second, .val (.long j2), .second, .val (.long j4), .second, .val (.long j6), .second, .val (.long j8), .second, .val (.int i10), .val (.int i11), .val (.long j12), .second, .val (.ref o14), .val (.ref o15), .val (.long j16), .second, .val (.long j18), .second] [(.long j12), (.long j12)])) _
  refine XS.lcmp X0.here hx rfl (hb hby at_205) rfl ?_
  show Steps p.tables e below (T0.setTop (mkF m 206 #[.val (.long j0), .second, .val (.long j2), .second, .val (.long j4), .second, .val (.long j6), .second, .val (.long j8), .second, .val (.int i10), .val (.int i11), .val (.long j12), .second, .val (.ref o14), .val (.ref o15), .val (.long j16), .second, .val (.long j18), .second] [(.int (lcmpW j12 j12))])) _
  refine XS.ifNo X0.here hx rfl (hb hby at_206) rfl ((if0 _ _).trans (teq hc206).2) ?_
  exact kt
def Q0 (Z : State) (q1 q2 q3 q4 q5 : Int64) (p6 : Int32) (h0 : Heap) (n0 : Nat) (v : Option Value) (h : Heap) (L : List Loc) : Prop := v = some (.int (1 : Int32)) ∧ Fr n0 L
set_option maxRecDepth 65536 in
set_option maxHeartbeats 40000000 in
theorem rm0n (l : Launch) (Z : State) (a0 : Array Value) (hw : ∀ d ∈ tables_1, d.before a0 Z = true) (ws : List Jvm.Cond) (q1 : Int64) (q2 : Int64) (q3 : Int64) (q4 : Int64) (q5 : Int64) (p6 : Int32) (h0 : Heap) (n0 : Nat) (Z0 : n0 ≤ h0.size) (n : Nat) (hn : n ≤ 3) (en : (p6 &&& (3 : Int32)) = Int32.ofNat n) :
    MetFree l x (head1 (Jvm.Cond.code x code maxLocals ret :: ws) room_1) (fun a U => a = #[(.long q1), (.long q2), (.long q3), (.long q4), (.long q5), (.int p6)] ∧ Z.Warmed39 U.vm ∧ U.heap = h0) (fun _ _ _ _ _ => True) (fun _ U o U' => ∃ v L, o = .returned v ∧ Q0 Z q1 q2 q3 q4 q5 p6 h0 n0 v U'.heap L ∧ FrameEnd U o U' L room_1.cells room_1.slots) := by
  refine MetFree.of_bodySF (plainFor_of_name pn_0) hisR ?_
  intro p e s m args below meth c s₁ Bd hml0 hP hK
  obtain ⟨rfl, hZ, hh⟩ := hP
  have hx := Bd.exec
  have hby := Bd.bytes
  have hml : c.maxLocals = 20 := hml0
  have hown : s.vm.findClass "com/example/fairjoin/fairjoin/operator/DirectKeysRangePinLaw" = some m.cls := findClass_of_methodNamed Bd.named
  have hnm := (name_of_methodNamed Bd.named Bd.method).1
  have X0 : Stand p l e room_1 s m #[(.long q1), (.long q2), (.long q3), (.long q4), (.long q5), (.int p6)] below meth c s₁ [] 0 0 := Stand.of_body Bd
  have e0 : s₁.heap = h0 := by rw [← hh, Bd.state]; rfl
  have N0 := Fr.nil n0
  have pre0 : ∀ t, Steps p.tables e below (s₁.setTop (mkF m 0 #[.val (.long q1), .second, .val (.long q2), .second, .val (.long q3), .second, .val (.long q4), .second, .val (.long q5), .second, .val (.int p6), .unset, .unset, .unset, .unset, .unset, .unset, .unset, .unset, .unset] [])) t → Steps p.tables e below (s₁.setTop (entryFrame m #[(.long q1), (.long q2), (.long q3), (.long q4), (.long q5), (.int p6)] maxLocals)) t := fun t k => castTop (ef_0 m q1 q2 q3 q4 q5 p6) k
  obtain ⟨TA, XA, eA, stA⟩ := pcA q1 q2 q3 q4 q5 p6 (Int32.ofNat n) X0 hx hZ hw hby hml hown e0
  obtain ⟨T7, h7, k7, X7, e7, E7, A7, st7⟩ := newP XA hx hZ (hw _ (List.mem_of_getElem? (i := 1) rfl)) eA (g := (mkF m 27 #[.val (.long q1), .second, .val (.long q2), .second, .val (.long q3), .second, .val (.long q4), .second, .val (.long q5), .second, .val (.int p6), .val (.int (Int32.ofNat n)), .val (.long (own_bey p6)), .second, .unset, .unset, .unset, .unset, .unset, .unset] [(.int (4 : Int32))])) rfl (hb hby at_27) rfl (by decide) (cap := 4) (by decide) (by decide) (by decide) (by decide)
  obtain ⟨b7, g7⟩ : ∃ z, z = h0.size := ⟨_, rfl⟩
  rw [← g7] at A7 st7
  have V_b7 : Arv Z h7 b7 k7 .long (4 : Int32) [(.long (0 : Int64)), (.long (0 : Int64)), (.long (0 : Int64)), (.long (0 : Int64))] (.long (0 : Int64)) := (Arv.new A7 (by decide)).pad (pad_rep [] (.long (0 : Int64)) 4)
  have g_b7 : n0 ≤ b7 := Nat.le_trans Z0 (Nat.le_of_eq g7.symm)
  have sz_b7 : h0.size ≤ b7 := (Nat.le_trans (Keep.refl h0 []).1 (Nat.le_of_eq g7.symm))
  have K7 : Keep h0 h7 [] := (Keep.refl h0 []).ext E7
  obtain ⟨cl_b7_32, Ar_b7, q_b7, S_b7, N_b7, H_b7, G_b7⟩ := V_b7
  have hin32 : ¬ ((0 : Int32) < 0 ∨ cl_b7_32.slots.size ≤ ((0 : Int32)).toNatClampNeg) := inb_of S_b7 ⟨by decide, by decide⟩
  obtain ⟨T8, h8, X8, e8, W8, st8⟩ := stJ X7 hx hZ e7 Ar_b7 (j := (0 : Int32)) hin32 (g := (mkF m 32 #[.val (.long q1), .second, .val (.long q2), .second, .val (.long q3), .second, .val (.long q4), .second, .val (.long q5), .second, .val (.int p6), .val (.int (Int32.ofNat n)), .val (.long (own_bey p6)), .second, .unset, .unset, .unset, .unset, .unset, .unset] [(.long q1), (.int (0 : Int32)), (.ref b7), (.ref b7)])) rfl rfl (hb hby at_32)
  have V_b7_8 := Arv.set Ar_b7 q_b7 S_b7 N_b7 H_b7 G_b7 rfl W8 0 rfl (Nat.le_of_ble_eq_true rfl)
  have K8 : Keep h0 h8 [] := K7.wr W8 (Or.inr sz_b7)
  have N8 := Fr.snoc X8 N0 g_b7
  obtain ⟨cl_b7_36, Ar_b7, q_b7, S_b7, N_b7, H_b7, G_b7⟩ := V_b7_8
  have hin36 : ¬ ((1 : Int32) < 0 ∨ cl_b7_36.slots.size ≤ ((1 : Int32)).toNatClampNeg) := inb_of S_b7 ⟨by decide, by decide⟩
  obtain ⟨T9, h9, X9, e9, W9, st9⟩ := stJ X8 hx hZ e8 Ar_b7 (j := (1 : Int32)) hin36 (g := (mkF m 36 #[.val (.long q1), .second, .val (.long q2), .second, .val (.long q3), .second, .val (.long q4), .second, .val (.long q5), .second, .val (.int p6), .val (.int (Int32.ofNat n)), .val (.long (own_bey p6)), .second, .unset, .unset, .unset, .unset, .unset, .unset] [(.long q2), (.int (1 : Int32)), (.ref b7), (.ref b7)])) rfl rfl (hb hby at_36)
  have V_b7_9 := Arv.set Ar_b7 q_b7 S_b7 N_b7 H_b7 G_b7 rfl W9 1 rfl (Nat.le_of_ble_eq_true rfl)
  have K9 : Keep h0 h9 [] := K8.wr W9 (Or.inr sz_b7)
  have N9 := Fr.snoc X9 N8 g_b7
  obtain ⟨cl_b7_41, Ar_b7, q_b7, S_b7, N_b7, H_b7, G_b7⟩ := V_b7_9
  have hin41 : ¬ ((2 : Int32) < 0 ∨ cl_b7_41.slots.size ≤ ((2 : Int32)).toNatClampNeg) := inb_of S_b7 ⟨by decide, by decide⟩
  obtain ⟨T10, h10, X10, e10, W10, st10⟩ := stJ X9 hx hZ e9 Ar_b7 (j := (2 : Int32)) hin41 (g := (mkF m 41 #[.val (.long q1), .second, .val (.long q2), .second, .val (.long q3), .second, .val (.long q4), .second, .val (.long q5), .second, .val (.int p6), .val (.int (Int32.ofNat n)), .val (.long (own_bey p6)), .second, .unset, .unset, .unset, .unset, .unset, .unset] [(.long q3), (.int (2 : Int32)), (.ref b7), (.ref b7)])) rfl rfl (hb hby at_41)
  have V_b7_10 := Arv.set Ar_b7 q_b7 S_b7 N_b7 H_b7 G_b7 rfl W10 2 rfl (Nat.le_of_ble_eq_true rfl)
  have K10 : Keep h0 h10 [] := K9.wr W10 (Or.inr sz_b7)
  have N10 := Fr.snoc X10 N9 g_b7
  obtain ⟨cl_b7_46, Ar_b7, q_b7, S_b7, N_b7, H_b7, G_b7⟩ := V_b7_10
  have hin46 : ¬ ((3 : Int32) < 0 ∨ cl_b7_46.slots.size ≤ ((3 : Int32)).toNatClampNeg) := inb_of S_b7 ⟨by decide, by decide⟩
  obtain ⟨T11, h11, X11, e11, W11, st11⟩ := stJ X10 hx hZ e10 Ar_b7 (j := (3 : Int32)) hin46 (g := (mkF m 46 #[.val (.long q1), .second, .val (.long q2), .second, .val (.long q3), .second, .val (.long q4), .second, .val (.long q5), .second, .val (.int p6), .val (.int (Int32.ofNat n)), .val (.long (own_bey p6)), .second, .unset, .unset, .unset, .unset, .unset, .unset] [(.long (own_bey p6)), (.int (3 : Int32)), (.ref b7), (.ref b7)])) rfl rfl (hb hby at_46)
  have V_b7_11 := Arv.set Ar_b7 q_b7 S_b7 N_b7 H_b7 G_b7 rfl W11 3 rfl (Nat.le_of_ble_eq_true rfl)
  have K11 : Keep h0 h11 [] := K10.wr W11 (Or.inr sz_b7)
  have N11 := Fr.snoc X11 N10 g_b7
  have V11 : OwA Z h11 b7 .long 4 (fun j => .long (own_g q1 q2 q3 (own_bey p6) j)) := by
    obtain ⟨cl_b7, Ar_b7, q_b7, S_b7, N_b7, H_b7, G_b7⟩ := V_b7_11
    refine ⟨cl_b7, Ar_b7, S_b7, fun j hj => ?_⟩
    rw [H_b7 j (by rw [S_b7]; exact hj)]
    have hc : j = 0 ∨ j = 1 ∨ j = 2 ∨ j = 3 := by omega
    rcases hc with rfl | rfl | rfl | rfl <;> rfl
  obtain ⟨_, _, ⟨T12, L12, k12, n12⟩, -, X12, ⟨Lc12, hQ12, l12, y12, z12⟩, st12⟩ := Jvm.LawKit.callS X11 hx (y := (⟨"com/example/fairjoin/fairjoin/operator/DirectKeys", "range", "([JIJJ)[J"⟩ : MethodName)) hown (mvT hZ (hw _ (List.mem_of_getElem? (i := 2) rfl))) (mvT hZ (hw _ (List.mem_of_getElem? (i := 3) rfl))) (mvT hZ (hw _ (List.mem_of_getElem? (i := 4) rfl))) (mvT hZ (hw _ (List.mem_of_getElem? (i := 5) rfl))) (by decide) (backOf (W := 0) (rm1 l Z a0 hw [] b7 n (own_g q1 q2 q3 (own_bey p6)) q4 q5 h11 n0 (Nat.le_trans Z0 K11.1) hn V11) hZ (hw _ (List.mem_of_getElem? (i := 5) rfl)) (hw _ (List.mem_of_getElem? (i := 4) rfl)) (by decide) (by decide)) (g := (mkF m 57 #[.val (.long q1), .second, .val (.long q2), .second, .val (.long q3), .second, .val (.long q4), .second, .val (.long q5), .second, .val (.int p6), .val (.int (Int32.ofNat n)), .val (.long (own_bey p6)), .second, .val (.ref b7), .unset, .unset, .unset, .unset, .unset] [(.long q5), (.long q4), (.int (Int32.ofNat n)), (.ref b7)])) rfl (by rw [hml]; rfl) (argsL := [(.ref b7), (.int (Int32.ofNat n)), (.long q4), (.long q5)]) (rest := []) (lenOf pd_0_0 rfl) rfl (by show 2 * 0 + _ ≤ _; exact Nat.le_of_eq rfl) (hb hby at_57) (fun _ _ => ⟨rfl, e11, (by decide : 1 + 1 ≤ _), (by decide : 4 + 2 ≤ _)⟩)
  dsimp only [Pt.U, Pt.locs, Pt.cells, Pt.slots] at X12 l12 y12 z12 st12 hQ12
  subst l12 y12 z12
  obtain ⟨r12, rfl, N12q, K12q, R12, f12⟩ := hQ12
  have N12 := Fr.app N11 N12q
  have Z12 : n0 ≤ T12.heap.size := Nat.le_trans (Nat.le_trans Z0 K11.1) K12q.1
  have V12 : OwA Z T12.heap b7 .long 4 (own_gv q1 q2 q3 (own_bey p6)) := owa_keep V11 K12q (by simp)
  obtain ⟨cl_r12, Ar_r12, Sn_r12, H_r12⟩ := R12
  have S_r12 : cl_r12.slots.size = ((2 : Int32)).toNatClampNeg := Sn_r12
  have N_r12 : ¬ (2 : Int32) < 0 := by decide
  obtain ⟨TB, LB, XB, eB, NB, stB⟩ := pcB0 q1 q2 q3 q4 q5 p6 n hn (own_bey p6) b7 r12 n0 X12 hx hZ hw hby hml hown rfl N12 Z12
  obtain ⟨TC, LC, XC, eC, NC, stC⟩ := pcB1 q1 q2 q3 q4 q5 p6 n hn (own_bey p6) b7 r12 n0 XB hx hZ hw hby hml hown eB NB Z12
  obtain ⟨TD, LD, XD, eD, ND, stD⟩ := pcB2 q1 q2 q3 q4 q5 p6 n hn (own_bey p6) b7 r12 n0 XC hx hZ hw hby hml hown eC NC Z12
  rw [show min n (2 + 1) = n from by omega] at stD
  rw [show min n 0 = 0 from Nat.min_zero n] at stB
  obtain ⟨TE, XE, eE, stE⟩ := pcD q1 q2 q3 q4 q5 p6 (Int32.ofNat n) (own_bey p6) b7 r12 (own_lo (own_g q1 q2 q3 (own_bey p6)) q4 n) (own_hi (own_g q1 q2 q3 (own_bey p6)) q5 n) XD hx hZ hw hby hml hown eD ⟨cl_r12, Ar_r12, Sn_r12, H_r12⟩ V12
  obtain ⟨fs, hr, hrun, hended, hW, hsame⟩ := XE.leave (v := some (.int (1 : Int32))) (fun h => by rw [Bd.returns] at h; cases h)
  refine ⟨_, _, pre0 _ ?_, hrun, hended, _, _, rfl, ?_, ⟨_, rfl⟩, hW, hsame.mono (by decide) (by decide)⟩
  · show Steps p.tables e below (s₁.setTop (mkF m 0 #[.val (.long q1), .second, .val (.long q2), .second, .val (.long q3), .second, .val (.long q4), .second, .val (.long q5), .second, .val (.int p6), .unset, .unset, .unset, .unset, .unset, .unset, .unset, .unset, .unset] [])) _
    refine XS.iload X0.here hx rfl (hb hby at_0) rfl ?_
    show Steps p.tables e below (s₁.setTop (mkF m 2 #[.val (.long q1), .second, .val (.long q2), .second, .val (.long q3), .second, .val (.long q4), .second, .val (.long q5), .second, .val (.int p6), .unset, .unset, .unset, .unset, .unset, .unset, .unset, .unset, .unset] [(.int p6)])) _
    refine XS.iconst X0.here hx rfl (hb hby at_2) ?_
    show Steps p.tables e below (s₁.setTop (mkF m 3 #[.val (.long q1), .second, .val (.long q2), .second, .val (.long q3), .second, .val (.long q4), .second, .val (.long q5), .second, .val (.int p6), .unset, .unset, .unset, .unset, .unset, .unset, .unset, .unset, .unset] [(.int (3 : Int32)), (.int p6)])) _
    refine XS.iand X0.here hx rfl (hb hby at_3) rfl ?_
    rw [en]
    show Steps p.tables e below (s₁.setTop (mkF m 4 #[.val (.long q1), .second, .val (.long q2), .second, .val (.long q3), .second, .val (.long q4), .second, .val (.long q5), .second, .val (.int p6), .unset, .unset, .unset, .unset, .unset, .unset, .unset, .unset, .unset] [(.int (Int32.ofNat n))])) _
    refine XS.istore X0.here hx rfl (hb hby at_4) rfl (l' := #[.val (.long q1), .second, .val (.long q2), .second, .val (.long q3), .second, .val (.long q4), .second, .val (.long q5), .second, .val (.int p6), .val (.int (Int32.ofNat n)), .unset, .unset, .unset, .unset, .unset, .unset, .unset, .unset]) rfl ?_
    show Steps p.tables e below (s₁.setTop (mkF m 6 #[.val (.long q1), .second, .val (.long q2), .second, .val (.long q3), .second, .val (.long q4), .second, .val (.long q5), .second, .val (.int p6), .val (.int (Int32.ofNat n)), .unset, .unset, .unset, .unset, .unset, .unset, .unset, .unset] [])) _
    refine stA _ ?_
    show Steps p.tables e below (TA.setTop (mkF m 26 #[.val (.long q1), .second, .val (.long q2), .second, .val (.long q3), .second, .val (.long q4), .second, .val (.long q5), .second, .val (.int p6), .val (.int (Int32.ofNat n)), .val (.long (own_bey p6)), .second, .unset, .unset, .unset, .unset, .unset, .unset] [])) _
    refine XS.iconst XA.here hx rfl (hb hby at_26) ?_
    show Steps p.tables e below (TA.setTop (mkF m 27 #[.val (.long q1), .second, .val (.long q2), .second, .val (.long q3), .second, .val (.long q4), .second, .val (.long q5), .second, .val (.int p6), .val (.int (Int32.ofNat n)), .val (.long (own_bey p6)), .second, .unset, .unset, .unset, .unset, .unset, .unset] [(.int (4 : Int32))])) _
    refine st7 _ ?_
    show Steps p.tables e below (T7.setTop (mkF m 29 #[.val (.long q1), .second, .val (.long q2), .second, .val (.long q3), .second, .val (.long q4), .second, .val (.long q5), .second, .val (.int p6), .val (.int (Int32.ofNat n)), .val (.long (own_bey p6)), .second, .unset, .unset, .unset, .unset, .unset, .unset] [(.ref b7)])) _
    refine XS.dup X7.here hx rfl (hb hby at_29) rfl rfl ?_
    show Steps p.tables e below (T7.setTop (mkF m 30 #[.val (.long q1), .second, .val (.long q2), .second, .val (.long q3), .second, .val (.long q4), .second, .val (.long q5), .second, .val (.int p6), .val (.int (Int32.ofNat n)), .val (.long (own_bey p6)), .second, .unset, .unset, .unset, .unset, .unset, .unset] [(.ref b7), (.ref b7)])) _
    refine XS.iconst X7.here hx rfl (hb hby at_30) ?_
    show Steps p.tables e below (T7.setTop (mkF m 31 #[.val (.long q1), .second, .val (.long q2), .second, .val (.long q3), .second, .val (.long q4), .second, .val (.long q5), .second, .val (.int p6), .val (.int (Int32.ofNat n)), .val (.long (own_bey p6)), .second, .unset, .unset, .unset, .unset, .unset, .unset] [(.int (0 : Int32)), (.ref b7), (.ref b7)])) _
    refine XS.lloadN X7.here hx rfl (hb hby at_31) rfl ?_
    show Steps p.tables e below (T7.setTop (mkF m 32 #[.val (.long q1), .second, .val (.long q2), .second, .val (.long q3), .second, .val (.long q4), .second, .val (.long q5), .second, .val (.int p6), .val (.int (Int32.ofNat n)), .val (.long (own_bey p6)), .second, .unset, .unset, .unset, .unset, .unset, .unset] [(.long q1), (.int (0 : Int32)), (.ref b7), (.ref b7)])) _
    refine st8 _ ?_
    show Steps p.tables e below (T8.setTop (mkF m 33 #[.val (.long q1), .second, .val (.long q2), .second, .val (.long q3), .second, .val (.long q4), .second, .val (.long q5), .second, .val (.int p6), .val (.int (Int32.ofNat n)), .val (.long (own_bey p6)), .second, .unset, .unset, .unset, .unset, .unset, .unset] [(.ref b7)])) _
    refine XS.dup X8.here hx rfl (hb hby at_33) rfl rfl ?_
    show Steps p.tables e below (T8.setTop (mkF m 34 #[.val (.long q1), .second, .val (.long q2), .second, .val (.long q3), .second, .val (.long q4), .second, .val (.long q5), .second, .val (.int p6), .val (.int (Int32.ofNat n)), .val (.long (own_bey p6)), .second, .unset, .unset, .unset, .unset, .unset, .unset] [(.ref b7), (.ref b7)])) _
    refine XS.iconst X8.here hx rfl (hb hby at_34) ?_
    show Steps p.tables e below (T8.setTop (mkF m 35 #[.val (.long q1), .second, .val (.long q2), .second, .val (.long q3), .second, .val (.long q4), .second, .val (.long q5), .second, .val (.int p6), .val (.int (Int32.ofNat n)), .val (.long (own_bey p6)), .second, .unset, .unset, .unset, .unset, .unset, .unset] [(.int (1 : Int32)), (.ref b7), (.ref b7)])) _
    refine XS.lloadN X8.here hx rfl (hb hby at_35) rfl ?_
    show Steps p.tables e below (T8.setTop (mkF m 36 #[.val (.long q1), .second, .val (.long q2), .second, .val (.long q3), .second, .val (.long q4), .second, .val (.long q5), .second, .val (.int p6), .val (.int (Int32.ofNat n)), .val (.long (own_bey p6)), .second, .unset, .unset, .unset, .unset, .unset, .unset] [(.long q2), (.int (1 : Int32)), (.ref b7), (.ref b7)])) _
    refine st9 _ ?_
    show Steps p.tables e below (T9.setTop (mkF m 37 #[.val (.long q1), .second, .val (.long q2), .second, .val (.long q3), .second, .val (.long q4), .second, .val (.long q5), .second, .val (.int p6), .val (.int (Int32.ofNat n)), .val (.long (own_bey p6)), .second, .unset, .unset, .unset, .unset, .unset, .unset] [(.ref b7)])) _
    refine XS.dup X9.here hx rfl (hb hby at_37) rfl rfl ?_
    show Steps p.tables e below (T9.setTop (mkF m 38 #[.val (.long q1), .second, .val (.long q2), .second, .val (.long q3), .second, .val (.long q4), .second, .val (.long q5), .second, .val (.int p6), .val (.int (Int32.ofNat n)), .val (.long (own_bey p6)), .second, .unset, .unset, .unset, .unset, .unset, .unset] [(.ref b7), (.ref b7)])) _
    refine XS.iconst X9.here hx rfl (hb hby at_38) ?_
    show Steps p.tables e below (T9.setTop (mkF m 39 #[.val (.long q1), .second, .val (.long q2), .second, .val (.long q3), .second, .val (.long q4), .second, .val (.long q5), .second, .val (.int p6), .val (.int (Int32.ofNat n)), .val (.long (own_bey p6)), .second, .unset, .unset, .unset, .unset, .unset, .unset] [(.int (2 : Int32)), (.ref b7), (.ref b7)])) _
    refine XS.lload X9.here hx rfl (hb hby at_39) rfl ?_
    show Steps p.tables e below (T9.setTop (mkF m 41 #[.val (.long q1), .second, .val (.long q2), .second, .val (.long q3), .second, .val (.long q4), .second, .val (.long q5), .second, .val (.int p6), .val (.int (Int32.ofNat n)), .val (.long (own_bey p6)), .second, .unset, .unset, .unset, .unset, .unset, .unset] [(.long q3), (.int (2 : Int32)), (.ref b7), (.ref b7)])) _
    refine st10 _ ?_
    show Steps p.tables e below (T10.setTop (mkF m 42 #[.val (.long q1), .second, .val (.long q2), .second, .val (.long q3), .second, .val (.long q4), .second, .val (.long q5), .second, .val (.int p6), .val (.int (Int32.ofNat n)), .val (.long (own_bey p6)), .second, .unset, .unset, .unset, .unset, .unset, .unset] [(.ref b7)])) _
    refine XS.dup X10.here hx rfl (hb hby at_42) rfl rfl ?_
    show Steps p.tables e below (T10.setTop (mkF m 43 #[.val (.long q1), .second, .val (.long q2), .second, .val (.long q3), .second, .val (.long q4), .second, .val (.long q5), .second, .val (.int p6), .val (.int (Int32.ofNat n)), .val (.long (own_bey p6)), .second, .unset, .unset, .unset, .unset, .unset, .unset] [(.ref b7), (.ref b7)])) _
    refine XS.iconst X10.here hx rfl (hb hby at_43) ?_
    show Steps p.tables e below (T10.setTop (mkF m 44 #[.val (.long q1), .second, .val (.long q2), .second, .val (.long q3), .second, .val (.long q4), .second, .val (.long q5), .second, .val (.int p6), .val (.int (Int32.ofNat n)), .val (.long (own_bey p6)), .second, .unset, .unset, .unset, .unset, .unset, .unset] [(.int (3 : Int32)), (.ref b7), (.ref b7)])) _
    refine XS.lload X10.here hx rfl (hb hby at_44) rfl ?_
    show Steps p.tables e below (T10.setTop (mkF m 46 #[.val (.long q1), .second, .val (.long q2), .second, .val (.long q3), .second, .val (.long q4), .second, .val (.long q5), .second, .val (.int p6), .val (.int (Int32.ofNat n)), .val (.long (own_bey p6)), .second, .unset, .unset, .unset, .unset, .unset, .unset] [(.long (own_bey p6)), (.int (3 : Int32)), (.ref b7), (.ref b7)])) _
    refine st11 _ ?_
    show Steps p.tables e below (T11.setTop (mkF m 47 #[.val (.long q1), .second, .val (.long q2), .second, .val (.long q3), .second, .val (.long q4), .second, .val (.long q5), .second, .val (.int p6), .val (.int (Int32.ofNat n)), .val (.long (own_bey p6)), .second, .unset, .unset, .unset, .unset, .unset, .unset] [(.ref b7)])) _
    refine XS.astore X11.here hx rfl (hb hby at_47) rfl rfl (l' := #[.val (.long q1), .second, .val (.long q2), .second, .val (.long q3), .second, .val (.long q4), .second, .val (.long q5), .second, .val (.int p6), .val (.int (Int32.ofNat n)), .val (.long (own_bey p6)), .second, .val (.ref b7), .unset, .unset, .unset, .unset, .unset]) rfl ?_
    show Steps p.tables e below (T11.setTop (mkF m 49 #[.val (.long q1), .second, .val (.long q2), .second, .val (.long q3), .second, .val (.long q4), .second, .val (.long q5), .second, .val (.int p6), .val (.int (Int32.ofNat n)), .val (.long (own_bey p6)), .second, .val (.ref b7), .unset, .unset, .unset, .unset, .unset] [])) _
    refine XS.aload X11.here hx rfl (hb hby at_49) rfl rfl ?_
    show Steps p.tables e below (T11.setTop (mkF m 51 #[.val (.long q1), .second, .val (.long q2), .second, .val (.long q3), .second, .val (.long q4), .second, .val (.long q5), .second, .val (.int p6), .val (.int (Int32.ofNat n)), .val (.long (own_bey p6)), .second, .val (.ref b7), .unset, .unset, .unset, .unset, .unset] [(.ref b7)])) _
    refine XS.iload X11.here hx rfl (hb hby at_51) rfl ?_
    show Steps p.tables e below (T11.setTop (mkF m 53 #[.val (.long q1), .second, .val (.long q2), .second, .val (.long q3), .second, .val (.long q4), .second, .val (.long q5), .second, .val (.int p6), .val (.int (Int32.ofNat n)), .val (.long (own_bey p6)), .second, .val (.ref b7), .unset, .unset, .unset, .unset, .unset] [(.int (Int32.ofNat n)), (.ref b7)])) _
    refine XS.lload X11.here hx rfl (hb hby at_53) rfl ?_
    show Steps p.tables e below (T11.setTop (mkF m 55 #[.val (.long q1), .second, .val (.long q2), .second, .val (.long q3), .second, .val (.long q4), .second, .val (.long q5), .second, .val (.int p6), .val (.int (Int32.ofNat n)), .val (.long (own_bey p6)), .second, .val (.ref b7), .unset, .unset, .unset, .unset, .unset] [(.long q4), (.int (Int32.ofNat n)), (.ref b7)])) _
    refine XS.lload X11.here hx rfl (hb hby at_55) rfl ?_
    show Steps p.tables e below (T11.setTop (mkF m 57 #[.val (.long q1), .second, .val (.long q2), .second, .val (.long q3), .second, .val (.long q4), .second, .val (.long q5), .second, .val (.int p6), .val (.int (Int32.ofNat n)), .val (.long (own_bey p6)), .second, .val (.ref b7), .unset, .unset, .unset, .unset, .unset] [(.long q5), (.long q4), (.int (Int32.ofNat n)), (.ref b7)])) _
    refine st12 _ ?_
    show Steps p.tables e below (T12.setTop (mkF m 60 #[.val (.long q1), .second, .val (.long q2), .second, .val (.long q3), .second, .val (.long q4), .second, .val (.long q5), .second, .val (.int p6), .val (.int (Int32.ofNat n)), .val (.long (own_bey p6)), .second, .val (.ref b7), .unset, .unset, .unset, .unset, .unset] [(.ref r12)])) _
    refine XS.astore X12.here hx rfl (hb hby at_60) rfl rfl (l' := #[.val (.long q1), .second, .val (.long q2), .second, .val (.long q3), .second, .val (.long q4), .second, .val (.long q5), .second, .val (.int p6), .val (.int (Int32.ofNat n)), .val (.long (own_bey p6)), .second, .val (.ref b7), .val (.ref r12), .unset, .unset, .unset, .unset]) rfl ?_
    show Steps p.tables e below (T12.setTop (mkF m 62 #[.val (.long q1), .second, .val (.long q2), .second, .val (.long q3), .second, .val (.long q4), .second, .val (.long q5), .second, .val (.int p6), .val (.int (Int32.ofNat n)), .val (.long (own_bey p6)), .second, .val (.ref b7), .val (.ref r12), .unset, .unset, .unset, .unset] [])) _
    refine XS.aload X12.here hx rfl (hb hby at_62) rfl rfl ?_
    show Steps p.tables e below (T12.setTop (mkF m 64 #[.val (.long q1), .second, .val (.long q2), .second, .val (.long q3), .second, .val (.long q4), .second, .val (.long q5), .second, .val (.int p6), .val (.int (Int32.ofNat n)), .val (.long (own_bey p6)), .second, .val (.ref b7), .val (.ref r12), .unset, .unset, .unset, .unset] [(.ref r12)])) _
    refine XS.ifnullNo X12.here hx rfl (hb hby at_64) rfl ?_
    show Steps p.tables e below (T12.setTop (mkF m 67 #[.val (.long q1), .second, .val (.long q2), .second, .val (.long q3), .second, .val (.long q4), .second, .val (.long q5), .second, .val (.int p6), .val (.int (Int32.ofNat n)), .val (.long (own_bey p6)), .second, .val (.ref b7), .val (.ref r12), .unset, .unset, .unset, .unset] [])) _
    refine XS.aload X12.here hx rfl (hb hby at_67) rfl rfl ?_
    show Steps p.tables e below (T12.setTop (mkF m 69 #[.val (.long q1), .second, .val (.long q2), .second, .val (.long q3), .second, .val (.long q4), .second, .val (.long q5), .second, .val (.int p6), .val (.int (Int32.ofNat n)), .val (.long (own_bey p6)), .second, .val (.ref b7), .val (.ref r12), .unset, .unset, .unset, .unset] [(.ref r12)])) _
    refine X12.arraylength hx (by exact Ar_r12.1) (State.isArrayOf_alike hZ.alike Ar_r12.2.1) (g := (mkF m 69 #[.val (.long q1), .second, .val (.long q2), .second, .val (.long q3), .second, .val (.long q4), .second, .val (.long q5), .second, .val (.int p6), .val (.int (Int32.ofNat n)), .val (.long (own_bey p6)), .second, .val (.ref b7), .val (.ref r12), .unset, .unset, .unset, .unset] [(.ref r12)])) rfl rfl (hb hby at_69) _ ?_
    rw [len_of S_r12 N_r12]
    show Steps p.tables e below (T12.setTop (mkF m 70 #[.val (.long q1), .second, .val (.long q2), .second, .val (.long q3), .second, .val (.long q4), .second, .val (.long q5), .second, .val (.int p6), .val (.int (Int32.ofNat n)), .val (.long (own_bey p6)), .second, .val (.ref b7), .val (.ref r12), .unset, .unset, .unset, .unset] [(.int (2 : Int32))])) _
    refine XS.iconst X12.here hx rfl (hb hby at_70) ?_
    show Steps p.tables e below (T12.setTop (mkF m 71 #[.val (.long q1), .second, .val (.long q2), .second, .val (.long q3), .second, .val (.long q4), .second, .val (.long q5), .second, .val (.int p6), .val (.int (Int32.ofNat n)), .val (.long (own_bey p6)), .second, .val (.ref b7), .val (.ref r12), .unset, .unset, .unset, .unset] [(.int (2 : Int32)), (.int (2 : Int32))])) _
    refine XS.icmpYes X12.here hx rfl (pc0 := 71) (pc' := 76) rfl (hb hby at_71) rfl (teq (rfl : (2 : Int32) = (2 : Int32))).1 (by decide) (by decide) ?_
    show Steps p.tables e below (T12.setTop (mkF m 76 #[.val (.long q1), .second, .val (.long q2), .second, .val (.long q3), .second, .val (.long q4), .second, .val (.long q5), .second, .val (.int p6), .val (.int (Int32.ofNat n)), .val (.long (own_bey p6)), .second, .val (.ref b7), .val (.ref r12), .unset, .unset, .unset, .unset] [])) _
    refine XS.lload X12.here hx rfl (hb hby at_76) rfl ?_
    show Steps p.tables e below (T12.setTop (mkF m 78 #[.val (.long q1), .second, .val (.long q2), .second, .val (.long q3), .second, .val (.long q4), .second, .val (.long q5), .second, .val (.int p6), .val (.int (Int32.ofNat n)), .val (.long (own_bey p6)), .second, .val (.ref b7), .val (.ref r12), .unset, .unset, .unset, .unset] [(.long q4)])) _
    refine XS.lstore X12.here hx rfl (hb hby at_78) rfl (l' := #[.val (.long q1), .second, .val (.long q2), .second, .val (.long q3), .second, .val (.long q4), .second, .val (.long q5), .second, .val (.int p6), .val (.int (Int32.ofNat n)), .val (.long (own_bey p6)), .second, .val (.ref b7), .val (.ref r12), .val (.long q4), .second, .unset, .unset]) rfl ?_
    show Steps p.tables e below (T12.setTop (mkF m 80 #[.val (.long q1), .second, .val (.long q2), .second, .val (.long q3), .second, .val (.long q4), .second, .val (.long q5), .second, .val (.int p6), .val (.int (Int32.ofNat n)), .val (.long (own_bey p6)), .second, .val (.ref b7), .val (.ref r12), .val (.long q4), .second, .unset, .unset] [])) _
    refine XS.lload X12.here hx rfl (hb hby at_80) rfl ?_
    show Steps p.tables e below (T12.setTop (mkF m 82 #[.val (.long q1), .second, .val (.long q2), .second, .val (.long q3), .second, .val (.long q4), .second, .val (.long q5), .second, .val (.int p6), .val (.int (Int32.ofNat n)), .val (.long (own_bey p6)), .second, .val (.ref b7), .val (.ref r12), .val (.long q4), .second, .unset, .unset] [(.long q5)])) _
    refine XS.lstore X12.here hx rfl (hb hby at_82) rfl (l' := #[.val (.long q1), .second, .val (.long q2), .second, .val (.long q3), .second, .val (.long q4), .second, .val (.long q5), .second, .val (.int p6), .val (.int (Int32.ofNat n)), .val (.long (own_bey p6)), .second, .val (.ref b7), .val (.ref r12), .val (.long q4), .second, .val (.long q5), .second]) rfl ?_
    show Steps p.tables e below (T12.setTop (mkF m 84 #[.val (.long q1), .second, .val (.long q2), .second, .val (.long q3), .second, .val (.long q4), .second, .val (.long q5), .second, .val (.int p6), .val (.int (Int32.ofNat n)), .val (.long (own_bey p6)), .second, .val (.ref b7), .val (.ref r12), .val (.long q4), .second, .val (.long q5), .second] [])) _
    refine stB _ ?_
    refine stC _ ?_
    refine stD _ ?_
    refine stE _ ?_
    show Steps p.tables e below (TE.setTop (mkF m 209 #[.val (.long q1), .second, .val (.long q2), .second, .val (.long q3), .second, .val (.long q4), .second, .val (.long q5), .second, .val (.int p6), .val (.int (Int32.ofNat n)), .val (.long (own_bey p6)), .second, .val (.ref b7), .val (.ref r12), .val (.long (own_lo (own_g q1 q2 q3 (own_bey p6)) q4 n)), .second, .val (.long (own_hi (own_g q1 q2 q3 (own_bey p6)) q5 n)), .second] [])) _
    refine XS.iconst XE.here hx rfl (hb hby at_209) ?_
    show Steps p.tables e below (TE.setTop (mkF m 210 #[.val (.long q1), .second, .val (.long q2), .second, .val (.long q3), .second, .val (.long q4), .second, .val (.long q5), .second, .val (.int p6), .val (.int (Int32.ofNat n)), .val (.long (own_bey p6)), .second, .val (.ref b7), .val (.ref r12), .val (.long (own_lo (own_g q1 q2 q3 (own_bey p6)) q4 n)), .second, .val (.long (own_hi (own_g q1 q2 q3 (own_bey p6)) q5 n)), .second] [(.int (1 : Int32))])) _
    refine XS.goto XE.here hx rfl (pc0 := 210) (pc' := 214) rfl (hb hby at_210) (by decide) (by decide) ?_
    show Steps p.tables e below (TE.setTop (mkF m 214 #[.val (.long q1), .second, .val (.long q2), .second, .val (.long q3), .second, .val (.long q4), .second, .val (.long q5), .second, .val (.int p6), .val (.int (Int32.ofNat n)), .val (.long (own_bey p6)), .second, .val (.ref b7), .val (.ref r12), .val (.long (own_lo (own_g q1 q2 q3 (own_bey p6)) q4 n)), .second, .val (.long (own_hi (own_g q1 q2 q3 (own_bey p6)) q5 n)), .second] [(.int (1 : Int32))])) _
    exact retN XE hx (t := .boolean) Bd.returns (by simp) (hb hby at_214) hr
  · show Q0 Z q1 q2 q3 q4 q5 p6 h0 n0 _ TE.heap _
    exact ⟨rfl, ND⟩
set_option maxRecDepth 65536 in
set_option maxHeartbeats 40000000 in
theorem rm0 (l : Launch) (Z : State) (a0 : Array Value) (hw : ∀ d ∈ tables_1, d.before a0 Z = true) (ws : List Jvm.Cond) (q1 : Int64) (q2 : Int64) (q3 : Int64) (q4 : Int64) (q5 : Int64) (p6 : Int32) (h0 : Heap) (n0 : Nat) (Z0 : n0 ≤ h0.size) :
    MetFree l x (head1 (Jvm.Cond.code x code maxLocals ret :: ws) room_1) (fun a U => a = #[(.long q1), (.long q2), (.long q3), (.long q4), (.long q5), (.int p6)] ∧ Z.Warmed39 U.vm ∧ U.heap = h0) (fun _ _ _ _ _ => True) (fun _ U o U' => ∃ v L, o = .returned v ∧ Q0 Z q1 q2 q3 q4 q5 p6 h0 n0 v U'.heap L ∧ FrameEnd U o U' L room_1.cells room_1.slots) := by
  obtain ⟨n, hn, en⟩ := own_cnt p6
  exact rm0n l Z a0 hw ws q1 q2 q3 q4 q5 p6 h0 n0 Z0 n hn en
set_option maxRecDepth 65536 in
set_option maxHeartbeats 40000000 in
theorem comes_1 {Post : Tables → Env → Array Value → State → Outcome → State → Prop} (hpost : ∀ tb e args s v u, (limb_1_1.after args s (.returned v) u = true ∧ limb_1_2.after args s (.returned v) u = true ∧ True) → FrameEnd s (.returned v) u (Jvm.fieldLocs frame_1_writes args s ++ Jvm.arrayLocs frame_1_arrays args s ++ Jvm.staticLocs frame_1_statics s) 16 128 → Post tb e args s (.returned v) u) :
    ArmFor flags0 classFile x code maxLocals ret World_1 tables_1 room_1 Calls_1 rest_1 Pre_1 Post := by
  intro l hfl _ _ p e ha hc hk s m args below hf hA hF happ hP
  obtain ⟨hcalls, hrest, hpre⟩ := hP
  obtain ⟨-, -, -, hnamed, -, -, -, hat⟩ := (Spec.applies_iff hf).mp happ
  obtain ⟨hg, hn⟩ := and_e (Cond.before_iff.mp (show (Jvm.Cond.and given_1 narrow_1).before args s = true from hpre))
  obtain ⟨g19, g20⟩ := and_e hg
  obtain ⟨g21, g22⟩ := and_e g20
  obtain ⟨g23, g24⟩ := and_e g22
  obtain ⟨g25, g26⟩ := and_e g24
  obtain ⟨g27, g28⟩ := and_e g26
  obtain ⟨g29, g30⟩ := and_e g28
  obtain ⟨w0, w1, w2, w3, w4, w5, rfl⟩ : ∃ w0 w1 w2 w3 w4 w5 : Value, args = #[w0, w1, w2, w3, w4, w5] := by
    have hs : args.size = 6 := by simpa [Cond.value, given_1] using g19
    obtain ⟨L⟩ := args
    match L, hs with
    | [w0, w1, w2, w3, w4, w5], _ => exact ⟨w0, w1, w2, w3, w4, w5, rfl⟩
  have hw := fun d (hd : d ∈ tables_1) => atoms_spec (ws := Jvm.Cond.code x code maxLocals ret :: tables_1) hat d (List.mem_cons_of_mem _ hd)
  have hfit : Fit s := fun {y c} hc i hi => by
    obtain ⟨ha, rfl⟩ := Array.getElem?_eq_some_iff.mp hc
    have q := List.all_eq_true.mp ((Array.all_eq_true_iff_forall_mem.mp hF) _ (Array.getElem_mem ha)) i (List.mem_range.mpr hi)
    simpa [Array.getElem?_eq_getElem hi] using q
  obtain ⟨i0, ei0⟩ := isL_v g21
  obtain rfl : w0 = (.long i0) := Option.some.inj ei0
  obtain ⟨i1, ei1⟩ := isL_v g23
  obtain rfl : w1 = (.long i1) := Option.some.inj ei1
  obtain ⟨i2, ei2⟩ := isL_v g25
  obtain rfl : w2 = (.long i2) := Option.some.inj ei2
  obtain ⟨i3, ei3⟩ := isL_v g27
  obtain rfl : w3 = (.long i3) := Option.some.inj ei3
  obtain ⟨i4, ei4⟩ := isL_v g29
  obtain rfl : w4 = (.long i4) := Option.some.inj ei4
  obtain ⟨i5, ei5⟩ := is_v g30
  obtain rfl : w5 = (.int i5) := Option.some.inj ei5
  obtain ⟨n, o, h1, h2, h3, _, L, rfl, ⟨rfl, N⟩, hq⟩ := rm0 l s _ hw tables_1 i0 i1 i2 i3 i4 i5 s.heap s.heap.size (Nat.le_refl _) p e ha hc hk s m _ below hf ((Spec.applies_iff_loose hf).mp happ).1 ⟨rfl, State.Warmed39.refl s, rfl⟩ trivial
  refine ⟨n, _, h1, h2, h3, hpost _ _ _ _ _ _ ⟨Cond.after_iff.mpr rfl, Cond.after_iff.mpr (eq_i res_at (Term.int_eval (1)) rfl), trivial⟩ ⟨hq.1, hq.2.1, (hq.2.2.sift fun y hy => Or.inr (N y hy)).mono (by decide) (by decide)⟩⟩
theorem main_1_1 : Claimed_1_1 := comes_1 fun _ _ _ _ _ _ h hF => ⟨h.1, hF⟩
theorem main_1_2 : Claimed_1_2 := comes_1 fun _ _ _ _ _ _ h hF => ⟨h.2.1, hF⟩
end Jvm.Pilot.@@N@@
namespace Jvm.Pilot.@@N@@
open Jvm Jvm.ClassFile Sem Op Lib Jvm.Free Jvm.Stand Jvm.Pilot.@@N@@.Jvm.D
/-! MADE BY PROGRAM (witnessworld.py) out of the Statement's table words and the real class files: 12 classes; the members and pool entries that the words name. The judged class is class 1, her method 1. -/
namespace start1
open Jvm.ClassFile
def u (s : String) : CpInfo := .utf8 (stringToUtf16 s)
/-- a pool by its gaps: so many unusable entries, then the entry; so many at the end -/
def gap : Nat → List CpInfo → List CpInfo
  | 0, r => r
  | n + 1, r => .unusable :: gap n r
def poolList (es : List (Nat × CpInfo)) (last : Nat) : List CpInfo := es.foldr (fun e r => gap e.1 (e.2 :: r)) (gap last [])
def pool (es : List (Nat × CpInfo)) (last : Nat) : Array CpInfo := ⟨poolList es last⟩
def fileOf (pool : Array CpInfo) (this : Nat) (attrs : Array Attribute := #[]) (ms : Array MethodInfo := #[]) (fl : Nat := 33) (sup : Nat := 0) (ifs : Array Nat := #[]) (fds : Array FieldInfo := #[]) : ClassFile where
  minorVersion := 0
  majorVersion := 65
  constantPool := pool
  accessFlags := fl
  thisClass := this
  superClass := sup
  interfaces := ifs
  fields := fds
  methods := ms
  attributes := attrs
def plain (name : String) (sup : Option ClassId) : Class where
  name := name
  kind := .ordinary
  loader := none
  accessFlags := 33
  super := sup
  interfaces := #[]
  cf := none
  fields := #[]
  methods := #[]
  instanceTypes := #[]
  staticTypes := #[]
  resolved := #[]
  callSites := []
  init := .initialized
  statics := none
  mirror := none

def pool0 : Array CpInfo := pool [(5, u "<init>"), (0, u "()V"), (1, .class_ 10), (1, u "java/lang/Object")] 113

def k0m0 : Method := { name := "<init>", desc := "()V", sig := { parameters := [], returnType := none }, accessFlags := 1, code := none }
/-- java/lang/Object -/
def k0 : Class := { plain "java/lang/Object" none with
  accessFlags := 33
  interfaces := #[]
  cf := some (fileOf pool0 8 #[] #[{ accessFlags := 1, nameIndex := 5, descriptorIndex := 6, attributes := #[] }] 33 0 #[] #[])
  fields := #[]
  methods := #[k0m0]
  instanceTypes := #[]
  staticTypes := #[]
  resolved := Array.replicate 124 none
  statics := none }

def pool1 : Array CpInfo := pool [(2, .class_ 4), (1, u "java/lang/Object"), (0, u "<init>"), (0, u "()V"), (2, .long 9223372036854775808), (1, .long 9223372036854775807), (1, .methodref 14 15), (0, .class_ 16), (0, .nameAndType 17 18), (0, u "com/example/fairjoin/fairjoin/operator/DirectKeys"), (0, u "range"), (0, u "([JIJJ)[J"), (0, .methodref 20 21), (0, .class_ 22), (0, .nameAndType 23 24), (0, u "java/lang/Math"), (0, u "min"), (0, u "(JJ)J"), (0, .methodref 20 26), (0, .nameAndType 27 24), (0, u "max"), (0, .class_ 29), (0, u "com/example/fairjoin/fairjoin/operator/DirectKeysRangePinLaw"), (2, u "law"), (0, u "(JJJJJI)Z")] 5

def k1m0 : Method := { name := "<init>", desc := "()V", sig := { parameters := [], returnType := none }, accessFlags := 1, code := none }
def k1c1 : Code := { maxStack := 6, maxLocals := 20, code := code, exceptionTable := #[], attributes := #[] }
def k1m1 : Method := { name := "law", desc := "(JJJJJI)Z", sig := { parameters := [.long, .long, .long, .long, .long, .int], returnType := some .boolean }, accessFlags := 9, code := some k1c1 }
/-- com/example/fairjoin/fairjoin/operator/DirectKeysRangePinLaw -/
def k1 : Class := { plain "com/example/fairjoin/fairjoin/operator/DirectKeysRangePinLaw" (some 0) with
  accessFlags := 49
  interfaces := #[]
  cf := some (fileOf pool1 28 #[] #[{ accessFlags := 1, nameIndex := 5, descriptorIndex := 6, attributes := #[] }, { accessFlags := 9, nameIndex := 32, descriptorIndex := 33, attributes := #[] }] 49 2 #[] #[])
  fields := #[]
  methods := #[k1m0, k1m1]
  instanceTypes := #[]
  staticTypes := #[]
  resolved := Array.replicate 39 none
  statics := none }

def pool2 : Array CpInfo := pool [(4, .class_ 6), (1, u "java/lang/Object"), (7, .class_ 16), (1, u "com/example/fairjoin/fairjoin/operator/DirectKeys"), (0, u "leastFirst"), (0, u "J"), (4, u "greatestFirst"), (2, u "leastSecond"), (2, u "greatestSecond"), (2, u "secondSpan"), (2, u "numbers"), (0, u "[I"), (2, u "width"), (0, u "I"), (2, u "firstBase"), (2, u "firstSpan"), (2, u "byFirst"), (0, u "Z"), (2, u "seconds"), (0, u "[J"), (2, u "secondBase"), (34, u "range"), (0, u "([JIJJ)[J"), (6, u "SPREAD"), (2, u "LIMIT")] 25

def k2c0 : Code := { maxStack := 5, maxLocals := 9, code := prog_151_method_15_code, exceptionTable := #[], attributes := #[] }
def k2m0 : Method := { name := "range", desc := "([JIJJ)[J", sig := { parameters := [(.array .long), .int, .long, .long], returnType := some (.array .long) }, accessFlags := 8, code := some k2c0 }
/-- com/example/fairjoin/fairjoin/operator/DirectKeys -/
def k2 : Class := { plain "com/example/fairjoin/fairjoin/operator/DirectKeys" (some 0) with
  accessFlags := 48
  interfaces := #[]
  cf := some (fileOf pool2 14 #[] #[{ accessFlags := 8, nameIndex := 92, descriptorIndex := 93, attributes := #[] }] 48 4 #[] #[{ accessFlags := 26, nameIndex := 100, descriptorIndex := 40, attributes := #[] }, { accessFlags := 24, nameIndex := 103, descriptorIndex := 18, attributes := #[] }, { accessFlags := 18, nameIndex := 39, descriptorIndex := 40, attributes := #[] }, { accessFlags := 2, nameIndex := 17, descriptorIndex := 18, attributes := #[] }, { accessFlags := 2, nameIndex := 23, descriptorIndex := 18, attributes := #[] }, { accessFlags := 2, nameIndex := 26, descriptorIndex := 18, attributes := #[] }, { accessFlags := 2, nameIndex := 29, descriptorIndex := 18, attributes := #[] }, { accessFlags := 2, nameIndex := 43, descriptorIndex := 18, attributes := #[] }, { accessFlags := 2, nameIndex := 46, descriptorIndex := 18, attributes := #[] }, { accessFlags := 2, nameIndex := 57, descriptorIndex := 18, attributes := #[] }, { accessFlags := 2, nameIndex := 32, descriptorIndex := 18, attributes := #[] }, { accessFlags := 2, nameIndex := 35, descriptorIndex := 36, attributes := #[] }, { accessFlags := 2, nameIndex := 49, descriptorIndex := 50, attributes := #[] }, { accessFlags := 2, nameIndex := 53, descriptorIndex := 54, attributes := #[] }])
  fields := #[{ name := "SPREAD", type := .int, accessFlags := 26, slot := 0, constantValue := 0 }, { name := "LIMIT", type := .long, accessFlags := 24, slot := 1, constantValue := 0 }, { name := "width", type := .int, accessFlags := 18, slot := 0, constantValue := 0 }, { name := "leastFirst", type := .long, accessFlags := 2, slot := 1, constantValue := 0 }, { name := "greatestFirst", type := .long, accessFlags := 2, slot := 2, constantValue := 0 }, { name := "leastSecond", type := .long, accessFlags := 2, slot := 3, constantValue := 0 }, { name := "greatestSecond", type := .long, accessFlags := 2, slot := 4, constantValue := 0 }, { name := "firstBase", type := .long, accessFlags := 2, slot := 5, constantValue := 0 }, { name := "firstSpan", type := .long, accessFlags := 2, slot := 6, constantValue := 0 }, { name := "secondBase", type := .long, accessFlags := 2, slot := 7, constantValue := 0 }, { name := "secondSpan", type := .long, accessFlags := 2, slot := 8, constantValue := 0 }, { name := "numbers", type := (.array .int), accessFlags := 2, slot := 9, constantValue := 0 }, { name := "byFirst", type := .boolean, accessFlags := 2, slot := 10, constantValue := 0 }, { name := "seconds", type := (.array .long), accessFlags := 2, slot := 11, constantValue := 0 }]
  methods := #[k2m0]
  instanceTypes := #[.int, .long, .long, .long, .long, .long, .long, .long, .long, (.array .int), .boolean, (.array .long)]
  staticTypes := #[.int, .long]
  resolved := Array.replicate 129 none
  statics := none }

def pool3 : Array CpInfo := pool [(1, .class_ 2), (0, u "java/lang/Math"), (1, .class_ 6), (1, u "java/lang/Object"), (0, u "<init>"), (0, u "()V"), (89, .class_ 100), (1, u "java/lang/Math$RandomNumberGeneratorHolder"), (20, u "(JJ)J"), (50, u "negativeZeroFloatBits"), (0, u "J"), (2, u "negativeZeroDoubleBits"), (21, u "max"), (2, u "min"), (43, u "$assertionsDisabled"), (0, u "Z"), (91, u "twoToTheDoubleScaleDown"), (0, u "D"), (4, u "twoToTheDoubleScaleUp"), (9, u "E"), (3, u "PI"), (2, u "TAU"), (2, u "DEGREES_TO_RADIANS"), (0, u "RADIANS_TO_DEGREES")] 94

def k3m0 : Method := { name := "<init>", desc := "()V", sig := { parameters := [], returnType := none }, accessFlags := 2, code := none }
def k3c1 : Code := { maxStack := 4, maxLocals := 4, code := jdk_29_method_66_code, exceptionTable := #[], attributes := #[] }
def k3m1 : Method := { name := "max", desc := "(JJ)J", sig := { parameters := [.long, .long], returnType := some .long }, accessFlags := 9, code := some k3c1 }
def k3c2 : Code := { maxStack := 4, maxLocals := 4, code := jdk_29_method_70_code, exceptionTable := #[], attributes := #[] }
def k3m2 : Method := { name := "min", desc := "(JJ)J", sig := { parameters := [.long, .long], returnType := some .long }, accessFlags := 9, code := some k3c2 }
/-- java/lang/Math -/
def k3 : Class := { plain "java/lang/Math" (some 0) with
  accessFlags := 49
  interfaces := #[]
  cf := some (fileOf pool3 1 #[.nestMembers #[98]] #[{ accessFlags := 2, nameIndex := 7, descriptorIndex := 8, attributes := #[] }, { accessFlags := 9, nameIndex := 198, descriptorIndex := 121, attributes := #[] }, { accessFlags := 9, nameIndex := 201, descriptorIndex := 121, attributes := #[] }] 49 4 #[] #[{ accessFlags := 25, nameIndex := 354, descriptorIndex := 339, attributes := #[] }, { accessFlags := 25, nameIndex := 358, descriptorIndex := 339, attributes := #[] }, { accessFlags := 25, nameIndex := 361, descriptorIndex := 339, attributes := #[] }, { accessFlags := 26, nameIndex := 364, descriptorIndex := 339, attributes := #[] }, { accessFlags := 26, nameIndex := 365, descriptorIndex := 339, attributes := #[] }, { accessFlags := 26, nameIndex := 172, descriptorIndex := 173, attributes := #[] }, { accessFlags := 26, nameIndex := 176, descriptorIndex := 173, attributes := #[] }, { accessFlags := 8, nameIndex := 344, descriptorIndex := 339, attributes := #[] }, { accessFlags := 8, nameIndex := 338, descriptorIndex := 339, attributes := #[] }, { accessFlags := 4120, nameIndex := 245, descriptorIndex := 246, attributes := #[] }])
  fields := #[{ name := "E", type := .double, accessFlags := 25, slot := 0, constantValue := 0 }, { name := "PI", type := .double, accessFlags := 25, slot := 1, constantValue := 0 }, { name := "TAU", type := .double, accessFlags := 25, slot := 2, constantValue := 0 }, { name := "DEGREES_TO_RADIANS", type := .double, accessFlags := 26, slot := 3, constantValue := 0 }, { name := "RADIANS_TO_DEGREES", type := .double, accessFlags := 26, slot := 4, constantValue := 0 }, { name := "negativeZeroFloatBits", type := .long, accessFlags := 26, slot := 5, constantValue := 0 }, { name := "negativeZeroDoubleBits", type := .long, accessFlags := 26, slot := 6, constantValue := 0 }, { name := "twoToTheDoubleScaleUp", type := .double, accessFlags := 8, slot := 7, constantValue := 0 }, { name := "twoToTheDoubleScaleDown", type := .double, accessFlags := 8, slot := 8, constantValue := 0 }, { name := "$assertionsDisabled", type := .boolean, accessFlags := 4120, slot := 9, constantValue := 0 }]
  methods := #[k3m0, k3m1, k3m2]
  instanceTypes := #[]
  staticTypes := #[.double, .double, .double, .double, .double, .long, .long, .double, .double, .boolean]
  resolved := Array.replicate 460 none
  statics := none }

def pool4 : Array CpInfo := pool [(1, u "java/lang/Cloneable"), (0, .class_ 1), (0, u "java/lang/Object"), (0, .class_ 3)] 3

/-- java/lang/Cloneable -/
def k4 : Class := { plain "java/lang/Cloneable" (some 0) with
  accessFlags := 1537
  interfaces := #[]
  cf := some (fileOf pool4 2 #[] #[] 1537 4 #[] #[])
  fields := #[]
  methods := #[]
  instanceTypes := #[]
  staticTypes := #[]
  resolved := Array.replicate 8 none
  statics := none }

def pool5 : Array CpInfo := pool [(1, u "java/io/Serializable"), (0, .class_ 1), (0, u "java/lang/Object"), (0, .class_ 3)] 3

/-- java/io/Serializable -/
def k5 : Class := { plain "java/io/Serializable" (some 0) with
  accessFlags := 1537
  interfaces := #[]
  cf := some (fileOf pool5 2 #[] #[] 1537 4 #[] #[])
  fields := #[]
  methods := #[]
  instanceTypes := #[]
  staticTypes := #[]
  resolved := Array.replicate 8 none
  statics := none }

/-- the primitive byte -/
def k6 : Class := { plain "byte" none with kind := .primitive 'B', accessFlags := 0x411 }
/-- [B -/
def k7 : Class := { plain "[B" (some 0) with kind := .array 6 .byte, interfaces := #[4, 5], accessFlags := 1041 }

/-- the primitive int -/
def k8 : Class := { plain "int" none with kind := .primitive 'I', accessFlags := 0x411 }
/-- [I -/
def k9 : Class := { plain "[I" (some 0) with kind := .array 8 .int, interfaces := #[4, 5], accessFlags := 1041 }

/-- the primitive long -/
def k10 : Class := { plain "long" none with kind := .primitive 'J', accessFlags := 0x411 }
/-- [J -/
def k11 : Class := { plain "[J" (some 0) with kind := .array 10 .long, interfaces := #[4, 5], accessFlags := 1041 }

def heap : Heap := #[]
def classes : Array Class := #[k0, k1, k2, k3, k4, k5, k6, k7, k8, k9, k10, k11]
def interned : List (Array UInt16 × Addr) := []
def slotsUsed : Nat := 0
def theMethod : MethodId := ⟨1, 1⟩
def args0 : Array Value := #[.long 5, .long 7, .long 3, .long 4, .long 6, .int 2]
def aboutOver (below : List Frame) : State where
  vm := { classes := classes, interned := interned.toArray }
  heap := heap
  slotsUsed := slotsUsed
  threads := #[{ frames := .invoking theMethod args0 :: below }]
def below0 : List Frame := [.native { method := ⟨0, 0⟩, args := #[] }]
def about1 : State := aboutOver below0
def p0 : Program := .bare "" "" ""
def e0 : Env := launch0.env 0 0 0
theorem w_frames : about1.frames = Frame.invoking theMethod args0 :: below0 := rfl
set_option maxRecDepth 65536 in
theorem w_args : argsFit about1.vm theMethod args0 = true := by decide +kernel
set_option maxRecDepth 65536 in
theorem w_heap : heapFits about1 = true := by decide +kernel
set_option maxRecDepth 65536 in
theorem w_runnable : about1.curStatus? = some .runnable := by decide +kernel
set_option maxRecDepth 65536 in
theorem w_alone : about1.alone = true := by decide +kernel
set_option maxRecDepth 65536 in
theorem w_named : about1.methodNamed? x = some theMethod := by decide +kernel
set_option maxRecDepth 65536 in
theorem w_hears : about1.hears theMethod below0 = true := by decide +kernel
set_option maxRecDepth 65536 in
theorem w_ripe : about1.ripe theMethod args0 below0 = true := by decide +kernel
theorem w_running : about1.status = .running := rfl
set_option maxRecDepth 65536 in
theorem w_room : about1.hasRoom e0.platform room_1 = true :=
  launch0.hasRoom_least _ room_1 (by decide +kernel) (by decide +kernel) (by decide +kernel) (by decide +kernel) (by decide +kernel) (by decide +kernel)
theorem allAtoms_all (ts : List Jvm.Cond) (a : Array Jvm.Value) (st : Jvm.State) : (allAtoms ts).before a st = ts.all (fun c => c.before a st) := by
  induction ts with
  | nil => rfl
  | cons c t ih =>
    show (Jvm.Cond.and c (allAtoms t)).before a st = _
    rw [Jvm.Cond.before_and, ih, List.all_cons]
def words1 : List Jvm.Cond := Jvm.Cond.code x code maxLocals ret :: tables_1
/-- a 'code' word, met by the world's own term for the bytes: nothing is compared byte by byte -/
theorem code_word {y : MethodName} {bytes : ByteArray} {mx : Nat} {rt : Option FieldType} {a : Array Value} {s : State} {m : MethodId} {meth : Method} {c : Code} (h1 : s.methodNamed? y = some m) (h2 : s.vm.method? m = some meth) (h3 : meth.code = some c) (h4 : c.code = bytes)
    (h5 : (c.maxLocals == mx && c.exceptionTable.isEmpty && decide (c.maxStack ≤ mostOperands) && decide (meth.sig.returnType = rt) && !meth.locks && decide (parseMethodDescriptor y.desc = some meth.sig)) = true) : (Jvm.Cond.code y bytes mx rt).before a s = true := by
  simp only [Bool.and_eq_true, beq_iff_eq, Bool.not_eq_true', decide_eq_true_eq] at h5
  obtain ⟨⟨⟨⟨⟨g1, g2⟩, g3⟩, g4⟩, g5⟩, g6⟩ := h5
  simp [Cond.before, Cond.holds, Cond.value, h1, h2, h3, h4, g1, g2, g3, g4, g5, g6]
def isCode : Jvm.Cond → Bool
  | .code _ _ _ _ => true
  | _ => false
theorem all_split {L : List Jvm.Cond} {P : Jvm.Cond → Bool} (h1 : L.all (fun c => isCode c || P c) = true) (h2 : ∀ c ∈ L.filter isCode, P c = true) : L.all P = true := by
  refine List.all_eq_true.mpr fun c hc => ?_
  have h := List.all_eq_true.mp h1 c hc
  rcases Bool.eq_false_or_eq_true (isCode c) with hi | hi
  · exact h2 c (List.mem_filter.mpr ⟨hc, hi⟩)
  · simpa [hi] using h
set_option maxRecDepth 65536 in
theorem w_c0 : (Jvm.Cond.code x code maxLocals ret).before args0 about1 = true := code_word (m := ⟨1, 1⟩) (meth := k1m1) (c := k1c1) (by decide +kernel) rfl rfl rfl (by decide +kernel)
set_option maxRecDepth 65536 in
theorem w_c1 : (Jvm.Cond.code ({ cls := "com/example/fairjoin/fairjoin/operator/DirectKeys", name := "range", desc := "([JIJJ)[J" } : Jvm.MethodName) prog_151_method_15_code (9 : Nat) (Option.some (Jvm.ClassFile.FieldType.array Jvm.ClassFile.FieldType.long))).before args0 about1 = true := code_word (m := ⟨2, 0⟩) (meth := k2m0) (c := k2c0) (by decide +kernel) rfl rfl rfl (by decide +kernel)
set_option maxRecDepth 65536 in
theorem w_c2 : (Jvm.Cond.code ({ cls := "java/lang/Math", name := "min", desc := "(JJ)J" } : Jvm.MethodName) jdk_29_method_70_code (4 : Nat) (Option.some Jvm.ClassFile.FieldType.long)).before args0 about1 = true := code_word (m := ⟨3, 2⟩) (meth := k3m2) (c := k3c2) (by decide +kernel) rfl rfl rfl (by decide +kernel)
set_option maxRecDepth 65536 in
theorem w_c3 : (Jvm.Cond.code ({ cls := "java/lang/Math", name := "max", desc := "(JJ)J" } : Jvm.MethodName) jdk_29_method_66_code (4 : Nat) (Option.some Jvm.ClassFile.FieldType.long)).before args0 about1 = true := code_word (m := ⟨3, 1⟩) (meth := k3m1) (c := k3c1) (by decide +kernel) rfl rfl rfl (by decide +kernel)
def codes1 : List Jvm.Cond := [Jvm.Cond.code x code maxLocals ret, Jvm.Cond.code ({ cls := "com/example/fairjoin/fairjoin/operator/DirectKeys", name := "range", desc := "([JIJJ)[J" } : Jvm.MethodName) prog_151_method_15_code (9 : Nat) (Option.some (Jvm.ClassFile.FieldType.array Jvm.ClassFile.FieldType.long)), Jvm.Cond.code ({ cls := "java/lang/Math", name := "min", desc := "(JJ)J" } : Jvm.MethodName) jdk_29_method_70_code (4 : Nat) (Option.some Jvm.ClassFile.FieldType.long), Jvm.Cond.code ({ cls := "java/lang/Math", name := "max", desc := "(JJ)J" } : Jvm.MethodName) jdk_29_method_66_code (4 : Nat) (Option.some Jvm.ClassFile.FieldType.long)]
set_option maxRecDepth 65536 in
theorem codes_eq : words1.filter isCode = codes1 := rfl
theorem w_codes : ∀ c ∈ words1.filter isCode, c.before args0 about1 = true := by
  rw [codes_eq]
  intro c hc
  simp only [codes1, List.mem_cons, List.not_mem_nil, or_false] at hc
  rcases hc with rfl | rfl | rfl | rfl
  · exact w_c0
  · exact w_c1
  · exact w_c2
  · exact w_c3
set_option maxRecDepth 65536 in
theorem w_t1 : words1.all (fun c => isCode c || c.before args0 about1) = true := by decide +kernel
theorem w_tables : (allAtoms (Jvm.Cond.code x code maxLocals ret :: tables_1)).before args0 about1 = true := by
  rw [allAtoms_all]
  show words1.all (fun c => c.before args0 about1) = true
  refine all_split ?_ w_codes
  rw [w_t1]
set_option maxRecDepth 65536 in
theorem w_case : (Jvm.Cond.and given_1 narrow_1).before args0 about1 = true := by decide +kernel
theorem w_applies : (headSpec (Jvm.Cond.code x code maxLocals ret :: tables_1) room_1).applies x e0.platform about1 = true :=
  (Spec.applies_iff w_frames).mpr ⟨w_running, w_runnable, w_alone, w_named, w_hears, w_ripe, w_room, w_tables⟩
theorem atStart : AtStart classFile x code maxLocals ret World_1 tables_1 room_1 Calls_1 rest_1 Pre_1 launch0 p0 e0 about1 theMethod args0 below0 :=
  ⟨lists_1, trivial, launch0.admits_env _ _ _, launch0.least_env, fairChoices_fair.cas, fairChoices_fair.clock, w_frames, w_args, w_heap, w_applies, trivial, trivial, w_case⟩
end start1
theorem witness_1 : WitnessClaimed_1 := ⟨start1.p0, start1.e0, start1.about1, start1.theMethod, start1.args0, start1.below0, start1.atStart⟩
end Jvm.Pilot.@@N@@
