import JvmDerived
import JvmDerived.Pilot.@@N@@Statement
import JvmDerived.Pilot.@@N@@Code
set_option linter.unusedVariables false
set_option linter.unusedSimpArgs false
namespace Jvm.RoadKit
open Sem ClassFile Op Lib Jvm.Stand Jvm.Free Jvm.LawKit
section New
variable {p : Program} {l : Launch} {e : Env} {R : Room} {s : State} {m : MethodId} {args : Array Value} {below : List Frame} {meth : Method} {c : Code} {T : State} {locs : List Loc} {cells slots : Nat}
theorem retI (X : Stand p l e R s m args below meth c T locs cells slots) (hx : p.tables.exec = Jvm.exec) {pc : Nat} {Ls : Array Slot} {z : Int32} {rest : List Value} (hret : meth.sig.returnType = some .int) (hd : decode c.code pc = .ok (.ireturn, 1)) {fs : List Frame}
    (hl : ∀ (f : JFrame) (acts : List Action), f.method = m → f.locked = none → f.entered = [] → (doReturn e (T.setTop f) acts (some (.int z))).1 = T.setFrames fs) : Steps p.tables e below (T.setTop (mkF m pc Ls (.int z :: rest))) (T.setFrames fs) := by
  have hm' : T.vm.method? m = some meth := X.method'
  have hn : narrow .int (.int z) = .int z := rfl
  show Steps p.tables e below (T.setTop { method := m, pc := pc, locals := Ls, stack := _ :: rest, locked := none }) _
  jvm_step X.here [X.here.top, hx, hd, hm', hret, hn]
  first | (intro acts; rw [hl _ acts rfl rfl rfl]) | rw [hl _ _ rfl rfl rfl]
  exact Steps.refl _
end New
end Jvm.RoadKit
namespace Jvm.Pilot.@@N@@
open Jvm Jvm.ClassFile Sem Op Lib Jvm.Free Jvm.Stand Jvm.LawKit Jvm.RoadKit Bundle Jvm.Pilot.@@N@@.Jvm.D

def own_sh (x : Int64) (k : Int32) : Int64 := (x.toUInt64 >>> (k &&& 0x3f).toInt64.toUInt64).toInt64
def own_x (x : Int64) (k : Int32) : Int64 := x ^^^ ((x.toUInt64 >>> (k &&& 0x3f).toInt64.toUInt64).toInt64)
def own_m1 (x : Int64) : Int64 := own_x x 30 * (-4658895280553007687 : Int64)
def own_m2 (x : Int64) : Int64 := own_x (own_m1 x) 27 * (-7723592293110705685 : Int64)
def own_mix (x : Int64) : Int64 := own_x (own_m2 x) 31
def own_u1 (x : Int64) : Int64 := own_x x 31 ^^^ own_sh x 62
def own_u2 (x : Int64) : Int64 := own_u1 x * (3573116690164977347 : Int64)
def own_u3 (x : Int64) : Int64 := own_x (own_u2 x) 27 ^^^ own_sh (own_u2 x) 54
def own_u4 (x : Int64) : Int64 := own_u3 x * (-7575587736534282103 : Int64)
def own_unmix (x : Int64) : Int64 := own_x (own_u4 x) 30 ^^^ own_sh (own_u4 x) 60
theorem own_shb (x : Int64) (k : Int32) (n : Nat) (hk : (((k &&& 0x3f).toInt64.toUInt64).toBitVec % 64#64).toNat = n) : (own_sh x k).toBitVec = x.toBitVec >>> n := by
  have : (own_sh x k).toBitVec = x.toBitVec >>> (((k &&& 0x3f).toInt64.toUInt64).toBitVec % 64#64) := rfl
  rw [this, BitVec.ushiftRight_eq', hk]
theorem own_xb (x : Int64) (k : Int32) (n : Nat) (hk : (((k &&& 0x3f).toInt64.toUInt64).toBitVec % 64#64).toNat = n) : (own_x x k).toBitVec = x.toBitVec ^^^ (x.toBitVec >>> n) := by
  rw [← own_shb x k n hk]; rfl
theorem own_xor3 (x : BitVec 64) (n : Nat) (h : 64 ≤ n + n + n) : ((x ^^^ x >>> n) ^^^ (x ^^^ x >>> n) >>> n) ^^^ (x ^^^ x >>> n) >>> (n + n) = x := by
  apply BitVec.eq_of_getLsbD_eq
  intro i hi
  simp only [BitVec.getLsbD_xor, BitVec.getLsbD_ushiftRight]
  have e1 : n + (n + i) = n + n + i := by omega
  have e2 : n + (n + n + i) = n + n + n + i := by omega
  have e3 : x.getLsbD (n + n + n + i) = false := BitVec.getLsbD_of_ge _ _ (by omega)
  rw [e1, e2, e3]
  cases x.getLsbD i <;> cases x.getLsbD (n + i) <;> cases x.getLsbD (n + n + i) <;> rfl
theorem own_xor3' (x : BitVec 64) (n : Nat) (h : 64 ≤ n + n + n) : ((x ^^^ x >>> n) ^^^ x >>> (n + n)) ^^^ (((x ^^^ x >>> n) ^^^ x >>> (n + n)) >>> n) = x := by
  apply BitVec.eq_of_getLsbD_eq
  intro i hi
  simp only [BitVec.getLsbD_xor, BitVec.getLsbD_ushiftRight]
  have e1 : n + (n + i) = n + n + i := by omega
  have e2 : n + n + (n + i) = n + n + n + i := by omega
  have e3 : x.getLsbD (n + n + n + i) = false := BitVec.getLsbD_of_ge _ _ (by omega)
  rw [e1, e2, e3]
  cases x.getLsbD i <;> cases x.getLsbD (n + i) <;> cases x.getLsbD (n + n + i) <;> rfl
theorem own_inv (x : Int64) (k k2 : Int32) (n : Nat) (hk : (((k &&& 0x3f).toInt64.toUInt64).toBitVec % 64#64).toNat = n) (hk2 : (((k2 &&& 0x3f).toInt64.toUInt64).toBitVec % 64#64).toNat = n + n) (h : 64 ≤ n + n + n) : own_x (own_x x k) k ^^^ own_sh (own_x x k) k2 = x := by
  apply Int64.toBitVec_inj.mp
  rw [Int64.toBitVec_xor, own_xb _ k n hk, own_shb _ k2 _ hk2, own_xb _ k n hk]
  exact own_xor3 _ n h
theorem own_inv' (x : Int64) (k k2 : Int32) (n : Nat) (hk : (((k &&& 0x3f).toInt64.toUInt64).toBitVec % 64#64).toNat = n) (hk2 : (((k2 &&& 0x3f).toInt64.toUInt64).toBitVec % 64#64).toNat = n + n) (h : 64 ≤ n + n + n) : own_x (own_x x k ^^^ own_sh x k2) k = x := by
  apply Int64.toBitVec_inj.mp
  rw [own_xb _ k n hk, Int64.toBitVec_xor, own_xb _ k n hk, own_shb _ k2 _ hk2]
  exact own_xor3' _ n h
theorem own_there (x : Int64) : own_unmix (own_mix x) = x := by
  have a1 : own_u1 (own_mix x) = own_m2 x := own_inv (own_m2 x) 31 62 31 (by decide) (by decide) (by decide)
  have a2 : own_u2 (own_mix x) = own_x (own_m1 x) 27 := by
    show own_u1 (own_mix x) * _ = _
    rw [a1]
    show own_x (own_m1 x) 27 * (-7723592293110705685 : Int64) * (3573116690164977347 : Int64) = _
    rw [Int64.mul_assoc, show (-7723592293110705685 : Int64) * (3573116690164977347 : Int64) = 1 from by decide +kernel, Int64.mul_one]
  have a3 : own_u3 (own_mix x) = own_m1 x := by
    show own_x (own_u2 (own_mix x)) 27 ^^^ own_sh (own_u2 (own_mix x)) 54 = _
    rw [a2]; exact own_inv (own_m1 x) 27 54 27 (by decide) (by decide) (by decide)
  have a4 : own_u4 (own_mix x) = own_x x 30 := by
    show own_u3 (own_mix x) * _ = _
    rw [a3]
    show own_x x 30 * (-4658895280553007687 : Int64) * (-7575587736534282103 : Int64) = _
    rw [Int64.mul_assoc, show (-4658895280553007687 : Int64) * (-7575587736534282103 : Int64) = 1 from by decide +kernel, Int64.mul_one]
  show own_x (own_u4 (own_mix x)) 30 ^^^ own_sh (own_u4 (own_mix x)) 60 = _
  rw [a4]; exact own_inv x 30 60 30 (by decide) (by decide) (by decide)
theorem own_back (x : Int64) : own_mix (own_unmix x) = x := by
  have a1 : own_m1 (own_unmix x) = own_u3 x := by
    have : own_x (own_unmix x) 30 = own_u4 x := own_inv' (own_u4 x) 30 60 30 (by decide) (by decide) (by decide)
    show own_x (own_unmix x) 30 * _ = _
    rw [this]
    show own_u3 x * (-7575587736534282103 : Int64) * (-4658895280553007687 : Int64) = _
    rw [Int64.mul_assoc, show (-7575587736534282103 : Int64) * (-4658895280553007687 : Int64) = 1 from by decide +kernel, Int64.mul_one]
  have a2 : own_m2 (own_unmix x) = own_u1 x := by
    have : own_x (own_u3 x) 27 = own_u2 x := own_inv' (own_u2 x) 27 54 27 (by decide) (by decide) (by decide)
    show own_x (own_m1 (own_unmix x)) 27 * _ = _
    rw [a1, this]
    show own_u1 x * (3573116690164977347 : Int64) * (-7723592293110705685 : Int64) = _
    rw [Int64.mul_assoc, show (3573116690164977347 : Int64) * (-7723592293110705685 : Int64) = 1 from by decide +kernel, Int64.mul_one]
  show own_x (own_m2 (own_unmix x)) 31 = x
  rw [a2]; exact own_inv' x 31 62 31 (by decide) (by decide) (by decide)
theorem own_lc (x y : Int64) (h : x = y) : lcmpW x y = (0 : Int32) := by
  subst h; simp [lcmpW]
theorem d1_0 : decode prog_28_method_6_code 0 = .ok (.lload_n 0, 1) := by decide +kernel
theorem d1_1 : decode prog_28_method_6_code 1 = .ok (.lload_n 0, 1) := by decide +kernel
theorem d1_2 : decode prog_28_method_6_code 2 = .ok (.bipush 30, 2) := by decide +kernel
theorem d1_4 : decode prog_28_method_6_code 4 = .ok (.lushr, 1) := by decide +kernel
theorem d1_5 : decode prog_28_method_6_code 5 = .ok (.lxor, 1) := by decide +kernel
theorem d1_6 : decode prog_28_method_6_code 6 = .ok (.ldc2_w 35, 3) := by decide +kernel
theorem d1_9 : decode prog_28_method_6_code 9 = .ok (.lmul, 1) := by decide +kernel
theorem d1_10 : decode prog_28_method_6_code 10 = .ok (.lstore_n 0, 1) := by decide +kernel
theorem d1_11 : decode prog_28_method_6_code 11 = .ok (.lload_n 0, 1) := by decide +kernel
theorem d1_12 : decode prog_28_method_6_code 12 = .ok (.lload_n 0, 1) := by decide +kernel
theorem d1_13 : decode prog_28_method_6_code 13 = .ok (.bipush 27, 2) := by decide +kernel
theorem d1_15 : decode prog_28_method_6_code 15 = .ok (.lushr, 1) := by decide +kernel
theorem d1_16 : decode prog_28_method_6_code 16 = .ok (.lxor, 1) := by decide +kernel
theorem d1_17 : decode prog_28_method_6_code 17 = .ok (.ldc2_w 37, 3) := by decide +kernel
theorem d1_20 : decode prog_28_method_6_code 20 = .ok (.lmul, 1) := by decide +kernel
theorem d1_21 : decode prog_28_method_6_code 21 = .ok (.lstore_n 0, 1) := by decide +kernel
theorem d1_22 : decode prog_28_method_6_code 22 = .ok (.lload_n 0, 1) := by decide +kernel
theorem d1_23 : decode prog_28_method_6_code 23 = .ok (.lload_n 0, 1) := by decide +kernel
theorem d1_24 : decode prog_28_method_6_code 24 = .ok (.bipush 31, 2) := by decide +kernel
theorem d1_26 : decode prog_28_method_6_code 26 = .ok (.lushr, 1) := by decide +kernel
theorem d1_27 : decode prog_28_method_6_code 27 = .ok (.lxor, 1) := by decide +kernel
theorem d1_28 : decode prog_28_method_6_code 28 = .ok (.lreturn, 1) := by decide +kernel
theorem pn_1 : plainName "com/example/criba/criba/KeyHashing" = true := by first | (simp [plainName, overriddenIn]; done) | decide +kernel
theorem ef_1 (m : MethodId) (x0 : Int64) : entryFrame m #[(.long x0)] 2 = mkF m 0 #[.val (.long x0), .second] [] := by first | (simp [entryFrame, mkF, argsToLocals, Value.category]; done) | rfl
theorem d2_0 : decode method_2_code 0 = .ok (.lload_n 0, 1) := by decide +kernel
theorem d2_1 : decode method_2_code 1 = .ok (.lload_n 0, 1) := by decide +kernel
theorem d2_2 : decode method_2_code 2 = .ok (.bipush 31, 2) := by decide +kernel
theorem d2_4 : decode method_2_code 4 = .ok (.lushr, 1) := by decide +kernel
theorem d2_5 : decode method_2_code 5 = .ok (.lxor, 1) := by decide +kernel
theorem d2_6 : decode method_2_code 6 = .ok (.lload_n 0, 1) := by decide +kernel
theorem d2_7 : decode method_2_code 7 = .ok (.bipush 62, 2) := by decide +kernel
theorem d2_9 : decode method_2_code 9 = .ok (.lushr, 1) := by decide +kernel
theorem d2_10 : decode method_2_code 10 = .ok (.lxor, 1) := by decide +kernel
theorem d2_11 : decode method_2_code 11 = .ok (.lstore_n 2, 1) := by decide +kernel
theorem d2_12 : decode method_2_code 12 = .ok (.lload_n 2, 1) := by decide +kernel
theorem d2_13 : decode method_2_code 13 = .ok (.ldc2_w 9, 3) := by decide +kernel
theorem d2_16 : decode method_2_code 16 = .ok (.lmul, 1) := by decide +kernel
theorem d2_17 : decode method_2_code 17 = .ok (.lstore 4, 2) := by decide +kernel
theorem d2_19 : decode method_2_code 19 = .ok (.lload 4, 2) := by decide +kernel
theorem d2_21 : decode method_2_code 21 = .ok (.lload 4, 2) := by decide +kernel
theorem d2_23 : decode method_2_code 23 = .ok (.bipush 27, 2) := by decide +kernel
theorem d2_25 : decode method_2_code 25 = .ok (.lushr, 1) := by decide +kernel
theorem d2_26 : decode method_2_code 26 = .ok (.lxor, 1) := by decide +kernel
theorem d2_27 : decode method_2_code 27 = .ok (.lload 4, 2) := by decide +kernel
theorem d2_29 : decode method_2_code 29 = .ok (.bipush 54, 2) := by decide +kernel
theorem d2_31 : decode method_2_code 31 = .ok (.lushr, 1) := by decide +kernel
theorem d2_32 : decode method_2_code 32 = .ok (.lxor, 1) := by decide +kernel
theorem d2_33 : decode method_2_code 33 = .ok (.lstore 6, 2) := by decide +kernel
theorem d2_35 : decode method_2_code 35 = .ok (.lload 6, 2) := by decide +kernel
theorem d2_37 : decode method_2_code 37 = .ok (.ldc2_w 11, 3) := by decide +kernel
theorem d2_40 : decode method_2_code 40 = .ok (.lmul, 1) := by decide +kernel
theorem d2_41 : decode method_2_code 41 = .ok (.lstore 8, 2) := by decide +kernel
theorem d2_43 : decode method_2_code 43 = .ok (.lload 8, 2) := by decide +kernel
theorem d2_45 : decode method_2_code 45 = .ok (.lload 8, 2) := by decide +kernel
theorem d2_47 : decode method_2_code 47 = .ok (.bipush 30, 2) := by decide +kernel
theorem d2_49 : decode method_2_code 49 = .ok (.lushr, 1) := by decide +kernel
theorem d2_50 : decode method_2_code 50 = .ok (.lxor, 1) := by decide +kernel
theorem d2_51 : decode method_2_code 51 = .ok (.lload 8, 2) := by decide +kernel
theorem d2_53 : decode method_2_code 53 = .ok (.bipush 60, 2) := by decide +kernel
theorem d2_55 : decode method_2_code 55 = .ok (.lushr, 1) := by decide +kernel
theorem d2_56 : decode method_2_code 56 = .ok (.lxor, 1) := by decide +kernel
theorem d2_57 : decode method_2_code 57 = .ok (.lreturn, 1) := by decide +kernel
theorem pn_2 : plainName "com/example/criba/criba/KeyHashingMixPinLaw" = true := by first | (simp [plainName, overriddenIn]; done) | decide +kernel
theorem ef_2 (m : MethodId) (x0 : Int64) : entryFrame m #[(.long x0)] 10 = mkF m 0 #[.val (.long x0), .second, .unset, .unset, .unset, .unset, .unset, .unset, .unset, .unset] [] := by first | (simp [entryFrame, mkF, argsToLocals, Value.category]; done) | rfl
theorem pn_0 : plainName "com/example/criba/criba/KeyHashingMixPinLaw" = true := by first | (simp [plainName, overriddenIn]; done) | decide +kernel
theorem pd_0_0 : parseMethodDescriptor "(J)J" = some ⟨[.long], some .long⟩ := by decide +kernel
theorem ef_0 (m : MethodId) (x0 : Int64) (x1 : Int64) : entryFrame m #[(.long x0), (.long x1)] maxLocals = mkF m 0 #[.val (.long x0), .second, .val (.long x1), .second, .unset, .unset] [] := by first | (simp [entryFrame, mkF, argsToLocals, Value.category, maxLocals]; done) | rfl
def Q1 (Z : State) (q1 : Int64) (h0 : Heap) (n0 : Nat) (v : Option Value) (h : Heap) (L : List Loc) : Prop := v = some (.long (own_mix q1)) ∧ Fr n0 L ∧ h = h0
set_option maxRecDepth 65536 in
set_option maxHeartbeats 40000000 in
theorem rm1 (l : Launch) (Z : State) (a0 : Array Value) (hw : ∀ d ∈ tables_1, d.before a0 Z = true) (ws : List Jvm.Cond) (q1 : Int64) (h0 : Heap) (n0 : Nat) (Z0 : n0 ≤ h0.size) :
    MetFree l (⟨"com/example/criba/criba/KeyHashing", "mix", "(J)J"⟩ : MethodName) (head1 (Jvm.Cond.code (⟨"com/example/criba/criba/KeyHashing", "mix", "(J)J"⟩ : MethodName) prog_28_method_6_code 2 (some .long) :: ws) ({ frames := 0, cells := 0, slots := 0, locals := 0 } : Room)) (fun a U => a = #[(.long q1)] ∧ Z.Warmed39 U.vm ∧ U.heap = h0) (fun _ _ _ _ _ => True) (fun _ U o U' => ∃ v L, o = .returned v ∧ Q1 Z q1 h0 n0 v U'.heap L ∧ FrameEnd U o U' L ({ frames := 0, cells := 0, slots := 0, locals := 0 } : Room).cells ({ frames := 0, cells := 0, slots := 0, locals := 0 } : Room).slots) := by
  refine MetFree.of_bodySF (plainFor_of_name pn_1) hisR ?_
  intro p e s m args below meth c s₁ Bd hml0 hP hK
  obtain ⟨rfl, hZ, hh⟩ := hP
  have hx := Bd.exec
  have hby := Bd.bytes
  have hml : c.maxLocals = 2 := hml0
  have hown : s.vm.findClass "com/example/criba/criba/KeyHashing" = some m.cls := findClass_of_methodNamed Bd.named
  have hnm := (name_of_methodNamed Bd.named Bd.method).1
  have X0 : Stand p l e ({ frames := 0, cells := 0, slots := 0, locals := 0 } : Room) s m #[(.long q1)] below meth c s₁ [] 0 0 := Stand.of_body Bd
  have e0 : s₁.heap = h0 := by rw [← hh, Bd.state]; rfl
  have N0 := Fr.nil n0
  have pre0 : ∀ t, Steps p.tables e below (s₁.setTop (mkF m 0 #[.val (.long q1), .second] [])) t → Steps p.tables e below (s₁.setTop (entryFrame m #[(.long q1)] 2)) t := fun t k => castTop (ef_1 m q1) k
  obtain ⟨fs, hr, hrun, hended, hW, hsame⟩ := X0.leave (v := some (.long (own_mix q1))) (fun h => by rw [Bd.returns] at h; cases h)
  refine ⟨_, _, pre0 _ ?_, hrun, hended, _, _, rfl, ?_, ⟨_, rfl⟩, hW, hsame.mono (by decide) (by decide)⟩
  · show Steps p.tables e below (s₁.setTop (mkF m 0 #[.val (.long q1), .second] [])) _
    refine XS.lloadN X0.here hx rfl (hb hby d1_0) rfl ?_
    show Steps p.tables e below (s₁.setTop (mkF m 1 #[.val (.long q1), .second] [(.long q1)])) _
    refine XS.lloadN X0.here hx rfl (hb hby d1_1) rfl ?_
    show Steps p.tables e below (s₁.setTop (mkF m 2 #[.val (.long q1), .second] [(.long q1), (.long q1)])) _
    refine XS.bipush X0.here hx rfl (hb hby d1_2) ?_
    show Steps p.tables e below (s₁.setTop (mkF m 4 #[.val (.long q1), .second] [(.int (30 : Int32)), (.long q1), (.long q1)])) _
    refine XS.lushr X0.here hx rfl (hb hby d1_4) rfl ?_
    show Steps p.tables e below (s₁.setTop (mkF m 5 #[.val (.long q1), .second] [(.long ((q1.toUInt64 >>> ((30 : Int32) &&& 0x3f).toInt64.toUInt64).toInt64)), (.long q1)])) _
    refine XS.lxor X0.here hx rfl (hb hby d1_5) rfl ?_
    show Steps p.tables e below (s₁.setTop (mkF m 6 #[.val (.long q1), .second] [(.long (own_x q1 30))])) _
    refine X0.ldc2Long hx hown (mvT hZ (hw _ (List.mem_of_getElem? (i := 4) rfl))) (g := (mkF m 6 #[.val (.long q1), .second] [(.long (own_x q1 30))])) rfl (hb hby d1_6) _ ?_
    show Steps p.tables e below (s₁.setTop (mkF m 9 #[.val (.long q1), .second] [(.long (-4658895280553007687 : Int64)), (.long (own_x q1 30))])) _
    refine XS.lmul X0.here hx rfl (hb hby d1_9) rfl ?_
    show Steps p.tables e below (s₁.setTop (mkF m 10 #[.val (.long q1), .second] [(.long (own_m1 q1))])) _
    refine XS.lstoreN X0.here hx rfl (hb hby d1_10) rfl (l' := #[.val (.long (own_m1 q1)), .second]) rfl ?_
    show Steps p.tables e below (s₁.setTop (mkF m 11 #[.val (.long (own_m1 q1)), .second] [])) _
    refine XS.lloadN X0.here hx rfl (hb hby d1_11) rfl ?_
    show Steps p.tables e below (s₁.setTop (mkF m 12 #[.val (.long (own_m1 q1)), .second] [(.long (own_m1 q1))])) _
    refine XS.lloadN X0.here hx rfl (hb hby d1_12) rfl ?_
    show Steps p.tables e below (s₁.setTop (mkF m 13 #[.val (.long (own_m1 q1)), .second] [(.long (own_m1 q1)), (.long (own_m1 q1))])) _
    refine XS.bipush X0.here hx rfl (hb hby d1_13) ?_
    show Steps p.tables e below (s₁.setTop (mkF m 15 #[.val (.long (own_m1 q1)), .second] [(.int (27 : Int32)), (.long (own_m1 q1)), (.long (own_m1 q1))])) _
    refine XS.lushr X0.here hx rfl (hb hby d1_15) rfl ?_
    show Steps p.tables e below (s₁.setTop (mkF m 16 #[.val (.long (own_m1 q1)), .second] [(.long (((own_m1 q1).toUInt64 >>> ((27 : Int32) &&& 0x3f).toInt64.toUInt64).toInt64)), (.long (own_m1 q1))])) _
    refine XS.lxor X0.here hx rfl (hb hby d1_16) rfl ?_
    show Steps p.tables e below (s₁.setTop (mkF m 17 #[.val (.long (own_m1 q1)), .second] [(.long (own_x (own_m1 q1) 27))])) _
    refine X0.ldc2Long hx hown (mvT hZ (hw _ (List.mem_of_getElem? (i := 5) rfl))) (g := (mkF m 17 #[.val (.long (own_m1 q1)), .second] [(.long (own_x (own_m1 q1) 27))])) rfl (hb hby d1_17) _ ?_
    show Steps p.tables e below (s₁.setTop (mkF m 20 #[.val (.long (own_m1 q1)), .second] [(.long (-7723592293110705685 : Int64)), (.long (own_x (own_m1 q1) 27))])) _
    refine XS.lmul X0.here hx rfl (hb hby d1_20) rfl ?_
    show Steps p.tables e below (s₁.setTop (mkF m 21 #[.val (.long (own_m1 q1)), .second] [(.long (own_m2 q1))])) _
    refine XS.lstoreN X0.here hx rfl (hb hby d1_21) rfl (l' := #[.val (.long (own_m2 q1)), .second]) rfl ?_
    show Steps p.tables e below (s₁.setTop (mkF m 22 #[.val (.long (own_m2 q1)), .second] [])) _
    refine XS.lloadN X0.here hx rfl (hb hby d1_22) rfl ?_
    show Steps p.tables e below (s₁.setTop (mkF m 23 #[.val (.long (own_m2 q1)), .second] [(.long (own_m2 q1))])) _
    refine XS.lloadN X0.here hx rfl (hb hby d1_23) rfl ?_
    show Steps p.tables e below (s₁.setTop (mkF m 24 #[.val (.long (own_m2 q1)), .second] [(.long (own_m2 q1)), (.long (own_m2 q1))])) _
    refine XS.bipush X0.here hx rfl (hb hby d1_24) ?_
    show Steps p.tables e below (s₁.setTop (mkF m 26 #[.val (.long (own_m2 q1)), .second] [(.int (31 : Int32)), (.long (own_m2 q1)), (.long (own_m2 q1))])) _
    refine XS.lushr X0.here hx rfl (hb hby d1_26) rfl ?_
    show Steps p.tables e below (s₁.setTop (mkF m 27 #[.val (.long (own_m2 q1)), .second] [(.long (((own_m2 q1).toUInt64 >>> ((31 : Int32) &&& 0x3f).toInt64.toUInt64).toInt64)), (.long (own_m2 q1))])) _
    refine XS.lxor X0.here hx rfl (hb hby d1_27) rfl ?_
    show Steps p.tables e below (s₁.setTop (mkF m 28 #[.val (.long (own_m2 q1)), .second] [(.long (own_mix q1))])) _
    jvm_step X0.here [X0.here.top, hx, (hb hby d1_28), X0.method', Bd.returns, narrow]
    first | (intro acts; rw [hr _ acts rfl rfl rfl]) | rw [hr _ _ rfl rfl rfl]
    exact Steps.refl _
  · show Q1 Z q1 h0 n0 _ s₁.heap _
    rw [e0]
    exact ⟨rfl, N0, rfl⟩
def Q2 (Z : State) (q1 : Int64) (h0 : Heap) (n0 : Nat) (v : Option Value) (h : Heap) (L : List Loc) : Prop := v = some (.long (own_unmix q1)) ∧ Fr n0 L ∧ h = h0
set_option maxRecDepth 65536 in
set_option maxHeartbeats 40000000 in
theorem rm2 (l : Launch) (Z : State) (a0 : Array Value) (hw : ∀ d ∈ tables_1, d.before a0 Z = true) (ws : List Jvm.Cond) (q1 : Int64) (h0 : Heap) (n0 : Nat) (Z0 : n0 ≤ h0.size) :
    MetFree l (⟨"com/example/criba/criba/KeyHashingMixPinLaw", "unmix", "(J)J"⟩ : MethodName) (head1 (Jvm.Cond.code (⟨"com/example/criba/criba/KeyHashingMixPinLaw", "unmix", "(J)J"⟩ : MethodName) method_2_code 10 (some .long) :: ws) ({ frames := 0, cells := 0, slots := 0, locals := 0 } : Room)) (fun a U => a = #[(.long q1)] ∧ Z.Warmed39 U.vm ∧ U.heap = h0) (fun _ _ _ _ _ => True) (fun _ U o U' => ∃ v L, o = .returned v ∧ Q2 Z q1 h0 n0 v U'.heap L ∧ FrameEnd U o U' L ({ frames := 0, cells := 0, slots := 0, locals := 0 } : Room).cells ({ frames := 0, cells := 0, slots := 0, locals := 0 } : Room).slots) := by
  refine MetFree.of_bodySF (plainFor_of_name pn_2) hisR ?_
  intro p e s m args below meth c s₁ Bd hml0 hP hK
  obtain ⟨rfl, hZ, hh⟩ := hP
  have hx := Bd.exec
  have hby := Bd.bytes
  have hml : c.maxLocals = 10 := hml0
  have hown : s.vm.findClass "com/example/criba/criba/KeyHashingMixPinLaw" = some m.cls := findClass_of_methodNamed Bd.named
  have hnm := (name_of_methodNamed Bd.named Bd.method).1
  have X0 : Stand p l e ({ frames := 0, cells := 0, slots := 0, locals := 0 } : Room) s m #[(.long q1)] below meth c s₁ [] 0 0 := Stand.of_body Bd
  have e0 : s₁.heap = h0 := by rw [← hh, Bd.state]; rfl
  have N0 := Fr.nil n0
  have pre0 : ∀ t, Steps p.tables e below (s₁.setTop (mkF m 0 #[.val (.long q1), .second, .unset, .unset, .unset, .unset, .unset, .unset, .unset, .unset] [])) t → Steps p.tables e below (s₁.setTop (entryFrame m #[(.long q1)] 10)) t := fun t k => castTop (ef_2 m q1) k
  obtain ⟨fs, hr, hrun, hended, hW, hsame⟩ := X0.leave (v := some (.long (own_unmix q1))) (fun h => by rw [Bd.returns] at h; cases h)
  refine ⟨_, _, pre0 _ ?_, hrun, hended, _, _, rfl, ?_, ⟨_, rfl⟩, hW, hsame.mono (by decide) (by decide)⟩
  · show Steps p.tables e below (s₁.setTop (mkF m 0 #[.val (.long q1), .second, .unset, .unset, .unset, .unset, .unset, .unset, .unset, .unset] [])) _
    refine XS.lloadN X0.here hx rfl (hb hby d2_0) rfl ?_
    show Steps p.tables e below (s₁.setTop (mkF m 1 #[.val (.long q1), .second, .unset, .unset, .unset, .unset, .unset, .unset, .unset, .unset] [(.long q1)])) _
    refine XS.lloadN X0.here hx rfl (hb hby d2_1) rfl ?_
    show Steps p.tables e below (s₁.setTop (mkF m 2 #[.val (.long q1), .second, .unset, .unset, .unset, .unset, .unset, .unset, .unset, .unset] [(.long q1), (.long q1)])) _
    refine XS.bipush X0.here hx rfl (hb hby d2_2) ?_
    show Steps p.tables e below (s₁.setTop (mkF m 4 #[.val (.long q1), .second, .unset, .unset, .unset, .unset, .unset, .unset, .unset, .unset] [(.int (31 : Int32)), (.long q1), (.long q1)])) _
    refine XS.lushr X0.here hx rfl (hb hby d2_4) rfl ?_
    show Steps p.tables e below (s₁.setTop (mkF m 5 #[.val (.long q1), .second, .unset, .unset, .unset, .unset, .unset, .unset, .unset, .unset] [(.long ((q1.toUInt64 >>> ((31 : Int32) &&& 0x3f).toInt64.toUInt64).toInt64)), (.long q1)])) _
    refine XS.lxor X0.here hx rfl (hb hby d2_5) rfl ?_
    show Steps p.tables e below (s₁.setTop (mkF m 6 #[.val (.long q1), .second, .unset, .unset, .unset, .unset, .unset, .unset, .unset, .unset] [(.long (own_x q1 31))])) _
    refine XS.lloadN X0.here hx rfl (hb hby d2_6) rfl ?_
    show Steps p.tables e below (s₁.setTop (mkF m 7 #[.val (.long q1), .second, .unset, .unset, .unset, .unset, .unset, .unset, .unset, .unset] [(.long q1), (.long (own_x q1 31))])) _
    refine XS.bipush X0.here hx rfl (hb hby d2_7) ?_
    show Steps p.tables e below (s₁.setTop (mkF m 9 #[.val (.long q1), .second, .unset, .unset, .unset, .unset, .unset, .unset, .unset, .unset] [(.int (62 : Int32)), (.long q1), (.long (own_x q1 31))])) _
    refine XS.lushr X0.here hx rfl (hb hby d2_9) rfl ?_
    show Steps p.tables e below (s₁.setTop (mkF m 10 #[.val (.long q1), .second, .unset, .unset, .unset, .unset, .unset, .unset, .unset, .unset] [(.long ((q1.toUInt64 >>> ((62 : Int32) &&& 0x3f).toInt64.toUInt64).toInt64)), (.long (own_x q1 31))])) _
    refine XS.lxor X0.here hx rfl (hb hby d2_10) rfl ?_
    show Steps p.tables e below (s₁.setTop (mkF m 11 #[.val (.long q1), .second, .unset, .unset, .unset, .unset, .unset, .unset, .unset, .unset] [(.long (own_u1 q1))])) _
    refine XS.lstoreN X0.here hx rfl (hb hby d2_11) rfl (l' := #[.val (.long q1), .second, .val (.long (own_u1 q1)), .second, .unset, .unset, .unset, .unset, .unset, .unset]) rfl ?_
    show Steps p.tables e below (s₁.setTop (mkF m 12 #[.val (.long q1), .second, .val (.long (own_u1 q1)), .second, .unset, .unset, .unset, .unset, .unset, .unset] [])) _
    refine XS.lloadN X0.here hx rfl (hb hby d2_12) rfl ?_
    show Steps p.tables e below (s₁.setTop (mkF m 13 #[.val (.long q1), .second, .val (.long (own_u1 q1)), .second, .unset, .unset, .unset, .unset, .unset, .unset] [(.long (own_u1 q1))])) _
    refine X0.ldc2Long hx hown (mvT hZ (hw _ (List.mem_of_getElem? (i := 10) rfl))) (g := (mkF m 13 #[.val (.long q1), .second, .val (.long (own_u1 q1)), .second, .unset, .unset, .unset, .unset, .unset, .unset] [(.long (own_u1 q1))])) rfl (hb hby d2_13) _ ?_
    show Steps p.tables e below (s₁.setTop (mkF m 16 #[.val (.long q1), .second, .val (.long (own_u1 q1)), .second, .unset, .unset, .unset, .unset, .unset, .unset] [(.long (3573116690164977347 : Int64)), (.long (own_u1 q1))])) _
    refine XS.lmul X0.here hx rfl (hb hby d2_16) rfl ?_
    show Steps p.tables e below (s₁.setTop (mkF m 17 #[.val (.long q1), .second, .val (.long (own_u1 q1)), .second, .unset, .unset, .unset, .unset, .unset, .unset] [(.long (own_u2 q1))])) _
    refine XS.lstore X0.here hx rfl (hb hby d2_17) rfl (l' := #[.val (.long q1), .second, .val (.long (own_u1 q1)), .second, .val (.long (own_u2 q1)), .second, .unset, .unset, .unset, .unset]) rfl ?_
    show Steps p.tables e below (s₁.setTop (mkF m 19 #[.val (.long q1), .second, .val (.long (own_u1 q1)), .second, .val (.long (own_u2 q1)), .second, .unset, .unset, .unset, .unset] [])) _
    refine XS.lload X0.here hx rfl (hb hby d2_19) rfl ?_
    show Steps p.tables e below (s₁.setTop (mkF m 21 #[.val (.long q1), .second, .val (.long (own_u1 q1)), .second, .val (.long (own_u2 q1)), .second, .unset, .unset, .unset, .unset] [(.long (own_u2 q1))])) _
    refine XS.lload X0.here hx rfl (hb hby d2_21) rfl ?_
    show Steps p.tables e below (s₁.setTop (mkF m 23 #[.val (.long q1), .second, .val (.long (own_u1 q1)), .second, .val (.long (own_u2 q1)), .second, .unset, .unset, .unset, .unset] [(.long (own_u2 q1)), (.long (own_u2 q1))])) _
    refine XS.bipush X0.here hx rfl (hb hby d2_23) ?_
    show Steps p.tables e below (s₁.setTop (mkF m 25 #[.val (.long q1), .second, .val (.long (own_u1 q1)), .second, .val (.long (own_u2 q1)), .second, .unset, .unset, .unset, .unset] [(.int (27 : Int32)), (.long (own_u2 q1)), (.long (own_u2 q1))])) _
    refine XS.lushr X0.here hx rfl (hb hby d2_25) rfl ?_
    show Steps p.tables e below (s₁.setTop (mkF m 26 #[.val (.long q1), .second, .val (.long (own_u1 q1)), .second, .val (.long (own_u2 q1)), .second, .unset, .unset, .unset, .unset] [(.long (((own_u2 q1).toUInt64 >>> ((27 : Int32) &&& 0x3f).toInt64.toUInt64).toInt64)), (.long (own_u2 q1))])) _
    refine XS.lxor X0.here hx rfl (hb hby d2_26) rfl ?_
    show Steps p.tables e below (s₁.setTop (mkF m 27 #[.val (.long q1), .second, .val (.long (own_u1 q1)), .second, .val (.long (own_u2 q1)), .second, .unset, .unset, .unset, .unset] [(.long (own_x (own_u2 q1) 27))])) _
    refine XS.lload X0.here hx rfl (hb hby d2_27) rfl ?_
    show Steps p.tables e below (s₁.setTop (mkF m 29 #[.val (.long q1), .second, .val (.long (own_u1 q1)), .second, .val (.long (own_u2 q1)), .second, .unset, .unset, .unset, .unset] [(.long (own_u2 q1)), (.long (own_x (own_u2 q1) 27))])) _
    refine XS.bipush X0.here hx rfl (hb hby d2_29) ?_
    show Steps p.tables e below (s₁.setTop (mkF m 31 #[.val (.long q1), .second, .val (.long (own_u1 q1)), .second, .val (.long (own_u2 q1)), .second, .unset, .unset, .unset, .unset] [(.int (54 : Int32)), (.long (own_u2 q1)), (.long (own_x (own_u2 q1) 27))])) _
    refine XS.lushr X0.here hx rfl (hb hby d2_31) rfl ?_
    show Steps p.tables e below (s₁.setTop (mkF m 32 #[.val (.long q1), .second, .val (.long (own_u1 q1)), .second, .val (.long (own_u2 q1)), .second, .unset, .unset, .unset, .unset] [(.long (((own_u2 q1).toUInt64 >>> ((54 : Int32) &&& 0x3f).toInt64.toUInt64).toInt64)), (.long (own_x (own_u2 q1) 27))])) _
    refine XS.lxor X0.here hx rfl (hb hby d2_32) rfl ?_
    show Steps p.tables e below (s₁.setTop (mkF m 33 #[.val (.long q1), .second, .val (.long (own_u1 q1)), .second, .val (.long (own_u2 q1)), .second, .unset, .unset, .unset, .unset] [(.long (own_u3 q1))])) _
    refine XS.lstore X0.here hx rfl (hb hby d2_33) rfl (l' := #[.val (.long q1), .second, .val (.long (own_u1 q1)), .second, .val (.long (own_u2 q1)), .second, .val (.long (own_u3 q1)), .second, .unset, .unset]) rfl ?_
    show Steps p.tables e below (s₁.setTop (mkF m 35 #[.val (.long q1), .second, .val (.long (own_u1 q1)), .second, .val (.long (own_u2 q1)), .second, .val (.long (own_u3 q1)), .second, .unset, .unset] [])) _
    refine XS.lload X0.here hx rfl (hb hby d2_35) rfl ?_
    show Steps p.tables e below (s₁.setTop (mkF m 37 #[.val (.long q1), .second, .val (.long (own_u1 q1)), .second, .val (.long (own_u2 q1)), .second, .val (.long (own_u3 q1)), .second, .unset, .unset] [(.long (own_u3 q1))])) _
    refine X0.ldc2Long hx hown (mvT hZ (hw _ (List.mem_of_getElem? (i := 11) rfl))) (g := (mkF m 37 #[.val (.long q1), .second, .val (.long (own_u1 q1)), .second, .val (.long (own_u2 q1)), .second, .val (.long (own_u3 q1)), .second, .unset, .unset] [(.long (own_u3 q1))])) rfl (hb hby d2_37) _ ?_
    show Steps p.tables e below (s₁.setTop (mkF m 40 #[.val (.long q1), .second, .val (.long (own_u1 q1)), .second, .val (.long (own_u2 q1)), .second, .val (.long (own_u3 q1)), .second, .unset, .unset] [(.long (-7575587736534282103 : Int64)), (.long (own_u3 q1))])) _
    refine XS.lmul X0.here hx rfl (hb hby d2_40) rfl ?_
    show Steps p.tables e below (s₁.setTop (mkF m 41 #[.val (.long q1), .second, .val (.long (own_u1 q1)), .second, .val (.long (own_u2 q1)), .second, .val (.long (own_u3 q1)), .second, .unset, .unset] [(.long (own_u4 q1))])) _
    refine XS.lstore X0.here hx rfl (hb hby d2_41) rfl (l' := #[.val (.long q1), .second, .val (.long (own_u1 q1)), .second, .val (.long (own_u2 q1)), .second, .val (.long (own_u3 q1)), .second, .val (.long (own_u4 q1)), .second]) rfl ?_
    show Steps p.tables e below (s₁.setTop (mkF m 43 #[.val (.long q1), .second, .val (.long (own_u1 q1)), .second, .val (.long (own_u2 q1)), .second, .val (.long (own_u3 q1)), .second, .val (.long (own_u4 q1)), .second] [])) _
    refine XS.lload X0.here hx rfl (hb hby d2_43) rfl ?_
    show Steps p.tables e below (s₁.setTop (mkF m 45 #[.val (.long q1), .second, .val (.long (own_u1 q1)), .second, .val (.long (own_u2 q1)), .second, .val (.long (own_u3 q1)), .second, .val (.long (own_u4 q1)), .second] [(.long (own_u4 q1))])) _
    refine XS.lload X0.here hx rfl (hb hby d2_45) rfl ?_
    show Steps p.tables e below (s₁.setTop (mkF m 47 #[.val (.long q1), .second, .val (.long (own_u1 q1)), .second, .val (.long (own_u2 q1)), .second, .val (.long (own_u3 q1)), .second, .val (.long (own_u4 q1)), .second] [(.long (own_u4 q1)), (.long (own_u4 q1))])) _
    refine XS.bipush X0.here hx rfl (hb hby d2_47) ?_
    show Steps p.tables e below (s₁.setTop (mkF m 49 #[.val (.long q1), .second, .val (.long (own_u1 q1)), .second, .val (.long (own_u2 q1)), .second, .val (.long (own_u3 q1)), .second, .val (.long (own_u4 q1)), .second] [(.int (30 : Int32)), (.long (own_u4 q1)), (.long (own_u4 q1))])) _
    refine XS.lushr X0.here hx rfl (hb hby d2_49) rfl ?_
    show Steps p.tables e below (s₁.setTop (mkF m 50 #[.val (.long q1), .second, .val (.long (own_u1 q1)), .second, .val (.long (own_u2 q1)), .second, .val (.long (own_u3 q1)), .second, .val (.long (own_u4 q1)), .second] [(.long (((own_u4 q1).toUInt64 >>> ((30 : Int32) &&& 0x3f).toInt64.toUInt64).toInt64)), (.long (own_u4 q1))])) _
    refine XS.lxor X0.here hx rfl (hb hby d2_50) rfl ?_
    show Steps p.tables e below (s₁.setTop (mkF m 51 #[.val (.long q1), .second, .val (.long (own_u1 q1)), .second, .val (.long (own_u2 q1)), .second, .val (.long (own_u3 q1)), .second, .val (.long (own_u4 q1)), .second] [(.long (own_x (own_u4 q1) 30))])) _
    refine XS.lload X0.here hx rfl (hb hby d2_51) rfl ?_
    show Steps p.tables e below (s₁.setTop (mkF m 53 #[.val (.long q1), .second, .val (.long (own_u1 q1)), .second, .val (.long (own_u2 q1)), .second, .val (.long (own_u3 q1)), .second, .val (.long (own_u4 q1)), .second] [(.long (own_u4 q1)), (.long (own_x (own_u4 q1) 30))])) _
    refine XS.bipush X0.here hx rfl (hb hby d2_53) ?_
    show Steps p.tables e below (s₁.setTop (mkF m 55 #[.val (.long q1), .second, .val (.long (own_u1 q1)), .second, .val (.long (own_u2 q1)), .second, .val (.long (own_u3 q1)), .second, .val (.long (own_u4 q1)), .second] [(.int (60 : Int32)), (.long (own_u4 q1)), (.long (own_x (own_u4 q1) 30))])) _
    refine XS.lushr X0.here hx rfl (hb hby d2_55) rfl ?_
    show Steps p.tables e below (s₁.setTop (mkF m 56 #[.val (.long q1), .second, .val (.long (own_u1 q1)), .second, .val (.long (own_u2 q1)), .second, .val (.long (own_u3 q1)), .second, .val (.long (own_u4 q1)), .second] [(.long (((own_u4 q1).toUInt64 >>> ((60 : Int32) &&& 0x3f).toInt64.toUInt64).toInt64)), (.long (own_x (own_u4 q1) 30))])) _
    refine XS.lxor X0.here hx rfl (hb hby d2_56) rfl ?_
    show Steps p.tables e below (s₁.setTop (mkF m 57 #[.val (.long q1), .second, .val (.long (own_u1 q1)), .second, .val (.long (own_u2 q1)), .second, .val (.long (own_u3 q1)), .second, .val (.long (own_u4 q1)), .second] [(.long (own_unmix q1))])) _
    jvm_step X0.here [X0.here.top, hx, (hb hby d2_57), X0.method', Bd.returns, narrow]
    first | (intro acts; rw [hr _ acts rfl rfl rfl]) | rw [hr _ _ rfl rfl rfl]
    exact Steps.refl _
  · show Q2 Z q1 h0 n0 _ s₁.heap _
    rw [e0]
    exact ⟨rfl, N0, rfl⟩
def Q0 (Z : State) (q1 : Int64) (q2 : Int64) (h0 : Heap) (n0 : Nat) (v : Option Value) (h : Heap) (L : List Loc) : Prop := v = some (.int (1 : Int32)) ∧ Fr n0 L
set_option maxRecDepth 65536 in
set_option maxHeartbeats 40000000 in
theorem rm0 (l : Launch) (Z : State) (a0 : Array Value) (hw : ∀ d ∈ tables_1, d.before a0 Z = true) (ws : List Jvm.Cond) (q1 : Int64) (q2 : Int64) (h0 : Heap) (n0 : Nat) (Z0 : n0 ≤ h0.size) (hc40 : ¬ ((1 : Int32) = (0 : Int32))) (hc45 : ¬ ((1 : Int32) = (0 : Int32))) :
    MetFree l x (head1 (Jvm.Cond.code x code maxLocals ret :: ws) room_1) (fun a U => a = #[(.long q1), (.long q2)] ∧ Z.Warmed39 U.vm ∧ U.heap = h0) (fun _ _ _ _ _ => True) (fun _ U o U' => ∃ v L, o = .returned v ∧ Q0 Z q1 q2 h0 n0 v U'.heap L ∧ FrameEnd U o U' L room_1.cells room_1.slots) := by
  refine MetFree.of_bodySF (plainFor_of_name pn_0) hisR ?_
  intro p e s m args below meth c s₁ Bd hml0 hP hK
  obtain ⟨rfl, hZ, hh⟩ := hP
  have hx := Bd.exec
  have hby := Bd.bytes
  have hml : c.maxLocals = 6 := hml0
  have hown : s.vm.findClass "com/example/criba/criba/KeyHashingMixPinLaw" = some m.cls := findClass_of_methodNamed Bd.named
  have hnm := (name_of_methodNamed Bd.named Bd.method).1
  have X0 : Stand p l e room_1 s m #[(.long q1), (.long q2)] below meth c s₁ [] 0 0 := Stand.of_body Bd
  have e0 : s₁.heap = h0 := by rw [← hh, Bd.state]; rfl
  have N0 := Fr.nil n0
  have pre0 : ∀ t, Steps p.tables e below (s₁.setTop (mkF m 0 #[.val (.long q1), .second, .val (.long q2), .second, .unset, .unset] [])) t → Steps p.tables e below (s₁.setTop (entryFrame m #[(.long q1), (.long q2)] maxLocals)) t := fun t k => castTop (ef_0 m q1 q2) k
  obtain ⟨_, _, ⟨T3, L3, k3, n3⟩, -, X3, ⟨Lc3, hQ3, l3, y3, z3⟩, st3⟩ := Jvm.LawKit.callS X0 hx (y := (⟨"com/example/criba/criba/KeyHashing", "mix", "(J)J"⟩ : MethodName)) hown (mvT hZ (hw _ (List.mem_of_getElem? (i := 0) rfl))) (mvT hZ (hw _ (List.mem_of_getElem? (i := 1) rfl))) (mvT hZ (hw _ (List.mem_of_getElem? (i := 2) rfl))) (mvT hZ (hw _ (List.mem_of_getElem? (i := 3) rfl))) (by decide) (backOf (W := 0) (rm1 l Z a0 hw [] q1 h0 n0 Z0) hZ (hw _ (List.mem_of_getElem? (i := 3) rfl)) (hw _ (List.mem_of_getElem? (i := 2) rfl)) (by decide) (by decide)) (g := (mkF m 1 #[.val (.long q1), .second, .val (.long q2), .second, .unset, .unset] [(.long q1)])) rfl (by rw [hml]; rfl) (argsL := [(.long q1)]) (rest := []) (lenOf pd_0_0 rfl) rfl (by show 2 * 0 + _ ≤ _; exact Nat.le_of_eq rfl) (hb hby at_1) (fun _ _ => ⟨rfl, e0, (by decide : 0 + 0 ≤ _), (by decide : 0 + 0 ≤ _)⟩)
  dsimp only [Pt.U, Pt.locs, Pt.cells, Pt.slots] at X3 l3 y3 z3 st3 hQ3
  subst l3 y3 z3
  obtain ⟨rfl, N3q, e3⟩ := hQ3
  have Z3 : n0 ≤ T3.heap.size := by rw [e3]; exact Z0
  have N3 := Fr.app N0 N3q
  obtain ⟨_, _, ⟨T4, L4, k4, n4⟩, -, X4, ⟨Lc4, hQ4, l4, y4, z4⟩, st4⟩ := Jvm.LawKit.callS X3 hx (y := (⟨"com/example/criba/criba/KeyHashingMixPinLaw", "unmix", "(J)J"⟩ : MethodName)) hown (mvT hZ (hw _ (List.mem_of_getElem? (i := 6) rfl))) (mvT hZ (hw _ (List.mem_of_getElem? (i := 7) rfl))) (mvT hZ (hw _ (List.mem_of_getElem? (i := 8) rfl))) (mvT hZ (hw _ (List.mem_of_getElem? (i := 9) rfl))) (by decide) (backOf (W := 0) (rm2 l Z a0 hw [] (own_mix q1) T3.heap n0 Z3) hZ (hw _ (List.mem_of_getElem? (i := 9) rfl)) (hw _ (List.mem_of_getElem? (i := 8) rfl)) (by decide) (by decide)) (g := (mkF m 4 #[.val (.long q1), .second, .val (.long q2), .second, .unset, .unset] [(.long (own_mix q1))])) rfl (by rw [hml]; rfl) (argsL := [(.long (own_mix q1))]) (rest := []) (lenOf pd_0_0 rfl) rfl (by show 2 * 0 + _ ≤ _; exact Nat.le_of_eq rfl) (hb hby at_4) (fun _ _ => ⟨rfl, rfl, (by decide : 0 + 0 ≤ _), (by decide : 0 + 0 ≤ _)⟩)
  dsimp only [Pt.U, Pt.locs, Pt.cells, Pt.slots] at X4 l4 y4 z4 st4 hQ4
  subst l4 y4 z4
  obtain ⟨rfl, N4q, e4⟩ := hQ4
  have Z4 : n0 ≤ T4.heap.size := by rw [e4]; exact Z3
  have N4 := Fr.app N3 N4q
  obtain ⟨_, _, ⟨T5, L5, k5, n5⟩, -, X5, ⟨Lc5, hQ5, l5, y5, z5⟩, st5⟩ := Jvm.LawKit.callS X4 hx (y := (⟨"com/example/criba/criba/KeyHashingMixPinLaw", "unmix", "(J)J"⟩ : MethodName)) hown (mvT hZ (hw _ (List.mem_of_getElem? (i := 6) rfl))) (mvT hZ (hw _ (List.mem_of_getElem? (i := 7) rfl))) (mvT hZ (hw _ (List.mem_of_getElem? (i := 8) rfl))) (mvT hZ (hw _ (List.mem_of_getElem? (i := 9) rfl))) (by decide) (backOf (W := 0) (rm2 l Z a0 hw [] q2 T4.heap n0 Z4) hZ (hw _ (List.mem_of_getElem? (i := 9) rfl)) (hw _ (List.mem_of_getElem? (i := 8) rfl)) (by decide) (by decide)) (g := (mkF m 20 #[.val (.long q1), .second, .val (.long q2), .second, .val (.int (1 : Int32)), .unset] [(.long q2)])) rfl (by rw [hml]; rfl) (argsL := [(.long q2)]) (rest := []) (lenOf pd_0_0 rfl) rfl (by show 2 * 0 + _ ≤ _; exact Nat.le_of_eq rfl) (hb hby at_20) (fun _ _ => ⟨rfl, rfl, (by decide : 0 + 0 ≤ _), (by decide : 0 + 0 ≤ _)⟩)
  dsimp only [Pt.U, Pt.locs, Pt.cells, Pt.slots] at X5 l5 y5 z5 st5 hQ5
  subst l5 y5 z5
  obtain ⟨rfl, N5q, e5⟩ := hQ5
  have Z5 : n0 ≤ T5.heap.size := by rw [e5]; exact Z4
  have N5 := Fr.app N4 N5q
  obtain ⟨_, _, ⟨T6, L6, k6, n6⟩, -, X6, ⟨Lc6, hQ6, l6, y6, z6⟩, st6⟩ := Jvm.LawKit.callS X5 hx (y := (⟨"com/example/criba/criba/KeyHashing", "mix", "(J)J"⟩ : MethodName)) hown (mvT hZ (hw _ (List.mem_of_getElem? (i := 0) rfl))) (mvT hZ (hw _ (List.mem_of_getElem? (i := 1) rfl))) (mvT hZ (hw _ (List.mem_of_getElem? (i := 2) rfl))) (mvT hZ (hw _ (List.mem_of_getElem? (i := 3) rfl))) (by decide) (backOf (W := 0) (rm1 l Z a0 hw [] (own_unmix q2) T5.heap n0 Z5) hZ (hw _ (List.mem_of_getElem? (i := 3) rfl)) (hw _ (List.mem_of_getElem? (i := 2) rfl)) (by decide) (by decide)) (g := (mkF m 23 #[.val (.long q1), .second, .val (.long q2), .second, .val (.int (1 : Int32)), .unset] [(.long (own_unmix q2))])) rfl (by rw [hml]; rfl) (argsL := [(.long (own_unmix q2))]) (rest := []) (lenOf pd_0_0 rfl) rfl (by show 2 * 0 + _ ≤ _; exact Nat.le_of_eq rfl) (hb hby at_23) (fun _ _ => ⟨rfl, rfl, (by decide : 0 + 0 ≤ _), (by decide : 0 + 0 ≤ _)⟩)
  dsimp only [Pt.U, Pt.locs, Pt.cells, Pt.slots] at X6 l6 y6 z6 st6 hQ6
  subst l6 y6 z6
  obtain ⟨rfl, N6q, e6⟩ := hQ6
  have Z6 : n0 ≤ T6.heap.size := by rw [e6]; exact Z5
  have N6 := Fr.app N5 N6q
  obtain ⟨fs, hr, hrun, hended, hW, hsame⟩ := X6.leave (v := some (.int (1 : Int32))) (fun h => by rw [Bd.returns] at h; cases h)
  refine ⟨_, _, pre0 _ ?_, hrun, hended, _, _, rfl, ?_, ⟨_, rfl⟩, hW, hsame.mono (by decide) (by decide)⟩
  · show Steps p.tables e below (s₁.setTop (mkF m 0 #[.val (.long q1), .second, .val (.long q2), .second, .unset, .unset] [])) _
    refine XS.lloadN X0.here hx rfl (hb hby at_0) rfl ?_
    show Steps p.tables e below (s₁.setTop (mkF m 1 #[.val (.long q1), .second, .val (.long q2), .second, .unset, .unset] [(.long q1)])) _
    refine st3 _ ?_
    show Steps p.tables e below (T3.setTop (mkF m 4 #[.val (.long q1), .second, .val (.long q2), .second, .unset, .unset] [(.long (own_mix q1))])) _
    refine st4 _ ?_
    show Steps p.tables e below (T4.setTop (mkF m 7 #[.val (.long q1), .second, .val (.long q2), .second, .unset, .unset] [(.long (own_unmix (own_mix q1)))])) _
    refine XS.lloadN X4.here hx rfl (hb hby at_7) rfl ?_
    show Steps p.tables e below (T4.setTop (mkF m 8 #[.val (.long q1), .second, .val (.long q2), .second, .unset, .unset] [(.long q1), (.long (own_unmix (own_mix q1)))])) _
    refine XS.lcmp X4.here hx rfl (hb hby at_8) rfl ?_
    show Steps p.tables e below (T4.setTop (mkF m 9 #[.val (.long q1), .second, .val (.long q2), .second, .unset, .unset] [(.int (lcmpW (own_unmix (own_mix q1)) q1))])) _
    refine XS.ifNo X4.here hx rfl (hb hby at_9) rfl ((if0 _ _).trans (teq (own_lc _ _ (own_there q1) : (lcmpW (own_unmix (own_mix q1)) q1) = (0 : Int32))).2) ?_
    show Steps p.tables e below (T4.setTop (mkF m 12 #[.val (.long q1), .second, .val (.long q2), .second, .unset, .unset] [])) _
    refine XS.iconst X4.here hx rfl (hb hby at_12) ?_
    show Steps p.tables e below (T4.setTop (mkF m 13 #[.val (.long q1), .second, .val (.long q2), .second, .unset, .unset] [(.int (1 : Int32))])) _
    refine XS.goto X4.here hx rfl (pc0 := 13) (pc' := 17) rfl (hb hby at_13) (by decide) (by decide) ?_
    show Steps p.tables e below (T4.setTop (mkF m 17 #[.val (.long q1), .second, .val (.long q2), .second, .unset, .unset] [(.int (1 : Int32))])) _
    refine XS.istore X4.here hx rfl (hb hby at_17) rfl (l' := #[.val (.long q1), .second, .val (.long q2), .second, .val (.int (1 : Int32)), .unset]) rfl ?_
    show Steps p.tables e below (T4.setTop (mkF m 19 #[.val (.long q1), .second, .val (.long q2), .second, .val (.int (1 : Int32)), .unset] [])) _
    refine XS.lloadN X4.here hx rfl (hb hby at_19) rfl ?_
    show Steps p.tables e below (T4.setTop (mkF m 20 #[.val (.long q1), .second, .val (.long q2), .second, .val (.int (1 : Int32)), .unset] [(.long q2)])) _
    refine st5 _ ?_
    show Steps p.tables e below (T5.setTop (mkF m 23 #[.val (.long q1), .second, .val (.long q2), .second, .val (.int (1 : Int32)), .unset] [(.long (own_unmix q2))])) _
    refine st6 _ ?_
    show Steps p.tables e below (T6.setTop (mkF m 26 #[.val (.long q1), .second, .val (.long q2), .second, .val (.int (1 : Int32)), .unset] [(.long (own_mix (own_unmix q2)))])) _
    refine XS.lloadN X6.here hx rfl (hb hby at_26) rfl ?_
    show Steps p.tables e below (T6.setTop (mkF m 27 #[.val (.long q1), .second, .val (.long q2), .second, .val (.int (1 : Int32)), .unset] [(.long q2), (.long (own_mix (own_unmix q2)))])) _
    refine XS.lcmp X6.here hx rfl (hb hby at_27) rfl ?_
    show Steps p.tables e below (T6.setTop (mkF m 28 #[.val (.long q1), .second, .val (.long q2), .second, .val (.int (1 : Int32)), .unset] [(.int (lcmpW (own_mix (own_unmix q2)) q2))])) _
    refine XS.ifNo X6.here hx rfl (hb hby at_28) rfl ((if0 _ _).trans (teq (own_lc _ _ (own_back q2) : (lcmpW (own_mix (own_unmix q2)) q2) = (0 : Int32))).2) ?_
    show Steps p.tables e below (T6.setTop (mkF m 31 #[.val (.long q1), .second, .val (.long q2), .second, .val (.int (1 : Int32)), .unset] [])) _
    refine XS.iconst X6.here hx rfl (hb hby at_31) ?_
    show Steps p.tables e below (T6.setTop (mkF m 32 #[.val (.long q1), .second, .val (.long q2), .second, .val (.int (1 : Int32)), .unset] [(.int (1 : Int32))])) _
    refine XS.goto X6.here hx rfl (pc0 := 32) (pc' := 36) rfl (hb hby at_32) (by decide) (by decide) ?_
    show Steps p.tables e below (T6.setTop (mkF m 36 #[.val (.long q1), .second, .val (.long q2), .second, .val (.int (1 : Int32)), .unset] [(.int (1 : Int32))])) _
    refine XS.istore X6.here hx rfl (hb hby at_36) rfl (l' := #[.val (.long q1), .second, .val (.long q2), .second, .val (.int (1 : Int32)), .val (.int (1 : Int32))]) rfl ?_
    show Steps p.tables e below (T6.setTop (mkF m 38 #[.val (.long q1), .second, .val (.long q2), .second, .val (.int (1 : Int32)), .val (.int (1 : Int32))] [])) _
    refine XS.iload X6.here hx rfl (hb hby at_38) rfl ?_
    show Steps p.tables e below (T6.setTop (mkF m 40 #[.val (.long q1), .second, .val (.long q2), .second, .val (.int (1 : Int32)), .val (.int (1 : Int32))] [(.int (1 : Int32))])) _
    refine XS.ifNo X6.here hx rfl (hb hby at_40) rfl ((if0 _ _).trans (feq hc40).1) ?_
    show Steps p.tables e below (T6.setTop (mkF m 43 #[.val (.long q1), .second, .val (.long q2), .second, .val (.int (1 : Int32)), .val (.int (1 : Int32))] [])) _
    refine XS.iload X6.here hx rfl (hb hby at_43) rfl ?_
    show Steps p.tables e below (T6.setTop (mkF m 45 #[.val (.long q1), .second, .val (.long q2), .second, .val (.int (1 : Int32)), .val (.int (1 : Int32))] [(.int (1 : Int32))])) _
    refine XS.ifNo X6.here hx rfl (hb hby at_45) rfl ((if0 _ _).trans (feq hc45).1) ?_
    show Steps p.tables e below (T6.setTop (mkF m 48 #[.val (.long q1), .second, .val (.long q2), .second, .val (.int (1 : Int32)), .val (.int (1 : Int32))] [])) _
    refine XS.iconst X6.here hx rfl (hb hby at_48) ?_
    show Steps p.tables e below (T6.setTop (mkF m 49 #[.val (.long q1), .second, .val (.long q2), .second, .val (.int (1 : Int32)), .val (.int (1 : Int32))] [(.int (1 : Int32))])) _
    refine XS.goto X6.here hx rfl (pc0 := 49) (pc' := 53) rfl (hb hby at_49) (by decide) (by decide) ?_
    show Steps p.tables e below (T6.setTop (mkF m 53 #[.val (.long q1), .second, .val (.long q2), .second, .val (.int (1 : Int32)), .val (.int (1 : Int32))] [(.int (1 : Int32))])) _
    exact retN X6 hx (t := .boolean) Bd.returns (by simp) (hb hby at_53) hr
  · show Q0 Z q1 q2 h0 n0 _ T6.heap _
    exact ⟨rfl, N6⟩
set_option maxRecDepth 65536 in
set_option maxHeartbeats 40000000 in
theorem comes_1 {Post : Tables → Env → Array Value → State → Outcome → State → Prop} (hpost : ∀ tb e args s v u, (limb_1_1.after args s (.returned v) u = true ∧ limb_1_2.after args s (.returned v) u = true ∧ True) → FrameEnd s (.returned v) u (Jvm.fieldLocs frame_1_writes args s ++ Jvm.arrayLocs frame_1_arrays args s ++ Jvm.staticLocs frame_1_statics s) 0 0 → Post tb e args s (.returned v) u) :
    ArmFor flags0 classFile x code maxLocals ret World_1 tables_1 room_1 Calls_1 rest_1 Pre_1 Post := by
  intro l hfl _ _ p e ha hc hk s m args below hf hA hF happ hP
  obtain ⟨hcalls, hrest, hpre⟩ := hP
  obtain ⟨-, -, -, hnamed, -, -, -, hat⟩ := (Spec.applies_iff hf).mp happ
  obtain ⟨hg, hn⟩ := and_e (Cond.before_iff.mp (show (Jvm.Cond.and given_1 narrow_1).before args s = true from hpre))
  obtain ⟨g7, g8⟩ := and_e hg
  obtain ⟨g9, g10⟩ := and_e g8
  obtain ⟨w0, w1, rfl⟩ : ∃ w0 w1 : Value, args = #[w0, w1] := by
    have hs : args.size = 2 := by simpa [Cond.value, given_1] using g7
    obtain ⟨L⟩ := args
    match L, hs with
    | [w0, w1], _ => exact ⟨w0, w1, rfl⟩
  have hw := fun d (hd : d ∈ tables_1) => atoms_spec (ws := Jvm.Cond.code x code maxLocals ret :: tables_1) hat d (List.mem_cons_of_mem _ hd)
  have hfit : Fit s := fun {y c} hc i hi => by
    obtain ⟨ha, rfl⟩ := Array.getElem?_eq_some_iff.mp hc
    have q := List.all_eq_true.mp ((Array.all_eq_true_iff_forall_mem.mp hF) _ (Array.getElem_mem ha)) i (List.mem_range.mpr hi)
    simpa [Array.getElem?_eq_getElem hi] using q
  obtain ⟨i0, ei0⟩ := isL_v g9
  obtain rfl : w0 = (.long i0) := Option.some.inj ei0
  obtain ⟨i1, ei1⟩ := isL_v g10
  obtain rfl : w1 = (.long i1) := Option.some.inj ei1
  obtain ⟨n, o, h1, h2, h3, _, L, rfl, ⟨rfl, N⟩, hq⟩ := rm0 l s _ hw tables_1 i0 i1 s.heap s.heap.size (Nat.le_refl _) (by decide) (by decide) p e ha hc hk s m _ below hf ((Spec.applies_iff_loose hf).mp happ).1 ⟨rfl, State.Warmed39.refl s, rfl⟩ trivial
  refine ⟨n, _, h1, h2, h3, hpost _ _ _ _ _ _ ⟨Cond.after_iff.mpr rfl, Cond.after_iff.mpr (eq_i res_at (Term.int_eval (1)) rfl), trivial⟩ ⟨hq.1, hq.2.1, (hq.2.2.sift fun y hy => Or.inr (N y hy)).mono (by decide) (by decide)⟩⟩
theorem main_1_1 : Claimed_1_1 := comes_1 fun _ _ _ _ _ _ h hF => ⟨h.1, hF⟩
theorem main_1_2 : Claimed_1_2 := comes_1 fun _ _ _ _ _ _ h hF => ⟨h.2.1, hF⟩
end Jvm.Pilot.@@N@@
namespace Jvm.Pilot.@@N@@
open Jvm Jvm.ClassFile Sem Op Lib Jvm.Free Jvm.Stand Jvm.Pilot.@@N@@.Jvm.D
/-! MADE BY PROGRAM (witnessworld.py) out of the Statement's table words and the real class files: 7 classes; the members and pool entries that the words name. The judged class is class 1, her method 2. -/
namespace start1
open Jvm.ClassFile
def u (s : String) : CpInfo := .utf8 (stringToUtf16 s)
/-- a pool by its gaps: so many unusable entries, then the entry; so many at the end -/
def gap : Nat → List CpInfo → List CpInfo
  | 0, r => r
  | n + 1, r => .unusable :: gap n r
def poolList (es : List (Nat × CpInfo)) (last : Nat) : List CpInfo := es.foldr (fun e r => gap e.1 (e.2 :: r)) (gap last [])
def pool (es : List (Nat × CpInfo)) (last : Nat) : Array CpInfo := ⟨poolList es last⟩
def fileOf (pool : Array CpInfo) (this : Nat) (attrs : Array Attribute := #[]) (ms : Array MethodInfo := #[]) (fl : Nat := 33) (sup : Nat := 0) (ifs : Array Nat := #[]) (fds : Array FieldInfo := #[]) : ClassFile where
  minorVersion := 0
  majorVersion := 65
  constantPool := pool
  accessFlags := fl
  thisClass := this
  superClass := sup
  interfaces := ifs
  fields := fds
  methods := ms
  attributes := attrs
def plain (name : String) (sup : Option ClassId) : Class where
  name := name
  kind := .ordinary
  loader := none
  accessFlags := 33
  super := sup
  interfaces := #[]
  cf := none
  fields := #[]
  methods := #[]
  instanceTypes := #[]
  staticTypes := #[]
  resolved := #[]
  callSites := []
  init := .initialized
  statics := none
  mirror := none

def pool0 : Array CpInfo := pool [(5, u "<init>"), (0, u "()V"), (1, .class_ 10), (1, u "java/lang/Object")] 113

def k0m0 : Method := { name := "<init>", desc := "()V", sig := { parameters := [], returnType := none }, accessFlags := 1, code := none }
/-- java/lang/Object -/
def k0 : Class := { plain "java/lang/Object" none with
  accessFlags := 33
  interfaces := #[]
  cf := some (fileOf pool0 8 #[] #[{ accessFlags := 1, nameIndex := 5, descriptorIndex := 6, attributes := #[] }] 33 0 #[] #[])
  fields := #[]
  methods := #[k0m0]
  instanceTypes := #[]
  staticTypes := #[]
  resolved := Array.replicate 124 none
  statics := none }

def pool1 : Array CpInfo := pool [(2, .class_ 4), (1, u "java/lang/Object"), (0, u "<init>"), (0, u "()V"), (0, .class_ 8), (0, u "com/example/criba/criba/KeyHashingMixPinLaw"), (0, .long 3573116690164977347), (1, .long 10871156337175269513), (1, .methodref 14 15), (0, .class_ 16), (0, .nameAndType 17 18), (0, u "com/example/criba/criba/KeyHashing"), (0, u "mix"), (0, u "(J)J"), (0, .methodref 7 20), (0, .nameAndType 21 18), (0, u "unmix"), (0, u "INV1"), (0, u "J"), (1, u "INV2"), (2, u "law"), (0, u "(JJ)Z")] 3

def k1m0 : Method := { name := "<init>", desc := "()V", sig := { parameters := [], returnType := none }, accessFlags := 2, code := none }
def k1c1 : Code := { maxStack := 5, maxLocals := 10, code := method_2_code, exceptionTable := #[], attributes := #[] }
def k1m1 : Method := { name := "unmix", desc := "(J)J", sig := { parameters := [.long], returnType := some .long }, accessFlags := 10, code := some k1c1 }
def k1c2 : Code := { maxStack := 4, maxLocals := 6, code := code, exceptionTable := #[], attributes := #[] }
def k1m2 : Method := { name := "law", desc := "(JJ)Z", sig := { parameters := [.long, .long], returnType := some .boolean }, accessFlags := 9, code := some k1c2 }
/-- com/example/criba/criba/KeyHashingMixPinLaw -/
def k1 : Class := { plain "com/example/criba/criba/KeyHashingMixPinLaw" (some 0) with
  accessFlags := 49
  interfaces := #[]
  cf := some (fileOf pool1 7 #[] #[{ accessFlags := 2, nameIndex := 5, descriptorIndex := 6, attributes := #[] }, { accessFlags := 10, nameIndex := 21, descriptorIndex := 18, attributes := #[] }, { accessFlags := 9, nameIndex := 28, descriptorIndex := 29, attributes := #[] }] 49 2 #[] #[{ accessFlags := 26, nameIndex := 22, descriptorIndex := 23, attributes := #[] }, { accessFlags := 26, nameIndex := 25, descriptorIndex := 23, attributes := #[] }])
  fields := #[{ name := "INV1", type := .long, accessFlags := 26, slot := 0, constantValue := 0 }, { name := "INV2", type := .long, accessFlags := 26, slot := 1, constantValue := 0 }]
  methods := #[k1m0, k1m1, k1m2]
  instanceTypes := #[]
  staticTypes := #[.long, .long]
  resolved := Array.replicate 33 none
  statics := none }

def pool2 : Array CpInfo := pool [(2, .class_ 4), (1, u "java/lang/Object"), (0, u "<init>"), (0, u "()V"), (0, .class_ 8), (0, u "com/example/criba/criba/KeyHashing"), (6, u "LITTLE_ENDIAN_LONG"), (0, u "Ljava/lang/invoke/VarHandle;"), (8, u "mix"), (0, u "(J)J"), (8, .long 13787848793156543929), (1, .long 10723151780598845931), (15, u "START"), (0, u "J"), (1, u "GOLDEN")] 12

def k2m0 : Method := { name := "<init>", desc := "()V", sig := { parameters := [], returnType := none }, accessFlags := 2, code := none }
def k2c1 : Code := { maxStack := 5, maxLocals := 2, code := prog_28_method_6_code, exceptionTable := #[], attributes := #[] }
def k2m1 : Method := { name := "mix", desc := "(J)J", sig := { parameters := [.long], returnType := some .long }, accessFlags := 8, code := some k2c1 }
/-- com/example/criba/criba/KeyHashing -/
def k2 : Class := { plain "com/example/criba/criba/KeyHashing" (some 0) with
  accessFlags := 48
  interfaces := #[]
  cf := some (fileOf pool2 7 #[] #[{ accessFlags := 2, nameIndex := 5, descriptorIndex := 6, attributes := #[] }, { accessFlags := 8, nameIndex := 25, descriptorIndex := 26, attributes := #[] }] 48 2 #[] #[{ accessFlags := 26, nameIndex := 15, descriptorIndex := 16, attributes := #[] }, { accessFlags := 26, nameIndex := 53, descriptorIndex := 54, attributes := #[] }, { accessFlags := 26, nameIndex := 56, descriptorIndex := 54, attributes := #[] }])
  fields := #[{ name := "LITTLE_ENDIAN_LONG", type := (.object "java/lang/invoke/VarHandle"), accessFlags := 26, slot := 0, constantValue := 0 }, { name := "START", type := .long, accessFlags := 26, slot := 1, constantValue := 0 }, { name := "GOLDEN", type := .long, accessFlags := 26, slot := 2, constantValue := 0 }]
  methods := #[k2m0, k2m1]
  instanceTypes := #[]
  staticTypes := #[(.object "java/lang/invoke/VarHandle"), .long, .long]
  resolved := Array.replicate 69 none
  statics := none }

def pool3 : Array CpInfo := pool [(1, u "java/lang/Cloneable"), (0, .class_ 1), (0, u "java/lang/Object"), (0, .class_ 3)] 3

/-- java/lang/Cloneable -/
def k3 : Class := { plain "java/lang/Cloneable" (some 0) with
  accessFlags := 1537
  interfaces := #[]
  cf := some (fileOf pool3 2 #[] #[] 1537 4 #[] #[])
  fields := #[]
  methods := #[]
  instanceTypes := #[]
  staticTypes := #[]
  resolved := Array.replicate 8 none
  statics := none }

def pool4 : Array CpInfo := pool [(1, u "java/io/Serializable"), (0, .class_ 1), (0, u "java/lang/Object"), (0, .class_ 3)] 3

/-- java/io/Serializable -/
def k4 : Class := { plain "java/io/Serializable" (some 0) with
  accessFlags := 1537
  interfaces := #[]
  cf := some (fileOf pool4 2 #[] #[] 1537 4 #[] #[])
  fields := #[]
  methods := #[]
  instanceTypes := #[]
  staticTypes := #[]
  resolved := Array.replicate 8 none
  statics := none }

/-- the primitive byte -/
def k5 : Class := { plain "byte" none with kind := .primitive 'B', accessFlags := 0x411 }
/-- [B -/
def k6 : Class := { plain "[B" (some 0) with kind := .array 5 .byte, interfaces := #[3, 4], accessFlags := 1041 }

def heap : Heap := #[]
def classes : Array Class := #[k0, k1, k2, k3, k4, k5, k6]
def interned : List (Array UInt16 × Addr) := []
def slotsUsed : Nat := 0
def theMethod : MethodId := ⟨1, 2⟩
def args0 : Array Value := #[.long 5, .long 7]
def aboutOver (below : List Frame) : State where
  vm := { classes := classes, interned := interned.toArray }
  heap := heap
  slotsUsed := slotsUsed
  threads := #[{ frames := .invoking theMethod args0 :: below }]
def below0 : List Frame := [.native { method := ⟨0, 0⟩, args := #[] }]
def about1 : State := aboutOver below0
def p0 : Program := .bare "" "" ""
def e0 : Env := launch0.env 0 0 0
theorem w_frames : about1.frames = Frame.invoking theMethod args0 :: below0 := rfl
set_option maxRecDepth 65536 in
theorem w_args : argsFit about1.vm theMethod args0 = true := by decide +kernel
set_option maxRecDepth 65536 in
theorem w_heap : heapFits about1 = true := by decide +kernel
set_option maxRecDepth 65536 in
theorem w_runnable : about1.curStatus? = some .runnable := by decide +kernel
set_option maxRecDepth 65536 in
theorem w_alone : about1.alone = true := by decide +kernel
set_option maxRecDepth 65536 in
theorem w_named : about1.methodNamed? x = some theMethod := by decide +kernel
set_option maxRecDepth 65536 in
theorem w_hears : about1.hears theMethod below0 = true := by decide +kernel
set_option maxRecDepth 65536 in
theorem w_ripe : about1.ripe theMethod args0 below0 = true := by decide +kernel
theorem w_running : about1.status = .running := rfl
set_option maxRecDepth 65536 in
theorem w_room : about1.hasRoom e0.platform room_1 = true :=
  launch0.hasRoom_least _ room_1 (by decide +kernel) (by decide +kernel) (by decide +kernel) (by decide +kernel) (by decide +kernel) (by decide +kernel)
theorem allAtoms_all (ts : List Jvm.Cond) (a : Array Jvm.Value) (st : Jvm.State) : (allAtoms ts).before a st = ts.all (fun c => c.before a st) := by
  induction ts with
  | nil => rfl
  | cons c t ih =>
    show (Jvm.Cond.and c (allAtoms t)).before a st = _
    rw [Jvm.Cond.before_and, ih, List.all_cons]
def words1 : List Jvm.Cond := Jvm.Cond.code x code maxLocals ret :: tables_1
/-- a 'code' word, met by the world's own term for the bytes: nothing is compared byte by byte -/
theorem code_word {y : MethodName} {bytes : ByteArray} {mx : Nat} {rt : Option FieldType} {a : Array Value} {s : State} {m : MethodId} {meth : Method} {c : Code} (h1 : s.methodNamed? y = some m) (h2 : s.vm.method? m = some meth) (h3 : meth.code = some c) (h4 : c.code = bytes)
    (h5 : (c.maxLocals == mx && c.exceptionTable.isEmpty && decide (c.maxStack ≤ mostOperands) && decide (meth.sig.returnType = rt) && !meth.locks && decide (parseMethodDescriptor y.desc = some meth.sig)) = true) : (Jvm.Cond.code y bytes mx rt).before a s = true := by
  simp only [Bool.and_eq_true, beq_iff_eq, Bool.not_eq_true', decide_eq_true_eq] at h5
  obtain ⟨⟨⟨⟨⟨g1, g2⟩, g3⟩, g4⟩, g5⟩, g6⟩ := h5
  simp [Cond.before, Cond.holds, Cond.value, h1, h2, h3, h4, g1, g2, g3, g4, g5, g6]
def isCode : Jvm.Cond → Bool
  | .code _ _ _ _ => true
  | _ => false
theorem all_split {L : List Jvm.Cond} {P : Jvm.Cond → Bool} (h1 : L.all (fun c => isCode c || P c) = true) (h2 : ∀ c ∈ L.filter isCode, P c = true) : L.all P = true := by
  refine List.all_eq_true.mpr fun c hc => ?_
  have h := List.all_eq_true.mp h1 c hc
  rcases Bool.eq_false_or_eq_true (isCode c) with hi | hi
  · exact h2 c (List.mem_filter.mpr ⟨hc, hi⟩)
  · simpa [hi] using h
set_option maxRecDepth 65536 in
theorem w_c0 : (Jvm.Cond.code x code maxLocals ret).before args0 about1 = true := code_word (m := ⟨1, 2⟩) (meth := k1m2) (c := k1c2) (by decide +kernel) rfl rfl rfl (by decide +kernel)
set_option maxRecDepth 65536 in
theorem w_c1 : (Jvm.Cond.code ({ cls := "com/example/criba/criba/KeyHashing", name := "mix", desc := "(J)J" } : Jvm.MethodName) prog_28_method_6_code (2 : Nat) (Option.some Jvm.ClassFile.FieldType.long)).before args0 about1 = true := code_word (m := ⟨2, 1⟩) (meth := k2m1) (c := k2c1) (by decide +kernel) rfl rfl rfl (by decide +kernel)
set_option maxRecDepth 65536 in
theorem w_c2 : (Jvm.Cond.code ({ cls := "com/example/criba/criba/KeyHashingMixPinLaw", name := "unmix", desc := "(J)J" } : Jvm.MethodName) method_2_code (10 : Nat) (Option.some Jvm.ClassFile.FieldType.long)).before args0 about1 = true := code_word (m := ⟨1, 1⟩) (meth := k1m1) (c := k1c1) (by decide +kernel) rfl rfl rfl (by decide +kernel)
def codes1 : List Jvm.Cond := [Jvm.Cond.code x code maxLocals ret, Jvm.Cond.code ({ cls := "com/example/criba/criba/KeyHashing", name := "mix", desc := "(J)J" } : Jvm.MethodName) prog_28_method_6_code (2 : Nat) (Option.some Jvm.ClassFile.FieldType.long), Jvm.Cond.code ({ cls := "com/example/criba/criba/KeyHashingMixPinLaw", name := "unmix", desc := "(J)J" } : Jvm.MethodName) method_2_code (10 : Nat) (Option.some Jvm.ClassFile.FieldType.long)]
set_option maxRecDepth 65536 in
theorem codes_eq : words1.filter isCode = codes1 := rfl
theorem w_codes : ∀ c ∈ words1.filter isCode, c.before args0 about1 = true := by
  rw [codes_eq]
  intro c hc
  simp only [codes1, List.mem_cons, List.not_mem_nil, or_false] at hc
  rcases hc with rfl | rfl | rfl
  · exact w_c0
  · exact w_c1
  · exact w_c2
set_option maxRecDepth 65536 in
theorem w_t1 : words1.all (fun c => isCode c || c.before args0 about1) = true := by decide +kernel
theorem w_tables : (allAtoms (Jvm.Cond.code x code maxLocals ret :: tables_1)).before args0 about1 = true := by
  rw [allAtoms_all]
  show words1.all (fun c => c.before args0 about1) = true
  refine all_split ?_ w_codes
  rw [w_t1]
set_option maxRecDepth 65536 in
theorem w_case : (Jvm.Cond.and given_1 narrow_1).before args0 about1 = true := by decide +kernel
theorem w_applies : (headSpec (Jvm.Cond.code x code maxLocals ret :: tables_1) room_1).applies x e0.platform about1 = true :=
  (Spec.applies_iff w_frames).mpr ⟨w_running, w_runnable, w_alone, w_named, w_hears, w_ripe, w_room, w_tables⟩
theorem atStart : AtStart classFile x code maxLocals ret World_1 tables_1 room_1 Calls_1 rest_1 Pre_1 launch0 p0 e0 about1 theMethod args0 below0 :=
  ⟨lists_1, trivial, launch0.admits_env _ _ _, launch0.least_env, fairChoices_fair.cas, fairChoices_fair.clock, w_frames, w_args, w_heap, w_applies, trivial, trivial, w_case⟩
end start1
theorem witness_1 : WitnessClaimed_1 := ⟨start1.p0, start1.e0, start1.about1, start1.theMethod, start1.args0, start1.below0, start1.atStart⟩
end Jvm.Pilot.@@N@@
