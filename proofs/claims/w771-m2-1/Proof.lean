import JvmDerived
import JvmDerived.Pilot.@@N@@Statement
import JvmDerived.Pilot.@@N@@Code
set_option linter.unusedVariables false
set_option linter.unusedSimpArgs false
@@BLOCK:NumsL.lean.txt@@
namespace Jvm.RoadKit
open Sem ClassFile Op Lib Jvm.Stand Jvm.Free Jvm.LawKit
section New
variable {p : Program} {l : Launch} {e : Env} {R : Room} {s : State} {m : MethodId} {args : Array Value} {below : List Frame} {meth : Method} {c : Code} {T : State} {locs : List Loc} {cells slots : Nat}
theorem retI (X : Stand p l e R s m args below meth c T locs cells slots) (hx : p.tables.exec = Jvm.exec) {pc : Nat} {Ls : Array Slot} {z : Int32} {rest : List Value} (hret : meth.sig.returnType = some .int) (hd : decode c.code pc = .ok (.ireturn, 1)) {fs : List Frame}
    (hl : ∀ (f : JFrame) (acts : List Action), f.method = m → f.locked = none → f.entered = [] → (doReturn e (T.setTop f) acts (some (.int z))).1 = T.setFrames fs) : Steps p.tables e below (T.setTop (mkF m pc Ls (.int z :: rest))) (T.setFrames fs) := by
  have hm' : T.vm.method? m = some meth := X.method'
  have hn : narrow .int (.int z) = .int z := rfl
  show Steps p.tables e below (T.setTop { method := m, pc := pc, locals := Ls, stack := _ :: rest, locked := none }) _
  jvm_step X.here [X.here.top, hx, hd, hm', hret, hn]
  first | (intro acts; rw [hl _ acts rfl rfl rfl]) | rw [hl _ _ rfl rfl rfl]
  exact Steps.refl _
end New
end Jvm.RoadKit
namespace Jvm.Pilot.@@N@@
open Jvm Jvm.ClassFile Sem Op Lib Jvm.Free Jvm.Stand Jvm.LawKit Jvm.RoadKit Bundle Jvm.Pilot.@@N@@.Jvm.D

def own_c (x : Int32) : Int32 := (x &&& (65535 : Int32)).toUInt32.toUInt16.toUInt32.toInt32
def own_d (x : Int32) : Int32 := own_c x - 48
def own_k (y : Int32) : Int32 := (y &&& (2147483647 : Int32)) % (10 : Int32)
def own_g (y : Int32) : Int32 := ((48 : Int32) + own_k y).toUInt32.toUInt16.toUInt32.toInt32
def own_dig (c : Int32) : Int32 := if c < 48 then 0 else if 57 < c then 0 else 1
theorem own_c_int (x : Int32) : 0 ≤ (own_c x).toInt ∧ (own_c x).toInt < 65536 := by
  have h : (own_c x).toBitVec = BitVec.setWidth 32 (BitVec.setWidth 16 (x.toBitVec &&& 65535#32)) := rfl
  rw [← Int32.toInt_toBitVec, h, BitVec.toInt_eq_toNat_of_lt]
  · simp only [BitVec.toNat_setWidth]
    omega
  · simp only [BitVec.toNat_setWidth]
    omega
theorem own_d_int (x : Int32) : (own_d x).toInt = (own_c x).toInt - 48 := by
  have h := own_c_int x
  have e : ((48 : Int32)).toInt = 48 := by decide
  show (own_c x - 48).toInt = _
  rw [Jvm.Kit.i32_sub (by rw [e]; omega) (by rw [e]; omega), e]
theorem own_no (c : Int32) (h : c.toInt < 48 ∨ 57 < c.toInt) : own_dig c = 0 := by
  have e1 : ((48 : Int32)).toInt = 48 := by decide
  have e2 : ((57 : Int32)).toInt = 57 := by decide
  unfold own_dig
  by_cases g : c < 48
  · rw [if_pos g]
  · by_cases g' : 57 < c
    · rw [if_neg g, if_pos g']
    · rw [Int32.lt_iff_toInt_lt] at g g'; omega
theorem own_yes (c : Int32) (h : 48 ≤ c.toInt ∧ c.toInt ≤ 57) : own_dig c = 1 := by
  have e1 : ((48 : Int32)).toInt = 48 := by decide
  have e2 : ((57 : Int32)).toInt = 57 := by decide
  unfold own_dig
  rw [if_neg (by rw [Int32.lt_iff_toInt_lt]; omega), if_neg (by rw [Int32.lt_iff_toInt_lt]; omega)]
theorem own_a (x : Int32) (h : own_d x < 0) : own_dig (own_c x) = 0 := by
  rw [Int32.lt_iff_toInt_lt, own_d_int, Int32.toInt_zero] at h
  exact own_no _ (by omega)
theorem own_b (x : Int32) (h : ¬ own_d x < 10) : own_dig (own_c x) = 0 := by
  rw [Int32.lt_iff_toInt_lt, own_d_int, show ((10 : Int32)).toInt = 10 from by decide] at h
  exact own_no _ (by omega)
theorem own_cc (x : Int32) (h' : ¬ own_d x < 0) (h : own_d x < 10) : own_dig (own_c x) = 1 := by
  rw [Int32.lt_iff_toInt_lt, own_d_int, show ((10 : Int32)).toInt = 10 from by decide] at h
  rw [Int32.lt_iff_toInt_lt, own_d_int, Int32.toInt_zero] at h'
  exact own_yes _ (by omega)
theorem own_k_int (y : Int32) : 0 ≤ (own_k y).toInt ∧ (own_k y).toInt < 10 := by
  have m : (y &&& (2147483647 : Int32)).toInt = y.toInt % 2 ^ 31 := Jvm.Kit.i32_mask y 2147483647 (k := 31) (by decide) (by decide)
  have r : (own_k y).toInt = (y &&& (2147483647 : Int32)).toInt % ((10 : Int32)).toInt := Jvm.Kit.i32_rem_nonneg (by omega)
  rw [show ((10 : Int32)).toInt = 10 from by decide] at r
  omega
theorem own_ch (z : Int32) (h0 : 0 ≤ z.toInt) (h1 : z.toInt < 65536) : (z.toUInt32.toUInt16.toUInt32.toInt32).toInt = z.toInt := by
  have h : (z.toUInt32.toUInt16.toUInt32.toInt32).toBitVec = BitVec.setWidth 32 (BitVec.setWidth 16 z.toBitVec) := rfl
  have b : (z.toBitVec.toNat : Int) = z.toInt := by
    have q := BitVec.toInt_eq_toNat_cond z.toBitVec
    rw [Int32.toInt_toBitVec] at q
    have w := z.toBitVec.isLt
    split at q <;> omega
  rw [← Int32.toInt_toBitVec, h, BitVec.toInt_eq_toNat_of_lt]
  · simp only [BitVec.toNat_setWidth]
    omega
  · simp only [BitVec.toNat_setWidth]
    omega
theorem own_g_yes (y : Int32) : ¬ own_dig (own_g y) = 0 := by
  have k := own_k_int y
  have e : ((48 : Int32)).toInt = 48 := by decide
  have s : ((48 : Int32) + own_k y).toInt = 48 + (own_k y).toInt := by
    rw [Jvm.Kit.i32_add (by rw [e]; omega) (by rw [e]; omega), e]
  have g : (own_g y).toInt = 48 + (own_k y).toInt := by
    rw [← s]; exact own_ch _ (by omega) (by omega)
  rw [own_yes _ (by omega)]
  decide
theorem d1_0 : decode prog_22_method_5_code 0 = .ok (.iload_n 0, 1) := by decide +kernel
theorem d1_1 : decode prog_22_method_5_code 1 = .ok (.bipush 48, 2) := by decide +kernel
theorem d1_3 : decode prog_22_method_5_code 3 = .ok (.if_icmp .lt 13, 3) := by decide +kernel
theorem d1_16 : decode prog_22_method_5_code 16 = .ok (.iconst 0, 1) := by decide +kernel
theorem d1_17 : decode prog_22_method_5_code 17 = .ok (.ireturn, 1) := by decide +kernel
theorem pn_1 : plainName "com/example/bundlewright/bundlewright/Texts" = true := by first | (simp [plainName, overriddenIn]; done) | decide +kernel
theorem ef_1 (m : MethodId) (x0 : Int32) : entryFrame m #[(.int x0)] 1 = mkF m 0 #[.val (.int x0)] [] := by first | (simp [entryFrame, mkF, argsToLocals, Value.category]; done) | rfl
theorem d1_6 : decode prog_22_method_5_code 6 = .ok (.iload_n 0, 1) := by decide +kernel
theorem d1_7 : decode prog_22_method_5_code 7 = .ok (.bipush 57, 2) := by decide +kernel
theorem d1_9 : decode prog_22_method_5_code 9 = .ok (.if_icmp .gt 7, 3) := by decide +kernel
theorem d1_12 : decode prog_22_method_5_code 12 = .ok (.iconst 1, 1) := by decide +kernel
theorem d1_13 : decode prog_22_method_5_code 13 = .ok (.goto 4, 3) := by decide +kernel
def Q1 (Z : State) (p1 : Int32) (h0 : Heap) (n0 : Nat) (v : Option Value) (h : Heap) (L : List Loc) : Prop := v = some (.int (own_dig p1)) ∧ Fr n0 L ∧ h = h0
set_option maxRecDepth 65536 in
set_option maxHeartbeats 40000000 in
theorem rm1a (l : Launch) (Z : State) (a0 : Array Value) (hw : ∀ d ∈ tables_1, d.before a0 Z = true) (ws : List Jvm.Cond) (p1 : Int32) (h0 : Heap) (n0 : Nat) (Z0 : n0 ≤ h0.size) (hc3 : p1 < (48 : Int32)) :
    MetFree l (⟨"com/example/bundlewright/bundlewright/Texts", "isDigit", "(C)Z"⟩ : MethodName) (head1 (Jvm.Cond.code (⟨"com/example/bundlewright/bundlewright/Texts", "isDigit", "(C)Z"⟩ : MethodName) prog_22_method_5_code 1 (some .boolean) :: ws) ({ frames := 0, cells := 0, slots := 0, locals := 0 } : Room)) (fun a U => a = #[(.int p1)] ∧ Z.Warmed39 U.vm ∧ U.heap = h0) (fun _ _ _ _ _ => True) (fun _ U o U' => ∃ v L, o = .returned v ∧ Q1 Z p1 h0 n0 v U'.heap L ∧ FrameEnd U o U' L ({ frames := 0, cells := 0, slots := 0, locals := 0 } : Room).cells ({ frames := 0, cells := 0, slots := 0, locals := 0 } : Room).slots) := by
  refine MetFree.of_bodySF (plainFor_of_name pn_1) hisR ?_
  intro p e s m args below meth c s₁ Bd hml0 hP hK
  obtain ⟨rfl, hZ, hh⟩ := hP
  have hx := Bd.exec
  have hby := Bd.bytes
  have hml : c.maxLocals = 1 := hml0
  have hown : s.vm.findClass "com/example/bundlewright/bundlewright/Texts" = some m.cls := findClass_of_methodNamed Bd.named
  have hnm := (name_of_methodNamed Bd.named Bd.method).1
  have X0 : Stand p l e ({ frames := 0, cells := 0, slots := 0, locals := 0 } : Room) s m #[(.int p1)] below meth c s₁ [] 0 0 := Stand.of_body Bd
  have e0 : s₁.heap = h0 := by rw [← hh, Bd.state]; rfl
  have N0 := Fr.nil n0
  have pre0 : ∀ t, Steps p.tables e below (s₁.setTop (mkF m 0 #[.val (.int p1)] [])) t → Steps p.tables e below (s₁.setTop (entryFrame m #[(.int p1)] 1)) t := fun t k => castTop (ef_1 m p1) k
  obtain ⟨fs, hr, hrun, hended, hW, hsame⟩ := X0.leave (v := some (.int (0 : Int32))) (fun h => by rw [Bd.returns] at h; cases h)
  refine ⟨_, _, pre0 _ ?_, hrun, hended, _, _, rfl, ?_, ⟨_, rfl⟩, hW, hsame.mono (by decide) (by decide)⟩
  · show Steps p.tables e below (s₁.setTop (mkF m 0 #[.val (.int p1)] [])) _
    refine XS.iloadN X0.here hx rfl (hb hby d1_0) rfl ?_
    show Steps p.tables e below (s₁.setTop (mkF m 1 #[.val (.int p1)] [(.int p1)])) _
    refine XS.bipush X0.here hx rfl (hb hby d1_1) ?_
    show Steps p.tables e below (s₁.setTop (mkF m 3 #[.val (.int p1)] [(.int (48 : Int32)), (.int p1)])) _
    refine XS.icmpYes X0.here hx rfl (pc0 := 3) (pc' := 16) rfl (hb hby d1_3) rfl (tlt hc3).1 (by decide) (by decide) ?_
    show Steps p.tables e below (s₁.setTop (mkF m 16 #[.val (.int p1)] [])) _
    refine XS.iconst X0.here hx rfl (hb hby d1_16) ?_
    show Steps p.tables e below (s₁.setTop (mkF m 17 #[.val (.int p1)] [(.int (0 : Int32))])) _
    exact retN X0 hx (t := .boolean) Bd.returns (by simp) (hb hby d1_17) hr
  · show Q1 Z p1 h0 n0 _ s₁.heap _
    rw [e0]
    exact ⟨by rw [own_dig, if_pos hc3], N0, rfl⟩
set_option maxRecDepth 65536 in
set_option maxHeartbeats 40000000 in
theorem rm1b (l : Launch) (Z : State) (a0 : Array Value) (hw : ∀ d ∈ tables_1, d.before a0 Z = true) (ws : List Jvm.Cond) (p1 : Int32) (h0 : Heap) (n0 : Nat) (Z0 : n0 ≤ h0.size) (hc3 : ¬ (p1 < (48 : Int32))) (hc9 : (57 : Int32) < p1) :
    MetFree l (⟨"com/example/bundlewright/bundlewright/Texts", "isDigit", "(C)Z"⟩ : MethodName) (head1 (Jvm.Cond.code (⟨"com/example/bundlewright/bundlewright/Texts", "isDigit", "(C)Z"⟩ : MethodName) prog_22_method_5_code 1 (some .boolean) :: ws) ({ frames := 0, cells := 0, slots := 0, locals := 0 } : Room)) (fun a U => a = #[(.int p1)] ∧ Z.Warmed39 U.vm ∧ U.heap = h0) (fun _ _ _ _ _ => True) (fun _ U o U' => ∃ v L, o = .returned v ∧ Q1 Z p1 h0 n0 v U'.heap L ∧ FrameEnd U o U' L ({ frames := 0, cells := 0, slots := 0, locals := 0 } : Room).cells ({ frames := 0, cells := 0, slots := 0, locals := 0 } : Room).slots) := by
  refine MetFree.of_bodySF (plainFor_of_name pn_1) hisR ?_
  intro p e s m args below meth c s₁ Bd hml0 hP hK
  obtain ⟨rfl, hZ, hh⟩ := hP
  have hx := Bd.exec
  have hby := Bd.bytes
  have hml : c.maxLocals = 1 := hml0
  have hown : s.vm.findClass "com/example/bundlewright/bundlewright/Texts" = some m.cls := findClass_of_methodNamed Bd.named
  have hnm := (name_of_methodNamed Bd.named Bd.method).1
  have X0 : Stand p l e ({ frames := 0, cells := 0, slots := 0, locals := 0 } : Room) s m #[(.int p1)] below meth c s₁ [] 0 0 := Stand.of_body Bd
  have e0 : s₁.heap = h0 := by rw [← hh, Bd.state]; rfl
  have N0 := Fr.nil n0
  have pre0 : ∀ t, Steps p.tables e below (s₁.setTop (mkF m 0 #[.val (.int p1)] [])) t → Steps p.tables e below (s₁.setTop (entryFrame m #[(.int p1)] 1)) t := fun t k => castTop (ef_1 m p1) k
  obtain ⟨fs, hr, hrun, hended, hW, hsame⟩ := X0.leave (v := some (.int (0 : Int32))) (fun h => by rw [Bd.returns] at h; cases h)
  refine ⟨_, _, pre0 _ ?_, hrun, hended, _, _, rfl, ?_, ⟨_, rfl⟩, hW, hsame.mono (by decide) (by decide)⟩
  · show Steps p.tables e below (s₁.setTop (mkF m 0 #[.val (.int p1)] [])) _
    refine XS.iloadN X0.here hx rfl (hb hby d1_0) rfl ?_
    show Steps p.tables e below (s₁.setTop (mkF m 1 #[.val (.int p1)] [(.int p1)])) _
    refine XS.bipush X0.here hx rfl (hb hby d1_1) ?_
    show Steps p.tables e below (s₁.setTop (mkF m 3 #[.val (.int p1)] [(.int (48 : Int32)), (.int p1)])) _
    refine XS.icmpNo X0.here hx rfl (hb hby d1_3) rfl (flt hc3).1 ?_
    show Steps p.tables e below (s₁.setTop (mkF m 6 #[.val (.int p1)] [])) _
    refine XS.iloadN X0.here hx rfl (hb hby d1_6) rfl ?_
    show Steps p.tables e below (s₁.setTop (mkF m 7 #[.val (.int p1)] [(.int p1)])) _
    refine XS.bipush X0.here hx rfl (hb hby d1_7) ?_
    show Steps p.tables e below (s₁.setTop (mkF m 9 #[.val (.int p1)] [(.int (57 : Int32)), (.int p1)])) _
    refine XS.icmpYes X0.here hx rfl (pc0 := 9) (pc' := 16) rfl (hb hby d1_9) rfl (tlt hc9).2.2.1 (by decide) (by decide) ?_
    show Steps p.tables e below (s₁.setTop (mkF m 16 #[.val (.int p1)] [])) _
    refine XS.iconst X0.here hx rfl (hb hby d1_16) ?_
    show Steps p.tables e below (s₁.setTop (mkF m 17 #[.val (.int p1)] [(.int (0 : Int32))])) _
    exact retN X0 hx (t := .boolean) Bd.returns (by simp) (hb hby d1_17) hr
  · show Q1 Z p1 h0 n0 _ s₁.heap _
    rw [e0]
    exact ⟨by rw [own_dig, if_neg hc3, if_pos hc9], N0, rfl⟩
set_option maxRecDepth 65536 in
set_option maxHeartbeats 40000000 in
theorem rm1c (l : Launch) (Z : State) (a0 : Array Value) (hw : ∀ d ∈ tables_1, d.before a0 Z = true) (ws : List Jvm.Cond) (p1 : Int32) (h0 : Heap) (n0 : Nat) (Z0 : n0 ≤ h0.size) (hc3 : ¬ (p1 < (48 : Int32))) (hc9 : ¬ ((57 : Int32) < p1)) :
    MetFree l (⟨"com/example/bundlewright/bundlewright/Texts", "isDigit", "(C)Z"⟩ : MethodName) (head1 (Jvm.Cond.code (⟨"com/example/bundlewright/bundlewright/Texts", "isDigit", "(C)Z"⟩ : MethodName) prog_22_method_5_code 1 (some .boolean) :: ws) ({ frames := 0, cells := 0, slots := 0, locals := 0 } : Room)) (fun a U => a = #[(.int p1)] ∧ Z.Warmed39 U.vm ∧ U.heap = h0) (fun _ _ _ _ _ => True) (fun _ U o U' => ∃ v L, o = .returned v ∧ Q1 Z p1 h0 n0 v U'.heap L ∧ FrameEnd U o U' L ({ frames := 0, cells := 0, slots := 0, locals := 0 } : Room).cells ({ frames := 0, cells := 0, slots := 0, locals := 0 } : Room).slots) := by
  refine MetFree.of_bodySF (plainFor_of_name pn_1) hisR ?_
  intro p e s m args below meth c s₁ Bd hml0 hP hK
  obtain ⟨rfl, hZ, hh⟩ := hP
  have hx := Bd.exec
  have hby := Bd.bytes
  have hml : c.maxLocals = 1 := hml0
  have hown : s.vm.findClass "com/example/bundlewright/bundlewright/Texts" = some m.cls := findClass_of_methodNamed Bd.named
  have hnm := (name_of_methodNamed Bd.named Bd.method).1
  have X0 : Stand p l e ({ frames := 0, cells := 0, slots := 0, locals := 0 } : Room) s m #[(.int p1)] below meth c s₁ [] 0 0 := Stand.of_body Bd
  have e0 : s₁.heap = h0 := by rw [← hh, Bd.state]; rfl
  have N0 := Fr.nil n0
  have pre0 : ∀ t, Steps p.tables e below (s₁.setTop (mkF m 0 #[.val (.int p1)] [])) t → Steps p.tables e below (s₁.setTop (entryFrame m #[(.int p1)] 1)) t := fun t k => castTop (ef_1 m p1) k
  obtain ⟨fs, hr, hrun, hended, hW, hsame⟩ := X0.leave (v := some (.int (1 : Int32))) (fun h => by rw [Bd.returns] at h; cases h)
  refine ⟨_, _, pre0 _ ?_, hrun, hended, _, _, rfl, ?_, ⟨_, rfl⟩, hW, hsame.mono (by decide) (by decide)⟩
  · show Steps p.tables e below (s₁.setTop (mkF m 0 #[.val (.int p1)] [])) _
    refine XS.iloadN X0.here hx rfl (hb hby d1_0) rfl ?_
    show Steps p.tables e below (s₁.setTop (mkF m 1 #[.val (.int p1)] [(.int p1)])) _
    refine XS.bipush X0.here hx rfl (hb hby d1_1) ?_
    show Steps p.tables e below (s₁.setTop (mkF m 3 #[.val (.int p1)] [(.int (48 : Int32)), (.int p1)])) _
    refine XS.icmpNo X0.here hx rfl (hb hby d1_3) rfl (flt hc3).1 ?_
    show Steps p.tables e below (s₁.setTop (mkF m 6 #[.val (.int p1)] [])) _
    refine XS.iloadN X0.here hx rfl (hb hby d1_6) rfl ?_
    show Steps p.tables e below (s₁.setTop (mkF m 7 #[.val (.int p1)] [(.int p1)])) _
    refine XS.bipush X0.here hx rfl (hb hby d1_7) ?_
    show Steps p.tables e below (s₁.setTop (mkF m 9 #[.val (.int p1)] [(.int (57 : Int32)), (.int p1)])) _
    refine XS.icmpNo X0.here hx rfl (hb hby d1_9) rfl (flt hc9).2.2.1 ?_
    show Steps p.tables e below (s₁.setTop (mkF m 12 #[.val (.int p1)] [])) _
    refine XS.iconst X0.here hx rfl (hb hby d1_12) ?_
    show Steps p.tables e below (s₁.setTop (mkF m 13 #[.val (.int p1)] [(.int (1 : Int32))])) _
    refine XS.goto X0.here hx rfl (pc0 := 13) (pc' := 17) rfl (hb hby d1_13) (by decide) (by decide) ?_
    show Steps p.tables e below (s₁.setTop (mkF m 17 #[.val (.int p1)] [(.int (1 : Int32))])) _
    exact retN X0 hx (t := .boolean) Bd.returns (by simp) (hb hby d1_17) hr
  · show Q1 Z p1 h0 n0 _ s₁.heap _
    rw [e0]
    exact ⟨by rw [own_dig, if_neg hc3, if_neg hc9], N0, rfl⟩
set_option maxRecDepth 65536 in
set_option maxHeartbeats 40000000 in
theorem rm1 (l : Launch) (Z : State) (a0 : Array Value) (hw : ∀ d ∈ tables_1, d.before a0 Z = true) (ws : List Jvm.Cond) (p1 : Int32) (h0 : Heap) (n0 : Nat) (Z0 : n0 ≤ h0.size) :
    MetFree l (⟨"com/example/bundlewright/bundlewright/Texts", "isDigit", "(C)Z"⟩ : MethodName) (head1 (Jvm.Cond.code (⟨"com/example/bundlewright/bundlewright/Texts", "isDigit", "(C)Z"⟩ : MethodName) prog_22_method_5_code 1 (some .boolean) :: ws) ({ frames := 0, cells := 0, slots := 0, locals := 0 } : Room)) (fun a U => a = #[(.int p1)] ∧ Z.Warmed39 U.vm ∧ U.heap = h0) (fun _ _ _ _ _ => True) (fun _ U o U' => ∃ v L, o = .returned v ∧ Q1 Z p1 h0 n0 v U'.heap L ∧ FrameEnd U o U' L ({ frames := 0, cells := 0, slots := 0, locals := 0 } : Room).cells ({ frames := 0, cells := 0, slots := 0, locals := 0 } : Room).slots) := by
  by_cases hc3 : p1 < (48 : Int32)
  · exact rm1a l Z a0 hw ws p1 h0 n0 Z0 hc3
  · by_cases hc9 : (57 : Int32) < p1
    · exact rm1b l Z a0 hw ws p1 h0 n0 Z0 hc3 hc9
    · exact rm1c l Z a0 hw ws p1 h0 n0 Z0 hc3 hc9
theorem pn_0 : plainName "com/example/bundlewright/bundlewright/TextsIsDigitPinLaw" = true := by first | (simp [plainName, overriddenIn]; done) | decide +kernel
theorem pd_0_0 : parseMethodDescriptor "(C)Z" = some ⟨[.char], some .boolean⟩ := by decide +kernel
theorem ef_0 (m : MethodId) (x0 : Int32) (x1 : Int32) : entryFrame m #[(.int x0), (.int x1)] maxLocals = mkF m 0 #[.val (.int x0), .val (.int x1), .unset, .unset, .unset, .unset, .unset, .unset, .unset, .unset, .unset, .unset, .unset] [] := by first | (simp [entryFrame, mkF, argsToLocals, Value.category, maxLocals]; done) | rfl
def Q0 (Z : State) (p1 : Int32) (p2 : Int32) (h0 : Heap) (n0 : Nat) (v : Option Value) (h : Heap) (L : List Loc) : Prop := v = some (.int (1 : Int32)) ∧ Fr n0 L
set_option maxRecDepth 65536 in
set_option maxHeartbeats 40000000 in
theorem rm0a (l : Launch) (Z : State) (a0 : Array Value) (hw : ∀ d ∈ tables_1, d.before a0 Z = true) (ws : List Jvm.Cond) (p1 : Int32) (p2 : Int32) (h0 : Heap) (n0 : Nat) (Z0 : n0 ≤ h0.size) (hc12 : (own_d p1) < (0 : Int32)) (hc114 : ¬ ((1 : Int32) = (0 : Int32))) (hc124 : ¬ ((1 : Int32) = (0 : Int32))) (hc129 : ¬ ((1 : Int32) = (0 : Int32))) :
    MetFree l x (head1 (Jvm.Cond.code x code maxLocals ret :: ws) room_1) (fun a U => a = #[(.int p1), (.int p2)] ∧ Z.Warmed39 U.vm ∧ U.heap = h0) (fun _ _ _ _ _ => True) (fun _ U o U' => ∃ v L, o = .returned v ∧ Q0 Z p1 p2 h0 n0 v U'.heap L ∧ FrameEnd U o U' L room_1.cells room_1.slots) := by
  refine MetFree.of_bodySF (plainFor_of_name pn_0) hisR ?_
  intro p e s m args below meth c s₁ Bd hml0 hP hK
  obtain ⟨rfl, hZ, hh⟩ := hP
  have hx := Bd.exec
  have hby := Bd.bytes
  have hml : c.maxLocals = 13 := hml0
  have hown : s.vm.findClass "com/example/bundlewright/bundlewright/TextsIsDigitPinLaw" = some m.cls := findClass_of_methodNamed Bd.named
  have hnm := (name_of_methodNamed Bd.named Bd.method).1
  have X0 : Stand p l e room_1 s m #[(.int p1), (.int p2)] below meth c s₁ [] 0 0 := Stand.of_body Bd
  have e0 : s₁.heap = h0 := by rw [← hh, Bd.state]; rfl
  have N0 := Fr.nil n0
  have pre0 : ∀ t, Steps p.tables e below (s₁.setTop (mkF m 0 #[.val (.int p1), .val (.int p2), .unset, .unset, .unset, .unset, .unset, .unset, .unset, .unset, .unset, .unset, .unset] [])) t → Steps p.tables e below (s₁.setTop (entryFrame m #[(.int p1), (.int p2)] maxLocals)) t := fun t k => castTop (ef_0 m p1 p2) k
  obtain ⟨_, _, ⟨T3, L3, k3, n3⟩, -, X3, ⟨Lc3, hQ3, l3, y3, z3⟩, st3⟩ := Jvm.LawKit.callS X0 hx (y := (⟨"com/example/bundlewright/bundlewright/Texts", "isDigit", "(C)Z"⟩ : MethodName)) hown (mvT hZ (hw _ (List.mem_of_getElem? (i := 2) rfl))) (mvT hZ (hw _ (List.mem_of_getElem? (i := 3) rfl))) (mvT hZ (hw _ (List.mem_of_getElem? (i := 4) rfl))) (mvT hZ (hw _ (List.mem_of_getElem? (i := 5) rfl))) (by decide) (backOf (W := 0) (rm1 l Z a0 hw [] (own_c p1) h0 n0 Z0) hZ (hw _ (List.mem_of_getElem? (i := 5) rfl)) (hw _ (List.mem_of_getElem? (i := 4) rfl)) (by decide) (by decide)) (g := (mkF m 46 #[.val (.int p1), .val (.int p2), .val (.int (own_c p1)), .val (.int (own_d p1)), .val (.int (0 : Int32)), .val (.int (own_k p2)), .val (.int (own_g p2)), .unset, .unset, .unset, .unset, .unset, .unset] [(.int (own_c p1))])) rfl (by rw [hml]; rfl) (argsL := [(.int (own_c p1))]) (rest := []) (lenOf pd_0_0 rfl) rfl (by show 2 * 0 + _ ≤ _; exact Nat.le_of_eq rfl) (hb hby at_46) (fun _ _ => ⟨rfl, e0, (by decide : 0 + 0 ≤ _), (by decide : 0 + 0 ≤ _)⟩)
  dsimp only [Pt.U, Pt.locs, Pt.cells, Pt.slots] at X3 l3 y3 z3 st3 hQ3
  subst l3 y3 z3
  obtain ⟨rfl, N3q, e3⟩ := hQ3
  have Z3 : n0 ≤ T3.heap.size := by rw [e3]; exact Z0
  have N3 := Fr.app N0 N3q
  obtain ⟨_, _, ⟨T4, L4, k4, n4⟩, -, X4, ⟨Lc4, hQ4, l4, y4, z4⟩, st4⟩ := Jvm.LawKit.callS X3 hx (y := (⟨"com/example/bundlewright/bundlewright/Texts", "isDigit", "(C)Z"⟩ : MethodName)) hown (mvT hZ (hw _ (List.mem_of_getElem? (i := 2) rfl))) (mvT hZ (hw _ (List.mem_of_getElem? (i := 3) rfl))) (mvT hZ (hw _ (List.mem_of_getElem? (i := 4) rfl))) (mvT hZ (hw _ (List.mem_of_getElem? (i := 5) rfl))) (by decide) (backOf (W := 0) (rm1 l Z a0 hw [] (own_g p2) T3.heap n0 Z3) hZ (hw _ (List.mem_of_getElem? (i := 5) rfl)) (hw _ (List.mem_of_getElem? (i := 4) rfl)) (by decide) (by decide)) (g := (mkF m 63 #[.val (.int p1), .val (.int p2), .val (.int (own_c p1)), .val (.int (own_d p1)), .val (.int (0 : Int32)), .val (.int (own_k p2)), .val (.int (own_g p2)), .val (.int (1 : Int32)), .unset, .unset, .unset, .unset, .unset] [(.int (own_g p2))])) rfl (by rw [hml]; rfl) (argsL := [(.int (own_g p2))]) (rest := []) (lenOf pd_0_0 rfl) rfl (by show 2 * 0 + _ ≤ _; exact Nat.le_of_eq rfl) (hb hby at_63) (fun _ _ => ⟨rfl, rfl, (by decide : 0 + 0 ≤ _), (by decide : 0 + 0 ≤ _)⟩)
  dsimp only [Pt.U, Pt.locs, Pt.cells, Pt.slots] at X4 l4 y4 z4 st4 hQ4
  subst l4 y4 z4
  obtain ⟨rfl, N4q, e4⟩ := hQ4
  have Z4 : n0 ≤ T4.heap.size := by rw [e4]; exact Z3
  have N4 := Fr.app N3 N4q
  obtain ⟨_, _, ⟨T5, L5, k5, n5⟩, -, X5, ⟨Lc5, hQ5, l5, y5, z5⟩, st5⟩ := Jvm.LawKit.callS X4 hx (y := (⟨"com/example/bundlewright/bundlewright/Texts", "isDigit", "(C)Z"⟩ : MethodName)) hown (mvT hZ (hw _ (List.mem_of_getElem? (i := 2) rfl))) (mvT hZ (hw _ (List.mem_of_getElem? (i := 3) rfl))) (mvT hZ (hw _ (List.mem_of_getElem? (i := 4) rfl))) (mvT hZ (hw _ (List.mem_of_getElem? (i := 5) rfl))) (by decide) (backOf (W := 0) (rm1 l Z a0 hw [] (47 : Int32) T4.heap n0 Z4) hZ (hw _ (List.mem_of_getElem? (i := 5) rfl)) (hw _ (List.mem_of_getElem? (i := 4) rfl)) (by decide) (by decide)) (g := (mkF m 70 #[.val (.int p1), .val (.int p2), .val (.int (own_c p1)), .val (.int (own_d p1)), .val (.int (0 : Int32)), .val (.int (own_k p2)), .val (.int (own_g p2)), .val (.int (1 : Int32)), .val (.int (own_dig (own_g p2))), .unset, .unset, .unset, .unset] [(.int (47 : Int32))])) rfl (by rw [hml]; rfl) (argsL := [(.int (47 : Int32))]) (rest := []) (lenOf pd_0_0 rfl) rfl (by show 2 * 0 + _ ≤ _; exact Nat.le_of_eq rfl) (hb hby at_70) (fun _ _ => ⟨rfl, rfl, (by decide : 0 + 0 ≤ _), (by decide : 0 + 0 ≤ _)⟩)
  dsimp only [Pt.U, Pt.locs, Pt.cells, Pt.slots] at X5 l5 y5 z5 st5 hQ5
  subst l5 y5 z5
  obtain ⟨rfl, N5q, e5⟩ := hQ5
  have Z5 : n0 ≤ T5.heap.size := by rw [e5]; exact Z4
  have N5 := Fr.app N4 N5q
  obtain ⟨_, _, ⟨T6, L6, k6, n6⟩, -, X6, ⟨Lc6, hQ6, l6, y6, z6⟩, st6⟩ := Jvm.LawKit.callS X5 hx (y := (⟨"com/example/bundlewright/bundlewright/Texts", "isDigit", "(C)Z"⟩ : MethodName)) hown (mvT hZ (hw _ (List.mem_of_getElem? (i := 2) rfl))) (mvT hZ (hw _ (List.mem_of_getElem? (i := 3) rfl))) (mvT hZ (hw _ (List.mem_of_getElem? (i := 4) rfl))) (mvT hZ (hw _ (List.mem_of_getElem? (i := 5) rfl))) (by decide) (backOf (W := 0) (rm1 l Z a0 hw [] (58 : Int32) T5.heap n0 Z5) hZ (hw _ (List.mem_of_getElem? (i := 5) rfl)) (hw _ (List.mem_of_getElem? (i := 4) rfl)) (by decide) (by decide)) (g := (mkF m 85 #[.val (.int p1), .val (.int p2), .val (.int (own_c p1)), .val (.int (own_d p1)), .val (.int (0 : Int32)), .val (.int (own_k p2)), .val (.int (own_g p2)), .val (.int (1 : Int32)), .val (.int (own_dig (own_g p2))), .val (.int (1 : Int32)), .unset, .unset, .unset] [(.int (58 : Int32))])) rfl (by rw [hml]; rfl) (argsL := [(.int (58 : Int32))]) (rest := []) (lenOf pd_0_0 rfl) rfl (by show 2 * 0 + _ ≤ _; exact Nat.le_of_eq rfl) (hb hby at_85) (fun _ _ => ⟨rfl, rfl, (by decide : 0 + 0 ≤ _), (by decide : 0 + 0 ≤ _)⟩)
  dsimp only [Pt.U, Pt.locs, Pt.cells, Pt.slots] at X6 l6 y6 z6 st6 hQ6
  subst l6 y6 z6
  obtain ⟨rfl, N6q, e6⟩ := hQ6
  have Z6 : n0 ≤ T6.heap.size := by rw [e6]; exact Z5
  have N6 := Fr.app N5 N6q
  obtain ⟨_, _, ⟨T7, L7, k7, n7⟩, -, X7, ⟨Lc7, hQ7, l7, y7, z7⟩, st7⟩ := Jvm.LawKit.callS X6 hx (y := (⟨"com/example/bundlewright/bundlewright/Texts", "isDigit", "(C)Z"⟩ : MethodName)) hown (mvT hZ (hw _ (List.mem_of_getElem? (i := 2) rfl))) (mvT hZ (hw _ (List.mem_of_getElem? (i := 3) rfl))) (mvT hZ (hw _ (List.mem_of_getElem? (i := 4) rfl))) (mvT hZ (hw _ (List.mem_of_getElem? (i := 5) rfl))) (by decide) (backOf (W := 0) (rm1 l Z a0 hw [] (48 : Int32) T6.heap n0 Z6) hZ (hw _ (List.mem_of_getElem? (i := 5) rfl)) (hw _ (List.mem_of_getElem? (i := 4) rfl)) (by decide) (by decide)) (g := (mkF m 100 #[.val (.int p1), .val (.int p2), .val (.int (own_c p1)), .val (.int (own_d p1)), .val (.int (0 : Int32)), .val (.int (own_k p2)), .val (.int (own_g p2)), .val (.int (1 : Int32)), .val (.int (own_dig (own_g p2))), .val (.int (1 : Int32)), .val (.int (1 : Int32)), .unset, .unset] [(.int (48 : Int32))])) rfl (by rw [hml]; rfl) (argsL := [(.int (48 : Int32))]) (rest := []) (lenOf pd_0_0 rfl) rfl (by show 2 * 0 + _ ≤ _; exact Nat.le_of_eq rfl) (hb hby at_100) (fun _ _ => ⟨rfl, rfl, (by decide : 0 + 0 ≤ _), (by decide : 0 + 0 ≤ _)⟩)
  dsimp only [Pt.U, Pt.locs, Pt.cells, Pt.slots] at X7 l7 y7 z7 st7 hQ7
  subst l7 y7 z7
  obtain ⟨rfl, N7q, e7⟩ := hQ7
  have Z7 : n0 ≤ T7.heap.size := by rw [e7]; exact Z6
  have N7 := Fr.app N6 N7q
  obtain ⟨_, _, ⟨T8, L8, k8, n8⟩, -, X8, ⟨Lc8, hQ8, l8, y8, z8⟩, st8⟩ := Jvm.LawKit.callS X7 hx (y := (⟨"com/example/bundlewright/bundlewright/Texts", "isDigit", "(C)Z"⟩ : MethodName)) hown (mvT hZ (hw _ (List.mem_of_getElem? (i := 2) rfl))) (mvT hZ (hw _ (List.mem_of_getElem? (i := 3) rfl))) (mvT hZ (hw _ (List.mem_of_getElem? (i := 4) rfl))) (mvT hZ (hw _ (List.mem_of_getElem? (i := 5) rfl))) (by decide) (backOf (W := 0) (rm1 l Z a0 hw [] (57 : Int32) T7.heap n0 Z7) hZ (hw _ (List.mem_of_getElem? (i := 5) rfl)) (hw _ (List.mem_of_getElem? (i := 4) rfl)) (by decide) (by decide)) (g := (mkF m 107 #[.val (.int p1), .val (.int p2), .val (.int (own_c p1)), .val (.int (own_d p1)), .val (.int (0 : Int32)), .val (.int (own_k p2)), .val (.int (own_g p2)), .val (.int (1 : Int32)), .val (.int (own_dig (own_g p2))), .val (.int (1 : Int32)), .val (.int (1 : Int32)), .val (.int (own_dig (48 : Int32))), .unset] [(.int (57 : Int32))])) rfl (by rw [hml]; rfl) (argsL := [(.int (57 : Int32))]) (rest := []) (lenOf pd_0_0 rfl) rfl (by show 2 * 0 + _ ≤ _; exact Nat.le_of_eq rfl) (hb hby at_107) (fun _ _ => ⟨rfl, rfl, (by decide : 0 + 0 ≤ _), (by decide : 0 + 0 ≤ _)⟩)
  dsimp only [Pt.U, Pt.locs, Pt.cells, Pt.slots] at X8 l8 y8 z8 st8 hQ8
  subst l8 y8 z8
  obtain ⟨rfl, N8q, e8⟩ := hQ8
  have Z8 : n0 ≤ T8.heap.size := by rw [e8]; exact Z7
  have N8 := Fr.app N7 N8q
  obtain ⟨fs, hr, hrun, hended, hW, hsame⟩ := X8.leave (v := some (.int (1 : Int32))) (fun h => by rw [Bd.returns] at h; cases h)
  refine ⟨_, _, pre0 _ ?_, hrun, hended, _, _, rfl, ?_, ⟨_, rfl⟩, hW, hsame.mono (by decide) (by decide)⟩
  · show Steps p.tables e below (s₁.setTop (mkF m 0 #[.val (.int p1), .val (.int p2), .unset, .unset, .unset, .unset, .unset, .unset, .unset, .unset, .unset, .unset, .unset] [])) _
    refine XS.iloadN X0.here hx rfl (hb hby at_0) rfl ?_
    show Steps p.tables e below (s₁.setTop (mkF m 1 #[.val (.int p1), .val (.int p2), .unset, .unset, .unset, .unset, .unset, .unset, .unset, .unset, .unset, .unset, .unset] [(.int p1)])) _
    refine X0.ldcInt hx hown (mvT hZ (hw _ (List.mem_of_getElem? (i := 0) rfl))) (g := (mkF m 1 #[.val (.int p1), .val (.int p2), .unset, .unset, .unset, .unset, .unset, .unset, .unset, .unset, .unset, .unset, .unset] [(.int p1)])) rfl (hb hby at_1) _ ?_
    show Steps p.tables e below (s₁.setTop (mkF m 3 #[.val (.int p1), .val (.int p2), .unset, .unset, .unset, .unset, .unset, .unset, .unset, .unset, .unset, .unset, .unset] [(.int (65535 : Int32)), (.int p1)])) _
    refine XS.iand X0.here hx rfl (hb hby at_3) rfl ?_
    show Steps p.tables e below (s₁.setTop (mkF m 4 #[.val (.int p1), .val (.int p2), .unset, .unset, .unset, .unset, .unset, .unset, .unset, .unset, .unset, .unset, .unset] [(.int (p1 &&& (65535 : Int32)))])) _
    refine XS.i2c X0.here hx rfl (hb hby at_4) rfl ?_
    show Steps p.tables e below (s₁.setTop (mkF m 5 #[.val (.int p1), .val (.int p2), .unset, .unset, .unset, .unset, .unset, .unset, .unset, .unset, .unset, .unset, .unset] [(.int (own_c p1))])) _
    refine XS.istoreN X0.here hx rfl (hb hby at_5) rfl (l' := #[.val (.int p1), .val (.int p2), .val (.int (own_c p1)), .unset, .unset, .unset, .unset, .unset, .unset, .unset, .unset, .unset, .unset]) rfl ?_
    show Steps p.tables e below (s₁.setTop (mkF m 6 #[.val (.int p1), .val (.int p2), .val (.int (own_c p1)), .unset, .unset, .unset, .unset, .unset, .unset, .unset, .unset, .unset, .unset] [])) _
    refine XS.iloadN X0.here hx rfl (hb hby at_6) rfl ?_
    show Steps p.tables e below (s₁.setTop (mkF m 7 #[.val (.int p1), .val (.int p2), .val (.int (own_c p1)), .unset, .unset, .unset, .unset, .unset, .unset, .unset, .unset, .unset, .unset] [(.int (own_c p1))])) _
    refine XS.bipush X0.here hx rfl (hb hby at_7) ?_
    show Steps p.tables e below (s₁.setTop (mkF m 9 #[.val (.int p1), .val (.int p2), .val (.int (own_c p1)), .unset, .unset, .unset, .unset, .unset, .unset, .unset, .unset, .unset, .unset] [(.int (48 : Int32)), (.int (own_c p1))])) _
    refine XS.isub X0.here hx rfl (hb hby at_9) rfl ?_
    show Steps p.tables e below (s₁.setTop (mkF m 10 #[.val (.int p1), .val (.int p2), .val (.int (own_c p1)), .unset, .unset, .unset, .unset, .unset, .unset, .unset, .unset, .unset, .unset] [(.int (own_d p1))])) _
    refine XS.istoreN X0.here hx rfl (hb hby at_10) rfl (l' := #[.val (.int p1), .val (.int p2), .val (.int (own_c p1)), .val (.int (own_d p1)), .unset, .unset, .unset, .unset, .unset, .unset, .unset, .unset, .unset]) rfl ?_
    show Steps p.tables e below (s₁.setTop (mkF m 11 #[.val (.int p1), .val (.int p2), .val (.int (own_c p1)), .val (.int (own_d p1)), .unset, .unset, .unset, .unset, .unset, .unset, .unset, .unset, .unset] [])) _
    refine XS.iloadN X0.here hx rfl (hb hby at_11) rfl ?_
    show Steps p.tables e below (s₁.setTop (mkF m 12 #[.val (.int p1), .val (.int p2), .val (.int (own_c p1)), .val (.int (own_d p1)), .unset, .unset, .unset, .unset, .unset, .unset, .unset, .unset, .unset] [(.int (own_d p1))])) _
    refine XS.ifYes X0.here hx rfl (pc0 := 12) (pc' := 25) rfl (hb hby at_12) rfl ((if0 _ _).trans (tlt hc12).1) (by decide) (by decide) ?_
    show Steps p.tables e below (s₁.setTop (mkF m 25 #[.val (.int p1), .val (.int p2), .val (.int (own_c p1)), .val (.int (own_d p1)), .unset, .unset, .unset, .unset, .unset, .unset, .unset, .unset, .unset] [])) _
    refine XS.iconst X0.here hx rfl (hb hby at_25) ?_
    show Steps p.tables e below (s₁.setTop (mkF m 26 #[.val (.int p1), .val (.int p2), .val (.int (own_c p1)), .val (.int (own_d p1)), .unset, .unset, .unset, .unset, .unset, .unset, .unset, .unset, .unset] [(.int (0 : Int32))])) _
    refine XS.istore X0.here hx rfl (hb hby at_26) rfl (l' := #[.val (.int p1), .val (.int p2), .val (.int (own_c p1)), .val (.int (own_d p1)), .val (.int (0 : Int32)), .unset, .unset, .unset, .unset, .unset, .unset, .unset, .unset]) rfl ?_
    show Steps p.tables e below (s₁.setTop (mkF m 28 #[.val (.int p1), .val (.int p2), .val (.int (own_c p1)), .val (.int (own_d p1)), .val (.int (0 : Int32)), .unset, .unset, .unset, .unset, .unset, .unset, .unset, .unset] [])) _
    refine XS.iloadN X0.here hx rfl (hb hby at_28) rfl ?_
    show Steps p.tables e below (s₁.setTop (mkF m 29 #[.val (.int p1), .val (.int p2), .val (.int (own_c p1)), .val (.int (own_d p1)), .val (.int (0 : Int32)), .unset, .unset, .unset, .unset, .unset, .unset, .unset, .unset] [(.int p2)])) _
    refine X0.ldcInt hx hown (mvT hZ (hw _ (List.mem_of_getElem? (i := 1) rfl))) (g := (mkF m 29 #[.val (.int p1), .val (.int p2), .val (.int (own_c p1)), .val (.int (own_d p1)), .val (.int (0 : Int32)), .unset, .unset, .unset, .unset, .unset, .unset, .unset, .unset] [(.int p2)])) rfl (hb hby at_29) _ ?_
    show Steps p.tables e below (s₁.setTop (mkF m 31 #[.val (.int p1), .val (.int p2), .val (.int (own_c p1)), .val (.int (own_d p1)), .val (.int (0 : Int32)), .unset, .unset, .unset, .unset, .unset, .unset, .unset, .unset] [(.int (2147483647 : Int32)), (.int p2)])) _
    refine XS.iand X0.here hx rfl (hb hby at_31) rfl ?_
    show Steps p.tables e below (s₁.setTop (mkF m 32 #[.val (.int p1), .val (.int p2), .val (.int (own_c p1)), .val (.int (own_d p1)), .val (.int (0 : Int32)), .unset, .unset, .unset, .unset, .unset, .unset, .unset, .unset] [(.int (p2 &&& (2147483647 : Int32)))])) _
    refine XS.bipush X0.here hx rfl (hb hby at_32) ?_
    show Steps p.tables e below (s₁.setTop (mkF m 34 #[.val (.int p1), .val (.int p2), .val (.int (own_c p1)), .val (.int (own_d p1)), .val (.int (0 : Int32)), .unset, .unset, .unset, .unset, .unset, .unset, .unset, .unset] [(.int (10 : Int32)), (.int (p2 &&& (2147483647 : Int32)))])) _
    refine iremM X0 hx rfl (hb hby at_34) rfl (by decide) ?_
    show Steps p.tables e below (s₁.setTop (mkF m 35 #[.val (.int p1), .val (.int p2), .val (.int (own_c p1)), .val (.int (own_d p1)), .val (.int (0 : Int32)), .unset, .unset, .unset, .unset, .unset, .unset, .unset, .unset] [(.int (own_k p2))])) _
    refine XS.istore X0.here hx rfl (hb hby at_35) rfl (l' := #[.val (.int p1), .val (.int p2), .val (.int (own_c p1)), .val (.int (own_d p1)), .val (.int (0 : Int32)), .val (.int (own_k p2)), .unset, .unset, .unset, .unset, .unset, .unset, .unset]) rfl ?_
    show Steps p.tables e below (s₁.setTop (mkF m 37 #[.val (.int p1), .val (.int p2), .val (.int (own_c p1)), .val (.int (own_d p1)), .val (.int (0 : Int32)), .val (.int (own_k p2)), .unset, .unset, .unset, .unset, .unset, .unset, .unset] [])) _
    refine XS.bipush X0.here hx rfl (hb hby at_37) ?_
    show Steps p.tables e below (s₁.setTop (mkF m 39 #[.val (.int p1), .val (.int p2), .val (.int (own_c p1)), .val (.int (own_d p1)), .val (.int (0 : Int32)), .val (.int (own_k p2)), .unset, .unset, .unset, .unset, .unset, .unset, .unset] [(.int (48 : Int32))])) _
    refine XS.iload X0.here hx rfl (hb hby at_39) rfl ?_
    show Steps p.tables e below (s₁.setTop (mkF m 41 #[.val (.int p1), .val (.int p2), .val (.int (own_c p1)), .val (.int (own_d p1)), .val (.int (0 : Int32)), .val (.int (own_k p2)), .unset, .unset, .unset, .unset, .unset, .unset, .unset] [(.int (own_k p2)), (.int (48 : Int32))])) _
    refine XS.iadd X0.here hx rfl (hb hby at_41) rfl ?_
    show Steps p.tables e below (s₁.setTop (mkF m 42 #[.val (.int p1), .val (.int p2), .val (.int (own_c p1)), .val (.int (own_d p1)), .val (.int (0 : Int32)), .val (.int (own_k p2)), .unset, .unset, .unset, .unset, .unset, .unset, .unset] [(.int ((48 : Int32) + (own_k p2)))])) _
    refine XS.i2c X0.here hx rfl (hb hby at_42) rfl ?_
    show Steps p.tables e below (s₁.setTop (mkF m 43 #[.val (.int p1), .val (.int p2), .val (.int (own_c p1)), .val (.int (own_d p1)), .val (.int (0 : Int32)), .val (.int (own_k p2)), .unset, .unset, .unset, .unset, .unset, .unset, .unset] [(.int (own_g p2))])) _
    refine XS.istore X0.here hx rfl (hb hby at_43) rfl (l' := #[.val (.int p1), .val (.int p2), .val (.int (own_c p1)), .val (.int (own_d p1)), .val (.int (0 : Int32)), .val (.int (own_k p2)), .val (.int (own_g p2)), .unset, .unset, .unset, .unset, .unset, .unset]) rfl ?_
    show Steps p.tables e below (s₁.setTop (mkF m 45 #[.val (.int p1), .val (.int p2), .val (.int (own_c p1)), .val (.int (own_d p1)), .val (.int (0 : Int32)), .val (.int (own_k p2)), .val (.int (own_g p2)), .unset, .unset, .unset, .unset, .unset, .unset] [])) _
    refine XS.iloadN X0.here hx rfl (hb hby at_45) rfl ?_
    show Steps p.tables e below (s₁.setTop (mkF m 46 #[.val (.int p1), .val (.int p2), .val (.int (own_c p1)), .val (.int (own_d p1)), .val (.int (0 : Int32)), .val (.int (own_k p2)), .val (.int (own_g p2)), .unset, .unset, .unset, .unset, .unset, .unset] [(.int (own_c p1))])) _
    refine st3 _ ?_
    show Steps p.tables e below (T3.setTop (mkF m 49 #[.val (.int p1), .val (.int p2), .val (.int (own_c p1)), .val (.int (own_d p1)), .val (.int (0 : Int32)), .val (.int (own_k p2)), .val (.int (own_g p2)), .unset, .unset, .unset, .unset, .unset, .unset] [(.int (own_dig (own_c p1)))])) _
    refine XS.iload X3.here hx rfl (hb hby at_49) rfl ?_
    show Steps p.tables e below (T3.setTop (mkF m 51 #[.val (.int p1), .val (.int p2), .val (.int (own_c p1)), .val (.int (own_d p1)), .val (.int (0 : Int32)), .val (.int (own_k p2)), .val (.int (own_g p2)), .unset, .unset, .unset, .unset, .unset, .unset] [(.int (0 : Int32)), (.int (own_dig (own_c p1)))])) _
    refine XS.icmpNo X3.here hx rfl (hb hby at_51) rfl (teq (own_a p1 hc12 : (own_dig (own_c p1)) = (0 : Int32))).2 ?_
    show Steps p.tables e below (T3.setTop (mkF m 54 #[.val (.int p1), .val (.int p2), .val (.int (own_c p1)), .val (.int (own_d p1)), .val (.int (0 : Int32)), .val (.int (own_k p2)), .val (.int (own_g p2)), .unset, .unset, .unset, .unset, .unset, .unset] [])) _
    refine XS.iconst X3.here hx rfl (hb hby at_54) ?_
    show Steps p.tables e below (T3.setTop (mkF m 55 #[.val (.int p1), .val (.int p2), .val (.int (own_c p1)), .val (.int (own_d p1)), .val (.int (0 : Int32)), .val (.int (own_k p2)), .val (.int (own_g p2)), .unset, .unset, .unset, .unset, .unset, .unset] [(.int (1 : Int32))])) _
    refine XS.goto X3.here hx rfl (pc0 := 55) (pc' := 59) rfl (hb hby at_55) (by decide) (by decide) ?_
    show Steps p.tables e below (T3.setTop (mkF m 59 #[.val (.int p1), .val (.int p2), .val (.int (own_c p1)), .val (.int (own_d p1)), .val (.int (0 : Int32)), .val (.int (own_k p2)), .val (.int (own_g p2)), .unset, .unset, .unset, .unset, .unset, .unset] [(.int (1 : Int32))])) _
    refine XS.istore X3.here hx rfl (hb hby at_59) rfl (l' := #[.val (.int p1), .val (.int p2), .val (.int (own_c p1)), .val (.int (own_d p1)), .val (.int (0 : Int32)), .val (.int (own_k p2)), .val (.int (own_g p2)), .val (.int (1 : Int32)), .unset, .unset, .unset, .unset, .unset]) rfl ?_
    show Steps p.tables e below (T3.setTop (mkF m 61 #[.val (.int p1), .val (.int p2), .val (.int (own_c p1)), .val (.int (own_d p1)), .val (.int (0 : Int32)), .val (.int (own_k p2)), .val (.int (own_g p2)), .val (.int (1 : Int32)), .unset, .unset, .unset, .unset, .unset] [])) _
    refine XS.iload X3.here hx rfl (hb hby at_61) rfl ?_
    show Steps p.tables e below (T3.setTop (mkF m 63 #[.val (.int p1), .val (.int p2), .val (.int (own_c p1)), .val (.int (own_d p1)), .val (.int (0 : Int32)), .val (.int (own_k p2)), .val (.int (own_g p2)), .val (.int (1 : Int32)), .unset, .unset, .unset, .unset, .unset] [(.int (own_g p2))])) _
    refine st4 _ ?_
    show Steps p.tables e below (T4.setTop (mkF m 66 #[.val (.int p1), .val (.int p2), .val (.int (own_c p1)), .val (.int (own_d p1)), .val (.int (0 : Int32)), .val (.int (own_k p2)), .val (.int (own_g p2)), .val (.int (1 : Int32)), .unset, .unset, .unset, .unset, .unset] [(.int (own_dig (own_g p2)))])) _
    refine XS.istore X4.here hx rfl (hb hby at_66) rfl (l' := #[.val (.int p1), .val (.int p2), .val (.int (own_c p1)), .val (.int (own_d p1)), .val (.int (0 : Int32)), .val (.int (own_k p2)), .val (.int (own_g p2)), .val (.int (1 : Int32)), .val (.int (own_dig (own_g p2))), .unset, .unset, .unset, .unset]) rfl ?_
    show Steps p.tables e below (T4.setTop (mkF m 68 #[.val (.int p1), .val (.int p2), .val (.int (own_c p1)), .val (.int (own_d p1)), .val (.int (0 : Int32)), .val (.int (own_k p2)), .val (.int (own_g p2)), .val (.int (1 : Int32)), .val (.int (own_dig (own_g p2))), .unset, .unset, .unset, .unset] [])) _
    refine XS.bipush X4.here hx rfl (hb hby at_68) ?_
    show Steps p.tables e below (T4.setTop (mkF m 70 #[.val (.int p1), .val (.int p2), .val (.int (own_c p1)), .val (.int (own_d p1)), .val (.int (0 : Int32)), .val (.int (own_k p2)), .val (.int (own_g p2)), .val (.int (1 : Int32)), .val (.int (own_dig (own_g p2))), .unset, .unset, .unset, .unset] [(.int (47 : Int32))])) _
    refine st5 _ ?_
    show Steps p.tables e below (T5.setTop (mkF m 73 #[.val (.int p1), .val (.int p2), .val (.int (own_c p1)), .val (.int (own_d p1)), .val (.int (0 : Int32)), .val (.int (own_k p2)), .val (.int (own_g p2)), .val (.int (1 : Int32)), .val (.int (own_dig (own_g p2))), .unset, .unset, .unset, .unset] [(.int (own_dig (47 : Int32)))])) _
    refine XS.ifNo X5.here hx rfl (hb hby at_73) rfl ((if0 _ _).trans (teq (by decide : (own_dig (47 : Int32)) = (0 : Int32))).2) ?_
    show Steps p.tables e below (T5.setTop (mkF m 76 #[.val (.int p1), .val (.int p2), .val (.int (own_c p1)), .val (.int (own_d p1)), .val (.int (0 : Int32)), .val (.int (own_k p2)), .val (.int (own_g p2)), .val (.int (1 : Int32)), .val (.int (own_dig (own_g p2))), .unset, .unset, .unset, .unset] [])) _
    refine XS.iconst X5.here hx rfl (hb hby at_76) ?_
    show Steps p.tables e below (T5.setTop (mkF m 77 #[.val (.int p1), .val (.int p2), .val (.int (own_c p1)), .val (.int (own_d p1)), .val (.int (0 : Int32)), .val (.int (own_k p2)), .val (.int (own_g p2)), .val (.int (1 : Int32)), .val (.int (own_dig (own_g p2))), .unset, .unset, .unset, .unset] [(.int (1 : Int32))])) _
    refine XS.goto X5.here hx rfl (pc0 := 77) (pc' := 81) rfl (hb hby at_77) (by decide) (by decide) ?_
    show Steps p.tables e below (T5.setTop (mkF m 81 #[.val (.int p1), .val (.int p2), .val (.int (own_c p1)), .val (.int (own_d p1)), .val (.int (0 : Int32)), .val (.int (own_k p2)), .val (.int (own_g p2)), .val (.int (1 : Int32)), .val (.int (own_dig (own_g p2))), .unset, .unset, .unset, .unset] [(.int (1 : Int32))])) _
    refine XS.istore X5.here hx rfl (hb hby at_81) rfl (l' := #[.val (.int p1), .val (.int p2), .val (.int (own_c p1)), .val (.int (own_d p1)), .val (.int (0 : Int32)), .val (.int (own_k p2)), .val (.int (own_g p2)), .val (.int (1 : Int32)), .val (.int (own_dig (own_g p2))), .val (.int (1 : Int32)), .unset, .unset, .unset]) rfl ?_
    show Steps p.tables e below (T5.setTop (mkF m 83 #[.val (.int p1), .val (.int p2), .val (.int (own_c p1)), .val (.int (own_d p1)), .val (.int (0 : Int32)), .val (.int (own_k p2)), .val (.int (own_g p2)), .val (.int (1 : Int32)), .val (.int (own_dig (own_g p2))), .val (.int (1 : Int32)), .unset, .unset, .unset] [])) _
    refine XS.bipush X5.here hx rfl (hb hby at_83) ?_
    show Steps p.tables e below (T5.setTop (mkF m 85 #[.val (.int p1), .val (.int p2), .val (.int (own_c p1)), .val (.int (own_d p1)), .val (.int (0 : Int32)), .val (.int (own_k p2)), .val (.int (own_g p2)), .val (.int (1 : Int32)), .val (.int (own_dig (own_g p2))), .val (.int (1 : Int32)), .unset, .unset, .unset] [(.int (58 : Int32))])) _
    refine st6 _ ?_
    show Steps p.tables e below (T6.setTop (mkF m 88 #[.val (.int p1), .val (.int p2), .val (.int (own_c p1)), .val (.int (own_d p1)), .val (.int (0 : Int32)), .val (.int (own_k p2)), .val (.int (own_g p2)), .val (.int (1 : Int32)), .val (.int (own_dig (own_g p2))), .val (.int (1 : Int32)), .unset, .unset, .unset] [(.int (own_dig (58 : Int32)))])) _
    refine XS.ifNo X6.here hx rfl (hb hby at_88) rfl ((if0 _ _).trans (teq (by decide : (own_dig (58 : Int32)) = (0 : Int32))).2) ?_
    show Steps p.tables e below (T6.setTop (mkF m 91 #[.val (.int p1), .val (.int p2), .val (.int (own_c p1)), .val (.int (own_d p1)), .val (.int (0 : Int32)), .val (.int (own_k p2)), .val (.int (own_g p2)), .val (.int (1 : Int32)), .val (.int (own_dig (own_g p2))), .val (.int (1 : Int32)), .unset, .unset, .unset] [])) _
    refine XS.iconst X6.here hx rfl (hb hby at_91) ?_
    show Steps p.tables e below (T6.setTop (mkF m 92 #[.val (.int p1), .val (.int p2), .val (.int (own_c p1)), .val (.int (own_d p1)), .val (.int (0 : Int32)), .val (.int (own_k p2)), .val (.int (own_g p2)), .val (.int (1 : Int32)), .val (.int (own_dig (own_g p2))), .val (.int (1 : Int32)), .unset, .unset, .unset] [(.int (1 : Int32))])) _
    refine XS.goto X6.here hx rfl (pc0 := 92) (pc' := 96) rfl (hb hby at_92) (by decide) (by decide) ?_
    show Steps p.tables e below (T6.setTop (mkF m 96 #[.val (.int p1), .val (.int p2), .val (.int (own_c p1)), .val (.int (own_d p1)), .val (.int (0 : Int32)), .val (.int (own_k p2)), .val (.int (own_g p2)), .val (.int (1 : Int32)), .val (.int (own_dig (own_g p2))), .val (.int (1 : Int32)), .unset, .unset, .unset] [(.int (1 : Int32))])) _
    refine XS.istore X6.here hx rfl (hb hby at_96) rfl (l' := #[.val (.int p1), .val (.int p2), .val (.int (own_c p1)), .val (.int (own_d p1)), .val (.int (0 : Int32)), .val (.int (own_k p2)), .val (.int (own_g p2)), .val (.int (1 : Int32)), .val (.int (own_dig (own_g p2))), .val (.int (1 : Int32)), .val (.int (1 : Int32)), .unset, .unset]) rfl ?_
    show Steps p.tables e below (T6.setTop (mkF m 98 #[.val (.int p1), .val (.int p2), .val (.int (own_c p1)), .val (.int (own_d p1)), .val (.int (0 : Int32)), .val (.int (own_k p2)), .val (.int (own_g p2)), .val (.int (1 : Int32)), .val (.int (own_dig (own_g p2))), .val (.int (1 : Int32)), .val (.int (1 : Int32)), .unset, .unset] [])) _
    refine XS.bipush X6.here hx rfl (hb hby at_98) ?_
    show Steps p.tables e below (T6.setTop (mkF m 100 #[.val (.int p1), .val (.int p2), .val (.int (own_c p1)), .val (.int (own_d p1)), .val (.int (0 : Int32)), .val (.int (own_k p2)), .val (.int (own_g p2)), .val (.int (1 : Int32)), .val (.int (own_dig (own_g p2))), .val (.int (1 : Int32)), .val (.int (1 : Int32)), .unset, .unset] [(.int (48 : Int32))])) _
    refine st7 _ ?_
    show Steps p.tables e below (T7.setTop (mkF m 103 #[.val (.int p1), .val (.int p2), .val (.int (own_c p1)), .val (.int (own_d p1)), .val (.int (0 : Int32)), .val (.int (own_k p2)), .val (.int (own_g p2)), .val (.int (1 : Int32)), .val (.int (own_dig (own_g p2))), .val (.int (1 : Int32)), .val (.int (1 : Int32)), .unset, .unset] [(.int (own_dig (48 : Int32)))])) _
    refine XS.istore X7.here hx rfl (hb hby at_103) rfl (l' := #[.val (.int p1), .val (.int p2), .val (.int (own_c p1)), .val (.int (own_d p1)), .val (.int (0 : Int32)), .val (.int (own_k p2)), .val (.int (own_g p2)), .val (.int (1 : Int32)), .val (.int (own_dig (own_g p2))), .val (.int (1 : Int32)), .val (.int (1 : Int32)), .val (.int (own_dig (48 : Int32))), .unset]) rfl ?_
    show Steps p.tables e below (T7.setTop (mkF m 105 #[.val (.int p1), .val (.int p2), .val (.int (own_c p1)), .val (.int (own_d p1)), .val (.int (0 : Int32)), .val (.int (own_k p2)), .val (.int (own_g p2)), .val (.int (1 : Int32)), .val (.int (own_dig (own_g p2))), .val (.int (1 : Int32)), .val (.int (1 : Int32)), .val (.int (own_dig (48 : Int32))), .unset] [])) _
    refine XS.bipush X7.here hx rfl (hb hby at_105) ?_
    show Steps p.tables e below (T7.setTop (mkF m 107 #[.val (.int p1), .val (.int p2), .val (.int (own_c p1)), .val (.int (own_d p1)), .val (.int (0 : Int32)), .val (.int (own_k p2)), .val (.int (own_g p2)), .val (.int (1 : Int32)), .val (.int (own_dig (own_g p2))), .val (.int (1 : Int32)), .val (.int (1 : Int32)), .val (.int (own_dig (48 : Int32))), .unset] [(.int (57 : Int32))])) _
    refine st8 _ ?_
    show Steps p.tables e below (T8.setTop (mkF m 110 #[.val (.int p1), .val (.int p2), .val (.int (own_c p1)), .val (.int (own_d p1)), .val (.int (0 : Int32)), .val (.int (own_k p2)), .val (.int (own_g p2)), .val (.int (1 : Int32)), .val (.int (own_dig (own_g p2))), .val (.int (1 : Int32)), .val (.int (1 : Int32)), .val (.int (own_dig (48 : Int32))), .unset] [(.int (own_dig (57 : Int32)))])) _
    refine XS.istore X8.here hx rfl (hb hby at_110) rfl (l' := #[.val (.int p1), .val (.int p2), .val (.int (own_c p1)), .val (.int (own_d p1)), .val (.int (0 : Int32)), .val (.int (own_k p2)), .val (.int (own_g p2)), .val (.int (1 : Int32)), .val (.int (own_dig (own_g p2))), .val (.int (1 : Int32)), .val (.int (1 : Int32)), .val (.int (own_dig (48 : Int32))), .val (.int (own_dig (57 : Int32)))]) rfl ?_
    show Steps p.tables e below (T8.setTop (mkF m 112 #[.val (.int p1), .val (.int p2), .val (.int (own_c p1)), .val (.int (own_d p1)), .val (.int (0 : Int32)), .val (.int (own_k p2)), .val (.int (own_g p2)), .val (.int (1 : Int32)), .val (.int (own_dig (own_g p2))), .val (.int (1 : Int32)), .val (.int (1 : Int32)), .val (.int (own_dig (48 : Int32))), .val (.int (own_dig (57 : Int32)))] [])) _
    refine XS.iload X8.here hx rfl (hb hby at_112) rfl ?_
    show Steps p.tables e below (T8.setTop (mkF m 114 #[.val (.int p1), .val (.int p2), .val (.int (own_c p1)), .val (.int (own_d p1)), .val (.int (0 : Int32)), .val (.int (own_k p2)), .val (.int (own_g p2)), .val (.int (1 : Int32)), .val (.int (own_dig (own_g p2))), .val (.int (1 : Int32)), .val (.int (1 : Int32)), .val (.int (own_dig (48 : Int32))), .val (.int (own_dig (57 : Int32)))] [(.int (1 : Int32))])) _
    refine XS.ifNo X8.here hx rfl (hb hby at_114) rfl ((if0 _ _).trans (feq hc114).1) ?_
    show Steps p.tables e below (T8.setTop (mkF m 117 #[.val (.int p1), .val (.int p2), .val (.int (own_c p1)), .val (.int (own_d p1)), .val (.int (0 : Int32)), .val (.int (own_k p2)), .val (.int (own_g p2)), .val (.int (1 : Int32)), .val (.int (own_dig (own_g p2))), .val (.int (1 : Int32)), .val (.int (1 : Int32)), .val (.int (own_dig (48 : Int32))), .val (.int (own_dig (57 : Int32)))] [])) _
    refine XS.iload X8.here hx rfl (hb hby at_117) rfl ?_
    show Steps p.tables e below (T8.setTop (mkF m 119 #[.val (.int p1), .val (.int p2), .val (.int (own_c p1)), .val (.int (own_d p1)), .val (.int (0 : Int32)), .val (.int (own_k p2)), .val (.int (own_g p2)), .val (.int (1 : Int32)), .val (.int (own_dig (own_g p2))), .val (.int (1 : Int32)), .val (.int (1 : Int32)), .val (.int (own_dig (48 : Int32))), .val (.int (own_dig (57 : Int32)))] [(.int (own_dig (own_g p2)))])) _
    refine XS.ifNo X8.here hx rfl (hb hby at_119) rfl ((if0 _ _).trans (feq (own_g_yes p2 : ¬ ((own_dig (own_g p2)) = (0 : Int32)))).1) ?_
    show Steps p.tables e below (T8.setTop (mkF m 122 #[.val (.int p1), .val (.int p2), .val (.int (own_c p1)), .val (.int (own_d p1)), .val (.int (0 : Int32)), .val (.int (own_k p2)), .val (.int (own_g p2)), .val (.int (1 : Int32)), .val (.int (own_dig (own_g p2))), .val (.int (1 : Int32)), .val (.int (1 : Int32)), .val (.int (own_dig (48 : Int32))), .val (.int (own_dig (57 : Int32)))] [])) _
    refine XS.iload X8.here hx rfl (hb hby at_122) rfl ?_
    show Steps p.tables e below (T8.setTop (mkF m 124 #[.val (.int p1), .val (.int p2), .val (.int (own_c p1)), .val (.int (own_d p1)), .val (.int (0 : Int32)), .val (.int (own_k p2)), .val (.int (own_g p2)), .val (.int (1 : Int32)), .val (.int (own_dig (own_g p2))), .val (.int (1 : Int32)), .val (.int (1 : Int32)), .val (.int (own_dig (48 : Int32))), .val (.int (own_dig (57 : Int32)))] [(.int (1 : Int32))])) _
    refine XS.ifNo X8.here hx rfl (hb hby at_124) rfl ((if0 _ _).trans (feq hc124).1) ?_
    show Steps p.tables e below (T8.setTop (mkF m 127 #[.val (.int p1), .val (.int p2), .val (.int (own_c p1)), .val (.int (own_d p1)), .val (.int (0 : Int32)), .val (.int (own_k p2)), .val (.int (own_g p2)), .val (.int (1 : Int32)), .val (.int (own_dig (own_g p2))), .val (.int (1 : Int32)), .val (.int (1 : Int32)), .val (.int (own_dig (48 : Int32))), .val (.int (own_dig (57 : Int32)))] [])) _
    refine XS.iload X8.here hx rfl (hb hby at_127) rfl ?_
    show Steps p.tables e below (T8.setTop (mkF m 129 #[.val (.int p1), .val (.int p2), .val (.int (own_c p1)), .val (.int (own_d p1)), .val (.int (0 : Int32)), .val (.int (own_k p2)), .val (.int (own_g p2)), .val (.int (1 : Int32)), .val (.int (own_dig (own_g p2))), .val (.int (1 : Int32)), .val (.int (1 : Int32)), .val (.int (own_dig (48 : Int32))), .val (.int (own_dig (57 : Int32)))] [(.int (1 : Int32))])) _
    refine XS.ifNo X8.here hx rfl (hb hby at_129) rfl ((if0 _ _).trans (feq hc129).1) ?_
    show Steps p.tables e below (T8.setTop (mkF m 132 #[.val (.int p1), .val (.int p2), .val (.int (own_c p1)), .val (.int (own_d p1)), .val (.int (0 : Int32)), .val (.int (own_k p2)), .val (.int (own_g p2)), .val (.int (1 : Int32)), .val (.int (own_dig (own_g p2))), .val (.int (1 : Int32)), .val (.int (1 : Int32)), .val (.int (own_dig (48 : Int32))), .val (.int (own_dig (57 : Int32)))] [])) _
    refine XS.iload X8.here hx rfl (hb hby at_132) rfl ?_
    show Steps p.tables e below (T8.setTop (mkF m 134 #[.val (.int p1), .val (.int p2), .val (.int (own_c p1)), .val (.int (own_d p1)), .val (.int (0 : Int32)), .val (.int (own_k p2)), .val (.int (own_g p2)), .val (.int (1 : Int32)), .val (.int (own_dig (own_g p2))), .val (.int (1 : Int32)), .val (.int (1 : Int32)), .val (.int (own_dig (48 : Int32))), .val (.int (own_dig (57 : Int32)))] [(.int (own_dig (48 : Int32)))])) _
    refine XS.ifNo X8.here hx rfl (hb hby at_134) rfl ((if0 _ _).trans (feq (by decide : ¬ ((own_dig (48 : Int32)) = (0 : Int32)))).1) ?_
    show Steps p.tables e below (T8.setTop (mkF m 137 #[.val (.int p1), .val (.int p2), .val (.int (own_c p1)), .val (.int (own_d p1)), .val (.int (0 : Int32)), .val (.int (own_k p2)), .val (.int (own_g p2)), .val (.int (1 : Int32)), .val (.int (own_dig (own_g p2))), .val (.int (1 : Int32)), .val (.int (1 : Int32)), .val (.int (own_dig (48 : Int32))), .val (.int (own_dig (57 : Int32)))] [])) _
    refine XS.iload X8.here hx rfl (hb hby at_137) rfl ?_
    show Steps p.tables e below (T8.setTop (mkF m 139 #[.val (.int p1), .val (.int p2), .val (.int (own_c p1)), .val (.int (own_d p1)), .val (.int (0 : Int32)), .val (.int (own_k p2)), .val (.int (own_g p2)), .val (.int (1 : Int32)), .val (.int (own_dig (own_g p2))), .val (.int (1 : Int32)), .val (.int (1 : Int32)), .val (.int (own_dig (48 : Int32))), .val (.int (own_dig (57 : Int32)))] [(.int (own_dig (57 : Int32)))])) _
    refine XS.ifNo X8.here hx rfl (hb hby at_139) rfl ((if0 _ _).trans (feq (by decide : ¬ ((own_dig (57 : Int32)) = (0 : Int32)))).1) ?_
    show Steps p.tables e below (T8.setTop (mkF m 142 #[.val (.int p1), .val (.int p2), .val (.int (own_c p1)), .val (.int (own_d p1)), .val (.int (0 : Int32)), .val (.int (own_k p2)), .val (.int (own_g p2)), .val (.int (1 : Int32)), .val (.int (own_dig (own_g p2))), .val (.int (1 : Int32)), .val (.int (1 : Int32)), .val (.int (own_dig (48 : Int32))), .val (.int (own_dig (57 : Int32)))] [])) _
    refine XS.iconst X8.here hx rfl (hb hby at_142) ?_
    show Steps p.tables e below (T8.setTop (mkF m 143 #[.val (.int p1), .val (.int p2), .val (.int (own_c p1)), .val (.int (own_d p1)), .val (.int (0 : Int32)), .val (.int (own_k p2)), .val (.int (own_g p2)), .val (.int (1 : Int32)), .val (.int (own_dig (own_g p2))), .val (.int (1 : Int32)), .val (.int (1 : Int32)), .val (.int (own_dig (48 : Int32))), .val (.int (own_dig (57 : Int32)))] [(.int (1 : Int32))])) _
    refine XS.goto X8.here hx rfl (pc0 := 143) (pc' := 147) rfl (hb hby at_143) (by decide) (by decide) ?_
    show Steps p.tables e below (T8.setTop (mkF m 147 #[.val (.int p1), .val (.int p2), .val (.int (own_c p1)), .val (.int (own_d p1)), .val (.int (0 : Int32)), .val (.int (own_k p2)), .val (.int (own_g p2)), .val (.int (1 : Int32)), .val (.int (own_dig (own_g p2))), .val (.int (1 : Int32)), .val (.int (1 : Int32)), .val (.int (own_dig (48 : Int32))), .val (.int (own_dig (57 : Int32)))] [(.int (1 : Int32))])) _
    exact retN X8 hx (t := .boolean) Bd.returns (by simp) (hb hby at_147) hr
  · show Q0 Z p1 p2 h0 n0 _ T8.heap _
    exact ⟨rfl, N8⟩
set_option maxRecDepth 65536 in
set_option maxHeartbeats 40000000 in
theorem rm0b (l : Launch) (Z : State) (a0 : Array Value) (hw : ∀ d ∈ tables_1, d.before a0 Z = true) (ws : List Jvm.Cond) (p1 : Int32) (p2 : Int32) (h0 : Heap) (n0 : Nat) (Z0 : n0 ≤ h0.size) (hc12 : ¬ ((own_d p1) < (0 : Int32))) (hc18 : ¬ ((own_d p1) < (10 : Int32))) (hc114 : ¬ ((1 : Int32) = (0 : Int32))) (hc124 : ¬ ((1 : Int32) = (0 : Int32))) (hc129 : ¬ ((1 : Int32) = (0 : Int32))) :
    MetFree l x (head1 (Jvm.Cond.code x code maxLocals ret :: ws) room_1) (fun a U => a = #[(.int p1), (.int p2)] ∧ Z.Warmed39 U.vm ∧ U.heap = h0) (fun _ _ _ _ _ => True) (fun _ U o U' => ∃ v L, o = .returned v ∧ Q0 Z p1 p2 h0 n0 v U'.heap L ∧ FrameEnd U o U' L room_1.cells room_1.slots) := by
  refine MetFree.of_bodySF (plainFor_of_name pn_0) hisR ?_
  intro p e s m args below meth c s₁ Bd hml0 hP hK
  obtain ⟨rfl, hZ, hh⟩ := hP
  have hx := Bd.exec
  have hby := Bd.bytes
  have hml : c.maxLocals = 13 := hml0
  have hown : s.vm.findClass "com/example/bundlewright/bundlewright/TextsIsDigitPinLaw" = some m.cls := findClass_of_methodNamed Bd.named
  have hnm := (name_of_methodNamed Bd.named Bd.method).1
  have X0 : Stand p l e room_1 s m #[(.int p1), (.int p2)] below meth c s₁ [] 0 0 := Stand.of_body Bd
  have e0 : s₁.heap = h0 := by rw [← hh, Bd.state]; rfl
  have N0 := Fr.nil n0
  have pre0 : ∀ t, Steps p.tables e below (s₁.setTop (mkF m 0 #[.val (.int p1), .val (.int p2), .unset, .unset, .unset, .unset, .unset, .unset, .unset, .unset, .unset, .unset, .unset] [])) t → Steps p.tables e below (s₁.setTop (entryFrame m #[(.int p1), (.int p2)] maxLocals)) t := fun t k => castTop (ef_0 m p1 p2) k
  obtain ⟨_, _, ⟨T3, L3, k3, n3⟩, -, X3, ⟨Lc3, hQ3, l3, y3, z3⟩, st3⟩ := Jvm.LawKit.callS X0 hx (y := (⟨"com/example/bundlewright/bundlewright/Texts", "isDigit", "(C)Z"⟩ : MethodName)) hown (mvT hZ (hw _ (List.mem_of_getElem? (i := 2) rfl))) (mvT hZ (hw _ (List.mem_of_getElem? (i := 3) rfl))) (mvT hZ (hw _ (List.mem_of_getElem? (i := 4) rfl))) (mvT hZ (hw _ (List.mem_of_getElem? (i := 5) rfl))) (by decide) (backOf (W := 0) (rm1 l Z a0 hw [] (own_c p1) h0 n0 Z0) hZ (hw _ (List.mem_of_getElem? (i := 5) rfl)) (hw _ (List.mem_of_getElem? (i := 4) rfl)) (by decide) (by decide)) (g := (mkF m 46 #[.val (.int p1), .val (.int p2), .val (.int (own_c p1)), .val (.int (own_d p1)), .val (.int (0 : Int32)), .val (.int (own_k p2)), .val (.int (own_g p2)), .unset, .unset, .unset, .unset, .unset, .unset] [(.int (own_c p1))])) rfl (by rw [hml]; rfl) (argsL := [(.int (own_c p1))]) (rest := []) (lenOf pd_0_0 rfl) rfl (by show 2 * 0 + _ ≤ _; exact Nat.le_of_eq rfl) (hb hby at_46) (fun _ _ => ⟨rfl, e0, (by decide : 0 + 0 ≤ _), (by decide : 0 + 0 ≤ _)⟩)
  dsimp only [Pt.U, Pt.locs, Pt.cells, Pt.slots] at X3 l3 y3 z3 st3 hQ3
  subst l3 y3 z3
  obtain ⟨rfl, N3q, e3⟩ := hQ3
  have Z3 : n0 ≤ T3.heap.size := by rw [e3]; exact Z0
  have N3 := Fr.app N0 N3q
  obtain ⟨_, _, ⟨T4, L4, k4, n4⟩, -, X4, ⟨Lc4, hQ4, l4, y4, z4⟩, st4⟩ := Jvm.LawKit.callS X3 hx (y := (⟨"com/example/bundlewright/bundlewright/Texts", "isDigit", "(C)Z"⟩ : MethodName)) hown (mvT hZ (hw _ (List.mem_of_getElem? (i := 2) rfl))) (mvT hZ (hw _ (List.mem_of_getElem? (i := 3) rfl))) (mvT hZ (hw _ (List.mem_of_getElem? (i := 4) rfl))) (mvT hZ (hw _ (List.mem_of_getElem? (i := 5) rfl))) (by decide) (backOf (W := 0) (rm1 l Z a0 hw [] (own_g p2) T3.heap n0 Z3) hZ (hw _ (List.mem_of_getElem? (i := 5) rfl)) (hw _ (List.mem_of_getElem? (i := 4) rfl)) (by decide) (by decide)) (g := (mkF m 63 #[.val (.int p1), .val (.int p2), .val (.int (own_c p1)), .val (.int (own_d p1)), .val (.int (0 : Int32)), .val (.int (own_k p2)), .val (.int (own_g p2)), .val (.int (1 : Int32)), .unset, .unset, .unset, .unset, .unset] [(.int (own_g p2))])) rfl (by rw [hml]; rfl) (argsL := [(.int (own_g p2))]) (rest := []) (lenOf pd_0_0 rfl) rfl (by show 2 * 0 + _ ≤ _; exact Nat.le_of_eq rfl) (hb hby at_63) (fun _ _ => ⟨rfl, rfl, (by decide : 0 + 0 ≤ _), (by decide : 0 + 0 ≤ _)⟩)
  dsimp only [Pt.U, Pt.locs, Pt.cells, Pt.slots] at X4 l4 y4 z4 st4 hQ4
  subst l4 y4 z4
  obtain ⟨rfl, N4q, e4⟩ := hQ4
  have Z4 : n0 ≤ T4.heap.size := by rw [e4]; exact Z3
  have N4 := Fr.app N3 N4q
  obtain ⟨_, _, ⟨T5, L5, k5, n5⟩, -, X5, ⟨Lc5, hQ5, l5, y5, z5⟩, st5⟩ := Jvm.LawKit.callS X4 hx (y := (⟨"com/example/bundlewright/bundlewright/Texts", "isDigit", "(C)Z"⟩ : MethodName)) hown (mvT hZ (hw _ (List.mem_of_getElem? (i := 2) rfl))) (mvT hZ (hw _ (List.mem_of_getElem? (i := 3) rfl))) (mvT hZ (hw _ (List.mem_of_getElem? (i := 4) rfl))) (mvT hZ (hw _ (List.mem_of_getElem? (i := 5) rfl))) (by decide) (backOf (W := 0) (rm1 l Z a0 hw [] (47 : Int32) T4.heap n0 Z4) hZ (hw _ (List.mem_of_getElem? (i := 5) rfl)) (hw _ (List.mem_of_getElem? (i := 4) rfl)) (by decide) (by decide)) (g := (mkF m 70 #[.val (.int p1), .val (.int p2), .val (.int (own_c p1)), .val (.int (own_d p1)), .val (.int (0 : Int32)), .val (.int (own_k p2)), .val (.int (own_g p2)), .val (.int (1 : Int32)), .val (.int (own_dig (own_g p2))), .unset, .unset, .unset, .unset] [(.int (47 : Int32))])) rfl (by rw [hml]; rfl) (argsL := [(.int (47 : Int32))]) (rest := []) (lenOf pd_0_0 rfl) rfl (by show 2 * 0 + _ ≤ _; exact Nat.le_of_eq rfl) (hb hby at_70) (fun _ _ => ⟨rfl, rfl, (by decide : 0 + 0 ≤ _), (by decide : 0 + 0 ≤ _)⟩)
  dsimp only [Pt.U, Pt.locs, Pt.cells, Pt.slots] at X5 l5 y5 z5 st5 hQ5
  subst l5 y5 z5
  obtain ⟨rfl, N5q, e5⟩ := hQ5
  have Z5 : n0 ≤ T5.heap.size := by rw [e5]; exact Z4
  have N5 := Fr.app N4 N5q
  obtain ⟨_, _, ⟨T6, L6, k6, n6⟩, -, X6, ⟨Lc6, hQ6, l6, y6, z6⟩, st6⟩ := Jvm.LawKit.callS X5 hx (y := (⟨"com/example/bundlewright/bundlewright/Texts", "isDigit", "(C)Z"⟩ : MethodName)) hown (mvT hZ (hw _ (List.mem_of_getElem? (i := 2) rfl))) (mvT hZ (hw _ (List.mem_of_getElem? (i := 3) rfl))) (mvT hZ (hw _ (List.mem_of_getElem? (i := 4) rfl))) (mvT hZ (hw _ (List.mem_of_getElem? (i := 5) rfl))) (by decide) (backOf (W := 0) (rm1 l Z a0 hw [] (58 : Int32) T5.heap n0 Z5) hZ (hw _ (List.mem_of_getElem? (i := 5) rfl)) (hw _ (List.mem_of_getElem? (i := 4) rfl)) (by decide) (by decide)) (g := (mkF m 85 #[.val (.int p1), .val (.int p2), .val (.int (own_c p1)), .val (.int (own_d p1)), .val (.int (0 : Int32)), .val (.int (own_k p2)), .val (.int (own_g p2)), .val (.int (1 : Int32)), .val (.int (own_dig (own_g p2))), .val (.int (1 : Int32)), .unset, .unset, .unset] [(.int (58 : Int32))])) rfl (by rw [hml]; rfl) (argsL := [(.int (58 : Int32))]) (rest := []) (lenOf pd_0_0 rfl) rfl (by show 2 * 0 + _ ≤ _; exact Nat.le_of_eq rfl) (hb hby at_85) (fun _ _ => ⟨rfl, rfl, (by decide : 0 + 0 ≤ _), (by decide : 0 + 0 ≤ _)⟩)
  dsimp only [Pt.U, Pt.locs, Pt.cells, Pt.slots] at X6 l6 y6 z6 st6 hQ6
  subst l6 y6 z6
  obtain ⟨rfl, N6q, e6⟩ := hQ6
  have Z6 : n0 ≤ T6.heap.size := by rw [e6]; exact Z5
  have N6 := Fr.app N5 N6q
  obtain ⟨_, _, ⟨T7, L7, k7, n7⟩, -, X7, ⟨Lc7, hQ7, l7, y7, z7⟩, st7⟩ := Jvm.LawKit.callS X6 hx (y := (⟨"com/example/bundlewright/bundlewright/Texts", "isDigit", "(C)Z"⟩ : MethodName)) hown (mvT hZ (hw _ (List.mem_of_getElem? (i := 2) rfl))) (mvT hZ (hw _ (List.mem_of_getElem? (i := 3) rfl))) (mvT hZ (hw _ (List.mem_of_getElem? (i := 4) rfl))) (mvT hZ (hw _ (List.mem_of_getElem? (i := 5) rfl))) (by decide) (backOf (W := 0) (rm1 l Z a0 hw [] (48 : Int32) T6.heap n0 Z6) hZ (hw _ (List.mem_of_getElem? (i := 5) rfl)) (hw _ (List.mem_of_getElem? (i := 4) rfl)) (by decide) (by decide)) (g := (mkF m 100 #[.val (.int p1), .val (.int p2), .val (.int (own_c p1)), .val (.int (own_d p1)), .val (.int (0 : Int32)), .val (.int (own_k p2)), .val (.int (own_g p2)), .val (.int (1 : Int32)), .val (.int (own_dig (own_g p2))), .val (.int (1 : Int32)), .val (.int (1 : Int32)), .unset, .unset] [(.int (48 : Int32))])) rfl (by rw [hml]; rfl) (argsL := [(.int (48 : Int32))]) (rest := []) (lenOf pd_0_0 rfl) rfl (by show 2 * 0 + _ ≤ _; exact Nat.le_of_eq rfl) (hb hby at_100) (fun _ _ => ⟨rfl, rfl, (by decide : 0 + 0 ≤ _), (by decide : 0 + 0 ≤ _)⟩)
  dsimp only [Pt.U, Pt.locs, Pt.cells, Pt.slots] at X7 l7 y7 z7 st7 hQ7
  subst l7 y7 z7
  obtain ⟨rfl, N7q, e7⟩ := hQ7
  have Z7 : n0 ≤ T7.heap.size := by rw [e7]; exact Z6
  have N7 := Fr.app N6 N7q
  obtain ⟨_, _, ⟨T8, L8, k8, n8⟩, -, X8, ⟨Lc8, hQ8, l8, y8, z8⟩, st8⟩ := Jvm.LawKit.callS X7 hx (y := (⟨"com/example/bundlewright/bundlewright/Texts", "isDigit", "(C)Z"⟩ : MethodName)) hown (mvT hZ (hw _ (List.mem_of_getElem? (i := 2) rfl))) (mvT hZ (hw _ (List.mem_of_getElem? (i := 3) rfl))) (mvT hZ (hw _ (List.mem_of_getElem? (i := 4) rfl))) (mvT hZ (hw _ (List.mem_of_getElem? (i := 5) rfl))) (by decide) (backOf (W := 0) (rm1 l Z a0 hw [] (57 : Int32) T7.heap n0 Z7) hZ (hw _ (List.mem_of_getElem? (i := 5) rfl)) (hw _ (List.mem_of_getElem? (i := 4) rfl)) (by decide) (by decide)) (g := (mkF m 107 #[.val (.int p1), .val (.int p2), .val (.int (own_c p1)), .val (.int (own_d p1)), .val (.int (0 : Int32)), .val (.int (own_k p2)), .val (.int (own_g p2)), .val (.int (1 : Int32)), .val (.int (own_dig (own_g p2))), .val (.int (1 : Int32)), .val (.int (1 : Int32)), .val (.int (own_dig (48 : Int32))), .unset] [(.int (57 : Int32))])) rfl (by rw [hml]; rfl) (argsL := [(.int (57 : Int32))]) (rest := []) (lenOf pd_0_0 rfl) rfl (by show 2 * 0 + _ ≤ _; exact Nat.le_of_eq rfl) (hb hby at_107) (fun _ _ => ⟨rfl, rfl, (by decide : 0 + 0 ≤ _), (by decide : 0 + 0 ≤ _)⟩)
  dsimp only [Pt.U, Pt.locs, Pt.cells, Pt.slots] at X8 l8 y8 z8 st8 hQ8
  subst l8 y8 z8
  obtain ⟨rfl, N8q, e8⟩ := hQ8
  have Z8 : n0 ≤ T8.heap.size := by rw [e8]; exact Z7
  have N8 := Fr.app N7 N8q
  obtain ⟨fs, hr, hrun, hended, hW, hsame⟩ := X8.leave (v := some (.int (1 : Int32))) (fun h => by rw [Bd.returns] at h; cases h)
  refine ⟨_, _, pre0 _ ?_, hrun, hended, _, _, rfl, ?_, ⟨_, rfl⟩, hW, hsame.mono (by decide) (by decide)⟩
  · show Steps p.tables e below (s₁.setTop (mkF m 0 #[.val (.int p1), .val (.int p2), .unset, .unset, .unset, .unset, .unset, .unset, .unset, .unset, .unset, .unset, .unset] [])) _
    refine XS.iloadN X0.here hx rfl (hb hby at_0) rfl ?_
    show Steps p.tables e below (s₁.setTop (mkF m 1 #[.val (.int p1), .val (.int p2), .unset, .unset, .unset, .unset, .unset, .unset, .unset, .unset, .unset, .unset, .unset] [(.int p1)])) _
    refine X0.ldcInt hx hown (mvT hZ (hw _ (List.mem_of_getElem? (i := 0) rfl))) (g := (mkF m 1 #[.val (.int p1), .val (.int p2), .unset, .unset, .unset, .unset, .unset, .unset, .unset, .unset, .unset, .unset, .unset] [(.int p1)])) rfl (hb hby at_1) _ ?_
    show Steps p.tables e below (s₁.setTop (mkF m 3 #[.val (.int p1), .val (.int p2), .unset, .unset, .unset, .unset, .unset, .unset, .unset, .unset, .unset, .unset, .unset] [(.int (65535 : Int32)), (.int p1)])) _
    refine XS.iand X0.here hx rfl (hb hby at_3) rfl ?_
    show Steps p.tables e below (s₁.setTop (mkF m 4 #[.val (.int p1), .val (.int p2), .unset, .unset, .unset, .unset, .unset, .unset, .unset, .unset, .unset, .unset, .unset] [(.int (p1 &&& (65535 : Int32)))])) _
    refine XS.i2c X0.here hx rfl (hb hby at_4) rfl ?_
    show Steps p.tables e below (s₁.setTop (mkF m 5 #[.val (.int p1), .val (.int p2), .unset, .unset, .unset, .unset, .unset, .unset, .unset, .unset, .unset, .unset, .unset] [(.int (own_c p1))])) _
    refine XS.istoreN X0.here hx rfl (hb hby at_5) rfl (l' := #[.val (.int p1), .val (.int p2), .val (.int (own_c p1)), .unset, .unset, .unset, .unset, .unset, .unset, .unset, .unset, .unset, .unset]) rfl ?_
    show Steps p.tables e below (s₁.setTop (mkF m 6 #[.val (.int p1), .val (.int p2), .val (.int (own_c p1)), .unset, .unset, .unset, .unset, .unset, .unset, .unset, .unset, .unset, .unset] [])) _
    refine XS.iloadN X0.here hx rfl (hb hby at_6) rfl ?_
    show Steps p.tables e below (s₁.setTop (mkF m 7 #[.val (.int p1), .val (.int p2), .val (.int (own_c p1)), .unset, .unset, .unset, .unset, .unset, .unset, .unset, .unset, .unset, .unset] [(.int (own_c p1))])) _
    refine XS.bipush X0.here hx rfl (hb hby at_7) ?_
    show Steps p.tables e below (s₁.setTop (mkF m 9 #[.val (.int p1), .val (.int p2), .val (.int (own_c p1)), .unset, .unset, .unset, .unset, .unset, .unset, .unset, .unset, .unset, .unset] [(.int (48 : Int32)), (.int (own_c p1))])) _
    refine XS.isub X0.here hx rfl (hb hby at_9) rfl ?_
    show Steps p.tables e below (s₁.setTop (mkF m 10 #[.val (.int p1), .val (.int p2), .val (.int (own_c p1)), .unset, .unset, .unset, .unset, .unset, .unset, .unset, .unset, .unset, .unset] [(.int (own_d p1))])) _
    refine XS.istoreN X0.here hx rfl (hb hby at_10) rfl (l' := #[.val (.int p1), .val (.int p2), .val (.int (own_c p1)), .val (.int (own_d p1)), .unset, .unset, .unset, .unset, .unset, .unset, .unset, .unset, .unset]) rfl ?_
    show Steps p.tables e below (s₁.setTop (mkF m 11 #[.val (.int p1), .val (.int p2), .val (.int (own_c p1)), .val (.int (own_d p1)), .unset, .unset, .unset, .unset, .unset, .unset, .unset, .unset, .unset] [])) _
    refine XS.iloadN X0.here hx rfl (hb hby at_11) rfl ?_
    show Steps p.tables e below (s₁.setTop (mkF m 12 #[.val (.int p1), .val (.int p2), .val (.int (own_c p1)), .val (.int (own_d p1)), .unset, .unset, .unset, .unset, .unset, .unset, .unset, .unset, .unset] [(.int (own_d p1))])) _
    refine XS.ifNo X0.here hx rfl (hb hby at_12) rfl ((if0 _ _).trans (flt hc12).1) ?_
    show Steps p.tables e below (s₁.setTop (mkF m 15 #[.val (.int p1), .val (.int p2), .val (.int (own_c p1)), .val (.int (own_d p1)), .unset, .unset, .unset, .unset, .unset, .unset, .unset, .unset, .unset] [])) _
    refine XS.iloadN X0.here hx rfl (hb hby at_15) rfl ?_
    show Steps p.tables e below (s₁.setTop (mkF m 16 #[.val (.int p1), .val (.int p2), .val (.int (own_c p1)), .val (.int (own_d p1)), .unset, .unset, .unset, .unset, .unset, .unset, .unset, .unset, .unset] [(.int (own_d p1))])) _
    refine XS.bipush X0.here hx rfl (hb hby at_16) ?_
    show Steps p.tables e below (s₁.setTop (mkF m 18 #[.val (.int p1), .val (.int p2), .val (.int (own_c p1)), .val (.int (own_d p1)), .unset, .unset, .unset, .unset, .unset, .unset, .unset, .unset, .unset] [(.int (10 : Int32)), (.int (own_d p1))])) _
    refine XS.icmpYes X0.here hx rfl (pc0 := 18) (pc' := 25) rfl (hb hby at_18) rfl (flt hc18).2.1 (by decide) (by decide) ?_
    show Steps p.tables e below (s₁.setTop (mkF m 25 #[.val (.int p1), .val (.int p2), .val (.int (own_c p1)), .val (.int (own_d p1)), .unset, .unset, .unset, .unset, .unset, .unset, .unset, .unset, .unset] [])) _
    refine XS.iconst X0.here hx rfl (hb hby at_25) ?_
    show Steps p.tables e below (s₁.setTop (mkF m 26 #[.val (.int p1), .val (.int p2), .val (.int (own_c p1)), .val (.int (own_d p1)), .unset, .unset, .unset, .unset, .unset, .unset, .unset, .unset, .unset] [(.int (0 : Int32))])) _
    refine XS.istore X0.here hx rfl (hb hby at_26) rfl (l' := #[.val (.int p1), .val (.int p2), .val (.int (own_c p1)), .val (.int (own_d p1)), .val (.int (0 : Int32)), .unset, .unset, .unset, .unset, .unset, .unset, .unset, .unset]) rfl ?_
    show Steps p.tables e below (s₁.setTop (mkF m 28 #[.val (.int p1), .val (.int p2), .val (.int (own_c p1)), .val (.int (own_d p1)), .val (.int (0 : Int32)), .unset, .unset, .unset, .unset, .unset, .unset, .unset, .unset] [])) _
    refine XS.iloadN X0.here hx rfl (hb hby at_28) rfl ?_
    show Steps p.tables e below (s₁.setTop (mkF m 29 #[.val (.int p1), .val (.int p2), .val (.int (own_c p1)), .val (.int (own_d p1)), .val (.int (0 : Int32)), .unset, .unset, .unset, .unset, .unset, .unset, .unset, .unset] [(.int p2)])) _
    refine X0.ldcInt hx hown (mvT hZ (hw _ (List.mem_of_getElem? (i := 1) rfl))) (g := (mkF m 29 #[.val (.int p1), .val (.int p2), .val (.int (own_c p1)), .val (.int (own_d p1)), .val (.int (0 : Int32)), .unset, .unset, .unset, .unset, .unset, .unset, .unset, .unset] [(.int p2)])) rfl (hb hby at_29) _ ?_
    show Steps p.tables e below (s₁.setTop (mkF m 31 #[.val (.int p1), .val (.int p2), .val (.int (own_c p1)), .val (.int (own_d p1)), .val (.int (0 : Int32)), .unset, .unset, .unset, .unset, .unset, .unset, .unset, .unset] [(.int (2147483647 : Int32)), (.int p2)])) _
    refine XS.iand X0.here hx rfl (hb hby at_31) rfl ?_
    show Steps p.tables e below (s₁.setTop (mkF m 32 #[.val (.int p1), .val (.int p2), .val (.int (own_c p1)), .val (.int (own_d p1)), .val (.int (0 : Int32)), .unset, .unset, .unset, .unset, .unset, .unset, .unset, .unset] [(.int (p2 &&& (2147483647 : Int32)))])) _
    refine XS.bipush X0.here hx rfl (hb hby at_32) ?_
    show Steps p.tables e below (s₁.setTop (mkF m 34 #[.val (.int p1), .val (.int p2), .val (.int (own_c p1)), .val (.int (own_d p1)), .val (.int (0 : Int32)), .unset, .unset, .unset, .unset, .unset, .unset, .unset, .unset] [(.int (10 : Int32)), (.int (p2 &&& (2147483647 : Int32)))])) _
    refine iremM X0 hx rfl (hb hby at_34) rfl (by decide) ?_
    show Steps p.tables e below (s₁.setTop (mkF m 35 #[.val (.int p1), .val (.int p2), .val (.int (own_c p1)), .val (.int (own_d p1)), .val (.int (0 : Int32)), .unset, .unset, .unset, .unset, .unset, .unset, .unset, .unset] [(.int (own_k p2))])) _
    refine XS.istore X0.here hx rfl (hb hby at_35) rfl (l' := #[.val (.int p1), .val (.int p2), .val (.int (own_c p1)), .val (.int (own_d p1)), .val (.int (0 : Int32)), .val (.int (own_k p2)), .unset, .unset, .unset, .unset, .unset, .unset, .unset]) rfl ?_
    show Steps p.tables e below (s₁.setTop (mkF m 37 #[.val (.int p1), .val (.int p2), .val (.int (own_c p1)), .val (.int (own_d p1)), .val (.int (0 : Int32)), .val (.int (own_k p2)), .unset, .unset, .unset, .unset, .unset, .unset, .unset] [])) _
    refine XS.bipush X0.here hx rfl (hb hby at_37) ?_
    show Steps p.tables e below (s₁.setTop (mkF m 39 #[.val (.int p1), .val (.int p2), .val (.int (own_c p1)), .val (.int (own_d p1)), .val (.int (0 : Int32)), .val (.int (own_k p2)), .unset, .unset, .unset, .unset, .unset, .unset, .unset] [(.int (48 : Int32))])) _
    refine XS.iload X0.here hx rfl (hb hby at_39) rfl ?_
    show Steps p.tables e below (s₁.setTop (mkF m 41 #[.val (.int p1), .val (.int p2), .val (.int (own_c p1)), .val (.int (own_d p1)), .val (.int (0 : Int32)), .val (.int (own_k p2)), .unset, .unset, .unset, .unset, .unset, .unset, .unset] [(.int (own_k p2)), (.int (48 : Int32))])) _
    refine XS.iadd X0.here hx rfl (hb hby at_41) rfl ?_
    show Steps p.tables e below (s₁.setTop (mkF m 42 #[.val (.int p1), .val (.int p2), .val (.int (own_c p1)), .val (.int (own_d p1)), .val (.int (0 : Int32)), .val (.int (own_k p2)), .unset, .unset, .unset, .unset, .unset, .unset, .unset] [(.int ((48 : Int32) + (own_k p2)))])) _
    refine XS.i2c X0.here hx rfl (hb hby at_42) rfl ?_
    show Steps p.tables e below (s₁.setTop (mkF m 43 #[.val (.int p1), .val (.int p2), .val (.int (own_c p1)), .val (.int (own_d p1)), .val (.int (0 : Int32)), .val (.int (own_k p2)), .unset, .unset, .unset, .unset, .unset, .unset, .unset] [(.int (own_g p2))])) _
    refine XS.istore X0.here hx rfl (hb hby at_43) rfl (l' := #[.val (.int p1), .val (.int p2), .val (.int (own_c p1)), .val (.int (own_d p1)), .val (.int (0 : Int32)), .val (.int (own_k p2)), .val (.int (own_g p2)), .unset, .unset, .unset, .unset, .unset, .unset]) rfl ?_
    show Steps p.tables e below (s₁.setTop (mkF m 45 #[.val (.int p1), .val (.int p2), .val (.int (own_c p1)), .val (.int (own_d p1)), .val (.int (0 : Int32)), .val (.int (own_k p2)), .val (.int (own_g p2)), .unset, .unset, .unset, .unset, .unset, .unset] [])) _
    refine XS.iloadN X0.here hx rfl (hb hby at_45) rfl ?_
    show Steps p.tables e below (s₁.setTop (mkF m 46 #[.val (.int p1), .val (.int p2), .val (.int (own_c p1)), .val (.int (own_d p1)), .val (.int (0 : Int32)), .val (.int (own_k p2)), .val (.int (own_g p2)), .unset, .unset, .unset, .unset, .unset, .unset] [(.int (own_c p1))])) _
    refine st3 _ ?_
    show Steps p.tables e below (T3.setTop (mkF m 49 #[.val (.int p1), .val (.int p2), .val (.int (own_c p1)), .val (.int (own_d p1)), .val (.int (0 : Int32)), .val (.int (own_k p2)), .val (.int (own_g p2)), .unset, .unset, .unset, .unset, .unset, .unset] [(.int (own_dig (own_c p1)))])) _
    refine XS.iload X3.here hx rfl (hb hby at_49) rfl ?_
    show Steps p.tables e below (T3.setTop (mkF m 51 #[.val (.int p1), .val (.int p2), .val (.int (own_c p1)), .val (.int (own_d p1)), .val (.int (0 : Int32)), .val (.int (own_k p2)), .val (.int (own_g p2)), .unset, .unset, .unset, .unset, .unset, .unset] [(.int (0 : Int32)), (.int (own_dig (own_c p1)))])) _
    refine XS.icmpNo X3.here hx rfl (hb hby at_51) rfl (teq (own_b p1 hc18 : (own_dig (own_c p1)) = (0 : Int32))).2 ?_
    show Steps p.tables e below (T3.setTop (mkF m 54 #[.val (.int p1), .val (.int p2), .val (.int (own_c p1)), .val (.int (own_d p1)), .val (.int (0 : Int32)), .val (.int (own_k p2)), .val (.int (own_g p2)), .unset, .unset, .unset, .unset, .unset, .unset] [])) _
    refine XS.iconst X3.here hx rfl (hb hby at_54) ?_
    show Steps p.tables e below (T3.setTop (mkF m 55 #[.val (.int p1), .val (.int p2), .val (.int (own_c p1)), .val (.int (own_d p1)), .val (.int (0 : Int32)), .val (.int (own_k p2)), .val (.int (own_g p2)), .unset, .unset, .unset, .unset, .unset, .unset] [(.int (1 : Int32))])) _
    refine XS.goto X3.here hx rfl (pc0 := 55) (pc' := 59) rfl (hb hby at_55) (by decide) (by decide) ?_
    show Steps p.tables e below (T3.setTop (mkF m 59 #[.val (.int p1), .val (.int p2), .val (.int (own_c p1)), .val (.int (own_d p1)), .val (.int (0 : Int32)), .val (.int (own_k p2)), .val (.int (own_g p2)), .unset, .unset, .unset, .unset, .unset, .unset] [(.int (1 : Int32))])) _
    refine XS.istore X3.here hx rfl (hb hby at_59) rfl (l' := #[.val (.int p1), .val (.int p2), .val (.int (own_c p1)), .val (.int (own_d p1)), .val (.int (0 : Int32)), .val (.int (own_k p2)), .val (.int (own_g p2)), .val (.int (1 : Int32)), .unset, .unset, .unset, .unset, .unset]) rfl ?_
    show Steps p.tables e below (T3.setTop (mkF m 61 #[.val (.int p1), .val (.int p2), .val (.int (own_c p1)), .val (.int (own_d p1)), .val (.int (0 : Int32)), .val (.int (own_k p2)), .val (.int (own_g p2)), .val (.int (1 : Int32)), .unset, .unset, .unset, .unset, .unset] [])) _
    refine XS.iload X3.here hx rfl (hb hby at_61) rfl ?_
    show Steps p.tables e below (T3.setTop (mkF m 63 #[.val (.int p1), .val (.int p2), .val (.int (own_c p1)), .val (.int (own_d p1)), .val (.int (0 : Int32)), .val (.int (own_k p2)), .val (.int (own_g p2)), .val (.int (1 : Int32)), .unset, .unset, .unset, .unset, .unset] [(.int (own_g p2))])) _
    refine st4 _ ?_
    show Steps p.tables e below (T4.setTop (mkF m 66 #[.val (.int p1), .val (.int p2), .val (.int (own_c p1)), .val (.int (own_d p1)), .val (.int (0 : Int32)), .val (.int (own_k p2)), .val (.int (own_g p2)), .val (.int (1 : Int32)), .unset, .unset, .unset, .unset, .unset] [(.int (own_dig (own_g p2)))])) _
    refine XS.istore X4.here hx rfl (hb hby at_66) rfl (l' := #[.val (.int p1), .val (.int p2), .val (.int (own_c p1)), .val (.int (own_d p1)), .val (.int (0 : Int32)), .val (.int (own_k p2)), .val (.int (own_g p2)), .val (.int (1 : Int32)), .val (.int (own_dig (own_g p2))), .unset, .unset, .unset, .unset]) rfl ?_
    show Steps p.tables e below (T4.setTop (mkF m 68 #[.val (.int p1), .val (.int p2), .val (.int (own_c p1)), .val (.int (own_d p1)), .val (.int (0 : Int32)), .val (.int (own_k p2)), .val (.int (own_g p2)), .val (.int (1 : Int32)), .val (.int (own_dig (own_g p2))), .unset, .unset, .unset, .unset] [])) _
    refine XS.bipush X4.here hx rfl (hb hby at_68) ?_
    show Steps p.tables e below (T4.setTop (mkF m 70 #[.val (.int p1), .val (.int p2), .val (.int (own_c p1)), .val (.int (own_d p1)), .val (.int (0 : Int32)), .val (.int (own_k p2)), .val (.int (own_g p2)), .val (.int (1 : Int32)), .val (.int (own_dig (own_g p2))), .unset, .unset, .unset, .unset] [(.int (47 : Int32))])) _
    refine st5 _ ?_
    show Steps p.tables e below (T5.setTop (mkF m 73 #[.val (.int p1), .val (.int p2), .val (.int (own_c p1)), .val (.int (own_d p1)), .val (.int (0 : Int32)), .val (.int (own_k p2)), .val (.int (own_g p2)), .val (.int (1 : Int32)), .val (.int (own_dig (own_g p2))), .unset, .unset, .unset, .unset] [(.int (own_dig (47 : Int32)))])) _
    refine XS.ifNo X5.here hx rfl (hb hby at_73) rfl ((if0 _ _).trans (teq (by decide : (own_dig (47 : Int32)) = (0 : Int32))).2) ?_
    show Steps p.tables e below (T5.setTop (mkF m 76 #[.val (.int p1), .val (.int p2), .val (.int (own_c p1)), .val (.int (own_d p1)), .val (.int (0 : Int32)), .val (.int (own_k p2)), .val (.int (own_g p2)), .val (.int (1 : Int32)), .val (.int (own_dig (own_g p2))), .unset, .unset, .unset, .unset] [])) _
    refine XS.iconst X5.here hx rfl (hb hby at_76) ?_
    show Steps p.tables e below (T5.setTop (mkF m 77 #[.val (.int p1), .val (.int p2), .val (.int (own_c p1)), .val (.int (own_d p1)), .val (.int (0 : Int32)), .val (.int (own_k p2)), .val (.int (own_g p2)), .val (.int (1 : Int32)), .val (.int (own_dig (own_g p2))), .unset, .unset, .unset, .unset] [(.int (1 : Int32))])) _
    refine XS.goto X5.here hx rfl (pc0 := 77) (pc' := 81) rfl (hb hby at_77) (by decide) (by decide) ?_
    show Steps p.tables e below (T5.setTop (mkF m 81 #[.val (.int p1), .val (.int p2), .val (.int (own_c p1)), .val (.int (own_d p1)), .val (.int (0 : Int32)), .val (.int (own_k p2)), .val (.int (own_g p2)), .val (.int (1 : Int32)), .val (.int (own_dig (own_g p2))), .unset, .unset, .unset, .unset] [(.int (1 : Int32))])) _
    refine XS.istore X5.here hx rfl (hb hby at_81) rfl (l' := #[.val (.int p1), .val (.int p2), .val (.int (own_c p1)), .val (.int (own_d p1)), .val (.int (0 : Int32)), .val (.int (own_k p2)), .val (.int (own_g p2)), .val (.int (1 : Int32)), .val (.int (own_dig (own_g p2))), .val (.int (1 : Int32)), .unset, .unset, .unset]) rfl ?_
    show Steps p.tables e below (T5.setTop (mkF m 83 #[.val (.int p1), .val (.int p2), .val (.int (own_c p1)), .val (.int (own_d p1)), .val (.int (0 : Int32)), .val (.int (own_k p2)), .val (.int (own_g p2)), .val (.int (1 : Int32)), .val (.int (own_dig (own_g p2))), .val (.int (1 : Int32)), .unset, .unset, .unset] [])) _
    refine XS.bipush X5.here hx rfl (hb hby at_83) ?_
    show Steps p.tables e below (T5.setTop (mkF m 85 #[.val (.int p1), .val (.int p2), .val (.int (own_c p1)), .val (.int (own_d p1)), .val (.int (0 : Int32)), .val (.int (own_k p2)), .val (.int (own_g p2)), .val (.int (1 : Int32)), .val (.int (own_dig (own_g p2))), .val (.int (1 : Int32)), .unset, .unset, .unset] [(.int (58 : Int32))])) _
    refine st6 _ ?_
    show Steps p.tables e below (T6.setTop (mkF m 88 #[.val (.int p1), .val (.int p2), .val (.int (own_c p1)), .val (.int (own_d p1)), .val (.int (0 : Int32)), .val (.int (own_k p2)), .val (.int (own_g p2)), .val (.int (1 : Int32)), .val (.int (own_dig (own_g p2))), .val (.int (1 : Int32)), .unset, .unset, .unset] [(.int (own_dig (58 : Int32)))])) _
    refine XS.ifNo X6.here hx rfl (hb hby at_88) rfl ((if0 _ _).trans (teq (by decide : (own_dig (58 : Int32)) = (0 : Int32))).2) ?_
    show Steps p.tables e below (T6.setTop (mkF m 91 #[.val (.int p1), .val (.int p2), .val (.int (own_c p1)), .val (.int (own_d p1)), .val (.int (0 : Int32)), .val (.int (own_k p2)), .val (.int (own_g p2)), .val (.int (1 : Int32)), .val (.int (own_dig (own_g p2))), .val (.int (1 : Int32)), .unset, .unset, .unset] [])) _
    refine XS.iconst X6.here hx rfl (hb hby at_91) ?_
    show Steps p.tables e below (T6.setTop (mkF m 92 #[.val (.int p1), .val (.int p2), .val (.int (own_c p1)), .val (.int (own_d p1)), .val (.int (0 : Int32)), .val (.int (own_k p2)), .val (.int (own_g p2)), .val (.int (1 : Int32)), .val (.int (own_dig (own_g p2))), .val (.int (1 : Int32)), .unset, .unset, .unset] [(.int (1 : Int32))])) _
    refine XS.goto X6.here hx rfl (pc0 := 92) (pc' := 96) rfl (hb hby at_92) (by decide) (by decide) ?_
    show Steps p.tables e below (T6.setTop (mkF m 96 #[.val (.int p1), .val (.int p2), .val (.int (own_c p1)), .val (.int (own_d p1)), .val (.int (0 : Int32)), .val (.int (own_k p2)), .val (.int (own_g p2)), .val (.int (1 : Int32)), .val (.int (own_dig (own_g p2))), .val (.int (1 : Int32)), .unset, .unset, .unset] [(.int (1 : Int32))])) _
    refine XS.istore X6.here hx rfl (hb hby at_96) rfl (l' := #[.val (.int p1), .val (.int p2), .val (.int (own_c p1)), .val (.int (own_d p1)), .val (.int (0 : Int32)), .val (.int (own_k p2)), .val (.int (own_g p2)), .val (.int (1 : Int32)), .val (.int (own_dig (own_g p2))), .val (.int (1 : Int32)), .val (.int (1 : Int32)), .unset, .unset]) rfl ?_
    show Steps p.tables e below (T6.setTop (mkF m 98 #[.val (.int p1), .val (.int p2), .val (.int (own_c p1)), .val (.int (own_d p1)), .val (.int (0 : Int32)), .val (.int (own_k p2)), .val (.int (own_g p2)), .val (.int (1 : Int32)), .val (.int (own_dig (own_g p2))), .val (.int (1 : Int32)), .val (.int (1 : Int32)), .unset, .unset] [])) _
    refine XS.bipush X6.here hx rfl (hb hby at_98) ?_
    show Steps p.tables e below (T6.setTop (mkF m 100 #[.val (.int p1), .val (.int p2), .val (.int (own_c p1)), .val (.int (own_d p1)), .val (.int (0 : Int32)), .val (.int (own_k p2)), .val (.int (own_g p2)), .val (.int (1 : Int32)), .val (.int (own_dig (own_g p2))), .val (.int (1 : Int32)), .val (.int (1 : Int32)), .unset, .unset] [(.int (48 : Int32))])) _
    refine st7 _ ?_
    show Steps p.tables e below (T7.setTop (mkF m 103 #[.val (.int p1), .val (.int p2), .val (.int (own_c p1)), .val (.int (own_d p1)), .val (.int (0 : Int32)), .val (.int (own_k p2)), .val (.int (own_g p2)), .val (.int (1 : Int32)), .val (.int (own_dig (own_g p2))), .val (.int (1 : Int32)), .val (.int (1 : Int32)), .unset, .unset] [(.int (own_dig (48 : Int32)))])) _
    refine XS.istore X7.here hx rfl (hb hby at_103) rfl (l' := #[.val (.int p1), .val (.int p2), .val (.int (own_c p1)), .val (.int (own_d p1)), .val (.int (0 : Int32)), .val (.int (own_k p2)), .val (.int (own_g p2)), .val (.int (1 : Int32)), .val (.int (own_dig (own_g p2))), .val (.int (1 : Int32)), .val (.int (1 : Int32)), .val (.int (own_dig (48 : Int32))), .unset]) rfl ?_
    show Steps p.tables e below (T7.setTop (mkF m 105 #[.val (.int p1), .val (.int p2), .val (.int (own_c p1)), .val (.int (own_d p1)), .val (.int (0 : Int32)), .val (.int (own_k p2)), .val (.int (own_g p2)), .val (.int (1 : Int32)), .val (.int (own_dig (own_g p2))), .val (.int (1 : Int32)), .val (.int (1 : Int32)), .val (.int (own_dig (48 : Int32))), .unset] [])) _
    refine XS.bipush X7.here hx rfl (hb hby at_105) ?_
    show Steps p.tables e below (T7.setTop (mkF m 107 #[.val (.int p1), .val (.int p2), .val (.int (own_c p1)), .val (.int (own_d p1)), .val (.int (0 : Int32)), .val (.int (own_k p2)), .val (.int (own_g p2)), .val (.int (1 : Int32)), .val (.int (own_dig (own_g p2))), .val (.int (1 : Int32)), .val (.int (1 : Int32)), .val (.int (own_dig (48 : Int32))), .unset] [(.int (57 : Int32))])) _
    refine st8 _ ?_
    show Steps p.tables e below (T8.setTop (mkF m 110 #[.val (.int p1), .val (.int p2), .val (.int (own_c p1)), .val (.int (own_d p1)), .val (.int (0 : Int32)), .val (.int (own_k p2)), .val (.int (own_g p2)), .val (.int (1 : Int32)), .val (.int (own_dig (own_g p2))), .val (.int (1 : Int32)), .val (.int (1 : Int32)), .val (.int (own_dig (48 : Int32))), .unset] [(.int (own_dig (57 : Int32)))])) _
    refine XS.istore X8.here hx rfl (hb hby at_110) rfl (l' := #[.val (.int p1), .val (.int p2), .val (.int (own_c p1)), .val (.int (own_d p1)), .val (.int (0 : Int32)), .val (.int (own_k p2)), .val (.int (own_g p2)), .val (.int (1 : Int32)), .val (.int (own_dig (own_g p2))), .val (.int (1 : Int32)), .val (.int (1 : Int32)), .val (.int (own_dig (48 : Int32))), .val (.int (own_dig (57 : Int32)))]) rfl ?_
    show Steps p.tables e below (T8.setTop (mkF m 112 #[.val (.int p1), .val (.int p2), .val (.int (own_c p1)), .val (.int (own_d p1)), .val (.int (0 : Int32)), .val (.int (own_k p2)), .val (.int (own_g p2)), .val (.int (1 : Int32)), .val (.int (own_dig (own_g p2))), .val (.int (1 : Int32)), .val (.int (1 : Int32)), .val (.int (own_dig (48 : Int32))), .val (.int (own_dig (57 : Int32)))] [])) _
    refine XS.iload X8.here hx rfl (hb hby at_112) rfl ?_
    show Steps p.tables e below (T8.setTop (mkF m 114 #[.val (.int p1), .val (.int p2), .val (.int (own_c p1)), .val (.int (own_d p1)), .val (.int (0 : Int32)), .val (.int (own_k p2)), .val (.int (own_g p2)), .val (.int (1 : Int32)), .val (.int (own_dig (own_g p2))), .val (.int (1 : Int32)), .val (.int (1 : Int32)), .val (.int (own_dig (48 : Int32))), .val (.int (own_dig (57 : Int32)))] [(.int (1 : Int32))])) _
    refine XS.ifNo X8.here hx rfl (hb hby at_114) rfl ((if0 _ _).trans (feq hc114).1) ?_
    show Steps p.tables e below (T8.setTop (mkF m 117 #[.val (.int p1), .val (.int p2), .val (.int (own_c p1)), .val (.int (own_d p1)), .val (.int (0 : Int32)), .val (.int (own_k p2)), .val (.int (own_g p2)), .val (.int (1 : Int32)), .val (.int (own_dig (own_g p2))), .val (.int (1 : Int32)), .val (.int (1 : Int32)), .val (.int (own_dig (48 : Int32))), .val (.int (own_dig (57 : Int32)))] [])) _
    refine XS.iload X8.here hx rfl (hb hby at_117) rfl ?_
    show Steps p.tables e below (T8.setTop (mkF m 119 #[.val (.int p1), .val (.int p2), .val (.int (own_c p1)), .val (.int (own_d p1)), .val (.int (0 : Int32)), .val (.int (own_k p2)), .val (.int (own_g p2)), .val (.int (1 : Int32)), .val (.int (own_dig (own_g p2))), .val (.int (1 : Int32)), .val (.int (1 : Int32)), .val (.int (own_dig (48 : Int32))), .val (.int (own_dig (57 : Int32)))] [(.int (own_dig (own_g p2)))])) _
    refine XS.ifNo X8.here hx rfl (hb hby at_119) rfl ((if0 _ _).trans (feq (own_g_yes p2 : ¬ ((own_dig (own_g p2)) = (0 : Int32)))).1) ?_
    show Steps p.tables e below (T8.setTop (mkF m 122 #[.val (.int p1), .val (.int p2), .val (.int (own_c p1)), .val (.int (own_d p1)), .val (.int (0 : Int32)), .val (.int (own_k p2)), .val (.int (own_g p2)), .val (.int (1 : Int32)), .val (.int (own_dig (own_g p2))), .val (.int (1 : Int32)), .val (.int (1 : Int32)), .val (.int (own_dig (48 : Int32))), .val (.int (own_dig (57 : Int32)))] [])) _
    refine XS.iload X8.here hx rfl (hb hby at_122) rfl ?_
    show Steps p.tables e below (T8.setTop (mkF m 124 #[.val (.int p1), .val (.int p2), .val (.int (own_c p1)), .val (.int (own_d p1)), .val (.int (0 : Int32)), .val (.int (own_k p2)), .val (.int (own_g p2)), .val (.int (1 : Int32)), .val (.int (own_dig (own_g p2))), .val (.int (1 : Int32)), .val (.int (1 : Int32)), .val (.int (own_dig (48 : Int32))), .val (.int (own_dig (57 : Int32)))] [(.int (1 : Int32))])) _
    refine XS.ifNo X8.here hx rfl (hb hby at_124) rfl ((if0 _ _).trans (feq hc124).1) ?_
    show Steps p.tables e below (T8.setTop (mkF m 127 #[.val (.int p1), .val (.int p2), .val (.int (own_c p1)), .val (.int (own_d p1)), .val (.int (0 : Int32)), .val (.int (own_k p2)), .val (.int (own_g p2)), .val (.int (1 : Int32)), .val (.int (own_dig (own_g p2))), .val (.int (1 : Int32)), .val (.int (1 : Int32)), .val (.int (own_dig (48 : Int32))), .val (.int (own_dig (57 : Int32)))] [])) _
    refine XS.iload X8.here hx rfl (hb hby at_127) rfl ?_
    show Steps p.tables e below (T8.setTop (mkF m 129 #[.val (.int p1), .val (.int p2), .val (.int (own_c p1)), .val (.int (own_d p1)), .val (.int (0 : Int32)), .val (.int (own_k p2)), .val (.int (own_g p2)), .val (.int (1 : Int32)), .val (.int (own_dig (own_g p2))), .val (.int (1 : Int32)), .val (.int (1 : Int32)), .val (.int (own_dig (48 : Int32))), .val (.int (own_dig (57 : Int32)))] [(.int (1 : Int32))])) _
    refine XS.ifNo X8.here hx rfl (hb hby at_129) rfl ((if0 _ _).trans (feq hc129).1) ?_
    show Steps p.tables e below (T8.setTop (mkF m 132 #[.val (.int p1), .val (.int p2), .val (.int (own_c p1)), .val (.int (own_d p1)), .val (.int (0 : Int32)), .val (.int (own_k p2)), .val (.int (own_g p2)), .val (.int (1 : Int32)), .val (.int (own_dig (own_g p2))), .val (.int (1 : Int32)), .val (.int (1 : Int32)), .val (.int (own_dig (48 : Int32))), .val (.int (own_dig (57 : Int32)))] [])) _
    refine XS.iload X8.here hx rfl (hb hby at_132) rfl ?_
    show Steps p.tables e below (T8.setTop (mkF m 134 #[.val (.int p1), .val (.int p2), .val (.int (own_c p1)), .val (.int (own_d p1)), .val (.int (0 : Int32)), .val (.int (own_k p2)), .val (.int (own_g p2)), .val (.int (1 : Int32)), .val (.int (own_dig (own_g p2))), .val (.int (1 : Int32)), .val (.int (1 : Int32)), .val (.int (own_dig (48 : Int32))), .val (.int (own_dig (57 : Int32)))] [(.int (own_dig (48 : Int32)))])) _
    refine XS.ifNo X8.here hx rfl (hb hby at_134) rfl ((if0 _ _).trans (feq (by decide : ¬ ((own_dig (48 : Int32)) = (0 : Int32)))).1) ?_
    show Steps p.tables e below (T8.setTop (mkF m 137 #[.val (.int p1), .val (.int p2), .val (.int (own_c p1)), .val (.int (own_d p1)), .val (.int (0 : Int32)), .val (.int (own_k p2)), .val (.int (own_g p2)), .val (.int (1 : Int32)), .val (.int (own_dig (own_g p2))), .val (.int (1 : Int32)), .val (.int (1 : Int32)), .val (.int (own_dig (48 : Int32))), .val (.int (own_dig (57 : Int32)))] [])) _
    refine XS.iload X8.here hx rfl (hb hby at_137) rfl ?_
    show Steps p.tables e below (T8.setTop (mkF m 139 #[.val (.int p1), .val (.int p2), .val (.int (own_c p1)), .val (.int (own_d p1)), .val (.int (0 : Int32)), .val (.int (own_k p2)), .val (.int (own_g p2)), .val (.int (1 : Int32)), .val (.int (own_dig (own_g p2))), .val (.int (1 : Int32)), .val (.int (1 : Int32)), .val (.int (own_dig (48 : Int32))), .val (.int (own_dig (57 : Int32)))] [(.int (own_dig (57 : Int32)))])) _
    refine XS.ifNo X8.here hx rfl (hb hby at_139) rfl ((if0 _ _).trans (feq (by decide : ¬ ((own_dig (57 : Int32)) = (0 : Int32)))).1) ?_
    show Steps p.tables e below (T8.setTop (mkF m 142 #[.val (.int p1), .val (.int p2), .val (.int (own_c p1)), .val (.int (own_d p1)), .val (.int (0 : Int32)), .val (.int (own_k p2)), .val (.int (own_g p2)), .val (.int (1 : Int32)), .val (.int (own_dig (own_g p2))), .val (.int (1 : Int32)), .val (.int (1 : Int32)), .val (.int (own_dig (48 : Int32))), .val (.int (own_dig (57 : Int32)))] [])) _
    refine XS.iconst X8.here hx rfl (hb hby at_142) ?_
    show Steps p.tables e below (T8.setTop (mkF m 143 #[.val (.int p1), .val (.int p2), .val (.int (own_c p1)), .val (.int (own_d p1)), .val (.int (0 : Int32)), .val (.int (own_k p2)), .val (.int (own_g p2)), .val (.int (1 : Int32)), .val (.int (own_dig (own_g p2))), .val (.int (1 : Int32)), .val (.int (1 : Int32)), .val (.int (own_dig (48 : Int32))), .val (.int (own_dig (57 : Int32)))] [(.int (1 : Int32))])) _
    refine XS.goto X8.here hx rfl (pc0 := 143) (pc' := 147) rfl (hb hby at_143) (by decide) (by decide) ?_
    show Steps p.tables e below (T8.setTop (mkF m 147 #[.val (.int p1), .val (.int p2), .val (.int (own_c p1)), .val (.int (own_d p1)), .val (.int (0 : Int32)), .val (.int (own_k p2)), .val (.int (own_g p2)), .val (.int (1 : Int32)), .val (.int (own_dig (own_g p2))), .val (.int (1 : Int32)), .val (.int (1 : Int32)), .val (.int (own_dig (48 : Int32))), .val (.int (own_dig (57 : Int32)))] [(.int (1 : Int32))])) _
    exact retN X8 hx (t := .boolean) Bd.returns (by simp) (hb hby at_147) hr
  · show Q0 Z p1 p2 h0 n0 _ T8.heap _
    exact ⟨rfl, N8⟩
set_option maxRecDepth 65536 in
set_option maxHeartbeats 40000000 in
theorem rm0c (l : Launch) (Z : State) (a0 : Array Value) (hw : ∀ d ∈ tables_1, d.before a0 Z = true) (ws : List Jvm.Cond) (p1 : Int32) (p2 : Int32) (h0 : Heap) (n0 : Nat) (Z0 : n0 ≤ h0.size) (hc12 : ¬ ((own_d p1) < (0 : Int32))) (hc18 : (own_d p1) < (10 : Int32)) (hc114 : ¬ ((1 : Int32) = (0 : Int32))) (hc124 : ¬ ((1 : Int32) = (0 : Int32))) (hc129 : ¬ ((1 : Int32) = (0 : Int32))) :
    MetFree l x (head1 (Jvm.Cond.code x code maxLocals ret :: ws) room_1) (fun a U => a = #[(.int p1), (.int p2)] ∧ Z.Warmed39 U.vm ∧ U.heap = h0) (fun _ _ _ _ _ => True) (fun _ U o U' => ∃ v L, o = .returned v ∧ Q0 Z p1 p2 h0 n0 v U'.heap L ∧ FrameEnd U o U' L room_1.cells room_1.slots) := by
  refine MetFree.of_bodySF (plainFor_of_name pn_0) hisR ?_
  intro p e s m args below meth c s₁ Bd hml0 hP hK
  obtain ⟨rfl, hZ, hh⟩ := hP
  have hx := Bd.exec
  have hby := Bd.bytes
  have hml : c.maxLocals = 13 := hml0
  have hown : s.vm.findClass "com/example/bundlewright/bundlewright/TextsIsDigitPinLaw" = some m.cls := findClass_of_methodNamed Bd.named
  have hnm := (name_of_methodNamed Bd.named Bd.method).1
  have X0 : Stand p l e room_1 s m #[(.int p1), (.int p2)] below meth c s₁ [] 0 0 := Stand.of_body Bd
  have e0 : s₁.heap = h0 := by rw [← hh, Bd.state]; rfl
  have N0 := Fr.nil n0
  have pre0 : ∀ t, Steps p.tables e below (s₁.setTop (mkF m 0 #[.val (.int p1), .val (.int p2), .unset, .unset, .unset, .unset, .unset, .unset, .unset, .unset, .unset, .unset, .unset] [])) t → Steps p.tables e below (s₁.setTop (entryFrame m #[(.int p1), (.int p2)] maxLocals)) t := fun t k => castTop (ef_0 m p1 p2) k
  obtain ⟨_, _, ⟨T3, L3, k3, n3⟩, -, X3, ⟨Lc3, hQ3, l3, y3, z3⟩, st3⟩ := Jvm.LawKit.callS X0 hx (y := (⟨"com/example/bundlewright/bundlewright/Texts", "isDigit", "(C)Z"⟩ : MethodName)) hown (mvT hZ (hw _ (List.mem_of_getElem? (i := 2) rfl))) (mvT hZ (hw _ (List.mem_of_getElem? (i := 3) rfl))) (mvT hZ (hw _ (List.mem_of_getElem? (i := 4) rfl))) (mvT hZ (hw _ (List.mem_of_getElem? (i := 5) rfl))) (by decide) (backOf (W := 0) (rm1 l Z a0 hw [] (own_c p1) h0 n0 Z0) hZ (hw _ (List.mem_of_getElem? (i := 5) rfl)) (hw _ (List.mem_of_getElem? (i := 4) rfl)) (by decide) (by decide)) (g := (mkF m 46 #[.val (.int p1), .val (.int p2), .val (.int (own_c p1)), .val (.int (own_d p1)), .val (.int (1 : Int32)), .val (.int (own_k p2)), .val (.int (own_g p2)), .unset, .unset, .unset, .unset, .unset, .unset] [(.int (own_c p1))])) rfl (by rw [hml]; rfl) (argsL := [(.int (own_c p1))]) (rest := []) (lenOf pd_0_0 rfl) rfl (by show 2 * 0 + _ ≤ _; exact Nat.le_of_eq rfl) (hb hby at_46) (fun _ _ => ⟨rfl, e0, (by decide : 0 + 0 ≤ _), (by decide : 0 + 0 ≤ _)⟩)
  dsimp only [Pt.U, Pt.locs, Pt.cells, Pt.slots] at X3 l3 y3 z3 st3 hQ3
  subst l3 y3 z3
  obtain ⟨rfl, N3q, e3⟩ := hQ3
  have Z3 : n0 ≤ T3.heap.size := by rw [e3]; exact Z0
  have N3 := Fr.app N0 N3q
  obtain ⟨_, _, ⟨T4, L4, k4, n4⟩, -, X4, ⟨Lc4, hQ4, l4, y4, z4⟩, st4⟩ := Jvm.LawKit.callS X3 hx (y := (⟨"com/example/bundlewright/bundlewright/Texts", "isDigit", "(C)Z"⟩ : MethodName)) hown (mvT hZ (hw _ (List.mem_of_getElem? (i := 2) rfl))) (mvT hZ (hw _ (List.mem_of_getElem? (i := 3) rfl))) (mvT hZ (hw _ (List.mem_of_getElem? (i := 4) rfl))) (mvT hZ (hw _ (List.mem_of_getElem? (i := 5) rfl))) (by decide) (backOf (W := 0) (rm1 l Z a0 hw [] (own_g p2) T3.heap n0 Z3) hZ (hw _ (List.mem_of_getElem? (i := 5) rfl)) (hw _ (List.mem_of_getElem? (i := 4) rfl)) (by decide) (by decide)) (g := (mkF m 63 #[.val (.int p1), .val (.int p2), .val (.int (own_c p1)), .val (.int (own_d p1)), .val (.int (1 : Int32)), .val (.int (own_k p2)), .val (.int (own_g p2)), .val (.int (1 : Int32)), .unset, .unset, .unset, .unset, .unset] [(.int (own_g p2))])) rfl (by rw [hml]; rfl) (argsL := [(.int (own_g p2))]) (rest := []) (lenOf pd_0_0 rfl) rfl (by show 2 * 0 + _ ≤ _; exact Nat.le_of_eq rfl) (hb hby at_63) (fun _ _ => ⟨rfl, rfl, (by decide : 0 + 0 ≤ _), (by decide : 0 + 0 ≤ _)⟩)
  dsimp only [Pt.U, Pt.locs, Pt.cells, Pt.slots] at X4 l4 y4 z4 st4 hQ4
  subst l4 y4 z4
  obtain ⟨rfl, N4q, e4⟩ := hQ4
  have Z4 : n0 ≤ T4.heap.size := by rw [e4]; exact Z3
  have N4 := Fr.app N3 N4q
  obtain ⟨_, _, ⟨T5, L5, k5, n5⟩, -, X5, ⟨Lc5, hQ5, l5, y5, z5⟩, st5⟩ := Jvm.LawKit.callS X4 hx (y := (⟨"com/example/bundlewright/bundlewright/Texts", "isDigit", "(C)Z"⟩ : MethodName)) hown (mvT hZ (hw _ (List.mem_of_getElem? (i := 2) rfl))) (mvT hZ (hw _ (List.mem_of_getElem? (i := 3) rfl))) (mvT hZ (hw _ (List.mem_of_getElem? (i := 4) rfl))) (mvT hZ (hw _ (List.mem_of_getElem? (i := 5) rfl))) (by decide) (backOf (W := 0) (rm1 l Z a0 hw [] (47 : Int32) T4.heap n0 Z4) hZ (hw _ (List.mem_of_getElem? (i := 5) rfl)) (hw _ (List.mem_of_getElem? (i := 4) rfl)) (by decide) (by decide)) (g := (mkF m 70 #[.val (.int p1), .val (.int p2), .val (.int (own_c p1)), .val (.int (own_d p1)), .val (.int (1 : Int32)), .val (.int (own_k p2)), .val (.int (own_g p2)), .val (.int (1 : Int32)), .val (.int (own_dig (own_g p2))), .unset, .unset, .unset, .unset] [(.int (47 : Int32))])) rfl (by rw [hml]; rfl) (argsL := [(.int (47 : Int32))]) (rest := []) (lenOf pd_0_0 rfl) rfl (by show 2 * 0 + _ ≤ _; exact Nat.le_of_eq rfl) (hb hby at_70) (fun _ _ => ⟨rfl, rfl, (by decide : 0 + 0 ≤ _), (by decide : 0 + 0 ≤ _)⟩)
  dsimp only [Pt.U, Pt.locs, Pt.cells, Pt.slots] at X5 l5 y5 z5 st5 hQ5
  subst l5 y5 z5
  obtain ⟨rfl, N5q, e5⟩ := hQ5
  have Z5 : n0 ≤ T5.heap.size := by rw [e5]; exact Z4
  have N5 := Fr.app N4 N5q
  obtain ⟨_, _, ⟨T6, L6, k6, n6⟩, -, X6, ⟨Lc6, hQ6, l6, y6, z6⟩, st6⟩ := Jvm.LawKit.callS X5 hx (y := (⟨"com/example/bundlewright/bundlewright/Texts", "isDigit", "(C)Z"⟩ : MethodName)) hown (mvT hZ (hw _ (List.mem_of_getElem? (i := 2) rfl))) (mvT hZ (hw _ (List.mem_of_getElem? (i := 3) rfl))) (mvT hZ (hw _ (List.mem_of_getElem? (i := 4) rfl))) (mvT hZ (hw _ (List.mem_of_getElem? (i := 5) rfl))) (by decide) (backOf (W := 0) (rm1 l Z a0 hw [] (58 : Int32) T5.heap n0 Z5) hZ (hw _ (List.mem_of_getElem? (i := 5) rfl)) (hw _ (List.mem_of_getElem? (i := 4) rfl)) (by decide) (by decide)) (g := (mkF m 85 #[.val (.int p1), .val (.int p2), .val (.int (own_c p1)), .val (.int (own_d p1)), .val (.int (1 : Int32)), .val (.int (own_k p2)), .val (.int (own_g p2)), .val (.int (1 : Int32)), .val (.int (own_dig (own_g p2))), .val (.int (1 : Int32)), .unset, .unset, .unset] [(.int (58 : Int32))])) rfl (by rw [hml]; rfl) (argsL := [(.int (58 : Int32))]) (rest := []) (lenOf pd_0_0 rfl) rfl (by show 2 * 0 + _ ≤ _; exact Nat.le_of_eq rfl) (hb hby at_85) (fun _ _ => ⟨rfl, rfl, (by decide : 0 + 0 ≤ _), (by decide : 0 + 0 ≤ _)⟩)
  dsimp only [Pt.U, Pt.locs, Pt.cells, Pt.slots] at X6 l6 y6 z6 st6 hQ6
  subst l6 y6 z6
  obtain ⟨rfl, N6q, e6⟩ := hQ6
  have Z6 : n0 ≤ T6.heap.size := by rw [e6]; exact Z5
  have N6 := Fr.app N5 N6q
  obtain ⟨_, _, ⟨T7, L7, k7, n7⟩, -, X7, ⟨Lc7, hQ7, l7, y7, z7⟩, st7⟩ := Jvm.LawKit.callS X6 hx (y := (⟨"com/example/bundlewright/bundlewright/Texts", "isDigit", "(C)Z"⟩ : MethodName)) hown (mvT hZ (hw _ (List.mem_of_getElem? (i := 2) rfl))) (mvT hZ (hw _ (List.mem_of_getElem? (i := 3) rfl))) (mvT hZ (hw _ (List.mem_of_getElem? (i := 4) rfl))) (mvT hZ (hw _ (List.mem_of_getElem? (i := 5) rfl))) (by decide) (backOf (W := 0) (rm1 l Z a0 hw [] (48 : Int32) T6.heap n0 Z6) hZ (hw _ (List.mem_of_getElem? (i := 5) rfl)) (hw _ (List.mem_of_getElem? (i := 4) rfl)) (by decide) (by decide)) (g := (mkF m 100 #[.val (.int p1), .val (.int p2), .val (.int (own_c p1)), .val (.int (own_d p1)), .val (.int (1 : Int32)), .val (.int (own_k p2)), .val (.int (own_g p2)), .val (.int (1 : Int32)), .val (.int (own_dig (own_g p2))), .val (.int (1 : Int32)), .val (.int (1 : Int32)), .unset, .unset] [(.int (48 : Int32))])) rfl (by rw [hml]; rfl) (argsL := [(.int (48 : Int32))]) (rest := []) (lenOf pd_0_0 rfl) rfl (by show 2 * 0 + _ ≤ _; exact Nat.le_of_eq rfl) (hb hby at_100) (fun _ _ => ⟨rfl, rfl, (by decide : 0 + 0 ≤ _), (by decide : 0 + 0 ≤ _)⟩)
  dsimp only [Pt.U, Pt.locs, Pt.cells, Pt.slots] at X7 l7 y7 z7 st7 hQ7
  subst l7 y7 z7
  obtain ⟨rfl, N7q, e7⟩ := hQ7
  have Z7 : n0 ≤ T7.heap.size := by rw [e7]; exact Z6
  have N7 := Fr.app N6 N7q
  obtain ⟨_, _, ⟨T8, L8, k8, n8⟩, -, X8, ⟨Lc8, hQ8, l8, y8, z8⟩, st8⟩ := Jvm.LawKit.callS X7 hx (y := (⟨"com/example/bundlewright/bundlewright/Texts", "isDigit", "(C)Z"⟩ : MethodName)) hown (mvT hZ (hw _ (List.mem_of_getElem? (i := 2) rfl))) (mvT hZ (hw _ (List.mem_of_getElem? (i := 3) rfl))) (mvT hZ (hw _ (List.mem_of_getElem? (i := 4) rfl))) (mvT hZ (hw _ (List.mem_of_getElem? (i := 5) rfl))) (by decide) (backOf (W := 0) (rm1 l Z a0 hw [] (57 : Int32) T7.heap n0 Z7) hZ (hw _ (List.mem_of_getElem? (i := 5) rfl)) (hw _ (List.mem_of_getElem? (i := 4) rfl)) (by decide) (by decide)) (g := (mkF m 107 #[.val (.int p1), .val (.int p2), .val (.int (own_c p1)), .val (.int (own_d p1)), .val (.int (1 : Int32)), .val (.int (own_k p2)), .val (.int (own_g p2)), .val (.int (1 : Int32)), .val (.int (own_dig (own_g p2))), .val (.int (1 : Int32)), .val (.int (1 : Int32)), .val (.int (own_dig (48 : Int32))), .unset] [(.int (57 : Int32))])) rfl (by rw [hml]; rfl) (argsL := [(.int (57 : Int32))]) (rest := []) (lenOf pd_0_0 rfl) rfl (by show 2 * 0 + _ ≤ _; exact Nat.le_of_eq rfl) (hb hby at_107) (fun _ _ => ⟨rfl, rfl, (by decide : 0 + 0 ≤ _), (by decide : 0 + 0 ≤ _)⟩)
  dsimp only [Pt.U, Pt.locs, Pt.cells, Pt.slots] at X8 l8 y8 z8 st8 hQ8
  subst l8 y8 z8
  obtain ⟨rfl, N8q, e8⟩ := hQ8
  have Z8 : n0 ≤ T8.heap.size := by rw [e8]; exact Z7
  have N8 := Fr.app N7 N8q
  obtain ⟨fs, hr, hrun, hended, hW, hsame⟩ := X8.leave (v := some (.int (1 : Int32))) (fun h => by rw [Bd.returns] at h; cases h)
  refine ⟨_, _, pre0 _ ?_, hrun, hended, _, _, rfl, ?_, ⟨_, rfl⟩, hW, hsame.mono (by decide) (by decide)⟩
  · show Steps p.tables e below (s₁.setTop (mkF m 0 #[.val (.int p1), .val (.int p2), .unset, .unset, .unset, .unset, .unset, .unset, .unset, .unset, .unset, .unset, .unset] [])) _
    refine XS.iloadN X0.here hx rfl (hb hby at_0) rfl ?_
    show Steps p.tables e below (s₁.setTop (mkF m 1 #[.val (.int p1), .val (.int p2), .unset, .unset, .unset, .unset, .unset, .unset, .unset, .unset, .unset, .unset, .unset] [(.int p1)])) _
    refine X0.ldcInt hx hown (mvT hZ (hw _ (List.mem_of_getElem? (i := 0) rfl))) (g := (mkF m 1 #[.val (.int p1), .val (.int p2), .unset, .unset, .unset, .unset, .unset, .unset, .unset, .unset, .unset, .unset, .unset] [(.int p1)])) rfl (hb hby at_1) _ ?_
    show Steps p.tables e below (s₁.setTop (mkF m 3 #[.val (.int p1), .val (.int p2), .unset, .unset, .unset, .unset, .unset, .unset, .unset, .unset, .unset, .unset, .unset] [(.int (65535 : Int32)), (.int p1)])) _
    refine XS.iand X0.here hx rfl (hb hby at_3) rfl ?_
    show Steps p.tables e below (s₁.setTop (mkF m 4 #[.val (.int p1), .val (.int p2), .unset, .unset, .unset, .unset, .unset, .unset, .unset, .unset, .unset, .unset, .unset] [(.int (p1 &&& (65535 : Int32)))])) _
    refine XS.i2c X0.here hx rfl (hb hby at_4) rfl ?_
    show Steps p.tables e below (s₁.setTop (mkF m 5 #[.val (.int p1), .val (.int p2), .unset, .unset, .unset, .unset, .unset, .unset, .unset, .unset, .unset, .unset, .unset] [(.int (own_c p1))])) _
    refine XS.istoreN X0.here hx rfl (hb hby at_5) rfl (l' := #[.val (.int p1), .val (.int p2), .val (.int (own_c p1)), .unset, .unset, .unset, .unset, .unset, .unset, .unset, .unset, .unset, .unset]) rfl ?_
    show Steps p.tables e below (s₁.setTop (mkF m 6 #[.val (.int p1), .val (.int p2), .val (.int (own_c p1)), .unset, .unset, .unset, .unset, .unset, .unset, .unset, .unset, .unset, .unset] [])) _
    refine XS.iloadN X0.here hx rfl (hb hby at_6) rfl ?_
    show Steps p.tables e below (s₁.setTop (mkF m 7 #[.val (.int p1), .val (.int p2), .val (.int (own_c p1)), .unset, .unset, .unset, .unset, .unset, .unset, .unset, .unset, .unset, .unset] [(.int (own_c p1))])) _
    refine XS.bipush X0.here hx rfl (hb hby at_7) ?_
    show Steps p.tables e below (s₁.setTop (mkF m 9 #[.val (.int p1), .val (.int p2), .val (.int (own_c p1)), .unset, .unset, .unset, .unset, .unset, .unset, .unset, .unset, .unset, .unset] [(.int (48 : Int32)), (.int (own_c p1))])) _
    refine XS.isub X0.here hx rfl (hb hby at_9) rfl ?_
    show Steps p.tables e below (s₁.setTop (mkF m 10 #[.val (.int p1), .val (.int p2), .val (.int (own_c p1)), .unset, .unset, .unset, .unset, .unset, .unset, .unset, .unset, .unset, .unset] [(.int (own_d p1))])) _
    refine XS.istoreN X0.here hx rfl (hb hby at_10) rfl (l' := #[.val (.int p1), .val (.int p2), .val (.int (own_c p1)), .val (.int (own_d p1)), .unset, .unset, .unset, .unset, .unset, .unset, .unset, .unset, .unset]) rfl ?_
    show Steps p.tables e below (s₁.setTop (mkF m 11 #[.val (.int p1), .val (.int p2), .val (.int (own_c p1)), .val (.int (own_d p1)), .unset, .unset, .unset, .unset, .unset, .unset, .unset, .unset, .unset] [])) _
    refine XS.iloadN X0.here hx rfl (hb hby at_11) rfl ?_
    show Steps p.tables e below (s₁.setTop (mkF m 12 #[.val (.int p1), .val (.int p2), .val (.int (own_c p1)), .val (.int (own_d p1)), .unset, .unset, .unset, .unset, .unset, .unset, .unset, .unset, .unset] [(.int (own_d p1))])) _
    refine XS.ifNo X0.here hx rfl (hb hby at_12) rfl ((if0 _ _).trans (flt hc12).1) ?_
    show Steps p.tables e below (s₁.setTop (mkF m 15 #[.val (.int p1), .val (.int p2), .val (.int (own_c p1)), .val (.int (own_d p1)), .unset, .unset, .unset, .unset, .unset, .unset, .unset, .unset, .unset] [])) _
    refine XS.iloadN X0.here hx rfl (hb hby at_15) rfl ?_
    show Steps p.tables e below (s₁.setTop (mkF m 16 #[.val (.int p1), .val (.int p2), .val (.int (own_c p1)), .val (.int (own_d p1)), .unset, .unset, .unset, .unset, .unset, .unset, .unset, .unset, .unset] [(.int (own_d p1))])) _
    refine XS.bipush X0.here hx rfl (hb hby at_16) ?_
    show Steps p.tables e below (s₁.setTop (mkF m 18 #[.val (.int p1), .val (.int p2), .val (.int (own_c p1)), .val (.int (own_d p1)), .unset, .unset, .unset, .unset, .unset, .unset, .unset, .unset, .unset] [(.int (10 : Int32)), (.int (own_d p1))])) _
    refine XS.icmpNo X0.here hx rfl (hb hby at_18) rfl (tlt hc18).2.1 ?_
    show Steps p.tables e below (s₁.setTop (mkF m 21 #[.val (.int p1), .val (.int p2), .val (.int (own_c p1)), .val (.int (own_d p1)), .unset, .unset, .unset, .unset, .unset, .unset, .unset, .unset, .unset] [])) _
    refine XS.iconst X0.here hx rfl (hb hby at_21) ?_
    show Steps p.tables e below (s₁.setTop (mkF m 22 #[.val (.int p1), .val (.int p2), .val (.int (own_c p1)), .val (.int (own_d p1)), .unset, .unset, .unset, .unset, .unset, .unset, .unset, .unset, .unset] [(.int (1 : Int32))])) _
    refine XS.goto X0.here hx rfl (pc0 := 22) (pc' := 26) rfl (hb hby at_22) (by decide) (by decide) ?_
    show Steps p.tables e below (s₁.setTop (mkF m 26 #[.val (.int p1), .val (.int p2), .val (.int (own_c p1)), .val (.int (own_d p1)), .unset, .unset, .unset, .unset, .unset, .unset, .unset, .unset, .unset] [(.int (1 : Int32))])) _
    refine XS.istore X0.here hx rfl (hb hby at_26) rfl (l' := #[.val (.int p1), .val (.int p2), .val (.int (own_c p1)), .val (.int (own_d p1)), .val (.int (1 : Int32)), .unset, .unset, .unset, .unset, .unset, .unset, .unset, .unset]) rfl ?_
    show Steps p.tables e below (s₁.setTop (mkF m 28 #[.val (.int p1), .val (.int p2), .val (.int (own_c p1)), .val (.int (own_d p1)), .val (.int (1 : Int32)), .unset, .unset, .unset, .unset, .unset, .unset, .unset, .unset] [])) _
    refine XS.iloadN X0.here hx rfl (hb hby at_28) rfl ?_
    show Steps p.tables e below (s₁.setTop (mkF m 29 #[.val (.int p1), .val (.int p2), .val (.int (own_c p1)), .val (.int (own_d p1)), .val (.int (1 : Int32)), .unset, .unset, .unset, .unset, .unset, .unset, .unset, .unset] [(.int p2)])) _
    refine X0.ldcInt hx hown (mvT hZ (hw _ (List.mem_of_getElem? (i := 1) rfl))) (g := (mkF m 29 #[.val (.int p1), .val (.int p2), .val (.int (own_c p1)), .val (.int (own_d p1)), .val (.int (1 : Int32)), .unset, .unset, .unset, .unset, .unset, .unset, .unset, .unset] [(.int p2)])) rfl (hb hby at_29) _ ?_
    show Steps p.tables e below (s₁.setTop (mkF m 31 #[.val (.int p1), .val (.int p2), .val (.int (own_c p1)), .val (.int (own_d p1)), .val (.int (1 : Int32)), .unset, .unset, .unset, .unset, .unset, .unset, .unset, .unset] [(.int (2147483647 : Int32)), (.int p2)])) _
    refine XS.iand X0.here hx rfl (hb hby at_31) rfl ?_
    show Steps p.tables e below (s₁.setTop (mkF m 32 #[.val (.int p1), .val (.int p2), .val (.int (own_c p1)), .val (.int (own_d p1)), .val (.int (1 : Int32)), .unset, .unset, .unset, .unset, .unset, .unset, .unset, .unset] [(.int (p2 &&& (2147483647 : Int32)))])) _
    refine XS.bipush X0.here hx rfl (hb hby at_32) ?_
    show Steps p.tables e below (s₁.setTop (mkF m 34 #[.val (.int p1), .val (.int p2), .val (.int (own_c p1)), .val (.int (own_d p1)), .val (.int (1 : Int32)), .unset, .unset, .unset, .unset, .unset, .unset, .unset, .unset] [(.int (10 : Int32)), (.int (p2 &&& (2147483647 : Int32)))])) _
    refine iremM X0 hx rfl (hb hby at_34) rfl (by decide) ?_
    show Steps p.tables e below (s₁.setTop (mkF m 35 #[.val (.int p1), .val (.int p2), .val (.int (own_c p1)), .val (.int (own_d p1)), .val (.int (1 : Int32)), .unset, .unset, .unset, .unset, .unset, .unset, .unset, .unset] [(.int (own_k p2))])) _
    refine XS.istore X0.here hx rfl (hb hby at_35) rfl (l' := #[.val (.int p1), .val (.int p2), .val (.int (own_c p1)), .val (.int (own_d p1)), .val (.int (1 : Int32)), .val (.int (own_k p2)), .unset, .unset, .unset, .unset, .unset, .unset, .unset]) rfl ?_
    show Steps p.tables e below (s₁.setTop (mkF m 37 #[.val (.int p1), .val (.int p2), .val (.int (own_c p1)), .val (.int (own_d p1)), .val (.int (1 : Int32)), .val (.int (own_k p2)), .unset, .unset, .unset, .unset, .unset, .unset, .unset] [])) _
    refine XS.bipush X0.here hx rfl (hb hby at_37) ?_
    show Steps p.tables e below (s₁.setTop (mkF m 39 #[.val (.int p1), .val (.int p2), .val (.int (own_c p1)), .val (.int (own_d p1)), .val (.int (1 : Int32)), .val (.int (own_k p2)), .unset, .unset, .unset, .unset, .unset, .unset, .unset] [(.int (48 : Int32))])) _
    refine XS.iload X0.here hx rfl (hb hby at_39) rfl ?_
    show Steps p.tables e below (s₁.setTop (mkF m 41 #[.val (.int p1), .val (.int p2), .val (.int (own_c p1)), .val (.int (own_d p1)), .val (.int (1 : Int32)), .val (.int (own_k p2)), .unset, .unset, .unset, .unset, .unset, .unset, .unset] [(.int (own_k p2)), (.int (48 : Int32))])) _
    refine XS.iadd X0.here hx rfl (hb hby at_41) rfl ?_
    show Steps p.tables e below (s₁.setTop (mkF m 42 #[.val (.int p1), .val (.int p2), .val (.int (own_c p1)), .val (.int (own_d p1)), .val (.int (1 : Int32)), .val (.int (own_k p2)), .unset, .unset, .unset, .unset, .unset, .unset, .unset] [(.int ((48 : Int32) + (own_k p2)))])) _
    refine XS.i2c X0.here hx rfl (hb hby at_42) rfl ?_
    show Steps p.tables e below (s₁.setTop (mkF m 43 #[.val (.int p1), .val (.int p2), .val (.int (own_c p1)), .val (.int (own_d p1)), .val (.int (1 : Int32)), .val (.int (own_k p2)), .unset, .unset, .unset, .unset, .unset, .unset, .unset] [(.int (own_g p2))])) _
    refine XS.istore X0.here hx rfl (hb hby at_43) rfl (l' := #[.val (.int p1), .val (.int p2), .val (.int (own_c p1)), .val (.int (own_d p1)), .val (.int (1 : Int32)), .val (.int (own_k p2)), .val (.int (own_g p2)), .unset, .unset, .unset, .unset, .unset, .unset]) rfl ?_
    show Steps p.tables e below (s₁.setTop (mkF m 45 #[.val (.int p1), .val (.int p2), .val (.int (own_c p1)), .val (.int (own_d p1)), .val (.int (1 : Int32)), .val (.int (own_k p2)), .val (.int (own_g p2)), .unset, .unset, .unset, .unset, .unset, .unset] [])) _
    refine XS.iloadN X0.here hx rfl (hb hby at_45) rfl ?_
    show Steps p.tables e below (s₁.setTop (mkF m 46 #[.val (.int p1), .val (.int p2), .val (.int (own_c p1)), .val (.int (own_d p1)), .val (.int (1 : Int32)), .val (.int (own_k p2)), .val (.int (own_g p2)), .unset, .unset, .unset, .unset, .unset, .unset] [(.int (own_c p1))])) _
    refine st3 _ ?_
    show Steps p.tables e below (T3.setTop (mkF m 49 #[.val (.int p1), .val (.int p2), .val (.int (own_c p1)), .val (.int (own_d p1)), .val (.int (1 : Int32)), .val (.int (own_k p2)), .val (.int (own_g p2)), .unset, .unset, .unset, .unset, .unset, .unset] [(.int (own_dig (own_c p1)))])) _
    refine XS.iload X3.here hx rfl (hb hby at_49) rfl ?_
    show Steps p.tables e below (T3.setTop (mkF m 51 #[.val (.int p1), .val (.int p2), .val (.int (own_c p1)), .val (.int (own_d p1)), .val (.int (1 : Int32)), .val (.int (own_k p2)), .val (.int (own_g p2)), .unset, .unset, .unset, .unset, .unset, .unset] [(.int (1 : Int32)), (.int (own_dig (own_c p1)))])) _
    refine XS.icmpNo X3.here hx rfl (hb hby at_51) rfl (teq (own_cc p1 hc12 hc18 : (own_dig (own_c p1)) = (1 : Int32))).2 ?_
    show Steps p.tables e below (T3.setTop (mkF m 54 #[.val (.int p1), .val (.int p2), .val (.int (own_c p1)), .val (.int (own_d p1)), .val (.int (1 : Int32)), .val (.int (own_k p2)), .val (.int (own_g p2)), .unset, .unset, .unset, .unset, .unset, .unset] [])) _
    refine XS.iconst X3.here hx rfl (hb hby at_54) ?_
    show Steps p.tables e below (T3.setTop (mkF m 55 #[.val (.int p1), .val (.int p2), .val (.int (own_c p1)), .val (.int (own_d p1)), .val (.int (1 : Int32)), .val (.int (own_k p2)), .val (.int (own_g p2)), .unset, .unset, .unset, .unset, .unset, .unset] [(.int (1 : Int32))])) _
    refine XS.goto X3.here hx rfl (pc0 := 55) (pc' := 59) rfl (hb hby at_55) (by decide) (by decide) ?_
    show Steps p.tables e below (T3.setTop (mkF m 59 #[.val (.int p1), .val (.int p2), .val (.int (own_c p1)), .val (.int (own_d p1)), .val (.int (1 : Int32)), .val (.int (own_k p2)), .val (.int (own_g p2)), .unset, .unset, .unset, .unset, .unset, .unset] [(.int (1 : Int32))])) _
    refine XS.istore X3.here hx rfl (hb hby at_59) rfl (l' := #[.val (.int p1), .val (.int p2), .val (.int (own_c p1)), .val (.int (own_d p1)), .val (.int (1 : Int32)), .val (.int (own_k p2)), .val (.int (own_g p2)), .val (.int (1 : Int32)), .unset, .unset, .unset, .unset, .unset]) rfl ?_
    show Steps p.tables e below (T3.setTop (mkF m 61 #[.val (.int p1), .val (.int p2), .val (.int (own_c p1)), .val (.int (own_d p1)), .val (.int (1 : Int32)), .val (.int (own_k p2)), .val (.int (own_g p2)), .val (.int (1 : Int32)), .unset, .unset, .unset, .unset, .unset] [])) _
    refine XS.iload X3.here hx rfl (hb hby at_61) rfl ?_
    show Steps p.tables e below (T3.setTop (mkF m 63 #[.val (.int p1), .val (.int p2), .val (.int (own_c p1)), .val (.int (own_d p1)), .val (.int (1 : Int32)), .val (.int (own_k p2)), .val (.int (own_g p2)), .val (.int (1 : Int32)), .unset, .unset, .unset, .unset, .unset] [(.int (own_g p2))])) _
    refine st4 _ ?_
    show Steps p.tables e below (T4.setTop (mkF m 66 #[.val (.int p1), .val (.int p2), .val (.int (own_c p1)), .val (.int (own_d p1)), .val (.int (1 : Int32)), .val (.int (own_k p2)), .val (.int (own_g p2)), .val (.int (1 : Int32)), .unset, .unset, .unset, .unset, .unset] [(.int (own_dig (own_g p2)))])) _
    refine XS.istore X4.here hx rfl (hb hby at_66) rfl (l' := #[.val (.int p1), .val (.int p2), .val (.int (own_c p1)), .val (.int (own_d p1)), .val (.int (1 : Int32)), .val (.int (own_k p2)), .val (.int (own_g p2)), .val (.int (1 : Int32)), .val (.int (own_dig (own_g p2))), .unset, .unset, .unset, .unset]) rfl ?_
    show Steps p.tables e below (T4.setTop (mkF m 68 #[.val (.int p1), .val (.int p2), .val (.int (own_c p1)), .val (.int (own_d p1)), .val (.int (1 : Int32)), .val (.int (own_k p2)), .val (.int (own_g p2)), .val (.int (1 : Int32)), .val (.int (own_dig (own_g p2))), .unset, .unset, .unset, .unset] [])) _
    refine XS.bipush X4.here hx rfl (hb hby at_68) ?_
    show Steps p.tables e below (T4.setTop (mkF m 70 #[.val (.int p1), .val (.int p2), .val (.int (own_c p1)), .val (.int (own_d p1)), .val (.int (1 : Int32)), .val (.int (own_k p2)), .val (.int (own_g p2)), .val (.int (1 : Int32)), .val (.int (own_dig (own_g p2))), .unset, .unset, .unset, .unset] [(.int (47 : Int32))])) _
    refine st5 _ ?_
    show Steps p.tables e below (T5.setTop (mkF m 73 #[.val (.int p1), .val (.int p2), .val (.int (own_c p1)), .val (.int (own_d p1)), .val (.int (1 : Int32)), .val (.int (own_k p2)), .val (.int (own_g p2)), .val (.int (1 : Int32)), .val (.int (own_dig (own_g p2))), .unset, .unset, .unset, .unset] [(.int (own_dig (47 : Int32)))])) _
    refine XS.ifNo X5.here hx rfl (hb hby at_73) rfl ((if0 _ _).trans (teq (by decide : (own_dig (47 : Int32)) = (0 : Int32))).2) ?_
    show Steps p.tables e below (T5.setTop (mkF m 76 #[.val (.int p1), .val (.int p2), .val (.int (own_c p1)), .val (.int (own_d p1)), .val (.int (1 : Int32)), .val (.int (own_k p2)), .val (.int (own_g p2)), .val (.int (1 : Int32)), .val (.int (own_dig (own_g p2))), .unset, .unset, .unset, .unset] [])) _
    refine XS.iconst X5.here hx rfl (hb hby at_76) ?_
    show Steps p.tables e below (T5.setTop (mkF m 77 #[.val (.int p1), .val (.int p2), .val (.int (own_c p1)), .val (.int (own_d p1)), .val (.int (1 : Int32)), .val (.int (own_k p2)), .val (.int (own_g p2)), .val (.int (1 : Int32)), .val (.int (own_dig (own_g p2))), .unset, .unset, .unset, .unset] [(.int (1 : Int32))])) _
    refine XS.goto X5.here hx rfl (pc0 := 77) (pc' := 81) rfl (hb hby at_77) (by decide) (by decide) ?_
    show Steps p.tables e below (T5.setTop (mkF m 81 #[.val (.int p1), .val (.int p2), .val (.int (own_c p1)), .val (.int (own_d p1)), .val (.int (1 : Int32)), .val (.int (own_k p2)), .val (.int (own_g p2)), .val (.int (1 : Int32)), .val (.int (own_dig (own_g p2))), .unset, .unset, .unset, .unset] [(.int (1 : Int32))])) _
    refine XS.istore X5.here hx rfl (hb hby at_81) rfl (l' := #[.val (.int p1), .val (.int p2), .val (.int (own_c p1)), .val (.int (own_d p1)), .val (.int (1 : Int32)), .val (.int (own_k p2)), .val (.int (own_g p2)), .val (.int (1 : Int32)), .val (.int (own_dig (own_g p2))), .val (.int (1 : Int32)), .unset, .unset, .unset]) rfl ?_
    show Steps p.tables e below (T5.setTop (mkF m 83 #[.val (.int p1), .val (.int p2), .val (.int (own_c p1)), .val (.int (own_d p1)), .val (.int (1 : Int32)), .val (.int (own_k p2)), .val (.int (own_g p2)), .val (.int (1 : Int32)), .val (.int (own_dig (own_g p2))), .val (.int (1 : Int32)), .unset, .unset, .unset] [])) _
    refine XS.bipush X5.here hx rfl (hb hby at_83) ?_
    show Steps p.tables e below (T5.setTop (mkF m 85 #[.val (.int p1), .val (.int p2), .val (.int (own_c p1)), .val (.int (own_d p1)), .val (.int (1 : Int32)), .val (.int (own_k p2)), .val (.int (own_g p2)), .val (.int (1 : Int32)), .val (.int (own_dig (own_g p2))), .val (.int (1 : Int32)), .unset, .unset, .unset] [(.int (58 : Int32))])) _
    refine st6 _ ?_
    show Steps p.tables e below (T6.setTop (mkF m 88 #[.val (.int p1), .val (.int p2), .val (.int (own_c p1)), .val (.int (own_d p1)), .val (.int (1 : Int32)), .val (.int (own_k p2)), .val (.int (own_g p2)), .val (.int (1 : Int32)), .val (.int (own_dig (own_g p2))), .val (.int (1 : Int32)), .unset, .unset, .unset] [(.int (own_dig (58 : Int32)))])) _
    refine XS.ifNo X6.here hx rfl (hb hby at_88) rfl ((if0 _ _).trans (teq (by decide : (own_dig (58 : Int32)) = (0 : Int32))).2) ?_
    show Steps p.tables e below (T6.setTop (mkF m 91 #[.val (.int p1), .val (.int p2), .val (.int (own_c p1)), .val (.int (own_d p1)), .val (.int (1 : Int32)), .val (.int (own_k p2)), .val (.int (own_g p2)), .val (.int (1 : Int32)), .val (.int (own_dig (own_g p2))), .val (.int (1 : Int32)), .unset, .unset, .unset] [])) _
    refine XS.iconst X6.here hx rfl (hb hby at_91) ?_
    show Steps p.tables e below (T6.setTop (mkF m 92 #[.val (.int p1), .val (.int p2), .val (.int (own_c p1)), .val (.int (own_d p1)), .val (.int (1 : Int32)), .val (.int (own_k p2)), .val (.int (own_g p2)), .val (.int (1 : Int32)), .val (.int (own_dig (own_g p2))), .val (.int (1 : Int32)), .unset, .unset, .unset] [(.int (1 : Int32))])) _
    refine XS.goto X6.here hx rfl (pc0 := 92) (pc' := 96) rfl (hb hby at_92) (by decide) (by decide) ?_
    show Steps p.tables e below (T6.setTop (mkF m 96 #[.val (.int p1), .val (.int p2), .val (.int (own_c p1)), .val (.int (own_d p1)), .val (.int (1 : Int32)), .val (.int (own_k p2)), .val (.int (own_g p2)), .val (.int (1 : Int32)), .val (.int (own_dig (own_g p2))), .val (.int (1 : Int32)), .unset, .unset, .unset] [(.int (1 : Int32))])) _
    refine XS.istore X6.here hx rfl (hb hby at_96) rfl (l' := #[.val (.int p1), .val (.int p2), .val (.int (own_c p1)), .val (.int (own_d p1)), .val (.int (1 : Int32)), .val (.int (own_k p2)), .val (.int (own_g p2)), .val (.int (1 : Int32)), .val (.int (own_dig (own_g p2))), .val (.int (1 : Int32)), .val (.int (1 : Int32)), .unset, .unset]) rfl ?_
    show Steps p.tables e below (T6.setTop (mkF m 98 #[.val (.int p1), .val (.int p2), .val (.int (own_c p1)), .val (.int (own_d p1)), .val (.int (1 : Int32)), .val (.int (own_k p2)), .val (.int (own_g p2)), .val (.int (1 : Int32)), .val (.int (own_dig (own_g p2))), .val (.int (1 : Int32)), .val (.int (1 : Int32)), .unset, .unset] [])) _
    refine XS.bipush X6.here hx rfl (hb hby at_98) ?_
    show Steps p.tables e below (T6.setTop (mkF m 100 #[.val (.int p1), .val (.int p2), .val (.int (own_c p1)), .val (.int (own_d p1)), .val (.int (1 : Int32)), .val (.int (own_k p2)), .val (.int (own_g p2)), .val (.int (1 : Int32)), .val (.int (own_dig (own_g p2))), .val (.int (1 : Int32)), .val (.int (1 : Int32)), .unset, .unset] [(.int (48 : Int32))])) _
    refine st7 _ ?_
    show Steps p.tables e below (T7.setTop (mkF m 103 #[.val (.int p1), .val (.int p2), .val (.int (own_c p1)), .val (.int (own_d p1)), .val (.int (1 : Int32)), .val (.int (own_k p2)), .val (.int (own_g p2)), .val (.int (1 : Int32)), .val (.int (own_dig (own_g p2))), .val (.int (1 : Int32)), .val (.int (1 : Int32)), .unset, .unset] [(.int (own_dig (48 : Int32)))])) _
    refine XS.istore X7.here hx rfl (hb hby at_103) rfl (l' := #[.val (.int p1), .val (.int p2), .val (.int (own_c p1)), .val (.int (own_d p1)), .val (.int (1 : Int32)), .val (.int (own_k p2)), .val (.int (own_g p2)), .val (.int (1 : Int32)), .val (.int (own_dig (own_g p2))), .val (.int (1 : Int32)), .val (.int (1 : Int32)), .val (.int (own_dig (48 : Int32))), .unset]) rfl ?_
    show Steps p.tables e below (T7.setTop (mkF m 105 #[.val (.int p1), .val (.int p2), .val (.int (own_c p1)), .val (.int (own_d p1)), .val (.int (1 : Int32)), .val (.int (own_k p2)), .val (.int (own_g p2)), .val (.int (1 : Int32)), .val (.int (own_dig (own_g p2))), .val (.int (1 : Int32)), .val (.int (1 : Int32)), .val (.int (own_dig (48 : Int32))), .unset] [])) _
    refine XS.bipush X7.here hx rfl (hb hby at_105) ?_
    show Steps p.tables e below (T7.setTop (mkF m 107 #[.val (.int p1), .val (.int p2), .val (.int (own_c p1)), .val (.int (own_d p1)), .val (.int (1 : Int32)), .val (.int (own_k p2)), .val (.int (own_g p2)), .val (.int (1 : Int32)), .val (.int (own_dig (own_g p2))), .val (.int (1 : Int32)), .val (.int (1 : Int32)), .val (.int (own_dig (48 : Int32))), .unset] [(.int (57 : Int32))])) _
    refine st8 _ ?_
    show Steps p.tables e below (T8.setTop (mkF m 110 #[.val (.int p1), .val (.int p2), .val (.int (own_c p1)), .val (.int (own_d p1)), .val (.int (1 : Int32)), .val (.int (own_k p2)), .val (.int (own_g p2)), .val (.int (1 : Int32)), .val (.int (own_dig (own_g p2))), .val (.int (1 : Int32)), .val (.int (1 : Int32)), .val (.int (own_dig (48 : Int32))), .unset] [(.int (own_dig (57 : Int32)))])) _
    refine XS.istore X8.here hx rfl (hb hby at_110) rfl (l' := #[.val (.int p1), .val (.int p2), .val (.int (own_c p1)), .val (.int (own_d p1)), .val (.int (1 : Int32)), .val (.int (own_k p2)), .val (.int (own_g p2)), .val (.int (1 : Int32)), .val (.int (own_dig (own_g p2))), .val (.int (1 : Int32)), .val (.int (1 : Int32)), .val (.int (own_dig (48 : Int32))), .val (.int (own_dig (57 : Int32)))]) rfl ?_
    show Steps p.tables e below (T8.setTop (mkF m 112 #[.val (.int p1), .val (.int p2), .val (.int (own_c p1)), .val (.int (own_d p1)), .val (.int (1 : Int32)), .val (.int (own_k p2)), .val (.int (own_g p2)), .val (.int (1 : Int32)), .val (.int (own_dig (own_g p2))), .val (.int (1 : Int32)), .val (.int (1 : Int32)), .val (.int (own_dig (48 : Int32))), .val (.int (own_dig (57 : Int32)))] [])) _
    refine XS.iload X8.here hx rfl (hb hby at_112) rfl ?_
    show Steps p.tables e below (T8.setTop (mkF m 114 #[.val (.int p1), .val (.int p2), .val (.int (own_c p1)), .val (.int (own_d p1)), .val (.int (1 : Int32)), .val (.int (own_k p2)), .val (.int (own_g p2)), .val (.int (1 : Int32)), .val (.int (own_dig (own_g p2))), .val (.int (1 : Int32)), .val (.int (1 : Int32)), .val (.int (own_dig (48 : Int32))), .val (.int (own_dig (57 : Int32)))] [(.int (1 : Int32))])) _
    refine XS.ifNo X8.here hx rfl (hb hby at_114) rfl ((if0 _ _).trans (feq hc114).1) ?_
    show Steps p.tables e below (T8.setTop (mkF m 117 #[.val (.int p1), .val (.int p2), .val (.int (own_c p1)), .val (.int (own_d p1)), .val (.int (1 : Int32)), .val (.int (own_k p2)), .val (.int (own_g p2)), .val (.int (1 : Int32)), .val (.int (own_dig (own_g p2))), .val (.int (1 : Int32)), .val (.int (1 : Int32)), .val (.int (own_dig (48 : Int32))), .val (.int (own_dig (57 : Int32)))] [])) _
    refine XS.iload X8.here hx rfl (hb hby at_117) rfl ?_
    show Steps p.tables e below (T8.setTop (mkF m 119 #[.val (.int p1), .val (.int p2), .val (.int (own_c p1)), .val (.int (own_d p1)), .val (.int (1 : Int32)), .val (.int (own_k p2)), .val (.int (own_g p2)), .val (.int (1 : Int32)), .val (.int (own_dig (own_g p2))), .val (.int (1 : Int32)), .val (.int (1 : Int32)), .val (.int (own_dig (48 : Int32))), .val (.int (own_dig (57 : Int32)))] [(.int (own_dig (own_g p2)))])) _
    refine XS.ifNo X8.here hx rfl (hb hby at_119) rfl ((if0 _ _).trans (feq (own_g_yes p2 : ¬ ((own_dig (own_g p2)) = (0 : Int32)))).1) ?_
    show Steps p.tables e below (T8.setTop (mkF m 122 #[.val (.int p1), .val (.int p2), .val (.int (own_c p1)), .val (.int (own_d p1)), .val (.int (1 : Int32)), .val (.int (own_k p2)), .val (.int (own_g p2)), .val (.int (1 : Int32)), .val (.int (own_dig (own_g p2))), .val (.int (1 : Int32)), .val (.int (1 : Int32)), .val (.int (own_dig (48 : Int32))), .val (.int (own_dig (57 : Int32)))] [])) _
    refine XS.iload X8.here hx rfl (hb hby at_122) rfl ?_
    show Steps p.tables e below (T8.setTop (mkF m 124 #[.val (.int p1), .val (.int p2), .val (.int (own_c p1)), .val (.int (own_d p1)), .val (.int (1 : Int32)), .val (.int (own_k p2)), .val (.int (own_g p2)), .val (.int (1 : Int32)), .val (.int (own_dig (own_g p2))), .val (.int (1 : Int32)), .val (.int (1 : Int32)), .val (.int (own_dig (48 : Int32))), .val (.int (own_dig (57 : Int32)))] [(.int (1 : Int32))])) _
    refine XS.ifNo X8.here hx rfl (hb hby at_124) rfl ((if0 _ _).trans (feq hc124).1) ?_
    show Steps p.tables e below (T8.setTop (mkF m 127 #[.val (.int p1), .val (.int p2), .val (.int (own_c p1)), .val (.int (own_d p1)), .val (.int (1 : Int32)), .val (.int (own_k p2)), .val (.int (own_g p2)), .val (.int (1 : Int32)), .val (.int (own_dig (own_g p2))), .val (.int (1 : Int32)), .val (.int (1 : Int32)), .val (.int (own_dig (48 : Int32))), .val (.int (own_dig (57 : Int32)))] [])) _
    refine XS.iload X8.here hx rfl (hb hby at_127) rfl ?_
    show Steps p.tables e below (T8.setTop (mkF m 129 #[.val (.int p1), .val (.int p2), .val (.int (own_c p1)), .val (.int (own_d p1)), .val (.int (1 : Int32)), .val (.int (own_k p2)), .val (.int (own_g p2)), .val (.int (1 : Int32)), .val (.int (own_dig (own_g p2))), .val (.int (1 : Int32)), .val (.int (1 : Int32)), .val (.int (own_dig (48 : Int32))), .val (.int (own_dig (57 : Int32)))] [(.int (1 : Int32))])) _
    refine XS.ifNo X8.here hx rfl (hb hby at_129) rfl ((if0 _ _).trans (feq hc129).1) ?_
    show Steps p.tables e below (T8.setTop (mkF m 132 #[.val (.int p1), .val (.int p2), .val (.int (own_c p1)), .val (.int (own_d p1)), .val (.int (1 : Int32)), .val (.int (own_k p2)), .val (.int (own_g p2)), .val (.int (1 : Int32)), .val (.int (own_dig (own_g p2))), .val (.int (1 : Int32)), .val (.int (1 : Int32)), .val (.int (own_dig (48 : Int32))), .val (.int (own_dig (57 : Int32)))] [])) _
    refine XS.iload X8.here hx rfl (hb hby at_132) rfl ?_
    show Steps p.tables e below (T8.setTop (mkF m 134 #[.val (.int p1), .val (.int p2), .val (.int (own_c p1)), .val (.int (own_d p1)), .val (.int (1 : Int32)), .val (.int (own_k p2)), .val (.int (own_g p2)), .val (.int (1 : Int32)), .val (.int (own_dig (own_g p2))), .val (.int (1 : Int32)), .val (.int (1 : Int32)), .val (.int (own_dig (48 : Int32))), .val (.int (own_dig (57 : Int32)))] [(.int (own_dig (48 : Int32)))])) _
    refine XS.ifNo X8.here hx rfl (hb hby at_134) rfl ((if0 _ _).trans (feq (by decide : ¬ ((own_dig (48 : Int32)) = (0 : Int32)))).1) ?_
    show Steps p.tables e below (T8.setTop (mkF m 137 #[.val (.int p1), .val (.int p2), .val (.int (own_c p1)), .val (.int (own_d p1)), .val (.int (1 : Int32)), .val (.int (own_k p2)), .val (.int (own_g p2)), .val (.int (1 : Int32)), .val (.int (own_dig (own_g p2))), .val (.int (1 : Int32)), .val (.int (1 : Int32)), .val (.int (own_dig (48 : Int32))), .val (.int (own_dig (57 : Int32)))] [])) _
    refine XS.iload X8.here hx rfl (hb hby at_137) rfl ?_
    show Steps p.tables e below (T8.setTop (mkF m 139 #[.val (.int p1), .val (.int p2), .val (.int (own_c p1)), .val (.int (own_d p1)), .val (.int (1 : Int32)), .val (.int (own_k p2)), .val (.int (own_g p2)), .val (.int (1 : Int32)), .val (.int (own_dig (own_g p2))), .val (.int (1 : Int32)), .val (.int (1 : Int32)), .val (.int (own_dig (48 : Int32))), .val (.int (own_dig (57 : Int32)))] [(.int (own_dig (57 : Int32)))])) _
    refine XS.ifNo X8.here hx rfl (hb hby at_139) rfl ((if0 _ _).trans (feq (by decide : ¬ ((own_dig (57 : Int32)) = (0 : Int32)))).1) ?_
    show Steps p.tables e below (T8.setTop (mkF m 142 #[.val (.int p1), .val (.int p2), .val (.int (own_c p1)), .val (.int (own_d p1)), .val (.int (1 : Int32)), .val (.int (own_k p2)), .val (.int (own_g p2)), .val (.int (1 : Int32)), .val (.int (own_dig (own_g p2))), .val (.int (1 : Int32)), .val (.int (1 : Int32)), .val (.int (own_dig (48 : Int32))), .val (.int (own_dig (57 : Int32)))] [])) _
    refine XS.iconst X8.here hx rfl (hb hby at_142) ?_
    show Steps p.tables e below (T8.setTop (mkF m 143 #[.val (.int p1), .val (.int p2), .val (.int (own_c p1)), .val (.int (own_d p1)), .val (.int (1 : Int32)), .val (.int (own_k p2)), .val (.int (own_g p2)), .val (.int (1 : Int32)), .val (.int (own_dig (own_g p2))), .val (.int (1 : Int32)), .val (.int (1 : Int32)), .val (.int (own_dig (48 : Int32))), .val (.int (own_dig (57 : Int32)))] [(.int (1 : Int32))])) _
    refine XS.goto X8.here hx rfl (pc0 := 143) (pc' := 147) rfl (hb hby at_143) (by decide) (by decide) ?_
    show Steps p.tables e below (T8.setTop (mkF m 147 #[.val (.int p1), .val (.int p2), .val (.int (own_c p1)), .val (.int (own_d p1)), .val (.int (1 : Int32)), .val (.int (own_k p2)), .val (.int (own_g p2)), .val (.int (1 : Int32)), .val (.int (own_dig (own_g p2))), .val (.int (1 : Int32)), .val (.int (1 : Int32)), .val (.int (own_dig (48 : Int32))), .val (.int (own_dig (57 : Int32)))] [(.int (1 : Int32))])) _
    exact retN X8 hx (t := .boolean) Bd.returns (by simp) (hb hby at_147) hr
  · show Q0 Z p1 p2 h0 n0 _ T8.heap _
    exact ⟨rfl, N8⟩
set_option maxRecDepth 65536 in
set_option maxHeartbeats 40000000 in
theorem rm0 (l : Launch) (Z : State) (a0 : Array Value) (hw : ∀ d ∈ tables_1, d.before a0 Z = true) (ws : List Jvm.Cond) (p1 : Int32) (p2 : Int32) (h0 : Heap) (n0 : Nat) (Z0 : n0 ≤ h0.size) :
    MetFree l x (head1 (Jvm.Cond.code x code maxLocals ret :: ws) room_1) (fun a U => a = #[(.int p1), (.int p2)] ∧ Z.Warmed39 U.vm ∧ U.heap = h0) (fun _ _ _ _ _ => True) (fun _ U o U' => ∃ v L, o = .returned v ∧ Q0 Z p1 p2 h0 n0 v U'.heap L ∧ FrameEnd U o U' L room_1.cells room_1.slots) := by
  by_cases hc12 : (own_d p1) < (0 : Int32)
  · exact rm0a l Z a0 hw ws p1 p2 h0 n0 Z0 hc12 (by decide) (by decide) (by decide)
  · by_cases hc18 : (own_d p1) < (10 : Int32)
    · exact rm0c l Z a0 hw ws p1 p2 h0 n0 Z0 hc12 hc18 (by decide) (by decide) (by decide)
    · exact rm0b l Z a0 hw ws p1 p2 h0 n0 Z0 hc12 hc18 (by decide) (by decide) (by decide)
set_option maxRecDepth 65536 in
set_option maxHeartbeats 40000000 in
theorem comes_1 {Post : Tables → Env → Array Value → State → Outcome → State → Prop} (hpost : ∀ tb e args s v u, (limb_1_1.after args s (.returned v) u = true ∧ limb_1_2.after args s (.returned v) u = true ∧ True) → FrameEnd s (.returned v) u (Jvm.fieldLocs frame_1_writes args s ++ Jvm.arrayLocs frame_1_arrays args s ++ Jvm.staticLocs frame_1_statics s) 0 0 → Post tb e args s (.returned v) u) :
    ArmFor flags0 classFile x code maxLocals ret World_1 tables_1 room_1 Calls_1 rest_1 Pre_1 Post := by
  intro l hfl _ _ p e ha hc hk s m args below hf hA hF happ hP
  obtain ⟨hcalls, hrest, hpre⟩ := hP
  obtain ⟨-, -, -, hnamed, -, -, -, hat⟩ := (Spec.applies_iff hf).mp happ
  obtain ⟨hg, hn⟩ := and_e (Cond.before_iff.mp (show (Jvm.Cond.and given_1 narrow_1).before args s = true from hpre))
  obtain ⟨g9, g10⟩ := and_e hg
  obtain ⟨g11, g12⟩ := and_e g10
  obtain ⟨w0, w1, rfl⟩ : ∃ w0 w1 : Value, args = #[w0, w1] := by
    have hs : args.size = 2 := by simpa [Cond.value, given_1] using g9
    obtain ⟨L⟩ := args
    match L, hs with
    | [w0, w1], _ => exact ⟨w0, w1, rfl⟩
  have hw := fun d (hd : d ∈ tables_1) => atoms_spec (ws := Jvm.Cond.code x code maxLocals ret :: tables_1) hat d (List.mem_cons_of_mem _ hd)
  have hfit : Fit s := fun {y c} hc i hi => by
    obtain ⟨ha, rfl⟩ := Array.getElem?_eq_some_iff.mp hc
    have q := List.all_eq_true.mp ((Array.all_eq_true_iff_forall_mem.mp hF) _ (Array.getElem_mem ha)) i (List.mem_range.mpr hi)
    simpa [Array.getElem?_eq_getElem hi] using q
  obtain ⟨i0, ei0⟩ := is_v g11
  obtain rfl : w0 = (.int i0) := Option.some.inj ei0
  obtain ⟨i1, ei1⟩ := is_v g12
  obtain rfl : w1 = (.int i1) := Option.some.inj ei1
  obtain ⟨n, o, h1, h2, h3, _, L, rfl, ⟨rfl, N⟩, hq⟩ := rm0 l s _ hw tables_1 i0 i1 s.heap s.heap.size (Nat.le_refl _) p e ha hc hk s m _ below hf ((Spec.applies_iff_loose hf).mp happ).1 ⟨rfl, State.Warmed39.refl s, rfl⟩ trivial
  refine ⟨n, _, h1, h2, h3, hpost _ _ _ _ _ _ ⟨Cond.after_iff.mpr rfl, Cond.after_iff.mpr (eq_i res_at (Term.int_eval (1)) rfl), trivial⟩ ⟨hq.1, hq.2.1, (hq.2.2.sift fun y hy => Or.inr (N y hy)).mono (by decide) (by decide)⟩⟩
theorem main_1_1 : Claimed_1_1 := comes_1 fun _ _ _ _ _ _ h hF => ⟨h.1, hF⟩
theorem main_1_2 : Claimed_1_2 := comes_1 fun _ _ _ _ _ _ h hF => ⟨h.2.1, hF⟩
end Jvm.Pilot.@@N@@
namespace Jvm.Pilot.@@N@@
open Jvm Jvm.ClassFile Sem Op Lib Jvm.Free Jvm.Stand Jvm.Pilot.@@N@@.Jvm.D
/-! MADE BY PROGRAM (witnessworld.py) out of the Statement's table words and the real class files: 7 classes; the members and pool entries that the words name. The judged class is class 1, her method 1. -/
namespace start1
open Jvm.ClassFile
def u (s : String) : CpInfo := .utf8 (stringToUtf16 s)
/-- a pool by its gaps: so many unusable entries, then the entry; so many at the end -/
def gap : Nat → List CpInfo → List CpInfo
  | 0, r => r
  | n + 1, r => .unusable :: gap n r
def poolList (es : List (Nat × CpInfo)) (last : Nat) : List CpInfo := es.foldr (fun e r => gap e.1 (e.2 :: r)) (gap last [])
def pool (es : List (Nat × CpInfo)) (last : Nat) : Array CpInfo := ⟨poolList es last⟩
def fileOf (pool : Array CpInfo) (this : Nat) (attrs : Array Attribute := #[]) (ms : Array MethodInfo := #[]) (fl : Nat := 33) (sup : Nat := 0) (ifs : Array Nat := #[]) (fds : Array FieldInfo := #[]) : ClassFile where
  minorVersion := 0
  majorVersion := 65
  constantPool := pool
  accessFlags := fl
  thisClass := this
  superClass := sup
  interfaces := ifs
  fields := fds
  methods := ms
  attributes := attrs
def plain (name : String) (sup : Option ClassId) : Class where
  name := name
  kind := .ordinary
  loader := none
  accessFlags := 33
  super := sup
  interfaces := #[]
  cf := none
  fields := #[]
  methods := #[]
  instanceTypes := #[]
  staticTypes := #[]
  resolved := #[]
  callSites := []
  init := .initialized
  statics := none
  mirror := none

def pool0 : Array CpInfo := pool [(5, u "<init>"), (0, u "()V"), (1, .class_ 10), (1, u "java/lang/Object")] 113

def k0m0 : Method := { name := "<init>", desc := "()V", sig := { parameters := [], returnType := none }, accessFlags := 1, code := none }
/-- java/lang/Object -/
def k0 : Class := { plain "java/lang/Object" none with
  accessFlags := 33
  interfaces := #[]
  cf := some (fileOf pool0 8 #[] #[{ accessFlags := 1, nameIndex := 5, descriptorIndex := 6, attributes := #[] }] 33 0 #[] #[])
  fields := #[]
  methods := #[k0m0]
  instanceTypes := #[]
  staticTypes := #[]
  resolved := Array.replicate 124 none
  statics := none }

def pool1 : Array CpInfo := pool [(2, .class_ 4), (1, u "java/lang/Object"), (0, u "<init>"), (0, u "()V"), (0, .integer 65535), (0, .integer 2147483647), (0, .methodref 10 11), (0, .class_ 12), (0, .nameAndType 13 14), (0, u "com/example/bundlewright/bundlewright/Texts"), (0, u "isDigit"), (0, u "(C)Z"), (0, .class_ 16), (0, u "com/example/bundlewright/bundlewright/TextsIsDigitPinLaw"), (2, u "law"), (0, u "(II)Z")] 3

def k1m0 : Method := { name := "<init>", desc := "()V", sig := { parameters := [], returnType := none }, accessFlags := 2, code := none }
def k1c1 : Code := { maxStack := 2, maxLocals := 13, code := code, exceptionTable := #[], attributes := #[] }
def k1m1 : Method := { name := "law", desc := "(II)Z", sig := { parameters := [.int, .int], returnType := some .boolean }, accessFlags := 9, code := some k1c1 }
/-- com/example/bundlewright/bundlewright/TextsIsDigitPinLaw -/
def k1 : Class := { plain "com/example/bundlewright/bundlewright/TextsIsDigitPinLaw" (some 0) with
  accessFlags := 49
  interfaces := #[]
  cf := some (fileOf pool1 15 #[] #[{ accessFlags := 2, nameIndex := 5, descriptorIndex := 6, attributes := #[] }, { accessFlags := 9, nameIndex := 19, descriptorIndex := 20, attributes := #[] }] 49 2 #[] #[])
  fields := #[]
  methods := #[k1m0, k1m1]
  instanceTypes := #[]
  staticTypes := #[]
  resolved := Array.replicate 24 none
  statics := none }

def pool2 : Array CpInfo := pool [(2, .class_ 4), (1, u "java/lang/Object"), (0, u "<init>"), (0, u "()V"), (1, .class_ 10), (1, u "com/example/bundlewright/bundlewright/Texts"), (0, u "JSON_NUMBER"), (0, u "Ljava/util/regex/Pattern;"), (35, u "isDigit"), (0, u "(C)Z"), (37, u "INSTITUTION_IDENTIFIER_LENGTH"), (0, u "I")] 34

def k2m0 : Method := { name := "<init>", desc := "()V", sig := { parameters := [], returnType := none }, accessFlags := 2, code := none }
def k2c1 : Code := { maxStack := 2, maxLocals := 1, code := prog_22_method_5_code, exceptionTable := #[], attributes := #[] }
def k2m1 : Method := { name := "isDigit", desc := "(C)Z", sig := { parameters := [.char], returnType := some .boolean }, accessFlags := 8, code := some k2c1 }
/-- com/example/bundlewright/bundlewright/Texts -/
def k2 : Class := { plain "com/example/bundlewright/bundlewright/Texts" (some 0) with
  accessFlags := 48
  interfaces := #[]
  cf := some (fileOf pool2 8 #[] #[{ accessFlags := 2, nameIndex := 5, descriptorIndex := 6, attributes := #[] }, { accessFlags := 8, nameIndex := 48, descriptorIndex := 49, attributes := #[] }] 48 2 #[] #[{ accessFlags := 24, nameIndex := 87, descriptorIndex := 88, attributes := #[] }, { accessFlags := 26, nameIndex := 11, descriptorIndex := 12, attributes := #[] }])
  fields := #[{ name := "INSTITUTION_IDENTIFIER_LENGTH", type := .int, accessFlags := 24, slot := 0, constantValue := 0 }, { name := "JSON_NUMBER", type := (.object "java/util/regex/Pattern"), accessFlags := 26, slot := 1, constantValue := 0 }]
  methods := #[k2m0, k2m1]
  instanceTypes := #[]
  staticTypes := #[.int, (.object "java/util/regex/Pattern")]
  resolved := Array.replicate 123 none
  statics := none }

def pool3 : Array CpInfo := pool [(1, u "java/lang/Cloneable"), (0, .class_ 1), (0, u "java/lang/Object"), (0, .class_ 3)] 3

/-- java/lang/Cloneable -/
def k3 : Class := { plain "java/lang/Cloneable" (some 0) with
  accessFlags := 1537
  interfaces := #[]
  cf := some (fileOf pool3 2 #[] #[] 1537 4 #[] #[])
  fields := #[]
  methods := #[]
  instanceTypes := #[]
  staticTypes := #[]
  resolved := Array.replicate 8 none
  statics := none }

def pool4 : Array CpInfo := pool [(1, u "java/io/Serializable"), (0, .class_ 1), (0, u "java/lang/Object"), (0, .class_ 3)] 3

/-- java/io/Serializable -/
def k4 : Class := { plain "java/io/Serializable" (some 0) with
  accessFlags := 1537
  interfaces := #[]
  cf := some (fileOf pool4 2 #[] #[] 1537 4 #[] #[])
  fields := #[]
  methods := #[]
  instanceTypes := #[]
  staticTypes := #[]
  resolved := Array.replicate 8 none
  statics := none }

/-- the primitive byte -/
def k5 : Class := { plain "byte" none with kind := .primitive 'B', accessFlags := 0x411 }
/-- [B -/
def k6 : Class := { plain "[B" (some 0) with kind := .array 5 .byte, interfaces := #[3, 4], accessFlags := 1041 }

def heap : Heap := #[]
def classes : Array Class := #[k0, k1, k2, k3, k4, k5, k6]
def interned : List (Array UInt16 × Addr) := []
def slotsUsed : Nat := 0
def theMethod : MethodId := ⟨1, 1⟩
def args0 : Array Value := #[.int 77, .int 5]
def aboutOver (below : List Frame) : State where
  vm := { classes := classes, interned := interned.toArray }
  heap := heap
  slotsUsed := slotsUsed
  threads := #[{ frames := .invoking theMethod args0 :: below }]
def below0 : List Frame := [.native { method := ⟨0, 0⟩, args := #[] }]
def about1 : State := aboutOver below0
def p0 : Program := .bare "" "" ""
def e0 : Env := launch0.env 0 0 0
theorem w_frames : about1.frames = Frame.invoking theMethod args0 :: below0 := rfl
set_option maxRecDepth 65536 in
theorem w_args : argsFit about1.vm theMethod args0 = true := by decide +kernel
set_option maxRecDepth 65536 in
theorem w_heap : heapFits about1 = true := by decide +kernel
set_option maxRecDepth 65536 in
theorem w_runnable : about1.curStatus? = some .runnable := by decide +kernel
set_option maxRecDepth 65536 in
theorem w_alone : about1.alone = true := by decide +kernel
set_option maxRecDepth 65536 in
theorem w_named : about1.methodNamed? x = some theMethod := by decide +kernel
set_option maxRecDepth 65536 in
theorem w_hears : about1.hears theMethod below0 = true := by decide +kernel
set_option maxRecDepth 65536 in
theorem w_ripe : about1.ripe theMethod args0 below0 = true := by decide +kernel
theorem w_running : about1.status = .running := rfl
set_option maxRecDepth 65536 in
theorem w_room : about1.hasRoom e0.platform room_1 = true :=
  launch0.hasRoom_least _ room_1 (by decide +kernel) (by decide +kernel) (by decide +kernel) (by decide +kernel) (by decide +kernel) (by decide +kernel)
theorem allAtoms_all (ts : List Jvm.Cond) (a : Array Jvm.Value) (st : Jvm.State) : (allAtoms ts).before a st = ts.all (fun c => c.before a st) := by
  induction ts with
  | nil => rfl
  | cons c t ih =>
    show (Jvm.Cond.and c (allAtoms t)).before a st = _
    rw [Jvm.Cond.before_and, ih, List.all_cons]
def words1 : List Jvm.Cond := Jvm.Cond.code x code maxLocals ret :: tables_1
/-- a 'code' word, met by the world's own term for the bytes: nothing is compared byte by byte -/
theorem code_word {y : MethodName} {bytes : ByteArray} {mx : Nat} {rt : Option FieldType} {a : Array Value} {s : State} {m : MethodId} {meth : Method} {c : Code} (h1 : s.methodNamed? y = some m) (h2 : s.vm.method? m = some meth) (h3 : meth.code = some c) (h4 : c.code = bytes)
    (h5 : (c.maxLocals == mx && c.exceptionTable.isEmpty && decide (c.maxStack ≤ mostOperands) && decide (meth.sig.returnType = rt) && !meth.locks && decide (parseMethodDescriptor y.desc = some meth.sig)) = true) : (Jvm.Cond.code y bytes mx rt).before a s = true := by
  simp only [Bool.and_eq_true, beq_iff_eq, Bool.not_eq_true', decide_eq_true_eq] at h5
  obtain ⟨⟨⟨⟨⟨g1, g2⟩, g3⟩, g4⟩, g5⟩, g6⟩ := h5
  simp [Cond.before, Cond.holds, Cond.value, h1, h2, h3, h4, g1, g2, g3, g4, g5, g6]
def isCode : Jvm.Cond → Bool
  | .code _ _ _ _ => true
  | _ => false
theorem all_split {L : List Jvm.Cond} {P : Jvm.Cond → Bool} (h1 : L.all (fun c => isCode c || P c) = true) (h2 : ∀ c ∈ L.filter isCode, P c = true) : L.all P = true := by
  refine List.all_eq_true.mpr fun c hc => ?_
  have h := List.all_eq_true.mp h1 c hc
  rcases Bool.eq_false_or_eq_true (isCode c) with hi | hi
  · exact h2 c (List.mem_filter.mpr ⟨hc, hi⟩)
  · simpa [hi] using h
set_option maxRecDepth 65536 in
theorem w_c0 : (Jvm.Cond.code x code maxLocals ret).before args0 about1 = true := code_word (m := ⟨1, 1⟩) (meth := k1m1) (c := k1c1) (by decide +kernel) rfl rfl rfl (by decide +kernel)
set_option maxRecDepth 65536 in
theorem w_c1 : (Jvm.Cond.code ({ cls := "com/example/bundlewright/bundlewright/Texts", name := "isDigit", desc := "(C)Z" } : Jvm.MethodName) prog_22_method_5_code (1 : Nat) (Option.some Jvm.ClassFile.FieldType.boolean)).before args0 about1 = true := code_word (m := ⟨2, 1⟩) (meth := k2m1) (c := k2c1) (by decide +kernel) rfl rfl rfl (by decide +kernel)
def codes1 : List Jvm.Cond := [Jvm.Cond.code x code maxLocals ret, Jvm.Cond.code ({ cls := "com/example/bundlewright/bundlewright/Texts", name := "isDigit", desc := "(C)Z" } : Jvm.MethodName) prog_22_method_5_code (1 : Nat) (Option.some Jvm.ClassFile.FieldType.boolean)]
set_option maxRecDepth 65536 in
theorem codes_eq : words1.filter isCode = codes1 := rfl
theorem w_codes : ∀ c ∈ words1.filter isCode, c.before args0 about1 = true := by
  rw [codes_eq]
  intro c hc
  simp only [codes1, List.mem_cons, List.not_mem_nil, or_false] at hc
  rcases hc with rfl | rfl
  · exact w_c0
  · exact w_c1
set_option maxRecDepth 65536 in
theorem w_t1 : words1.all (fun c => isCode c || c.before args0 about1) = true := by decide +kernel
theorem w_tables : (allAtoms (Jvm.Cond.code x code maxLocals ret :: tables_1)).before args0 about1 = true := by
  rw [allAtoms_all]
  show words1.all (fun c => c.before args0 about1) = true
  refine all_split ?_ w_codes
  rw [w_t1]
set_option maxRecDepth 65536 in
theorem w_case : (Jvm.Cond.and given_1 narrow_1).before args0 about1 = true := by decide +kernel
theorem w_applies : (headSpec (Jvm.Cond.code x code maxLocals ret :: tables_1) room_1).applies x e0.platform about1 = true :=
  (Spec.applies_iff w_frames).mpr ⟨w_running, w_runnable, w_alone, w_named, w_hears, w_ripe, w_room, w_tables⟩
theorem atStart : AtStart classFile x code maxLocals ret World_1 tables_1 room_1 Calls_1 rest_1 Pre_1 launch0 p0 e0 about1 theMethod args0 below0 :=
  ⟨lists_1, trivial, launch0.admits_env _ _ _, launch0.least_env, fairChoices_fair.cas, fairChoices_fair.clock, w_frames, w_args, w_heap, w_applies, trivial, trivial, w_case⟩
end start1
theorem witness_1 : WitnessClaimed_1 := ⟨start1.p0, start1.e0, start1.about1, start1.theMethod, start1.args0, start1.below0, start1.atStart⟩
end Jvm.Pilot.@@N@@
