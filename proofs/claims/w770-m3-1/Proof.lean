import JvmDerived
import JvmDerived.Pilot.@@N@@Statement
import JvmDerived.Pilot.@@N@@Code
set_option linter.unusedVariables false
set_option linter.unusedSimpArgs false
@@BLOCK:NumsL.lean.txt@@
namespace Jvm.RoadKit
open Sem ClassFile Op Lib Jvm.Stand Jvm.Free Jvm.LawKit
section New
variable {p : Program} {l : Launch} {e : Env} {R : Room} {s : State} {m : MethodId} {args : Array Value} {below : List Frame} {meth : Method} {c : Code} {T : State} {locs : List Loc} {cells slots : Nat}
theorem retI (X : Stand p l e R s m args below meth c T locs cells slots) (hx : p.tables.exec = Jvm.exec) {pc : Nat} {Ls : Array Slot} {z : Int32} {rest : List Value} (hret : meth.sig.returnType = some .int) (hd : decode c.code pc = .ok (.ireturn, 1)) {fs : List Frame}
    (hl : ∀ (f : JFrame) (acts : List Action), f.method = m → f.locked = none → f.entered = [] → (doReturn e (T.setTop f) acts (some (.int z))).1 = T.setFrames fs) : Steps p.tables e below (T.setTop (mkF m pc Ls (.int z :: rest))) (T.setFrames fs) := by
  have hm' : T.vm.method? m = some meth := X.method'
  have hn : narrow .int (.int z) = .int z := rfl
  show Steps p.tables e below (T.setTop { method := m, pc := pc, locals := Ls, stack := _ :: rest, locked := none }) _
  jvm_step X.here [X.here.top, hx, hd, hm', hret, hn]
  first | (intro acts; rw [hl _ acts rfl rfl rfl]) | rw [hl _ _ rfl rfl rfl]
  exact Steps.refl _
end New
end Jvm.RoadKit
namespace Jvm.Pilot.@@N@@
open Jvm Jvm.ClassFile Sem Op Lib Jvm.Free Jvm.Stand Jvm.LawKit Jvm.RoadKit Bundle Jvm.Pilot.@@N@@.Jvm.D

def own_w (m : Int64) : Int32 := (((m + (64 : Int64)) - (1 : Int64)) / (64 : Int64)).toInt32
def own_ma (x : Int64) : Int64 := (137438952896 : Int64) - (x &&& (255 : Int64))
def own_mb (x : Int64) : Int64 := x &&& (255 : Int64)
def own_mc (x : Int64) : Int64 := (x &&& (9223372036854775807 : Int64)) - ((x &&& (9223372036854775807 : Int64)) / ((137438952896 : Int64) + (1 : Int64))) * ((137438952896 : Int64) + (1 : Int64))
def own_ok (m : Int64) : Prop := 0 ≤ m.toInt ∧ m.toInt ≤ 137438952896
theorem own_mx : ((137438952896 : Int64)).toInt = 137438952896 := by decide
theorem own_64 : ((64 : Int64)).toInt = 64 := by decide
theorem own_mb_int (x : Int64) : (own_mb x).toInt = x.toInt % 2 ^ 8 := Jvm.Kit.i64_mask x 255 (k := 8) (by decide) (by decide)
theorem own_okb (x : Int64) : own_ok (own_mb x) := by
  have h := own_mb_int x
  unfold own_ok
  omega
theorem own_oka (x : Int64) : own_ok (own_ma x) := by
  have h := own_mb_int x
  have e : (own_ma x).toInt = 137438952896 - (own_mb x).toInt := by
    show ((137438952896 : Int64) - own_mb x).toInt = _
    rw [Jvm.Kit.i64_sub (by rw [own_mx]; omega) (by rw [own_mx]; omega), own_mx]
  unfold own_ok
  omega
theorem own_okc (x : Int64) : own_ok (own_mc x) := by
  have m : (x &&& (9223372036854775807 : Int64)).toInt = x.toInt % 2 ^ 63 := Jvm.Kit.i64_mask x 9223372036854775807 (k := 63) (by decide) (by decide)
  have k : ((137438952896 : Int64) + (1 : Int64)).toInt = 137438952897 := by decide
  have r : (own_mc x).toInt = (x &&& (9223372036854775807 : Int64)).toInt % ((137438952896 : Int64) + (1 : Int64)).toInt := Jvm.Kit.i64_rem_nonneg (by omega)
  rw [k] at r
  unfold own_ok
  omega
theorem own_w_int (m : Int64) (h : own_ok m) : (own_w m).toInt = (m.toInt + 63) / 64 := by
  obtain ⟨h1, h2⟩ := h
  have a1 : (m + (64 : Int64)).toInt = m.toInt + 64 := by
    rw [Jvm.Kit.i64_add (by rw [own_64]; omega) (by rw [own_64]; omega), own_64]
  have o : ((1 : Int64)).toInt = 1 := by decide
  have a2 : ((m + (64 : Int64)) - (1 : Int64)).toInt = m.toInt + 63 := by
    rw [Jvm.Kit.i64_sub (by rw [a1, o]; omega) (by rw [a1, o]; omega), a1, o]; omega
  have a3 : (((m + (64 : Int64)) - (1 : Int64)) / (64 : Int64)).toInt = (m.toInt + 63) / 64 := by
    rw [Jvm.Kit.i64_div (by rw [own_64]; omega), a2, own_64, Int.tdiv_eq_ediv_of_nonneg (by omega)]
  show ((((m + (64 : Int64)) - (1 : Int64)) / (64 : Int64)).toInt32).toInt = _
  rw [Jvm.Kit.i32_of_i64 (by rw [a3]; omega) (by rw [a3]; omega), a3]
theorem own_cap (m : Int64) (h : own_ok m) : ((own_w m).toInt64 * (64 : Int64)).toInt = (m.toInt + 63) / 64 * 64 := by
  have w := own_w_int m h
  obtain ⟨h1, h2⟩ := h
  have a : ((own_w m).toInt64).toInt = (m.toInt + 63) / 64 := by rw [Jvm.Kit.i64_of_i32, w]
  rw [Jvm.Kit.i64_mul (by rw [a, own_64]; omega) (by rw [a, own_64]; omega), a, own_64]
theorem own_1 (m : Int64) (h : own_ok m) : ¬ own_w m < (0 : Int32) := by
  have w := own_w_int m h
  obtain ⟨h1, h2⟩ := h
  rw [Int32.lt_iff_toInt_lt, Int32.toInt_zero]; omega
theorem own_2 (m : Int64) (h : own_ok m) : ¬ (2147483639 : Int32) < own_w m := by
  have w := own_w_int m h
  obtain ⟨h1, h2⟩ := h
  rw [Int32.lt_iff_toInt_lt, show ((2147483639 : Int32)).toInt = 2147483639 from by decide]; omega
theorem own_3 (m : Int64) (h : own_ok m) : ¬ lcmpW ((own_w m).toInt64 * (64 : Int64)) m < (0 : Int32) := by
  have w := own_cap m h
  obtain ⟨h1, h2⟩ := h
  rw [lw_lt, Int64.lt_iff_toInt_lt, w]; omega
theorem own_4 (m : Int64) (h : own_ok m) : lcmpW (((own_w m).toInt64 * (64 : Int64)) - (64 : Int64)) m < (0 : Int32) := by
  have w := own_cap m h
  obtain ⟨h1, h2⟩ := h
  have a : (((own_w m).toInt64 * (64 : Int64)) - (64 : Int64)).toInt = (m.toInt + 63) / 64 * 64 - 64 := by
    rw [Jvm.Kit.i64_sub (by rw [w, own_64]; omega) (by rw [w, own_64]; omega), w, own_64]
  rw [lw_lt, Int64.lt_iff_toInt_lt, a]; omega
theorem own_5 (m : Int64) (h : own_ok m) : ¬ (0 : Int32) < lcmpW m (137438952896 : Int64) := by
  obtain ⟨h1, h2⟩ := h
  rw [lw_gt, Int64.lt_iff_toInt_lt, own_mx]; omega
theorem d1_0 : decode prog_2_method_21_code 0 = .ok (.lload_n 0, 1) := by decide +kernel
theorem d1_1 : decode prog_2_method_21_code 1 = .ok (.ldc2_w 188, 3) := by decide +kernel
theorem d1_4 : decode prog_2_method_21_code 4 = .ok (.lcmp, 1) := by decide +kernel
theorem d1_5 : decode prog_2_method_21_code 5 = .ok (.ifCond .le 17, 3) := by decide +kernel
theorem d1_22 : decode prog_2_method_21_code 22 = .ok (.lload_n 0, 1) := by decide +kernel
theorem d1_23 : decode prog_2_method_21_code 23 = .ok (.ldc2_w 191, 3) := by decide +kernel
theorem d1_26 : decode prog_2_method_21_code 26 = .ok (.ladd, 1) := by decide +kernel
theorem d1_27 : decode prog_2_method_21_code 27 = .ok (.lconst 1, 1) := by decide +kernel
theorem d1_28 : decode prog_2_method_21_code 28 = .ok (.lsub, 1) := by decide +kernel
theorem d1_29 : decode prog_2_method_21_code 29 = .ok (.ldc2_w 191, 3) := by decide +kernel
theorem d1_32 : decode prog_2_method_21_code 32 = .ok (.ldiv, 1) := by decide +kernel
theorem d1_33 : decode prog_2_method_21_code 33 = .ok (.l2i, 1) := by decide +kernel
theorem d1_34 : decode prog_2_method_21_code 34 = .ok (.ireturn, 1) := by decide +kernel
theorem pn_1 : plainName "com/example/criba/criba/BloomFilter" = true := by first | (simp [plainName, overriddenIn]; done) | decide +kernel
theorem ef_1 (m : MethodId) (x0 : Int64) : entryFrame m #[(.long x0)] 2 = mkF m 0 #[.val (.long x0), .second] [] := by first | (simp [entryFrame, mkF, argsToLocals, Value.category]; done) | rfl
theorem pn_0 : plainName "com/example/criba/criba/BloomFilterWordsForPinLaw" = true := by first | (simp [plainName, overriddenIn]; done) | decide +kernel
theorem pd_0_0 : parseMethodDescriptor "(J)I" = some ⟨[.long], some .int⟩ := by decide +kernel
theorem ef_0 (m : MethodId) (x0 : Int64) (x1 : Int32) : entryFrame m #[(.long x0), (.int x1)] maxLocals = mkF m 0 #[.val (.long x0), .second, .val (.int x1), .unset, .unset, .unset, .unset, .unset, .unset, .unset, .unset] [] := by first | (simp [entryFrame, mkF, argsToLocals, Value.category, maxLocals]; done) | rfl
def Q1 (Z : State) (q1 : Int64) (h0 : Heap) (n0 : Nat) (v : Option Value) (h : Heap) (L : List Loc) : Prop := v = some (.int (own_w q1)) ∧ Fr n0 L ∧ h = h0
set_option maxRecDepth 65536 in
set_option maxHeartbeats 40000000 in
theorem rm1 (l : Launch) (Z : State) (a0 : Array Value) (hw : ∀ d ∈ tables_1, d.before a0 Z = true) (ws : List Jvm.Cond) (q1 : Int64) (h0 : Heap) (n0 : Nat) (Z0 : n0 ≤ h0.size) (hc5 : ¬ ((0 : Int32) < (lcmpW q1 (137438952896 : Int64)))) (hnz32 : ¬ ((64 : Int64) = (0 : Int64))) :
    MetFree l (⟨"com/example/criba/criba/BloomFilter", "wordsFor", "(J)I"⟩ : MethodName) (head1 (Jvm.Cond.code (⟨"com/example/criba/criba/BloomFilter", "wordsFor", "(J)I"⟩ : MethodName) prog_2_method_21_code 2 (some .int) :: ws) ({ frames := 0, cells := 0, slots := 0, locals := 0 } : Room)) (fun a U => a = #[(.long q1)] ∧ Z.Warmed39 U.vm ∧ U.heap = h0) (fun _ _ _ _ _ => True) (fun _ U o U' => ∃ v L, o = .returned v ∧ Q1 Z q1 h0 n0 v U'.heap L ∧ FrameEnd U o U' L ({ frames := 0, cells := 0, slots := 0, locals := 0 } : Room).cells ({ frames := 0, cells := 0, slots := 0, locals := 0 } : Room).slots) := by
  refine MetFree.of_bodySF (plainFor_of_name pn_1) hisR ?_
  intro p e s m args below meth c s₁ Bd hml0 hP hK
  obtain ⟨rfl, hZ, hh⟩ := hP
  have hx := Bd.exec
  have hby := Bd.bytes
  have hml : c.maxLocals = 2 := hml0
  have hown : s.vm.findClass "com/example/criba/criba/BloomFilter" = some m.cls := findClass_of_methodNamed Bd.named
  have hnm := (name_of_methodNamed Bd.named Bd.method).1
  have X0 : Stand p l e ({ frames := 0, cells := 0, slots := 0, locals := 0 } : Room) s m #[(.long q1)] below meth c s₁ [] 0 0 := Stand.of_body Bd
  have e0 : s₁.heap = h0 := by rw [← hh, Bd.state]; rfl
  have N0 := Fr.nil n0
  have pre0 : ∀ t, Steps p.tables e below (s₁.setTop (mkF m 0 #[.val (.long q1), .second] [])) t → Steps p.tables e below (s₁.setTop (entryFrame m #[(.long q1)] 2)) t := fun t k => castTop (ef_1 m q1) k
  obtain ⟨fs, hr, hrun, hended, hW, hsame⟩ := X0.leave (v := some (.int ((((q1 + (64 : Int64)) - (1 : Int64)) / (64 : Int64)).toInt32))) (fun h => by rw [Bd.returns] at h; cases h)
  refine ⟨_, _, pre0 _ ?_, hrun, hended, _, _, rfl, ?_, ⟨_, rfl⟩, hW, hsame.mono (by decide) (by decide)⟩
  · show Steps p.tables e below (s₁.setTop (mkF m 0 #[.val (.long q1), .second] [])) _
    refine XS.lloadN X0.here hx rfl (hb hby d1_0) rfl ?_
    show Steps p.tables e below (s₁.setTop (mkF m 1 #[.val (.long q1), .second] [(.long q1)])) _
    refine X0.ldc2Long hx hown (mvT hZ (hw _ (List.mem_of_getElem? (i := 6) rfl))) (g := (mkF m 1 #[.val (.long q1), .second] [(.long q1)])) rfl (hb hby d1_1) _ ?_
    show Steps p.tables e below (s₁.setTop (mkF m 4 #[.val (.long q1), .second] [(.long (137438952896 : Int64)), (.long q1)])) _
    refine XS.lcmp X0.here hx rfl (hb hby d1_4) rfl ?_
    show Steps p.tables e below (s₁.setTop (mkF m 5 #[.val (.long q1), .second] [(.int (lcmpW q1 (137438952896 : Int64)))])) _
    refine XS.ifYes X0.here hx rfl (pc0 := 5) (pc' := 22) rfl (hb hby d1_5) rfl ((if0 _ _).trans (flt hc5).2.2.2) (by decide) (by decide) ?_
    show Steps p.tables e below (s₁.setTop (mkF m 22 #[.val (.long q1), .second] [])) _
    refine XS.lloadN X0.here hx rfl (hb hby d1_22) rfl ?_
    show Steps p.tables e below (s₁.setTop (mkF m 23 #[.val (.long q1), .second] [(.long q1)])) _
    refine X0.ldc2Long hx hown (mvT hZ (hw _ (List.mem_of_getElem? (i := 7) rfl))) (g := (mkF m 23 #[.val (.long q1), .second] [(.long q1)])) rfl (hb hby d1_23) _ ?_
    show Steps p.tables e below (s₁.setTop (mkF m 26 #[.val (.long q1), .second] [(.long (64 : Int64)), (.long q1)])) _
    refine XS.ladd X0.here hx rfl (hb hby d1_26) rfl ?_
    show Steps p.tables e below (s₁.setTop (mkF m 27 #[.val (.long q1), .second] [(.long (q1 + (64 : Int64)))])) _
    refine XS.lconst X0.here hx rfl (hb hby d1_27) ?_
    show Steps p.tables e below (s₁.setTop (mkF m 28 #[.val (.long q1), .second] [(.long (1 : Int64)), (.long (q1 + (64 : Int64)))])) _
    refine XS.lsub X0.here hx rfl (hb hby d1_28) rfl ?_
    show Steps p.tables e below (s₁.setTop (mkF m 29 #[.val (.long q1), .second] [(.long ((q1 + (64 : Int64)) - (1 : Int64)))])) _
    refine X0.ldc2Long hx hown (mvT hZ (hw _ (List.mem_of_getElem? (i := 7) rfl))) (g := (mkF m 29 #[.val (.long q1), .second] [(.long ((q1 + (64 : Int64)) - (1 : Int64)))])) rfl (hb hby d1_29) _ ?_
    show Steps p.tables e below (s₁.setTop (mkF m 32 #[.val (.long q1), .second] [(.long (64 : Int64)), (.long ((q1 + (64 : Int64)) - (1 : Int64)))])) _
    refine XS.ldiv X0.here hx rfl (hb hby d1_32) rfl hnz32 ?_
    show Steps p.tables e below (s₁.setTop (mkF m 33 #[.val (.long q1), .second] [(.long (((q1 + (64 : Int64)) - (1 : Int64)) / (64 : Int64)))])) _
    refine XS.l2i X0.here hx rfl (hb hby d1_33) rfl ?_
    show Steps p.tables e below (s₁.setTop (mkF m 34 #[.val (.long q1), .second] [(.int ((((q1 + (64 : Int64)) - (1 : Int64)) / (64 : Int64)).toInt32))])) _
    exact retI X0 hx Bd.returns (hb hby d1_34) hr
  · show Q1 Z q1 h0 n0 _ s₁.heap _
    rw [e0]
    exact ⟨rfl, N0, rfl⟩
def Q0 (Z : State) (q1 : Int64) (p2 : Int32) (h0 : Heap) (n0 : Nat) (v : Option Value) (h : Heap) (L : List Loc) : Prop := v = some (.int (1 : Int32)) ∧ Fr n0 L
set_option maxRecDepth 65536 in
set_option maxHeartbeats 40000000 in
theorem rm0a (l : Launch) (Z : State) (a0 : Array Value) (hw : ∀ d ∈ tables_1, d.before a0 Z = true) (ws : List Jvm.Cond) (q1 : Int64) (p2 : Int32) (h0 : Heap) (n0 : Nat) (Z0 : n0 ≤ h0.size) (hc11 : (p2 &&& (3 : Int32)) = (0 : Int32)) :
    MetFree l x (head1 (Jvm.Cond.code x code maxLocals ret :: ws) room_1) (fun a U => a = #[(.long q1), (.int p2)] ∧ Z.Warmed39 U.vm ∧ U.heap = h0) (fun _ _ _ _ _ => True) (fun _ U o U' => ∃ v L, o = .returned v ∧ Q0 Z q1 p2 h0 n0 v U'.heap L ∧ FrameEnd U o U' L room_1.cells room_1.slots) := by
  refine MetFree.of_bodySF (plainFor_of_name pn_0) hisR ?_
  intro p e s m args below meth c s₁ Bd hml0 hP hK
  obtain ⟨rfl, hZ, hh⟩ := hP
  have hx := Bd.exec
  have hby := Bd.bytes
  have hml : c.maxLocals = 11 := hml0
  have hown : s.vm.findClass "com/example/criba/criba/BloomFilterWordsForPinLaw" = some m.cls := findClass_of_methodNamed Bd.named
  have hnm := (name_of_methodNamed Bd.named Bd.method).1
  have X0 : Stand p l e room_1 s m #[(.long q1), (.int p2)] below meth c s₁ [] 0 0 := Stand.of_body Bd
  have e0 : s₁.heap = h0 := by rw [← hh, Bd.state]; rfl
  have N0 := Fr.nil n0
  have pre0 : ∀ t, Steps p.tables e below (s₁.setTop (mkF m 0 #[.val (.long q1), .second, .val (.int p2), .unset, .unset, .unset, .unset, .unset, .unset, .unset, .unset] [])) t → Steps p.tables e below (s₁.setTop (entryFrame m #[(.long q1), (.int p2)] maxLocals)) t := fun t k => castTop (ef_0 m q1 p2) k
  obtain ⟨_, _, ⟨T3, L3, k3, n3⟩, -, X3, ⟨Lc3, hQ3, l3, y3, z3⟩, st3⟩ := Jvm.LawKit.callS X0 hx (y := (⟨"com/example/criba/criba/BloomFilter", "wordsFor", "(J)I"⟩ : MethodName)) hown (mvT hZ (hw _ (List.mem_of_getElem? (i := 2) rfl))) (mvT hZ (hw _ (List.mem_of_getElem? (i := 3) rfl))) (mvT hZ (hw _ (List.mem_of_getElem? (i := 4) rfl))) (mvT hZ (hw _ (List.mem_of_getElem? (i := 5) rfl))) (by decide) (backOf (W := 0) (rm1 l Z a0 hw [] (own_ma q1) h0 n0 Z0 (own_5 _ (own_oka q1)) (by decide)) hZ (hw _ (List.mem_of_getElem? (i := 5) rfl)) (hw _ (List.mem_of_getElem? (i := 4) rfl)) (by decide) (by decide)) (g := (mkF m 55 #[.val (.long q1), .second, .val (.int p2), .val (.long (137438952896 : Int64)), .second, .val (.int (p2 &&& (3 : Int32))), .val (.long (own_ma q1)), .second, .unset, .unset, .unset] [(.long (own_ma q1))])) rfl (by rw [hml]; rfl) (argsL := [(.long (own_ma q1))]) (rest := []) (lenOf pd_0_0 rfl) rfl (by show 2 * 0 + _ ≤ _; exact Nat.le_of_eq rfl) (hb hby at_55) (fun _ _ => ⟨rfl, e0, (by decide : 0 + 0 ≤ _), (by decide : 0 + 0 ≤ _)⟩)
  dsimp only [Pt.U, Pt.locs, Pt.cells, Pt.slots] at X3 l3 y3 z3 st3 hQ3
  subst l3 y3 z3
  obtain ⟨rfl, N3q, e3⟩ := hQ3
  have Z3 : n0 ≤ T3.heap.size := by rw [e3]; exact Z0
  have N3 := Fr.app N0 N3q
  obtain ⟨fs, hr, hrun, hended, hW, hsame⟩ := X3.leave (v := some (.int (1 : Int32))) (fun h => by rw [Bd.returns] at h; cases h)
  refine ⟨_, _, pre0 _ ?_, hrun, hended, _, _, rfl, ?_, ⟨_, rfl⟩, hW, hsame.mono (by decide) (by decide)⟩
  · show Steps p.tables e below (s₁.setTop (mkF m 0 #[.val (.long q1), .second, .val (.int p2), .unset, .unset, .unset, .unset, .unset, .unset, .unset, .unset] [])) _
    refine X0.ldc2Long hx hown (mvT hZ (hw _ (List.mem_of_getElem? (i := 0) rfl))) (g := (mkF m 0 #[.val (.long q1), .second, .val (.int p2), .unset, .unset, .unset, .unset, .unset, .unset, .unset, .unset] [])) rfl (hb hby at_0) _ ?_
    show Steps p.tables e below (s₁.setTop (mkF m 3 #[.val (.long q1), .second, .val (.int p2), .unset, .unset, .unset, .unset, .unset, .unset, .unset, .unset] [(.long (137438952896 : Int64))])) _
    refine XS.lstoreN X0.here hx rfl (hb hby at_3) rfl (l' := #[.val (.long q1), .second, .val (.int p2), .val (.long (137438952896 : Int64)), .second, .unset, .unset, .unset, .unset, .unset, .unset]) rfl ?_
    show Steps p.tables e below (s₁.setTop (mkF m 4 #[.val (.long q1), .second, .val (.int p2), .val (.long (137438952896 : Int64)), .second, .unset, .unset, .unset, .unset, .unset, .unset] [])) _
    refine XS.iloadN X0.here hx rfl (hb hby at_4) rfl ?_
    show Steps p.tables e below (s₁.setTop (mkF m 5 #[.val (.long q1), .second, .val (.int p2), .val (.long (137438952896 : Int64)), .second, .unset, .unset, .unset, .unset, .unset, .unset] [(.int p2)])) _
    refine XS.iconst X0.here hx rfl (hb hby at_5) ?_
    show Steps p.tables e below (s₁.setTop (mkF m 6 #[.val (.long q1), .second, .val (.int p2), .val (.long (137438952896 : Int64)), .second, .unset, .unset, .unset, .unset, .unset, .unset] [(.int (3 : Int32)), (.int p2)])) _
    refine XS.iand X0.here hx rfl (hb hby at_6) rfl ?_
    show Steps p.tables e below (s₁.setTop (mkF m 7 #[.val (.long q1), .second, .val (.int p2), .val (.long (137438952896 : Int64)), .second, .unset, .unset, .unset, .unset, .unset, .unset] [(.int (p2 &&& (3 : Int32)))])) _
    refine XS.istore X0.here hx rfl (hb hby at_7) rfl (l' := #[.val (.long q1), .second, .val (.int p2), .val (.long (137438952896 : Int64)), .second, .val (.int (p2 &&& (3 : Int32))), .unset, .unset, .unset, .unset, .unset]) rfl ?_
    show Steps p.tables e below (s₁.setTop (mkF m 9 #[.val (.long q1), .second, .val (.int p2), .val (.long (137438952896 : Int64)), .second, .val (.int (p2 &&& (3 : Int32))), .unset, .unset, .unset, .unset, .unset] [])) _
    refine XS.iload X0.here hx rfl (hb hby at_9) rfl ?_
    show Steps p.tables e below (s₁.setTop (mkF m 11 #[.val (.long q1), .second, .val (.int p2), .val (.long (137438952896 : Int64)), .second, .val (.int (p2 &&& (3 : Int32))), .unset, .unset, .unset, .unset, .unset] [(.int (p2 &&& (3 : Int32)))])) _
    refine XS.ifNo X0.here hx rfl (hb hby at_11) rfl ((if0 _ _).trans (teq hc11).2) ?_
    show Steps p.tables e below (s₁.setTop (mkF m 14 #[.val (.long q1), .second, .val (.int p2), .val (.long (137438952896 : Int64)), .second, .val (.int (p2 &&& (3 : Int32))), .unset, .unset, .unset, .unset, .unset] [])) _
    refine XS.lloadN X0.here hx rfl (hb hby at_14) rfl ?_
    show Steps p.tables e below (s₁.setTop (mkF m 15 #[.val (.long q1), .second, .val (.int p2), .val (.long (137438952896 : Int64)), .second, .val (.int (p2 &&& (3 : Int32))), .unset, .unset, .unset, .unset, .unset] [(.long (137438952896 : Int64))])) _
    refine XS.lloadN X0.here hx rfl (hb hby at_15) rfl ?_
    show Steps p.tables e below (s₁.setTop (mkF m 16 #[.val (.long q1), .second, .val (.int p2), .val (.long (137438952896 : Int64)), .second, .val (.int (p2 &&& (3 : Int32))), .unset, .unset, .unset, .unset, .unset] [(.long q1), (.long (137438952896 : Int64))])) _
    refine X0.ldc2Long hx hown (mvT hZ (hw _ (List.mem_of_getElem? (i := 10) rfl))) (g := (mkF m 16 #[.val (.long q1), .second, .val (.int p2), .val (.long (137438952896 : Int64)), .second, .val (.int (p2 &&& (3 : Int32))), .unset, .unset, .unset, .unset, .unset] [(.long q1), (.long (137438952896 : Int64))])) rfl (hb hby at_16) _ ?_
    show Steps p.tables e below (s₁.setTop (mkF m 19 #[.val (.long q1), .second, .val (.int p2), .val (.long (137438952896 : Int64)), .second, .val (.int (p2 &&& (3 : Int32))), .unset, .unset, .unset, .unset, .unset] [(.long (255 : Int64)), (.long q1), (.long (137438952896 : Int64))])) _
    refine XS.land X0.here hx rfl (hb hby at_19) rfl ?_
    show Steps p.tables e below (s₁.setTop (mkF m 20 #[.val (.long q1), .second, .val (.int p2), .val (.long (137438952896 : Int64)), .second, .val (.int (p2 &&& (3 : Int32))), .unset, .unset, .unset, .unset, .unset] [(.long (q1 &&& (255 : Int64))), (.long (137438952896 : Int64))])) _
    refine XS.lsub X0.here hx rfl (hb hby at_20) rfl ?_
    show Steps p.tables e below (s₁.setTop (mkF m 21 #[.val (.long q1), .second, .val (.int p2), .val (.long (137438952896 : Int64)), .second, .val (.int (p2 &&& (3 : Int32))), .unset, .unset, .unset, .unset, .unset] [(.long (own_ma q1))])) _
    refine XS.lstore X0.here hx rfl (hb hby at_21) rfl (l' := #[.val (.long q1), .second, .val (.int p2), .val (.long (137438952896 : Int64)), .second, .val (.int (p2 &&& (3 : Int32))), .val (.long (own_ma q1)), .second, .unset, .unset, .unset]) rfl ?_
    show Steps p.tables e below (s₁.setTop (mkF m 23 #[.val (.long q1), .second, .val (.int p2), .val (.long (137438952896 : Int64)), .second, .val (.int (p2 &&& (3 : Int32))), .val (.long (own_ma q1)), .second, .unset, .unset, .unset] [])) _
    refine XS.goto X0.here hx rfl (pc0 := 23) (pc' := 53) rfl (hb hby at_23) (by decide) (by decide) ?_
    show Steps p.tables e below (s₁.setTop (mkF m 53 #[.val (.long q1), .second, .val (.int p2), .val (.long (137438952896 : Int64)), .second, .val (.int (p2 &&& (3 : Int32))), .val (.long (own_ma q1)), .second, .unset, .unset, .unset] [])) _
    refine XS.lload X0.here hx rfl (hb hby at_53) rfl ?_
    show Steps p.tables e below (s₁.setTop (mkF m 55 #[.val (.long q1), .second, .val (.int p2), .val (.long (137438952896 : Int64)), .second, .val (.int (p2 &&& (3 : Int32))), .val (.long (own_ma q1)), .second, .unset, .unset, .unset] [(.long (own_ma q1))])) _
    refine st3 _ ?_
    show Steps p.tables e below (T3.setTop (mkF m 58 #[.val (.long q1), .second, .val (.int p2), .val (.long (137438952896 : Int64)), .second, .val (.int (p2 &&& (3 : Int32))), .val (.long (own_ma q1)), .second, .unset, .unset, .unset] [(.int (own_w (own_ma q1)))])) _
    refine XS.istore X3.here hx rfl (hb hby at_58) rfl (l' := #[.val (.long q1), .second, .val (.int p2), .val (.long (137438952896 : Int64)), .second, .val (.int (p2 &&& (3 : Int32))), .val (.long (own_ma q1)), .second, .val (.int (own_w (own_ma q1))), .unset, .unset]) rfl ?_
    show Steps p.tables e below (T3.setTop (mkF m 60 #[.val (.long q1), .second, .val (.int p2), .val (.long (137438952896 : Int64)), .second, .val (.int (p2 &&& (3 : Int32))), .val (.long (own_ma q1)), .second, .val (.int (own_w (own_ma q1))), .unset, .unset] [])) _
    refine XS.iload X3.here hx rfl (hb hby at_60) rfl ?_
    show Steps p.tables e below (T3.setTop (mkF m 62 #[.val (.long q1), .second, .val (.int p2), .val (.long (137438952896 : Int64)), .second, .val (.int (p2 &&& (3 : Int32))), .val (.long (own_ma q1)), .second, .val (.int (own_w (own_ma q1))), .unset, .unset] [(.int (own_w (own_ma q1)))])) _
    refine XS.i2l X3.here hx rfl (hb hby at_62) rfl ?_
    show Steps p.tables e below (T3.setTop (mkF m 63 #[.val (.long q1), .second, .val (.int p2), .val (.long (137438952896 : Int64)), .second, .val (.int (p2 &&& (3 : Int32))), .val (.long (own_ma q1)), .second, .val (.int (own_w (own_ma q1))), .unset, .unset] [(.long ((own_w (own_ma q1)).toInt64))])) _
    refine X3.ldc2Long hx hown (mvT hZ (hw _ (List.mem_of_getElem? (i := 8) rfl))) (g := (mkF m 63 #[.val (.long q1), .second, .val (.int p2), .val (.long (137438952896 : Int64)), .second, .val (.int (p2 &&& (3 : Int32))), .val (.long (own_ma q1)), .second, .val (.int (own_w (own_ma q1))), .unset, .unset] [(.long ((own_w (own_ma q1)).toInt64))])) rfl (hb hby at_63) _ ?_
    show Steps p.tables e below (T3.setTop (mkF m 66 #[.val (.long q1), .second, .val (.int p2), .val (.long (137438952896 : Int64)), .second, .val (.int (p2 &&& (3 : Int32))), .val (.long (own_ma q1)), .second, .val (.int (own_w (own_ma q1))), .unset, .unset] [(.long (64 : Int64)), (.long ((own_w (own_ma q1)).toInt64))])) _
    refine XS.lmul X3.here hx rfl (hb hby at_66) rfl ?_
    show Steps p.tables e below (T3.setTop (mkF m 67 #[.val (.long q1), .second, .val (.int p2), .val (.long (137438952896 : Int64)), .second, .val (.int (p2 &&& (3 : Int32))), .val (.long (own_ma q1)), .second, .val (.int (own_w (own_ma q1))), .unset, .unset] [(.long (((own_w (own_ma q1)).toInt64) * (64 : Int64)))])) _
    refine XS.lstore X3.here hx rfl (hb hby at_67) rfl (l' := #[.val (.long q1), .second, .val (.int p2), .val (.long (137438952896 : Int64)), .second, .val (.int (p2 &&& (3 : Int32))), .val (.long (own_ma q1)), .second, .val (.int (own_w (own_ma q1))), .val (.long (((own_w (own_ma q1)).toInt64) * (64 : Int64))), .second]) rfl ?_
    show Steps p.tables e below (T3.setTop (mkF m 69 #[.val (.long q1), .second, .val (.int p2), .val (.long (137438952896 : Int64)), .second, .val (.int (p2 &&& (3 : Int32))), .val (.long (own_ma q1)), .second, .val (.int (own_w (own_ma q1))), .val (.long (((own_w (own_ma q1)).toInt64) * (64 : Int64))), .second] [])) _
    refine XS.iload X3.here hx rfl (hb hby at_69) rfl ?_
    show Steps p.tables e below (T3.setTop (mkF m 71 #[.val (.long q1), .second, .val (.int p2), .val (.long (137438952896 : Int64)), .second, .val (.int (p2 &&& (3 : Int32))), .val (.long (own_ma q1)), .second, .val (.int (own_w (own_ma q1))), .val (.long (((own_w (own_ma q1)).toInt64) * (64 : Int64))), .second] [(.int (own_w (own_ma q1)))])) _
    refine XS.ifNo X3.here hx rfl (hb hby at_71) rfl ((if0 _ _).trans (flt (own_1 _ (own_oka q1) : ¬ ((own_w (own_ma q1)) < (0 : Int32)))).1) ?_
    show Steps p.tables e below (T3.setTop (mkF m 74 #[.val (.long q1), .second, .val (.int p2), .val (.long (137438952896 : Int64)), .second, .val (.int (p2 &&& (3 : Int32))), .val (.long (own_ma q1)), .second, .val (.int (own_w (own_ma q1))), .val (.long (((own_w (own_ma q1)).toInt64) * (64 : Int64))), .second] [])) _
    refine XS.iload X3.here hx rfl (hb hby at_74) rfl ?_
    show Steps p.tables e below (T3.setTop (mkF m 76 #[.val (.long q1), .second, .val (.int p2), .val (.long (137438952896 : Int64)), .second, .val (.int (p2 &&& (3 : Int32))), .val (.long (own_ma q1)), .second, .val (.int (own_w (own_ma q1))), .val (.long (((own_w (own_ma q1)).toInt64) * (64 : Int64))), .second] [(.int (own_w (own_ma q1)))])) _
    refine X3.ldcInt hx hown (mvT hZ (hw _ (List.mem_of_getElem? (i := 9) rfl))) (g := (mkF m 76 #[.val (.long q1), .second, .val (.int p2), .val (.long (137438952896 : Int64)), .second, .val (.int (p2 &&& (3 : Int32))), .val (.long (own_ma q1)), .second, .val (.int (own_w (own_ma q1))), .val (.long (((own_w (own_ma q1)).toInt64) * (64 : Int64))), .second] [(.int (own_w (own_ma q1)))])) rfl (hb hby at_76) _ ?_
    show Steps p.tables e below (T3.setTop (mkF m 78 #[.val (.long q1), .second, .val (.int p2), .val (.long (137438952896 : Int64)), .second, .val (.int (p2 &&& (3 : Int32))), .val (.long (own_ma q1)), .second, .val (.int (own_w (own_ma q1))), .val (.long (((own_w (own_ma q1)).toInt64) * (64 : Int64))), .second] [(.int (2147483639 : Int32)), (.int (own_w (own_ma q1)))])) _
    refine XS.icmpNo X3.here hx rfl (hb hby at_78) rfl (flt (own_2 _ (own_oka q1) : ¬ ((2147483639 : Int32) < (own_w (own_ma q1))))).2.2.1 ?_
    show Steps p.tables e below (T3.setTop (mkF m 81 #[.val (.long q1), .second, .val (.int p2), .val (.long (137438952896 : Int64)), .second, .val (.int (p2 &&& (3 : Int32))), .val (.long (own_ma q1)), .second, .val (.int (own_w (own_ma q1))), .val (.long (((own_w (own_ma q1)).toInt64) * (64 : Int64))), .second] [])) _
    refine XS.lload X3.here hx rfl (hb hby at_81) rfl ?_
    show Steps p.tables e below (T3.setTop (mkF m 83 #[.val (.long q1), .second, .val (.int p2), .val (.long (137438952896 : Int64)), .second, .val (.int (p2 &&& (3 : Int32))), .val (.long (own_ma q1)), .second, .val (.int (own_w (own_ma q1))), .val (.long (((own_w (own_ma q1)).toInt64) * (64 : Int64))), .second] [(.long (((own_w (own_ma q1)).toInt64) * (64 : Int64)))])) _
    refine XS.lload X3.here hx rfl (hb hby at_83) rfl ?_
    show Steps p.tables e below (T3.setTop (mkF m 85 #[.val (.long q1), .second, .val (.int p2), .val (.long (137438952896 : Int64)), .second, .val (.int (p2 &&& (3 : Int32))), .val (.long (own_ma q1)), .second, .val (.int (own_w (own_ma q1))), .val (.long (((own_w (own_ma q1)).toInt64) * (64 : Int64))), .second] [(.long (own_ma q1)), (.long (((own_w (own_ma q1)).toInt64) * (64 : Int64)))])) _
    refine XS.lcmp X3.here hx rfl (hb hby at_85) rfl ?_
    show Steps p.tables e below (T3.setTop (mkF m 86 #[.val (.long q1), .second, .val (.int p2), .val (.long (137438952896 : Int64)), .second, .val (.int (p2 &&& (3 : Int32))), .val (.long (own_ma q1)), .second, .val (.int (own_w (own_ma q1))), .val (.long (((own_w (own_ma q1)).toInt64) * (64 : Int64))), .second] [(.int (lcmpW (((own_w (own_ma q1)).toInt64) * (64 : Int64)) (own_ma q1)))])) _
    refine XS.ifNo X3.here hx rfl (hb hby at_86) rfl ((if0 _ _).trans (flt (own_3 _ (own_oka q1) : ¬ ((lcmpW (((own_w (own_ma q1)).toInt64) * (64 : Int64)) (own_ma q1)) < (0 : Int32)))).1) ?_
    show Steps p.tables e below (T3.setTop (mkF m 89 #[.val (.long q1), .second, .val (.int p2), .val (.long (137438952896 : Int64)), .second, .val (.int (p2 &&& (3 : Int32))), .val (.long (own_ma q1)), .second, .val (.int (own_w (own_ma q1))), .val (.long (((own_w (own_ma q1)).toInt64) * (64 : Int64))), .second] [])) _
    refine XS.lload X3.here hx rfl (hb hby at_89) rfl ?_
    show Steps p.tables e below (T3.setTop (mkF m 91 #[.val (.long q1), .second, .val (.int p2), .val (.long (137438952896 : Int64)), .second, .val (.int (p2 &&& (3 : Int32))), .val (.long (own_ma q1)), .second, .val (.int (own_w (own_ma q1))), .val (.long (((own_w (own_ma q1)).toInt64) * (64 : Int64))), .second] [(.long (((own_w (own_ma q1)).toInt64) * (64 : Int64)))])) _
    refine X3.ldc2Long hx hown (mvT hZ (hw _ (List.mem_of_getElem? (i := 8) rfl))) (g := (mkF m 91 #[.val (.long q1), .second, .val (.int p2), .val (.long (137438952896 : Int64)), .second, .val (.int (p2 &&& (3 : Int32))), .val (.long (own_ma q1)), .second, .val (.int (own_w (own_ma q1))), .val (.long (((own_w (own_ma q1)).toInt64) * (64 : Int64))), .second] [(.long (((own_w (own_ma q1)).toInt64) * (64 : Int64)))])) rfl (hb hby at_91) _ ?_
    show Steps p.tables e below (T3.setTop (mkF m 94 #[.val (.long q1), .second, .val (.int p2), .val (.long (137438952896 : Int64)), .second, .val (.int (p2 &&& (3 : Int32))), .val (.long (own_ma q1)), .second, .val (.int (own_w (own_ma q1))), .val (.long (((own_w (own_ma q1)).toInt64) * (64 : Int64))), .second] [(.long (64 : Int64)), (.long (((own_w (own_ma q1)).toInt64) * (64 : Int64)))])) _
    refine XS.lsub X3.here hx rfl (hb hby at_94) rfl ?_
    show Steps p.tables e below (T3.setTop (mkF m 95 #[.val (.long q1), .second, .val (.int p2), .val (.long (137438952896 : Int64)), .second, .val (.int (p2 &&& (3 : Int32))), .val (.long (own_ma q1)), .second, .val (.int (own_w (own_ma q1))), .val (.long (((own_w (own_ma q1)).toInt64) * (64 : Int64))), .second] [(.long ((((own_w (own_ma q1)).toInt64) * (64 : Int64)) - (64 : Int64)))])) _
    refine XS.lload X3.here hx rfl (hb hby at_95) rfl ?_
    show Steps p.tables e below (T3.setTop (mkF m 97 #[.val (.long q1), .second, .val (.int p2), .val (.long (137438952896 : Int64)), .second, .val (.int (p2 &&& (3 : Int32))), .val (.long (own_ma q1)), .second, .val (.int (own_w (own_ma q1))), .val (.long (((own_w (own_ma q1)).toInt64) * (64 : Int64))), .second] [(.long (own_ma q1)), (.long ((((own_w (own_ma q1)).toInt64) * (64 : Int64)) - (64 : Int64)))])) _
    refine XS.lcmp X3.here hx rfl (hb hby at_97) rfl ?_
    show Steps p.tables e below (T3.setTop (mkF m 98 #[.val (.long q1), .second, .val (.int p2), .val (.long (137438952896 : Int64)), .second, .val (.int (p2 &&& (3 : Int32))), .val (.long (own_ma q1)), .second, .val (.int (own_w (own_ma q1))), .val (.long (((own_w (own_ma q1)).toInt64) * (64 : Int64))), .second] [(.int (lcmpW ((((own_w (own_ma q1)).toInt64) * (64 : Int64)) - (64 : Int64)) (own_ma q1)))])) _
    refine XS.ifNo X3.here hx rfl (hb hby at_98) rfl ((if0 _ _).trans (tlt (own_4 _ (own_oka q1) : (lcmpW ((((own_w (own_ma q1)).toInt64) * (64 : Int64)) - (64 : Int64)) (own_ma q1)) < (0 : Int32))).2.1) ?_
    show Steps p.tables e below (T3.setTop (mkF m 101 #[.val (.long q1), .second, .val (.int p2), .val (.long (137438952896 : Int64)), .second, .val (.int (p2 &&& (3 : Int32))), .val (.long (own_ma q1)), .second, .val (.int (own_w (own_ma q1))), .val (.long (((own_w (own_ma q1)).toInt64) * (64 : Int64))), .second] [])) _
    refine XS.iconst X3.here hx rfl (hb hby at_101) ?_
    show Steps p.tables e below (T3.setTop (mkF m 102 #[.val (.long q1), .second, .val (.int p2), .val (.long (137438952896 : Int64)), .second, .val (.int (p2 &&& (3 : Int32))), .val (.long (own_ma q1)), .second, .val (.int (own_w (own_ma q1))), .val (.long (((own_w (own_ma q1)).toInt64) * (64 : Int64))), .second] [(.int (1 : Int32))])) _
    refine XS.goto X3.here hx rfl (pc0 := 102) (pc' := 106) rfl (hb hby at_102) (by decide) (by decide) ?_
    show Steps p.tables e below (T3.setTop (mkF m 106 #[.val (.long q1), .second, .val (.int p2), .val (.long (137438952896 : Int64)), .second, .val (.int (p2 &&& (3 : Int32))), .val (.long (own_ma q1)), .second, .val (.int (own_w (own_ma q1))), .val (.long (((own_w (own_ma q1)).toInt64) * (64 : Int64))), .second] [(.int (1 : Int32))])) _
    exact retN X3 hx (t := .boolean) Bd.returns (by simp) (hb hby at_106) hr
  · show Q0 Z q1 p2 h0 n0 _ T3.heap _
    exact ⟨rfl, N3⟩
set_option maxRecDepth 65536 in
set_option maxHeartbeats 40000000 in
theorem rm0b (l : Launch) (Z : State) (a0 : Array Value) (hw : ∀ d ∈ tables_1, d.before a0 Z = true) (ws : List Jvm.Cond) (q1 : Int64) (p2 : Int32) (h0 : Heap) (n0 : Nat) (Z0 : n0 ≤ h0.size) (hc11 : ¬ ((p2 &&& (3 : Int32)) = (0 : Int32))) (hc29 : (p2 &&& (3 : Int32)) = (1 : Int32)) :
    MetFree l x (head1 (Jvm.Cond.code x code maxLocals ret :: ws) room_1) (fun a U => a = #[(.long q1), (.int p2)] ∧ Z.Warmed39 U.vm ∧ U.heap = h0) (fun _ _ _ _ _ => True) (fun _ U o U' => ∃ v L, o = .returned v ∧ Q0 Z q1 p2 h0 n0 v U'.heap L ∧ FrameEnd U o U' L room_1.cells room_1.slots) := by
  refine MetFree.of_bodySF (plainFor_of_name pn_0) hisR ?_
  intro p e s m args below meth c s₁ Bd hml0 hP hK
  obtain ⟨rfl, hZ, hh⟩ := hP
  have hx := Bd.exec
  have hby := Bd.bytes
  have hml : c.maxLocals = 11 := hml0
  have hown : s.vm.findClass "com/example/criba/criba/BloomFilterWordsForPinLaw" = some m.cls := findClass_of_methodNamed Bd.named
  have hnm := (name_of_methodNamed Bd.named Bd.method).1
  have X0 : Stand p l e room_1 s m #[(.long q1), (.int p2)] below meth c s₁ [] 0 0 := Stand.of_body Bd
  have e0 : s₁.heap = h0 := by rw [← hh, Bd.state]; rfl
  have N0 := Fr.nil n0
  have pre0 : ∀ t, Steps p.tables e below (s₁.setTop (mkF m 0 #[.val (.long q1), .second, .val (.int p2), .unset, .unset, .unset, .unset, .unset, .unset, .unset, .unset] [])) t → Steps p.tables e below (s₁.setTop (entryFrame m #[(.long q1), (.int p2)] maxLocals)) t := fun t k => castTop (ef_0 m q1 p2) k
  obtain ⟨_, _, ⟨T3, L3, k3, n3⟩, -, X3, ⟨Lc3, hQ3, l3, y3, z3⟩, st3⟩ := Jvm.LawKit.callS X0 hx (y := (⟨"com/example/criba/criba/BloomFilter", "wordsFor", "(J)I"⟩ : MethodName)) hown (mvT hZ (hw _ (List.mem_of_getElem? (i := 2) rfl))) (mvT hZ (hw _ (List.mem_of_getElem? (i := 3) rfl))) (mvT hZ (hw _ (List.mem_of_getElem? (i := 4) rfl))) (mvT hZ (hw _ (List.mem_of_getElem? (i := 5) rfl))) (by decide) (backOf (W := 0) (rm1 l Z a0 hw [] (q1 &&& (255 : Int64)) h0 n0 Z0 (own_5 _ (own_okb q1)) (by decide)) hZ (hw _ (List.mem_of_getElem? (i := 5) rfl)) (hw _ (List.mem_of_getElem? (i := 4) rfl)) (by decide) (by decide)) (g := (mkF m 55 #[.val (.long q1), .second, .val (.int p2), .val (.long (137438952896 : Int64)), .second, .val (.int (p2 &&& (3 : Int32))), .val (.long (q1 &&& (255 : Int64))), .second, .unset, .unset, .unset] [(.long (q1 &&& (255 : Int64)))])) rfl (by rw [hml]; rfl) (argsL := [(.long (q1 &&& (255 : Int64)))]) (rest := []) (lenOf pd_0_0 rfl) rfl (by show 2 * 0 + _ ≤ _; exact Nat.le_of_eq rfl) (hb hby at_55) (fun _ _ => ⟨rfl, e0, (by decide : 0 + 0 ≤ _), (by decide : 0 + 0 ≤ _)⟩)
  dsimp only [Pt.U, Pt.locs, Pt.cells, Pt.slots] at X3 l3 y3 z3 st3 hQ3
  subst l3 y3 z3
  obtain ⟨rfl, N3q, e3⟩ := hQ3
  have Z3 : n0 ≤ T3.heap.size := by rw [e3]; exact Z0
  have N3 := Fr.app N0 N3q
  obtain ⟨fs, hr, hrun, hended, hW, hsame⟩ := X3.leave (v := some (.int (1 : Int32))) (fun h => by rw [Bd.returns] at h; cases h)
  refine ⟨_, _, pre0 _ ?_, hrun, hended, _, _, rfl, ?_, ⟨_, rfl⟩, hW, hsame.mono (by decide) (by decide)⟩
  · show Steps p.tables e below (s₁.setTop (mkF m 0 #[.val (.long q1), .second, .val (.int p2), .unset, .unset, .unset, .unset, .unset, .unset, .unset, .unset] [])) _
    refine X0.ldc2Long hx hown (mvT hZ (hw _ (List.mem_of_getElem? (i := 0) rfl))) (g := (mkF m 0 #[.val (.long q1), .second, .val (.int p2), .unset, .unset, .unset, .unset, .unset, .unset, .unset, .unset] [])) rfl (hb hby at_0) _ ?_
    show Steps p.tables e below (s₁.setTop (mkF m 3 #[.val (.long q1), .second, .val (.int p2), .unset, .unset, .unset, .unset, .unset, .unset, .unset, .unset] [(.long (137438952896 : Int64))])) _
    refine XS.lstoreN X0.here hx rfl (hb hby at_3) rfl (l' := #[.val (.long q1), .second, .val (.int p2), .val (.long (137438952896 : Int64)), .second, .unset, .unset, .unset, .unset, .unset, .unset]) rfl ?_
    show Steps p.tables e below (s₁.setTop (mkF m 4 #[.val (.long q1), .second, .val (.int p2), .val (.long (137438952896 : Int64)), .second, .unset, .unset, .unset, .unset, .unset, .unset] [])) _
    refine XS.iloadN X0.here hx rfl (hb hby at_4) rfl ?_
    show Steps p.tables e below (s₁.setTop (mkF m 5 #[.val (.long q1), .second, .val (.int p2), .val (.long (137438952896 : Int64)), .second, .unset, .unset, .unset, .unset, .unset, .unset] [(.int p2)])) _
    refine XS.iconst X0.here hx rfl (hb hby at_5) ?_
    show Steps p.tables e below (s₁.setTop (mkF m 6 #[.val (.long q1), .second, .val (.int p2), .val (.long (137438952896 : Int64)), .second, .unset, .unset, .unset, .unset, .unset, .unset] [(.int (3 : Int32)), (.int p2)])) _
    refine XS.iand X0.here hx rfl (hb hby at_6) rfl ?_
    show Steps p.tables e below (s₁.setTop (mkF m 7 #[.val (.long q1), .second, .val (.int p2), .val (.long (137438952896 : Int64)), .second, .unset, .unset, .unset, .unset, .unset, .unset] [(.int (p2 &&& (3 : Int32)))])) _
    refine XS.istore X0.here hx rfl (hb hby at_7) rfl (l' := #[.val (.long q1), .second, .val (.int p2), .val (.long (137438952896 : Int64)), .second, .val (.int (p2 &&& (3 : Int32))), .unset, .unset, .unset, .unset, .unset]) rfl ?_
    show Steps p.tables e below (s₁.setTop (mkF m 9 #[.val (.long q1), .second, .val (.int p2), .val (.long (137438952896 : Int64)), .second, .val (.int (p2 &&& (3 : Int32))), .unset, .unset, .unset, .unset, .unset] [])) _
    refine XS.iload X0.here hx rfl (hb hby at_9) rfl ?_
    show Steps p.tables e below (s₁.setTop (mkF m 11 #[.val (.long q1), .second, .val (.int p2), .val (.long (137438952896 : Int64)), .second, .val (.int (p2 &&& (3 : Int32))), .unset, .unset, .unset, .unset, .unset] [(.int (p2 &&& (3 : Int32)))])) _
    refine XS.ifYes X0.here hx rfl (pc0 := 11) (pc' := 26) rfl (hb hby at_11) rfl ((if0 _ _).trans (feq hc11).2) (by decide) (by decide) ?_
    show Steps p.tables e below (s₁.setTop (mkF m 26 #[.val (.long q1), .second, .val (.int p2), .val (.long (137438952896 : Int64)), .second, .val (.int (p2 &&& (3 : Int32))), .unset, .unset, .unset, .unset, .unset] [])) _
    refine XS.iload X0.here hx rfl (hb hby at_26) rfl ?_
    show Steps p.tables e below (s₁.setTop (mkF m 28 #[.val (.long q1), .second, .val (.int p2), .val (.long (137438952896 : Int64)), .second, .val (.int (p2 &&& (3 : Int32))), .unset, .unset, .unset, .unset, .unset] [(.int (p2 &&& (3 : Int32)))])) _
    refine XS.iconst X0.here hx rfl (hb hby at_28) ?_
    show Steps p.tables e below (s₁.setTop (mkF m 29 #[.val (.long q1), .second, .val (.int p2), .val (.long (137438952896 : Int64)), .second, .val (.int (p2 &&& (3 : Int32))), .unset, .unset, .unset, .unset, .unset] [(.int (1 : Int32)), (.int (p2 &&& (3 : Int32)))])) _
    refine XS.icmpNo X0.here hx rfl (hb hby at_29) rfl (teq hc29).2 ?_
    show Steps p.tables e below (s₁.setTop (mkF m 32 #[.val (.long q1), .second, .val (.int p2), .val (.long (137438952896 : Int64)), .second, .val (.int (p2 &&& (3 : Int32))), .unset, .unset, .unset, .unset, .unset] [])) _
    refine XS.lloadN X0.here hx rfl (hb hby at_32) rfl ?_
    show Steps p.tables e below (s₁.setTop (mkF m 33 #[.val (.long q1), .second, .val (.int p2), .val (.long (137438952896 : Int64)), .second, .val (.int (p2 &&& (3 : Int32))), .unset, .unset, .unset, .unset, .unset] [(.long q1)])) _
    refine X0.ldc2Long hx hown (mvT hZ (hw _ (List.mem_of_getElem? (i := 10) rfl))) (g := (mkF m 33 #[.val (.long q1), .second, .val (.int p2), .val (.long (137438952896 : Int64)), .second, .val (.int (p2 &&& (3 : Int32))), .unset, .unset, .unset, .unset, .unset] [(.long q1)])) rfl (hb hby at_33) _ ?_
    show Steps p.tables e below (s₁.setTop (mkF m 36 #[.val (.long q1), .second, .val (.int p2), .val (.long (137438952896 : Int64)), .second, .val (.int (p2 &&& (3 : Int32))), .unset, .unset, .unset, .unset, .unset] [(.long (255 : Int64)), (.long q1)])) _
    refine XS.land X0.here hx rfl (hb hby at_36) rfl ?_
    show Steps p.tables e below (s₁.setTop (mkF m 37 #[.val (.long q1), .second, .val (.int p2), .val (.long (137438952896 : Int64)), .second, .val (.int (p2 &&& (3 : Int32))), .unset, .unset, .unset, .unset, .unset] [(.long (q1 &&& (255 : Int64)))])) _
    refine XS.lstore X0.here hx rfl (hb hby at_37) rfl (l' := #[.val (.long q1), .second, .val (.int p2), .val (.long (137438952896 : Int64)), .second, .val (.int (p2 &&& (3 : Int32))), .val (.long (q1 &&& (255 : Int64))), .second, .unset, .unset, .unset]) rfl ?_
    show Steps p.tables e below (s₁.setTop (mkF m 39 #[.val (.long q1), .second, .val (.int p2), .val (.long (137438952896 : Int64)), .second, .val (.int (p2 &&& (3 : Int32))), .val (.long (q1 &&& (255 : Int64))), .second, .unset, .unset, .unset] [])) _
    refine XS.goto X0.here hx rfl (pc0 := 39) (pc' := 53) rfl (hb hby at_39) (by decide) (by decide) ?_
    show Steps p.tables e below (s₁.setTop (mkF m 53 #[.val (.long q1), .second, .val (.int p2), .val (.long (137438952896 : Int64)), .second, .val (.int (p2 &&& (3 : Int32))), .val (.long (q1 &&& (255 : Int64))), .second, .unset, .unset, .unset] [])) _
    refine XS.lload X0.here hx rfl (hb hby at_53) rfl ?_
    show Steps p.tables e below (s₁.setTop (mkF m 55 #[.val (.long q1), .second, .val (.int p2), .val (.long (137438952896 : Int64)), .second, .val (.int (p2 &&& (3 : Int32))), .val (.long (q1 &&& (255 : Int64))), .second, .unset, .unset, .unset] [(.long (q1 &&& (255 : Int64)))])) _
    refine st3 _ ?_
    show Steps p.tables e below (T3.setTop (mkF m 58 #[.val (.long q1), .second, .val (.int p2), .val (.long (137438952896 : Int64)), .second, .val (.int (p2 &&& (3 : Int32))), .val (.long (q1 &&& (255 : Int64))), .second, .unset, .unset, .unset] [(.int (own_w (own_mb q1)))])) _
    refine XS.istore X3.here hx rfl (hb hby at_58) rfl (l' := #[.val (.long q1), .second, .val (.int p2), .val (.long (137438952896 : Int64)), .second, .val (.int (p2 &&& (3 : Int32))), .val (.long (q1 &&& (255 : Int64))), .second, .val (.int (own_w (own_mb q1))), .unset, .unset]) rfl ?_
    show Steps p.tables e below (T3.setTop (mkF m 60 #[.val (.long q1), .second, .val (.int p2), .val (.long (137438952896 : Int64)), .second, .val (.int (p2 &&& (3 : Int32))), .val (.long (q1 &&& (255 : Int64))), .second, .val (.int (own_w (own_mb q1))), .unset, .unset] [])) _
    refine XS.iload X3.here hx rfl (hb hby at_60) rfl ?_
    show Steps p.tables e below (T3.setTop (mkF m 62 #[.val (.long q1), .second, .val (.int p2), .val (.long (137438952896 : Int64)), .second, .val (.int (p2 &&& (3 : Int32))), .val (.long (q1 &&& (255 : Int64))), .second, .val (.int (own_w (own_mb q1))), .unset, .unset] [(.int (own_w (own_mb q1)))])) _
    refine XS.i2l X3.here hx rfl (hb hby at_62) rfl ?_
    show Steps p.tables e below (T3.setTop (mkF m 63 #[.val (.long q1), .second, .val (.int p2), .val (.long (137438952896 : Int64)), .second, .val (.int (p2 &&& (3 : Int32))), .val (.long (q1 &&& (255 : Int64))), .second, .val (.int (own_w (own_mb q1))), .unset, .unset] [(.long ((own_w (own_mb q1)).toInt64))])) _
    refine X3.ldc2Long hx hown (mvT hZ (hw _ (List.mem_of_getElem? (i := 8) rfl))) (g := (mkF m 63 #[.val (.long q1), .second, .val (.int p2), .val (.long (137438952896 : Int64)), .second, .val (.int (p2 &&& (3 : Int32))), .val (.long (q1 &&& (255 : Int64))), .second, .val (.int (own_w (own_mb q1))), .unset, .unset] [(.long ((own_w (own_mb q1)).toInt64))])) rfl (hb hby at_63) _ ?_
    show Steps p.tables e below (T3.setTop (mkF m 66 #[.val (.long q1), .second, .val (.int p2), .val (.long (137438952896 : Int64)), .second, .val (.int (p2 &&& (3 : Int32))), .val (.long (q1 &&& (255 : Int64))), .second, .val (.int (own_w (own_mb q1))), .unset, .unset] [(.long (64 : Int64)), (.long ((own_w (own_mb q1)).toInt64))])) _
    refine XS.lmul X3.here hx rfl (hb hby at_66) rfl ?_
    show Steps p.tables e below (T3.setTop (mkF m 67 #[.val (.long q1), .second, .val (.int p2), .val (.long (137438952896 : Int64)), .second, .val (.int (p2 &&& (3 : Int32))), .val (.long (q1 &&& (255 : Int64))), .second, .val (.int (own_w (own_mb q1))), .unset, .unset] [(.long (((own_w (own_mb q1)).toInt64) * (64 : Int64)))])) _
    refine XS.lstore X3.here hx rfl (hb hby at_67) rfl (l' := #[.val (.long q1), .second, .val (.int p2), .val (.long (137438952896 : Int64)), .second, .val (.int (p2 &&& (3 : Int32))), .val (.long (q1 &&& (255 : Int64))), .second, .val (.int (own_w (own_mb q1))), .val (.long (((own_w (own_mb q1)).toInt64) * (64 : Int64))), .second]) rfl ?_
    show Steps p.tables e below (T3.setTop (mkF m 69 #[.val (.long q1), .second, .val (.int p2), .val (.long (137438952896 : Int64)), .second, .val (.int (p2 &&& (3 : Int32))), .val (.long (q1 &&& (255 : Int64))), .second, .val (.int (own_w (own_mb q1))), .val (.long (((own_w (own_mb q1)).toInt64) * (64 : Int64))), .second] [])) _
    refine XS.iload X3.here hx rfl (hb hby at_69) rfl ?_
    show Steps p.tables e below (T3.setTop (mkF m 71 #[.val (.long q1), .second, .val (.int p2), .val (.long (137438952896 : Int64)), .second, .val (.int (p2 &&& (3 : Int32))), .val (.long (q1 &&& (255 : Int64))), .second, .val (.int (own_w (own_mb q1))), .val (.long (((own_w (own_mb q1)).toInt64) * (64 : Int64))), .second] [(.int (own_w (own_mb q1)))])) _
    refine XS.ifNo X3.here hx rfl (hb hby at_71) rfl ((if0 _ _).trans (flt (own_1 _ (own_okb q1) : ¬ ((own_w (own_mb q1)) < (0 : Int32)))).1) ?_
    show Steps p.tables e below (T3.setTop (mkF m 74 #[.val (.long q1), .second, .val (.int p2), .val (.long (137438952896 : Int64)), .second, .val (.int (p2 &&& (3 : Int32))), .val (.long (q1 &&& (255 : Int64))), .second, .val (.int (own_w (own_mb q1))), .val (.long (((own_w (own_mb q1)).toInt64) * (64 : Int64))), .second] [])) _
    refine XS.iload X3.here hx rfl (hb hby at_74) rfl ?_
    show Steps p.tables e below (T3.setTop (mkF m 76 #[.val (.long q1), .second, .val (.int p2), .val (.long (137438952896 : Int64)), .second, .val (.int (p2 &&& (3 : Int32))), .val (.long (q1 &&& (255 : Int64))), .second, .val (.int (own_w (own_mb q1))), .val (.long (((own_w (own_mb q1)).toInt64) * (64 : Int64))), .second] [(.int (own_w (own_mb q1)))])) _
    refine X3.ldcInt hx hown (mvT hZ (hw _ (List.mem_of_getElem? (i := 9) rfl))) (g := (mkF m 76 #[.val (.long q1), .second, .val (.int p2), .val (.long (137438952896 : Int64)), .second, .val (.int (p2 &&& (3 : Int32))), .val (.long (q1 &&& (255 : Int64))), .second, .val (.int (own_w (own_mb q1))), .val (.long (((own_w (own_mb q1)).toInt64) * (64 : Int64))), .second] [(.int (own_w (own_mb q1)))])) rfl (hb hby at_76) _ ?_
    show Steps p.tables e below (T3.setTop (mkF m 78 #[.val (.long q1), .second, .val (.int p2), .val (.long (137438952896 : Int64)), .second, .val (.int (p2 &&& (3 : Int32))), .val (.long (q1 &&& (255 : Int64))), .second, .val (.int (own_w (own_mb q1))), .val (.long (((own_w (own_mb q1)).toInt64) * (64 : Int64))), .second] [(.int (2147483639 : Int32)), (.int (own_w (own_mb q1)))])) _
    refine XS.icmpNo X3.here hx rfl (hb hby at_78) rfl (flt (own_2 _ (own_okb q1) : ¬ ((2147483639 : Int32) < (own_w (own_mb q1))))).2.2.1 ?_
    show Steps p.tables e below (T3.setTop (mkF m 81 #[.val (.long q1), .second, .val (.int p2), .val (.long (137438952896 : Int64)), .second, .val (.int (p2 &&& (3 : Int32))), .val (.long (q1 &&& (255 : Int64))), .second, .val (.int (own_w (own_mb q1))), .val (.long (((own_w (own_mb q1)).toInt64) * (64 : Int64))), .second] [])) _
    refine XS.lload X3.here hx rfl (hb hby at_81) rfl ?_
    show Steps p.tables e below (T3.setTop (mkF m 83 #[.val (.long q1), .second, .val (.int p2), .val (.long (137438952896 : Int64)), .second, .val (.int (p2 &&& (3 : Int32))), .val (.long (q1 &&& (255 : Int64))), .second, .val (.int (own_w (own_mb q1))), .val (.long (((own_w (own_mb q1)).toInt64) * (64 : Int64))), .second] [(.long (((own_w (own_mb q1)).toInt64) * (64 : Int64)))])) _
    refine XS.lload X3.here hx rfl (hb hby at_83) rfl ?_
    show Steps p.tables e below (T3.setTop (mkF m 85 #[.val (.long q1), .second, .val (.int p2), .val (.long (137438952896 : Int64)), .second, .val (.int (p2 &&& (3 : Int32))), .val (.long (q1 &&& (255 : Int64))), .second, .val (.int (own_w (own_mb q1))), .val (.long (((own_w (own_mb q1)).toInt64) * (64 : Int64))), .second] [(.long (q1 &&& (255 : Int64))), (.long (((own_w (own_mb q1)).toInt64) * (64 : Int64)))])) _
    refine XS.lcmp X3.here hx rfl (hb hby at_85) rfl ?_
    show Steps p.tables e below (T3.setTop (mkF m 86 #[.val (.long q1), .second, .val (.int p2), .val (.long (137438952896 : Int64)), .second, .val (.int (p2 &&& (3 : Int32))), .val (.long (q1 &&& (255 : Int64))), .second, .val (.int (own_w (own_mb q1))), .val (.long (((own_w (own_mb q1)).toInt64) * (64 : Int64))), .second] [(.int (lcmpW (((own_w (own_mb q1)).toInt64) * (64 : Int64)) (q1 &&& (255 : Int64))))])) _
    refine XS.ifNo X3.here hx rfl (hb hby at_86) rfl ((if0 _ _).trans (flt (own_3 _ (own_okb q1) : ¬ ((lcmpW (((own_w (own_mb q1)).toInt64) * (64 : Int64)) (q1 &&& (255 : Int64))) < (0 : Int32)))).1) ?_
    show Steps p.tables e below (T3.setTop (mkF m 89 #[.val (.long q1), .second, .val (.int p2), .val (.long (137438952896 : Int64)), .second, .val (.int (p2 &&& (3 : Int32))), .val (.long (q1 &&& (255 : Int64))), .second, .val (.int (own_w (own_mb q1))), .val (.long (((own_w (own_mb q1)).toInt64) * (64 : Int64))), .second] [])) _
    refine XS.lload X3.here hx rfl (hb hby at_89) rfl ?_
    show Steps p.tables e below (T3.setTop (mkF m 91 #[.val (.long q1), .second, .val (.int p2), .val (.long (137438952896 : Int64)), .second, .val (.int (p2 &&& (3 : Int32))), .val (.long (q1 &&& (255 : Int64))), .second, .val (.int (own_w (own_mb q1))), .val (.long (((own_w (own_mb q1)).toInt64) * (64 : Int64))), .second] [(.long (((own_w (own_mb q1)).toInt64) * (64 : Int64)))])) _
    refine X3.ldc2Long hx hown (mvT hZ (hw _ (List.mem_of_getElem? (i := 8) rfl))) (g := (mkF m 91 #[.val (.long q1), .second, .val (.int p2), .val (.long (137438952896 : Int64)), .second, .val (.int (p2 &&& (3 : Int32))), .val (.long (q1 &&& (255 : Int64))), .second, .val (.int (own_w (own_mb q1))), .val (.long (((own_w (own_mb q1)).toInt64) * (64 : Int64))), .second] [(.long (((own_w (own_mb q1)).toInt64) * (64 : Int64)))])) rfl (hb hby at_91) _ ?_
    show Steps p.tables e below (T3.setTop (mkF m 94 #[.val (.long q1), .second, .val (.int p2), .val (.long (137438952896 : Int64)), .second, .val (.int (p2 &&& (3 : Int32))), .val (.long (q1 &&& (255 : Int64))), .second, .val (.int (own_w (own_mb q1))), .val (.long (((own_w (own_mb q1)).toInt64) * (64 : Int64))), .second] [(.long (64 : Int64)), (.long (((own_w (own_mb q1)).toInt64) * (64 : Int64)))])) _
    refine XS.lsub X3.here hx rfl (hb hby at_94) rfl ?_
    show Steps p.tables e below (T3.setTop (mkF m 95 #[.val (.long q1), .second, .val (.int p2), .val (.long (137438952896 : Int64)), .second, .val (.int (p2 &&& (3 : Int32))), .val (.long (q1 &&& (255 : Int64))), .second, .val (.int (own_w (own_mb q1))), .val (.long (((own_w (own_mb q1)).toInt64) * (64 : Int64))), .second] [(.long ((((own_w (own_mb q1)).toInt64) * (64 : Int64)) - (64 : Int64)))])) _
    refine XS.lload X3.here hx rfl (hb hby at_95) rfl ?_
    show Steps p.tables e below (T3.setTop (mkF m 97 #[.val (.long q1), .second, .val (.int p2), .val (.long (137438952896 : Int64)), .second, .val (.int (p2 &&& (3 : Int32))), .val (.long (q1 &&& (255 : Int64))), .second, .val (.int (own_w (own_mb q1))), .val (.long (((own_w (own_mb q1)).toInt64) * (64 : Int64))), .second] [(.long (q1 &&& (255 : Int64))), (.long ((((own_w (own_mb q1)).toInt64) * (64 : Int64)) - (64 : Int64)))])) _
    refine XS.lcmp X3.here hx rfl (hb hby at_97) rfl ?_
    show Steps p.tables e below (T3.setTop (mkF m 98 #[.val (.long q1), .second, .val (.int p2), .val (.long (137438952896 : Int64)), .second, .val (.int (p2 &&& (3 : Int32))), .val (.long (q1 &&& (255 : Int64))), .second, .val (.int (own_w (own_mb q1))), .val (.long (((own_w (own_mb q1)).toInt64) * (64 : Int64))), .second] [(.int (lcmpW ((((own_w (own_mb q1)).toInt64) * (64 : Int64)) - (64 : Int64)) (q1 &&& (255 : Int64))))])) _
    refine XS.ifNo X3.here hx rfl (hb hby at_98) rfl ((if0 _ _).trans (tlt (own_4 _ (own_okb q1) : (lcmpW ((((own_w (own_mb q1)).toInt64) * (64 : Int64)) - (64 : Int64)) (q1 &&& (255 : Int64))) < (0 : Int32))).2.1) ?_
    show Steps p.tables e below (T3.setTop (mkF m 101 #[.val (.long q1), .second, .val (.int p2), .val (.long (137438952896 : Int64)), .second, .val (.int (p2 &&& (3 : Int32))), .val (.long (q1 &&& (255 : Int64))), .second, .val (.int (own_w (own_mb q1))), .val (.long (((own_w (own_mb q1)).toInt64) * (64 : Int64))), .second] [])) _
    refine XS.iconst X3.here hx rfl (hb hby at_101) ?_
    show Steps p.tables e below (T3.setTop (mkF m 102 #[.val (.long q1), .second, .val (.int p2), .val (.long (137438952896 : Int64)), .second, .val (.int (p2 &&& (3 : Int32))), .val (.long (q1 &&& (255 : Int64))), .second, .val (.int (own_w (own_mb q1))), .val (.long (((own_w (own_mb q1)).toInt64) * (64 : Int64))), .second] [(.int (1 : Int32))])) _
    refine XS.goto X3.here hx rfl (pc0 := 102) (pc' := 106) rfl (hb hby at_102) (by decide) (by decide) ?_
    show Steps p.tables e below (T3.setTop (mkF m 106 #[.val (.long q1), .second, .val (.int p2), .val (.long (137438952896 : Int64)), .second, .val (.int (p2 &&& (3 : Int32))), .val (.long (q1 &&& (255 : Int64))), .second, .val (.int (own_w (own_mb q1))), .val (.long (((own_w (own_mb q1)).toInt64) * (64 : Int64))), .second] [(.int (1 : Int32))])) _
    exact retN X3 hx (t := .boolean) Bd.returns (by simp) (hb hby at_106) hr
  · show Q0 Z q1 p2 h0 n0 _ T3.heap _
    exact ⟨rfl, N3⟩
set_option maxRecDepth 65536 in
set_option maxHeartbeats 40000000 in
theorem rm0c (l : Launch) (Z : State) (a0 : Array Value) (hw : ∀ d ∈ tables_1, d.before a0 Z = true) (ws : List Jvm.Cond) (q1 : Int64) (p2 : Int32) (h0 : Heap) (n0 : Nat) (Z0 : n0 ≤ h0.size) (hc11 : ¬ ((p2 &&& (3 : Int32)) = (0 : Int32))) (hc29 : ¬ ((p2 &&& (3 : Int32)) = (1 : Int32))) (hnz50 : ¬ (((137438952896 : Int64) + (1 : Int64)) = (0 : Int64))) :
    MetFree l x (head1 (Jvm.Cond.code x code maxLocals ret :: ws) room_1) (fun a U => a = #[(.long q1), (.int p2)] ∧ Z.Warmed39 U.vm ∧ U.heap = h0) (fun _ _ _ _ _ => True) (fun _ U o U' => ∃ v L, o = .returned v ∧ Q0 Z q1 p2 h0 n0 v U'.heap L ∧ FrameEnd U o U' L room_1.cells room_1.slots) := by
  refine MetFree.of_bodySF (plainFor_of_name pn_0) hisR ?_
  intro p e s m args below meth c s₁ Bd hml0 hP hK
  obtain ⟨rfl, hZ, hh⟩ := hP
  have hx := Bd.exec
  have hby := Bd.bytes
  have hml : c.maxLocals = 11 := hml0
  have hown : s.vm.findClass "com/example/criba/criba/BloomFilterWordsForPinLaw" = some m.cls := findClass_of_methodNamed Bd.named
  have hnm := (name_of_methodNamed Bd.named Bd.method).1
  have X0 : Stand p l e room_1 s m #[(.long q1), (.int p2)] below meth c s₁ [] 0 0 := Stand.of_body Bd
  have e0 : s₁.heap = h0 := by rw [← hh, Bd.state]; rfl
  have N0 := Fr.nil n0
  have pre0 : ∀ t, Steps p.tables e below (s₁.setTop (mkF m 0 #[.val (.long q1), .second, .val (.int p2), .unset, .unset, .unset, .unset, .unset, .unset, .unset, .unset] [])) t → Steps p.tables e below (s₁.setTop (entryFrame m #[(.long q1), (.int p2)] maxLocals)) t := fun t k => castTop (ef_0 m q1 p2) k
  obtain ⟨_, _, ⟨T3, L3, k3, n3⟩, -, X3, ⟨Lc3, hQ3, l3, y3, z3⟩, st3⟩ := Jvm.LawKit.callS X0 hx (y := (⟨"com/example/criba/criba/BloomFilter", "wordsFor", "(J)I"⟩ : MethodName)) hown (mvT hZ (hw _ (List.mem_of_getElem? (i := 2) rfl))) (mvT hZ (hw _ (List.mem_of_getElem? (i := 3) rfl))) (mvT hZ (hw _ (List.mem_of_getElem? (i := 4) rfl))) (mvT hZ (hw _ (List.mem_of_getElem? (i := 5) rfl))) (by decide) (backOf (W := 0) (rm1 l Z a0 hw [] (own_mc q1) h0 n0 Z0 (own_5 _ (own_okc q1)) (by decide)) hZ (hw _ (List.mem_of_getElem? (i := 5) rfl)) (hw _ (List.mem_of_getElem? (i := 4) rfl)) (by decide) (by decide)) (g := (mkF m 55 #[.val (.long q1), .second, .val (.int p2), .val (.long (137438952896 : Int64)), .second, .val (.int (p2 &&& (3 : Int32))), .val (.long (own_mc q1)), .second, .unset, .unset, .unset] [(.long (own_mc q1))])) rfl (by rw [hml]; rfl) (argsL := [(.long (own_mc q1))]) (rest := []) (lenOf pd_0_0 rfl) rfl (by show 2 * 0 + _ ≤ _; exact Nat.le_of_eq rfl) (hb hby at_55) (fun _ _ => ⟨rfl, e0, (by decide : 0 + 0 ≤ _), (by decide : 0 + 0 ≤ _)⟩)
  dsimp only [Pt.U, Pt.locs, Pt.cells, Pt.slots] at X3 l3 y3 z3 st3 hQ3
  subst l3 y3 z3
  obtain ⟨rfl, N3q, e3⟩ := hQ3
  have Z3 : n0 ≤ T3.heap.size := by rw [e3]; exact Z0
  have N3 := Fr.app N0 N3q
  obtain ⟨fs, hr, hrun, hended, hW, hsame⟩ := X3.leave (v := some (.int (1 : Int32))) (fun h => by rw [Bd.returns] at h; cases h)
  refine ⟨_, _, pre0 _ ?_, hrun, hended, _, _, rfl, ?_, ⟨_, rfl⟩, hW, hsame.mono (by decide) (by decide)⟩
  · show Steps p.tables e below (s₁.setTop (mkF m 0 #[.val (.long q1), .second, .val (.int p2), .unset, .unset, .unset, .unset, .unset, .unset, .unset, .unset] [])) _
    refine X0.ldc2Long hx hown (mvT hZ (hw _ (List.mem_of_getElem? (i := 0) rfl))) (g := (mkF m 0 #[.val (.long q1), .second, .val (.int p2), .unset, .unset, .unset, .unset, .unset, .unset, .unset, .unset] [])) rfl (hb hby at_0) _ ?_
    show Steps p.tables e below (s₁.setTop (mkF m 3 #[.val (.long q1), .second, .val (.int p2), .unset, .unset, .unset, .unset, .unset, .unset, .unset, .unset] [(.long (137438952896 : Int64))])) _
    refine XS.lstoreN X0.here hx rfl (hb hby at_3) rfl (l' := #[.val (.long q1), .second, .val (.int p2), .val (.long (137438952896 : Int64)), .second, .unset, .unset, .unset, .unset, .unset, .unset]) rfl ?_
    show Steps p.tables e below (s₁.setTop (mkF m 4 #[.val (.long q1), .second, .val (.int p2), .val (.long (137438952896 : Int64)), .second, .unset, .unset, .unset, .unset, .unset, .unset] [])) _
    refine XS.iloadN X0.here hx rfl (hb hby at_4) rfl ?_
    show Steps p.tables e below (s₁.setTop (mkF m 5 #[.val (.long q1), .second, .val (.int p2), .val (.long (137438952896 : Int64)), .second, .unset, .unset, .unset, .unset, .unset, .unset] [(.int p2)])) _
    refine XS.iconst X0.here hx rfl (hb hby at_5) ?_
    show Steps p.tables e below (s₁.setTop (mkF m 6 #[.val (.long q1), .second, .val (.int p2), .val (.long (137438952896 : Int64)), .second, .unset, .unset, .unset, .unset, .unset, .unset] [(.int (3 : Int32)), (.int p2)])) _
    refine XS.iand X0.here hx rfl (hb hby at_6) rfl ?_
    show Steps p.tables e below (s₁.setTop (mkF m 7 #[.val (.long q1), .second, .val (.int p2), .val (.long (137438952896 : Int64)), .second, .unset, .unset, .unset, .unset, .unset, .unset] [(.int (p2 &&& (3 : Int32)))])) _
    refine XS.istore X0.here hx rfl (hb hby at_7) rfl (l' := #[.val (.long q1), .second, .val (.int p2), .val (.long (137438952896 : Int64)), .second, .val (.int (p2 &&& (3 : Int32))), .unset, .unset, .unset, .unset, .unset]) rfl ?_
    show Steps p.tables e below (s₁.setTop (mkF m 9 #[.val (.long q1), .second, .val (.int p2), .val (.long (137438952896 : Int64)), .second, .val (.int (p2 &&& (3 : Int32))), .unset, .unset, .unset, .unset, .unset] [])) _
    refine XS.iload X0.here hx rfl (hb hby at_9) rfl ?_
    show Steps p.tables e below (s₁.setTop (mkF m 11 #[.val (.long q1), .second, .val (.int p2), .val (.long (137438952896 : Int64)), .second, .val (.int (p2 &&& (3 : Int32))), .unset, .unset, .unset, .unset, .unset] [(.int (p2 &&& (3 : Int32)))])) _
    refine XS.ifYes X0.here hx rfl (pc0 := 11) (pc' := 26) rfl (hb hby at_11) rfl ((if0 _ _).trans (feq hc11).2) (by decide) (by decide) ?_
    show Steps p.tables e below (s₁.setTop (mkF m 26 #[.val (.long q1), .second, .val (.int p2), .val (.long (137438952896 : Int64)), .second, .val (.int (p2 &&& (3 : Int32))), .unset, .unset, .unset, .unset, .unset] [])) _
    refine XS.iload X0.here hx rfl (hb hby at_26) rfl ?_
    show Steps p.tables e below (s₁.setTop (mkF m 28 #[.val (.long q1), .second, .val (.int p2), .val (.long (137438952896 : Int64)), .second, .val (.int (p2 &&& (3 : Int32))), .unset, .unset, .unset, .unset, .unset] [(.int (p2 &&& (3 : Int32)))])) _
    refine XS.iconst X0.here hx rfl (hb hby at_28) ?_
    show Steps p.tables e below (s₁.setTop (mkF m 29 #[.val (.long q1), .second, .val (.int p2), .val (.long (137438952896 : Int64)), .second, .val (.int (p2 &&& (3 : Int32))), .unset, .unset, .unset, .unset, .unset] [(.int (1 : Int32)), (.int (p2 &&& (3 : Int32)))])) _
    refine XS.icmpYes X0.here hx rfl (pc0 := 29) (pc' := 42) rfl (hb hby at_29) rfl (feq hc29).2 (by decide) (by decide) ?_
    show Steps p.tables e below (s₁.setTop (mkF m 42 #[.val (.long q1), .second, .val (.int p2), .val (.long (137438952896 : Int64)), .second, .val (.int (p2 &&& (3 : Int32))), .unset, .unset, .unset, .unset, .unset] [])) _
    refine XS.lloadN X0.here hx rfl (hb hby at_42) rfl ?_
    show Steps p.tables e below (s₁.setTop (mkF m 43 #[.val (.long q1), .second, .val (.int p2), .val (.long (137438952896 : Int64)), .second, .val (.int (p2 &&& (3 : Int32))), .unset, .unset, .unset, .unset, .unset] [(.long q1)])) _
    refine X0.ldc2Long hx hown (mvT hZ (hw _ (List.mem_of_getElem? (i := 1) rfl))) (g := (mkF m 43 #[.val (.long q1), .second, .val (.int p2), .val (.long (137438952896 : Int64)), .second, .val (.int (p2 &&& (3 : Int32))), .unset, .unset, .unset, .unset, .unset] [(.long q1)])) rfl (hb hby at_43) _ ?_
    show Steps p.tables e below (s₁.setTop (mkF m 46 #[.val (.long q1), .second, .val (.int p2), .val (.long (137438952896 : Int64)), .second, .val (.int (p2 &&& (3 : Int32))), .unset, .unset, .unset, .unset, .unset] [(.long (9223372036854775807 : Int64)), (.long q1)])) _
    refine XS.land X0.here hx rfl (hb hby at_46) rfl ?_
    show Steps p.tables e below (s₁.setTop (mkF m 47 #[.val (.long q1), .second, .val (.int p2), .val (.long (137438952896 : Int64)), .second, .val (.int (p2 &&& (3 : Int32))), .unset, .unset, .unset, .unset, .unset] [(.long (q1 &&& (9223372036854775807 : Int64)))])) _
    refine XS.lloadN X0.here hx rfl (hb hby at_47) rfl ?_
    show Steps p.tables e below (s₁.setTop (mkF m 48 #[.val (.long q1), .second, .val (.int p2), .val (.long (137438952896 : Int64)), .second, .val (.int (p2 &&& (3 : Int32))), .unset, .unset, .unset, .unset, .unset] [(.long (137438952896 : Int64)), (.long (q1 &&& (9223372036854775807 : Int64)))])) _
    refine XS.lconst X0.here hx rfl (hb hby at_48) ?_
    show Steps p.tables e below (s₁.setTop (mkF m 49 #[.val (.long q1), .second, .val (.int p2), .val (.long (137438952896 : Int64)), .second, .val (.int (p2 &&& (3 : Int32))), .unset, .unset, .unset, .unset, .unset] [(.long (1 : Int64)), (.long (137438952896 : Int64)), (.long (q1 &&& (9223372036854775807 : Int64)))])) _
    refine XS.ladd X0.here hx rfl (hb hby at_49) rfl ?_
    show Steps p.tables e below (s₁.setTop (mkF m 50 #[.val (.long q1), .second, .val (.int p2), .val (.long (137438952896 : Int64)), .second, .val (.int (p2 &&& (3 : Int32))), .unset, .unset, .unset, .unset, .unset] [(.long ((137438952896 : Int64) + (1 : Int64))), (.long (q1 &&& (9223372036854775807 : Int64)))])) _
    refine XS.lrem X0.here hx rfl (hb hby at_50) rfl hnz50 ?_
    show Steps p.tables e below (s₁.setTop (mkF m 51 #[.val (.long q1), .second, .val (.int p2), .val (.long (137438952896 : Int64)), .second, .val (.int (p2 &&& (3 : Int32))), .unset, .unset, .unset, .unset, .unset] [(.long (own_mc q1))])) _
    refine XS.lstore X0.here hx rfl (hb hby at_51) rfl (l' := #[.val (.long q1), .second, .val (.int p2), .val (.long (137438952896 : Int64)), .second, .val (.int (p2 &&& (3 : Int32))), .val (.long (own_mc q1)), .second, .unset, .unset, .unset]) rfl ?_
    show Steps p.tables e below (s₁.setTop (mkF m 53 #[.val (.long q1), .second, .val (.int p2), .val (.long (137438952896 : Int64)), .second, .val (.int (p2 &&& (3 : Int32))), .val (.long (own_mc q1)), .second, .unset, .unset, .unset] [])) _
    refine XS.lload X0.here hx rfl (hb hby at_53) rfl ?_
    show Steps p.tables e below (s₁.setTop (mkF m 55 #[.val (.long q1), .second, .val (.int p2), .val (.long (137438952896 : Int64)), .second, .val (.int (p2 &&& (3 : Int32))), .val (.long (own_mc q1)), .second, .unset, .unset, .unset] [(.long (own_mc q1))])) _
    refine st3 _ ?_
    show Steps p.tables e below (T3.setTop (mkF m 58 #[.val (.long q1), .second, .val (.int p2), .val (.long (137438952896 : Int64)), .second, .val (.int (p2 &&& (3 : Int32))), .val (.long (own_mc q1)), .second, .unset, .unset, .unset] [(.int (own_w (own_mc q1)))])) _
    refine XS.istore X3.here hx rfl (hb hby at_58) rfl (l' := #[.val (.long q1), .second, .val (.int p2), .val (.long (137438952896 : Int64)), .second, .val (.int (p2 &&& (3 : Int32))), .val (.long (own_mc q1)), .second, .val (.int (own_w (own_mc q1))), .unset, .unset]) rfl ?_
    show Steps p.tables e below (T3.setTop (mkF m 60 #[.val (.long q1), .second, .val (.int p2), .val (.long (137438952896 : Int64)), .second, .val (.int (p2 &&& (3 : Int32))), .val (.long (own_mc q1)), .second, .val (.int (own_w (own_mc q1))), .unset, .unset] [])) _
    refine XS.iload X3.here hx rfl (hb hby at_60) rfl ?_
    show Steps p.tables e below (T3.setTop (mkF m 62 #[.val (.long q1), .second, .val (.int p2), .val (.long (137438952896 : Int64)), .second, .val (.int (p2 &&& (3 : Int32))), .val (.long (own_mc q1)), .second, .val (.int (own_w (own_mc q1))), .unset, .unset] [(.int (own_w (own_mc q1)))])) _
    refine XS.i2l X3.here hx rfl (hb hby at_62) rfl ?_
    show Steps p.tables e below (T3.setTop (mkF m 63 #[.val (.long q1), .second, .val (.int p2), .val (.long (137438952896 : Int64)), .second, .val (.int (p2 &&& (3 : Int32))), .val (.long (own_mc q1)), .second, .val (.int (own_w (own_mc q1))), .unset, .unset] [(.long ((own_w (own_mc q1)).toInt64))])) _
    refine X3.ldc2Long hx hown (mvT hZ (hw _ (List.mem_of_getElem? (i := 8) rfl))) (g := (mkF m 63 #[.val (.long q1), .second, .val (.int p2), .val (.long (137438952896 : Int64)), .second, .val (.int (p2 &&& (3 : Int32))), .val (.long (own_mc q1)), .second, .val (.int (own_w (own_mc q1))), .unset, .unset] [(.long ((own_w (own_mc q1)).toInt64))])) rfl (hb hby at_63) _ ?_
    show Steps p.tables e below (T3.setTop (mkF m 66 #[.val (.long q1), .second, .val (.int p2), .val (.long (137438952896 : Int64)), .second, .val (.int (p2 &&& (3 : Int32))), .val (.long (own_mc q1)), .second, .val (.int (own_w (own_mc q1))), .unset, .unset] [(.long (64 : Int64)), (.long ((own_w (own_mc q1)).toInt64))])) _
    refine XS.lmul X3.here hx rfl (hb hby at_66) rfl ?_
    show Steps p.tables e below (T3.setTop (mkF m 67 #[.val (.long q1), .second, .val (.int p2), .val (.long (137438952896 : Int64)), .second, .val (.int (p2 &&& (3 : Int32))), .val (.long (own_mc q1)), .second, .val (.int (own_w (own_mc q1))), .unset, .unset] [(.long (((own_w (own_mc q1)).toInt64) * (64 : Int64)))])) _
    refine XS.lstore X3.here hx rfl (hb hby at_67) rfl (l' := #[.val (.long q1), .second, .val (.int p2), .val (.long (137438952896 : Int64)), .second, .val (.int (p2 &&& (3 : Int32))), .val (.long (own_mc q1)), .second, .val (.int (own_w (own_mc q1))), .val (.long (((own_w (own_mc q1)).toInt64) * (64 : Int64))), .second]) rfl ?_
    show Steps p.tables e below (T3.setTop (mkF m 69 #[.val (.long q1), .second, .val (.int p2), .val (.long (137438952896 : Int64)), .second, .val (.int (p2 &&& (3 : Int32))), .val (.long (own_mc q1)), .second, .val (.int (own_w (own_mc q1))), .val (.long (((own_w (own_mc q1)).toInt64) * (64 : Int64))), .second] [])) _
    refine XS.iload X3.here hx rfl (hb hby at_69) rfl ?_
    show Steps p.tables e below (T3.setTop (mkF m 71 #[.val (.long q1), .second, .val (.int p2), .val (.long (137438952896 : Int64)), .second, .val (.int (p2 &&& (3 : Int32))), .val (.long (own_mc q1)), .second, .val (.int (own_w (own_mc q1))), .val (.long (((own_w (own_mc q1)).toInt64) * (64 : Int64))), .second] [(.int (own_w (own_mc q1)))])) _
    refine XS.ifNo X3.here hx rfl (hb hby at_71) rfl ((if0 _ _).trans (flt (own_1 _ (own_okc q1) : ¬ ((own_w (own_mc q1)) < (0 : Int32)))).1) ?_
    show Steps p.tables e below (T3.setTop (mkF m 74 #[.val (.long q1), .second, .val (.int p2), .val (.long (137438952896 : Int64)), .second, .val (.int (p2 &&& (3 : Int32))), .val (.long (own_mc q1)), .second, .val (.int (own_w (own_mc q1))), .val (.long (((own_w (own_mc q1)).toInt64) * (64 : Int64))), .second] [])) _
    refine XS.iload X3.here hx rfl (hb hby at_74) rfl ?_
    show Steps p.tables e below (T3.setTop (mkF m 76 #[.val (.long q1), .second, .val (.int p2), .val (.long (137438952896 : Int64)), .second, .val (.int (p2 &&& (3 : Int32))), .val (.long (own_mc q1)), .second, .val (.int (own_w (own_mc q1))), .val (.long (((own_w (own_mc q1)).toInt64) * (64 : Int64))), .second] [(.int (own_w (own_mc q1)))])) _
    refine X3.ldcInt hx hown (mvT hZ (hw _ (List.mem_of_getElem? (i := 9) rfl))) (g := (mkF m 76 #[.val (.long q1), .second, .val (.int p2), .val (.long (137438952896 : Int64)), .second, .val (.int (p2 &&& (3 : Int32))), .val (.long (own_mc q1)), .second, .val (.int (own_w (own_mc q1))), .val (.long (((own_w (own_mc q1)).toInt64) * (64 : Int64))), .second] [(.int (own_w (own_mc q1)))])) rfl (hb hby at_76) _ ?_
    show Steps p.tables e below (T3.setTop (mkF m 78 #[.val (.long q1), .second, .val (.int p2), .val (.long (137438952896 : Int64)), .second, .val (.int (p2 &&& (3 : Int32))), .val (.long (own_mc q1)), .second, .val (.int (own_w (own_mc q1))), .val (.long (((own_w (own_mc q1)).toInt64) * (64 : Int64))), .second] [(.int (2147483639 : Int32)), (.int (own_w (own_mc q1)))])) _
    refine XS.icmpNo X3.here hx rfl (hb hby at_78) rfl (flt (own_2 _ (own_okc q1) : ¬ ((2147483639 : Int32) < (own_w (own_mc q1))))).2.2.1 ?_
    show Steps p.tables e below (T3.setTop (mkF m 81 #[.val (.long q1), .second, .val (.int p2), .val (.long (137438952896 : Int64)), .second, .val (.int (p2 &&& (3 : Int32))), .val (.long (own_mc q1)), .second, .val (.int (own_w (own_mc q1))), .val (.long (((own_w (own_mc q1)).toInt64) * (64 : Int64))), .second] [])) _
    refine XS.lload X3.here hx rfl (hb hby at_81) rfl ?_
    show Steps p.tables e below (T3.setTop (mkF m 83 #[.val (.long q1), .second, .val (.int p2), .val (.long (137438952896 : Int64)), .second, .val (.int (p2 &&& (3 : Int32))), .val (.long (own_mc q1)), .second, .val (.int (own_w (own_mc q1))), .val (.long (((own_w (own_mc q1)).toInt64) * (64 : Int64))), .second] [(.long (((own_w (own_mc q1)).toInt64) * (64 : Int64)))])) _
    refine XS.lload X3.here hx rfl (hb hby at_83) rfl ?_
    show Steps p.tables e below (T3.setTop (mkF m 85 #[.val (.long q1), .second, .val (.int p2), .val (.long (137438952896 : Int64)), .second, .val (.int (p2 &&& (3 : Int32))), .val (.long (own_mc q1)), .second, .val (.int (own_w (own_mc q1))), .val (.long (((own_w (own_mc q1)).toInt64) * (64 : Int64))), .second] [(.long (own_mc q1)), (.long (((own_w (own_mc q1)).toInt64) * (64 : Int64)))])) _
    refine XS.lcmp X3.here hx rfl (hb hby at_85) rfl ?_
    show Steps p.tables e below (T3.setTop (mkF m 86 #[.val (.long q1), .second, .val (.int p2), .val (.long (137438952896 : Int64)), .second, .val (.int (p2 &&& (3 : Int32))), .val (.long (own_mc q1)), .second, .val (.int (own_w (own_mc q1))), .val (.long (((own_w (own_mc q1)).toInt64) * (64 : Int64))), .second] [(.int (lcmpW (((own_w (own_mc q1)).toInt64) * (64 : Int64)) (own_mc q1)))])) _
    refine XS.ifNo X3.here hx rfl (hb hby at_86) rfl ((if0 _ _).trans (flt (own_3 _ (own_okc q1) : ¬ ((lcmpW (((own_w (own_mc q1)).toInt64) * (64 : Int64)) (own_mc q1)) < (0 : Int32)))).1) ?_
    show Steps p.tables e below (T3.setTop (mkF m 89 #[.val (.long q1), .second, .val (.int p2), .val (.long (137438952896 : Int64)), .second, .val (.int (p2 &&& (3 : Int32))), .val (.long (own_mc q1)), .second, .val (.int (own_w (own_mc q1))), .val (.long (((own_w (own_mc q1)).toInt64) * (64 : Int64))), .second] [])) _
    refine XS.lload X3.here hx rfl (hb hby at_89) rfl ?_
    show Steps p.tables e below (T3.setTop (mkF m 91 #[.val (.long q1), .second, .val (.int p2), .val (.long (137438952896 : Int64)), .second, .val (.int (p2 &&& (3 : Int32))), .val (.long (own_mc q1)), .second, .val (.int (own_w (own_mc q1))), .val (.long (((own_w (own_mc q1)).toInt64) * (64 : Int64))), .second] [(.long (((own_w (own_mc q1)).toInt64) * (64 : Int64)))])) _
    refine X3.ldc2Long hx hown (mvT hZ (hw _ (List.mem_of_getElem? (i := 8) rfl))) (g := (mkF m 91 #[.val (.long q1), .second, .val (.int p2), .val (.long (137438952896 : Int64)), .second, .val (.int (p2 &&& (3 : Int32))), .val (.long (own_mc q1)), .second, .val (.int (own_w (own_mc q1))), .val (.long (((own_w (own_mc q1)).toInt64) * (64 : Int64))), .second] [(.long (((own_w (own_mc q1)).toInt64) * (64 : Int64)))])) rfl (hb hby at_91) _ ?_
    show Steps p.tables e below (T3.setTop (mkF m 94 #[.val (.long q1), .second, .val (.int p2), .val (.long (137438952896 : Int64)), .second, .val (.int (p2 &&& (3 : Int32))), .val (.long (own_mc q1)), .second, .val (.int (own_w (own_mc q1))), .val (.long (((own_w (own_mc q1)).toInt64) * (64 : Int64))), .second] [(.long (64 : Int64)), (.long (((own_w (own_mc q1)).toInt64) * (64 : Int64)))])) _
    refine XS.lsub X3.here hx rfl (hb hby at_94) rfl ?_
    show Steps p.tables e below (T3.setTop (mkF m 95 #[.val (.long q1), .second, .val (.int p2), .val (.long (137438952896 : Int64)), .second, .val (.int (p2 &&& (3 : Int32))), .val (.long (own_mc q1)), .second, .val (.int (own_w (own_mc q1))), .val (.long (((own_w (own_mc q1)).toInt64) * (64 : Int64))), .second] [(.long ((((own_w (own_mc q1)).toInt64) * (64 : Int64)) - (64 : Int64)))])) _
    refine XS.lload X3.here hx rfl (hb hby at_95) rfl ?_
    show Steps p.tables e below (T3.setTop (mkF m 97 #[.val (.long q1), .second, .val (.int p2), .val (.long (137438952896 : Int64)), .second, .val (.int (p2 &&& (3 : Int32))), .val (.long (own_mc q1)), .second, .val (.int (own_w (own_mc q1))), .val (.long (((own_w (own_mc q1)).toInt64) * (64 : Int64))), .second] [(.long (own_mc q1)), (.long ((((own_w (own_mc q1)).toInt64) * (64 : Int64)) - (64 : Int64)))])) _
    refine XS.lcmp X3.here hx rfl (hb hby at_97) rfl ?_
    show Steps p.tables e below (T3.setTop (mkF m 98 #[.val (.long q1), .second, .val (.int p2), .val (.long (137438952896 : Int64)), .second, .val (.int (p2 &&& (3 : Int32))), .val (.long (own_mc q1)), .second, .val (.int (own_w (own_mc q1))), .val (.long (((own_w (own_mc q1)).toInt64) * (64 : Int64))), .second] [(.int (lcmpW ((((own_w (own_mc q1)).toInt64) * (64 : Int64)) - (64 : Int64)) (own_mc q1)))])) _
    refine XS.ifNo X3.here hx rfl (hb hby at_98) rfl ((if0 _ _).trans (tlt (own_4 _ (own_okc q1) : (lcmpW ((((own_w (own_mc q1)).toInt64) * (64 : Int64)) - (64 : Int64)) (own_mc q1)) < (0 : Int32))).2.1) ?_
    show Steps p.tables e below (T3.setTop (mkF m 101 #[.val (.long q1), .second, .val (.int p2), .val (.long (137438952896 : Int64)), .second, .val (.int (p2 &&& (3 : Int32))), .val (.long (own_mc q1)), .second, .val (.int (own_w (own_mc q1))), .val (.long (((own_w (own_mc q1)).toInt64) * (64 : Int64))), .second] [])) _
    refine XS.iconst X3.here hx rfl (hb hby at_101) ?_
    show Steps p.tables e below (T3.setTop (mkF m 102 #[.val (.long q1), .second, .val (.int p2), .val (.long (137438952896 : Int64)), .second, .val (.int (p2 &&& (3 : Int32))), .val (.long (own_mc q1)), .second, .val (.int (own_w (own_mc q1))), .val (.long (((own_w (own_mc q1)).toInt64) * (64 : Int64))), .second] [(.int (1 : Int32))])) _
    refine XS.goto X3.here hx rfl (pc0 := 102) (pc' := 106) rfl (hb hby at_102) (by decide) (by decide) ?_
    show Steps p.tables e below (T3.setTop (mkF m 106 #[.val (.long q1), .second, .val (.int p2), .val (.long (137438952896 : Int64)), .second, .val (.int (p2 &&& (3 : Int32))), .val (.long (own_mc q1)), .second, .val (.int (own_w (own_mc q1))), .val (.long (((own_w (own_mc q1)).toInt64) * (64 : Int64))), .second] [(.int (1 : Int32))])) _
    exact retN X3 hx (t := .boolean) Bd.returns (by simp) (hb hby at_106) hr
  · show Q0 Z q1 p2 h0 n0 _ T3.heap _
    exact ⟨rfl, N3⟩
set_option maxRecDepth 65536 in
set_option maxHeartbeats 40000000 in
theorem rm0 (l : Launch) (Z : State) (a0 : Array Value) (hw : ∀ d ∈ tables_1, d.before a0 Z = true) (ws : List Jvm.Cond) (q1 : Int64) (p2 : Int32) (h0 : Heap) (n0 : Nat) (Z0 : n0 ≤ h0.size) :
    MetFree l x (head1 (Jvm.Cond.code x code maxLocals ret :: ws) room_1) (fun a U => a = #[(.long q1), (.int p2)] ∧ Z.Warmed39 U.vm ∧ U.heap = h0) (fun _ _ _ _ _ => True) (fun _ U o U' => ∃ v L, o = .returned v ∧ Q0 Z q1 p2 h0 n0 v U'.heap L ∧ FrameEnd U o U' L room_1.cells room_1.slots) := by
  by_cases hc11 : (p2 &&& (3 : Int32)) = (0 : Int32)
  · exact rm0a l Z a0 hw ws q1 p2 h0 n0 Z0 hc11
  · by_cases hc29 : (p2 &&& (3 : Int32)) = (1 : Int32)
    · exact rm0b l Z a0 hw ws q1 p2 h0 n0 Z0 hc11 hc29
    · exact rm0c l Z a0 hw ws q1 p2 h0 n0 Z0 hc11 hc29 (by decide)
set_option maxRecDepth 65536 in
set_option maxHeartbeats 40000000 in
theorem comes_1 {Post : Tables → Env → Array Value → State → Outcome → State → Prop} (hpost : ∀ tb e args s v u, (limb_1_1.after args s (.returned v) u = true ∧ limb_1_2.after args s (.returned v) u = true ∧ True) → FrameEnd s (.returned v) u (Jvm.fieldLocs frame_1_writes args s ++ Jvm.arrayLocs frame_1_arrays args s ++ Jvm.staticLocs frame_1_statics s) 0 0 → Post tb e args s (.returned v) u) :
    ArmFor flags0 classFile x code maxLocals ret World_1 tables_1 room_1 Calls_1 rest_1 Pre_1 Post := by
  intro l hfl _ _ p e ha hc hk s m args below hf hA hF happ hP
  obtain ⟨hcalls, hrest, hpre⟩ := hP
  obtain ⟨-, -, -, hnamed, -, -, -, hat⟩ := (Spec.applies_iff hf).mp happ
  obtain ⟨hg, hn⟩ := and_e (Cond.before_iff.mp (show (Jvm.Cond.and given_1 narrow_1).before args s = true from hpre))
  obtain ⟨g4, g5⟩ := and_e hg
  obtain ⟨g6, g7⟩ := and_e g5
  obtain ⟨w0, w1, rfl⟩ : ∃ w0 w1 : Value, args = #[w0, w1] := by
    have hs : args.size = 2 := by simpa [Cond.value, given_1] using g4
    obtain ⟨L⟩ := args
    match L, hs with
    | [w0, w1], _ => exact ⟨w0, w1, rfl⟩
  have hw := fun d (hd : d ∈ tables_1) => atoms_spec (ws := Jvm.Cond.code x code maxLocals ret :: tables_1) hat d (List.mem_cons_of_mem _ hd)
  have hfit : Fit s := fun {y c} hc i hi => by
    obtain ⟨ha, rfl⟩ := Array.getElem?_eq_some_iff.mp hc
    have q := List.all_eq_true.mp ((Array.all_eq_true_iff_forall_mem.mp hF) _ (Array.getElem_mem ha)) i (List.mem_range.mpr hi)
    simpa [Array.getElem?_eq_getElem hi] using q
  obtain ⟨i0, ei0⟩ := isL_v g6
  obtain rfl : w0 = (.long i0) := Option.some.inj ei0
  obtain ⟨i1, ei1⟩ := is_v g7
  obtain rfl : w1 = (.int i1) := Option.some.inj ei1
  obtain ⟨n, o, h1, h2, h3, _, L, rfl, ⟨rfl, N⟩, hq⟩ := rm0 l s _ hw tables_1 i0 i1 s.heap s.heap.size (Nat.le_refl _) p e ha hc hk s m _ below hf ((Spec.applies_iff_loose hf).mp happ).1 ⟨rfl, State.Warmed39.refl s, rfl⟩ trivial
  refine ⟨n, _, h1, h2, h3, hpost _ _ _ _ _ _ ⟨Cond.after_iff.mpr rfl, Cond.after_iff.mpr (eq_i res_at (Term.int_eval (1)) rfl), trivial⟩ ⟨hq.1, hq.2.1, (hq.2.2.sift fun y hy => Or.inr (N y hy)).mono (by decide) (by decide)⟩⟩
theorem main_1_1 : Claimed_1_1 := comes_1 fun _ _ _ _ _ _ h hF => ⟨h.1, hF⟩
theorem main_1_2 : Claimed_1_2 := comes_1 fun _ _ _ _ _ _ h hF => ⟨h.2.1, hF⟩
end Jvm.Pilot.@@N@@
namespace Jvm.Pilot.@@N@@
open Jvm Jvm.ClassFile Sem Op Lib Jvm.Free Jvm.Stand Jvm.Pilot.@@N@@.Jvm.D
/-! MADE BY PROGRAM (witnessworld.py) out of the Statement's table words and the real class files: 7 classes; the members and pool entries that the words name. The judged class is class 1, her method 1. -/
namespace start1
open Jvm.ClassFile
def u (s : String) : CpInfo := .utf8 (stringToUtf16 s)
/-- a pool by its gaps: so many unusable entries, then the entry; so many at the end -/
def gap : Nat → List CpInfo → List CpInfo
  | 0, r => r
  | n + 1, r => .unusable :: gap n r
def poolList (es : List (Nat × CpInfo)) (last : Nat) : List CpInfo := es.foldr (fun e r => gap e.1 (e.2 :: r)) (gap last [])
def pool (es : List (Nat × CpInfo)) (last : Nat) : Array CpInfo := ⟨poolList es last⟩
def fileOf (pool : Array CpInfo) (this : Nat) (attrs : Array Attribute := #[]) (ms : Array MethodInfo := #[]) (fl : Nat := 33) (sup : Nat := 0) (ifs : Array Nat := #[]) (fds : Array FieldInfo := #[]) : ClassFile where
  minorVersion := 0
  majorVersion := 65
  constantPool := pool
  accessFlags := fl
  thisClass := this
  superClass := sup
  interfaces := ifs
  fields := fds
  methods := ms
  attributes := attrs
def plain (name : String) (sup : Option ClassId) : Class where
  name := name
  kind := .ordinary
  loader := none
  accessFlags := 33
  super := sup
  interfaces := #[]
  cf := none
  fields := #[]
  methods := #[]
  instanceTypes := #[]
  staticTypes := #[]
  resolved := #[]
  callSites := []
  init := .initialized
  statics := none
  mirror := none

def pool0 : Array CpInfo := pool [(5, u "<init>"), (0, u "()V"), (1, .class_ 10), (1, u "java/lang/Object")] 113

def k0m0 : Method := { name := "<init>", desc := "()V", sig := { parameters := [], returnType := none }, accessFlags := 1, code := none }
/-- java/lang/Object -/
def k0 : Class := { plain "java/lang/Object" none with
  accessFlags := 33
  interfaces := #[]
  cf := some (fileOf pool0 8 #[] #[{ accessFlags := 1, nameIndex := 5, descriptorIndex := 6, attributes := #[] }] 33 0 #[] #[])
  fields := #[]
  methods := #[k0m0]
  instanceTypes := #[]
  staticTypes := #[]
  resolved := Array.replicate 124 none
  statics := none }

def pool1 : Array CpInfo := pool [(2, .class_ 4), (1, u "java/lang/Object"), (0, u "<init>"), (0, u "()V"), (0, .class_ 8), (0, u "com/example/criba/criba/BloomFilter"), (0, .long 137438952896), (1, .long 255), (3, .long 9223372036854775807), (1, .methodref 7 18), (0, .nameAndType 19 20), (0, u "wordsFor"), (0, u "(J)I"), (0, .long 64), (1, .integer 2147483639), (0, .class_ 25), (0, u "com/example/criba/criba/BloomFilterWordsForPinLaw"), (2, u "law"), (0, u "(JI)Z")] 3

def k1m0 : Method := { name := "<init>", desc := "()V", sig := { parameters := [], returnType := none }, accessFlags := 1, code := none }
def k1c1 : Code := { maxStack := 6, maxLocals := 11, code := code, exceptionTable := #[], attributes := #[] }
def k1m1 : Method := { name := "law", desc := "(JI)Z", sig := { parameters := [.long, .int], returnType := some .boolean }, accessFlags := 9, code := some k1c1 }
/-- com/example/criba/criba/BloomFilterWordsForPinLaw -/
def k1 : Class := { plain "com/example/criba/criba/BloomFilterWordsForPinLaw" (some 0) with
  accessFlags := 49
  interfaces := #[]
  cf := some (fileOf pool1 24 #[] #[{ accessFlags := 1, nameIndex := 5, descriptorIndex := 6, attributes := #[] }, { accessFlags := 9, nameIndex := 28, descriptorIndex := 29, attributes := #[] }] 49 2 #[] #[])
  fields := #[]
  methods := #[k1m0, k1m1]
  instanceTypes := #[]
  staticTypes := #[]
  resolved := Array.replicate 33 none
  statics := none }

def pool2 : Array CpInfo := pool [(3, .class_ 4), (0, u "com/example/criba/criba/BloomFilter"), (11, .class_ 18), (1, u "java/lang/Object"), (9, u "m"), (3, u "wordsFor"), (0, u "(J)I"), (9, u "n"), (0, u "J"), (2, u "size"), (0, u "Lcom/example/criba/criba/FilterSize;"), (4, u "k"), (3, u "I"), (2, u "inserted"), (2, u "words"), (0, u "[J"), (123, .long 137438952896), (2, .long 64), (1, u "MAX_WORDS"), (2, u "MAX_BITS")] 48

def k2c0 : Code := { maxStack := 4, maxLocals := 2, code := prog_2_method_21_code, exceptionTable := #[], attributes := #[] }
def k2m0 : Method := { name := "wordsFor", desc := "(J)I", sig := { parameters := [.long], returnType := some .int }, accessFlags := 8, code := some k2c0 }
/-- com/example/criba/criba/BloomFilter -/
def k2 : Class := { plain "com/example/criba/criba/BloomFilter" (some 0) with
  accessFlags := 49
  interfaces := #[]
  cf := some (fileOf pool2 3 #[] #[{ accessFlags := 8, nameIndex := 32, descriptorIndex := 33, attributes := #[] }] 49 16 #[] #[{ accessFlags := 24, nameIndex := 193, descriptorIndex := 57, attributes := #[] }, { accessFlags := 25, nameIndex := 196, descriptorIndex := 44, attributes := #[] }, { accessFlags := 18, nameIndex := 43, descriptorIndex := 44, attributes := #[] }, { accessFlags := 18, nameIndex := 47, descriptorIndex := 48, attributes := #[] }, { accessFlags := 18, nameIndex := 28, descriptorIndex := 44, attributes := #[] }, { accessFlags := 18, nameIndex := 53, descriptorIndex := 57, attributes := #[] }, { accessFlags := 18, nameIndex := 63, descriptorIndex := 64, attributes := #[] }, { accessFlags := 2, nameIndex := 60, descriptorIndex := 44, attributes := #[] }])
  fields := #[{ name := "MAX_WORDS", type := .int, accessFlags := 24, slot := 0, constantValue := 0 }, { name := "MAX_BITS", type := .long, accessFlags := 25, slot := 1, constantValue := 0 }, { name := "n", type := .long, accessFlags := 18, slot := 0, constantValue := 0 }, { name := "size", type := (.object "com/example/criba/criba/FilterSize"), accessFlags := 18, slot := 1, constantValue := 0 }, { name := "m", type := .long, accessFlags := 18, slot := 2, constantValue := 0 }, { name := "k", type := .int, accessFlags := 18, slot := 3, constantValue := 0 }, { name := "words", type := (.array .long), accessFlags := 18, slot := 4, constantValue := 0 }, { name := "inserted", type := .long, accessFlags := 2, slot := 5, constantValue := 0 }]
  methods := #[k2m0]
  instanceTypes := #[.long, (.object "com/example/criba/criba/FilterSize"), .long, .int, (.array .long), .long]
  staticTypes := #[.int, .long]
  resolved := Array.replicate 245 none
  statics := none }

def pool3 : Array CpInfo := pool [(1, u "java/lang/Cloneable"), (0, .class_ 1), (0, u "java/lang/Object"), (0, .class_ 3)] 3

/-- java/lang/Cloneable -/
def k3 : Class := { plain "java/lang/Cloneable" (some 0) with
  accessFlags := 1537
  interfaces := #[]
  cf := some (fileOf pool3 2 #[] #[] 1537 4 #[] #[])
  fields := #[]
  methods := #[]
  instanceTypes := #[]
  staticTypes := #[]
  resolved := Array.replicate 8 none
  statics := none }

def pool4 : Array CpInfo := pool [(1, u "java/io/Serializable"), (0, .class_ 1), (0, u "java/lang/Object"), (0, .class_ 3)] 3

/-- java/io/Serializable -/
def k4 : Class := { plain "java/io/Serializable" (some 0) with
  accessFlags := 1537
  interfaces := #[]
  cf := some (fileOf pool4 2 #[] #[] 1537 4 #[] #[])
  fields := #[]
  methods := #[]
  instanceTypes := #[]
  staticTypes := #[]
  resolved := Array.replicate 8 none
  statics := none }

/-- the primitive byte -/
def k5 : Class := { plain "byte" none with kind := .primitive 'B', accessFlags := 0x411 }
/-- [B -/
def k6 : Class := { plain "[B" (some 0) with kind := .array 5 .byte, interfaces := #[3, 4], accessFlags := 1041 }

def heap : Heap := #[]
def classes : Array Class := #[k0, k1, k2, k3, k4, k5, k6]
def interned : List (Array UInt16 × Addr) := []
def slotsUsed : Nat := 0
def theMethod : MethodId := ⟨1, 1⟩
def args0 : Array Value := #[.long 5, .int 7]
def aboutOver (below : List Frame) : State where
  vm := { classes := classes, interned := interned.toArray }
  heap := heap
  slotsUsed := slotsUsed
  threads := #[{ frames := .invoking theMethod args0 :: below }]
def below0 : List Frame := [.native { method := ⟨0, 0⟩, args := #[] }]
def about1 : State := aboutOver below0
def p0 : Program := .bare "" "" ""
def e0 : Env := launch0.env 0 0 0
theorem w_frames : about1.frames = Frame.invoking theMethod args0 :: below0 := rfl
set_option maxRecDepth 65536 in
theorem w_args : argsFit about1.vm theMethod args0 = true := by decide +kernel
set_option maxRecDepth 65536 in
theorem w_heap : heapFits about1 = true := by decide +kernel
set_option maxRecDepth 65536 in
theorem w_runnable : about1.curStatus? = some .runnable := by decide +kernel
set_option maxRecDepth 65536 in
theorem w_alone : about1.alone = true := by decide +kernel
set_option maxRecDepth 65536 in
theorem w_named : about1.methodNamed? x = some theMethod := by decide +kernel
set_option maxRecDepth 65536 in
theorem w_hears : about1.hears theMethod below0 = true := by decide +kernel
set_option maxRecDepth 65536 in
theorem w_ripe : about1.ripe theMethod args0 below0 = true := by decide +kernel
theorem w_running : about1.status = .running := rfl
set_option maxRecDepth 65536 in
theorem w_room : about1.hasRoom e0.platform room_1 = true :=
  launch0.hasRoom_least _ room_1 (by decide +kernel) (by decide +kernel) (by decide +kernel) (by decide +kernel) (by decide +kernel) (by decide +kernel)
theorem allAtoms_all (ts : List Jvm.Cond) (a : Array Jvm.Value) (st : Jvm.State) : (allAtoms ts).before a st = ts.all (fun c => c.before a st) := by
  induction ts with
  | nil => rfl
  | cons c t ih =>
    show (Jvm.Cond.and c (allAtoms t)).before a st = _
    rw [Jvm.Cond.before_and, ih, List.all_cons]
def words1 : List Jvm.Cond := Jvm.Cond.code x code maxLocals ret :: tables_1
/-- a 'code' word, met by the world's own term for the bytes: nothing is compared byte by byte -/
theorem code_word {y : MethodName} {bytes : ByteArray} {mx : Nat} {rt : Option FieldType} {a : Array Value} {s : State} {m : MethodId} {meth : Method} {c : Code} (h1 : s.methodNamed? y = some m) (h2 : s.vm.method? m = some meth) (h3 : meth.code = some c) (h4 : c.code = bytes)
    (h5 : (c.maxLocals == mx && c.exceptionTable.isEmpty && decide (c.maxStack ≤ mostOperands) && decide (meth.sig.returnType = rt) && !meth.locks && decide (parseMethodDescriptor y.desc = some meth.sig)) = true) : (Jvm.Cond.code y bytes mx rt).before a s = true := by
  simp only [Bool.and_eq_true, beq_iff_eq, Bool.not_eq_true', decide_eq_true_eq] at h5
  obtain ⟨⟨⟨⟨⟨g1, g2⟩, g3⟩, g4⟩, g5⟩, g6⟩ := h5
  simp [Cond.before, Cond.holds, Cond.value, h1, h2, h3, h4, g1, g2, g3, g4, g5, g6]
def isCode : Jvm.Cond → Bool
  | .code _ _ _ _ => true
  | _ => false
theorem all_split {L : List Jvm.Cond} {P : Jvm.Cond → Bool} (h1 : L.all (fun c => isCode c || P c) = true) (h2 : ∀ c ∈ L.filter isCode, P c = true) : L.all P = true := by
  refine List.all_eq_true.mpr fun c hc => ?_
  have h := List.all_eq_true.mp h1 c hc
  rcases Bool.eq_false_or_eq_true (isCode c) with hi | hi
  · exact h2 c (List.mem_filter.mpr ⟨hc, hi⟩)
  · simpa [hi] using h
set_option maxRecDepth 65536 in
theorem w_c0 : (Jvm.Cond.code x code maxLocals ret).before args0 about1 = true := code_word (m := ⟨1, 1⟩) (meth := k1m1) (c := k1c1) (by decide +kernel) rfl rfl rfl (by decide +kernel)
set_option maxRecDepth 65536 in
theorem w_c1 : (Jvm.Cond.code ({ cls := "com/example/criba/criba/BloomFilter", name := "wordsFor", desc := "(J)I" } : Jvm.MethodName) prog_2_method_21_code (2 : Nat) (Option.some Jvm.ClassFile.FieldType.int)).before args0 about1 = true := code_word (m := ⟨2, 0⟩) (meth := k2m0) (c := k2c0) (by decide +kernel) rfl rfl rfl (by decide +kernel)
def codes1 : List Jvm.Cond := [Jvm.Cond.code x code maxLocals ret, Jvm.Cond.code ({ cls := "com/example/criba/criba/BloomFilter", name := "wordsFor", desc := "(J)I" } : Jvm.MethodName) prog_2_method_21_code (2 : Nat) (Option.some Jvm.ClassFile.FieldType.int)]
set_option maxRecDepth 65536 in
theorem codes_eq : words1.filter isCode = codes1 := rfl
theorem w_codes : ∀ c ∈ words1.filter isCode, c.before args0 about1 = true := by
  rw [codes_eq]
  intro c hc
  simp only [codes1, List.mem_cons, List.not_mem_nil, or_false] at hc
  rcases hc with rfl | rfl
  · exact w_c0
  · exact w_c1
set_option maxRecDepth 65536 in
theorem w_t1 : words1.all (fun c => isCode c || c.before args0 about1) = true := by decide +kernel
theorem w_tables : (allAtoms (Jvm.Cond.code x code maxLocals ret :: tables_1)).before args0 about1 = true := by
  rw [allAtoms_all]
  show words1.all (fun c => c.before args0 about1) = true
  refine all_split ?_ w_codes
  rw [w_t1]
set_option maxRecDepth 65536 in
theorem w_case : (Jvm.Cond.and given_1 narrow_1).before args0 about1 = true := by decide +kernel
theorem w_applies : (headSpec (Jvm.Cond.code x code maxLocals ret :: tables_1) room_1).applies x e0.platform about1 = true :=
  (Spec.applies_iff w_frames).mpr ⟨w_running, w_runnable, w_alone, w_named, w_hears, w_ripe, w_room, w_tables⟩
theorem atStart : AtStart classFile x code maxLocals ret World_1 tables_1 room_1 Calls_1 rest_1 Pre_1 launch0 p0 e0 about1 theMethod args0 below0 :=
  ⟨lists_1, trivial, launch0.admits_env _ _ _, launch0.least_env, fairChoices_fair.cas, fairChoices_fair.clock, w_frames, w_args, w_heap, w_applies, trivial, trivial, w_case⟩
end start1
theorem witness_1 : WitnessClaimed_1 := ⟨start1.p0, start1.e0, start1.about1, start1.theMethod, start1.args0, start1.below0, start1.atStart⟩
end Jvm.Pilot.@@N@@
