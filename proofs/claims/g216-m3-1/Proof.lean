import JvmDerived
import JvmDerived.Pilot.@@N@@Statement
import JvmDerived.Pilot.@@N@@Code
set_option linter.unusedVariables false
set_option linter.unusedSimpArgs false
namespace Jvm.RoadKit
open Sem ClassFile Op Lib Jvm.Stand Jvm.Free Jvm.LawKit
section New
variable {p : Program} {l : Launch} {e : Env} {R : Room} {s : State} {m : MethodId} {args : Array Value} {below : List Frame} {meth : Method} {c : Code} {T : State} {locs : List Loc} {cells slots : Nat}
theorem retI (X : Stand p l e R s m args below meth c T locs cells slots) (hx : p.tables.exec = Jvm.exec) {pc : Nat} {Ls : Array Slot} {z : Int32} {rest : List Value} (hret : meth.sig.returnType = some .int) (hd : decode c.code pc = .ok (.ireturn, 1)) {fs : List Frame}
    (hl : ∀ (f : JFrame) (acts : List Action), f.method = m → f.locked = none → f.entered = [] → (doReturn e (T.setTop f) acts (some (.int z))).1 = T.setFrames fs) : Steps p.tables e below (T.setTop (mkF m pc Ls (.int z :: rest))) (T.setFrames fs) := by
  have hm' : T.vm.method? m = some meth := X.method'
  have hn : narrow .int (.int z) = .int z := rfl
  show Steps p.tables e below (T.setTop { method := m, pc := pc, locals := Ls, stack := _ :: rest, locked := none }) _
  jvm_step X.here [X.here.top, hx, hd, hm', hret, hn]
  first | (intro acts; rw [hl _ acts rfl rfl rfl]) | rw [hl _ _ rfl rfl rfl]
  exact Steps.refl _
end New
end Jvm.RoadKit
namespace Jvm.Pilot.@@N@@
open Jvm Jvm.ClassFile Sem Op Lib Jvm.Free Jvm.Stand Jvm.LawKit Jvm.RoadKit Bundle Jvm.Pilot.@@N@@.Jvm.D
theorem own_s (va : Int32) (h0 : 0 ≤ va.toInt) (h1 : ¬ va = 0) (h2 : ¬ (63 : Int32) < va) : ((if va < 63 then ((1 : Int64) <<< (va &&& 0x3f).toInt64) - (1 : Int64) else 9223372036854775807) = (2 : Int64) * (if (va - (1 : Int32)) < 63 then ((1 : Int64) <<< ((va - (1 : Int32)) &&& 0x3f).toInt64) - (1 : Int64) else 9223372036854775807) + (1 : Int64)) ∧ (if (va - (1 : Int32)) < 63 then ((1 : Int64) <<< ((va - (1 : Int32)) &&& 0x3f).toInt64) - (1 : Int64) else 9223372036854775807 : Int64) < (if va < 63 then ((1 : Int64) <<< (va &&& 0x3f).toInt64) - (1 : Int64) else 9223372036854775807) := by
  have h3 : ¬ (63 : Int32).toInt < va.toInt := fun q => h2 (Int32.lt_iff_toInt_lt.mpr q)
  have e63 : (63 : Int32).toInt = 63 := by decide
  have h4 : va.toInt ≠ 0 := fun q => h1 (Int32.toInt_inj.mp q)
  have hall : ∀ k : Fin 64, k.1 ≠ 0 → (fun va : Int32 => ((if va < 63 then ((1 : Int64) <<< (va &&& 0x3f).toInt64) - (1 : Int64) else 9223372036854775807) = (2 : Int64) * (if (va - (1 : Int32)) < 63 then ((1 : Int64) <<< ((va - (1 : Int32)) &&& 0x3f).toInt64) - (1 : Int64) else 9223372036854775807) + (1 : Int64)) ∧ (if (va - (1 : Int32)) < 63 then ((1 : Int64) <<< ((va - (1 : Int32)) &&& 0x3f).toInt64) - (1 : Int64) else 9223372036854775807 : Int64) < (if va < 63 then ((1 : Int64) <<< (va &&& 0x3f).toInt64) - (1 : Int64) else 9223372036854775807)) (Int32.ofInt (k.1 : Int)) := by decide +kernel
  have hp : va = Int32.ofInt (va.toInt.toNat : Int) := by
    rw [Int.toNat_of_nonneg h0]; exact (Int32.ofInt_toInt va).symm
  rw [hp]
  exact hall ⟨va.toInt.toNat, by omega⟩ (by show va.toInt.toNat ≠ 0; omega)
theorem own_asym {a b : Int32} (h : a < b) (q : b < a) : False := by
  rw [Int32.lt_iff_toInt_lt] at h q; omega
theorem own_n (vm vx z : Int32) (h : z = if (vm &&& (1 : Int32)) = 0 then (vx &&& (2147483647 : Int32)) else (vx &&& (127 : Int32))) : 0 ≤ z.toInt := by
  have a1 := c_mask vx 2147483647 31 (by decide) (by decide)
  have a2 := c_mask vx 127 7 (by decide) (by decide)
  simp only [Nat.reducePow] at a1 a2
  rw [h]; split <;> omega
theorem pn_0 : plainName "com/example/serialscope/serialscope/Choices" = true := by first | (simp [plainName, overriddenIn]; done) | decide +kernel
theorem d_prog_20_method_5_code_0 : decode prog_20_method_5_code 0 = .ok (.iload_n 0, 1) := by decide +kernel
theorem d_prog_20_method_5_code_1 : decode prog_20_method_5_code 1 = .ok (.bipush 63, 2) := by decide +kernel
theorem d_prog_20_method_5_code_3 : decode prog_20_method_5_code 3 = .ok (.if_icmp .ge 11, 3) := by decide +kernel
theorem d_prog_20_method_5_code_6 : decode prog_20_method_5_code 6 = .ok (.lconst 1, 1) := by decide +kernel
theorem d_prog_20_method_5_code_7 : decode prog_20_method_5_code 7 = .ok (.iload_n 0, 1) := by decide +kernel
theorem d_prog_20_method_5_code_8 : decode prog_20_method_5_code 8 = .ok (.lshl, 1) := by decide +kernel
theorem d_prog_20_method_5_code_9 : decode prog_20_method_5_code 9 = .ok (.lconst 1, 1) := by decide +kernel
theorem d_prog_20_method_5_code_10 : decode prog_20_method_5_code 10 = .ok (.lsub, 1) := by decide +kernel
theorem d_prog_20_method_5_code_11 : decode prog_20_method_5_code 11 = .ok (.goto 6, 3) := by decide +kernel
theorem d_prog_20_method_5_code_17 : decode prog_20_method_5_code 17 = .ok (.lreturn, 1) := by decide +kernel
theorem d_prog_20_method_5_code_14 : decode prog_20_method_5_code 14 = .ok (.ldc2_w 67, 3) := by decide +kernel
theorem ef_sc (m : MethodId) (va : Int32) : entryFrame m #[(.int va)] 1 = mkF m 0 #[.val (.int va)] [] := by first | (simp [entryFrame, mkF, argsToLocals, Value.category]; done) | rfl
def Q_sc (Z : State) (va : Int32) (h0 : Heap) (n0 : Nat) (v : Option Value) (h : Heap) (L : List Loc) : Prop := (∃ z : Int64, v = some (.long z) ∧ (z = if va < 63 then ((1 : Int64) <<< (va &&& 0x3f).toInt64) - (1 : Int64) else 9223372036854775807)) ∧ Fr n0 L ∧ h = h0
set_option maxRecDepth 65536 in
set_option maxHeartbeats 40000000 in
theorem rm_sc (l : Launch) (Z : State) (a0 : Array Value) (hw : ∀ d ∈ tables_1, d.before a0 Z = true) (ws : List Jvm.Cond) (va : Int32) (h0 : Heap) (n0 : Nat) (Z0 : n0 ≤ h0.size) :
    MetFree l (⟨"com/example/serialscope/serialscope/Choices", "subsetCount", "(I)J"⟩ : MethodName) (head1 (Jvm.Cond.code (⟨"com/example/serialscope/serialscope/Choices", "subsetCount", "(I)J"⟩ : MethodName) prog_20_method_5_code 1 (some .long) :: ws) ({ frames := 0, cells := 0, slots := 0, locals := 0 } : Room)) (fun a U => a = #[(.int va)] ∧ Z.Warmed39 U.vm ∧ U.heap = h0) (fun _ _ _ _ _ => True) (fun _ U o U' => ∃ v L, o = .returned v ∧ Q_sc Z va h0 n0 v U'.heap L ∧ FrameEnd U o U' L ({ frames := 0, cells := 0, slots := 0, locals := 0 } : Room).cells ({ frames := 0, cells := 0, slots := 0, locals := 0 } : Room).slots) := by
  refine MetFree.of_bodySF (plainFor_of_name pn_0) hisR ?_
  intro p e s m args below meth c s₁ Bd hml0 hP hK
  obtain ⟨rfl, hZ, hh⟩ := hP
  have hx := Bd.exec
  have hby := Bd.bytes
  have hml : c.maxLocals = 1 := hml0
  have hown : s.vm.findClass "com/example/serialscope/serialscope/Choices" = some m.cls := findClass_of_methodNamed Bd.named
  have hnm := (name_of_methodNamed Bd.named Bd.method).1
  have X0 : Stand p l e ({ frames := 0, cells := 0, slots := 0, locals := 0 } : Room) s m #[(.int va)] below meth c s₁ [] 0 0 := Stand.of_body Bd
  have e0 : s₁.heap = h0 := by rw [← hh, Bd.state]; rfl
  have N0 := Fr.nil n0
  have pre0 : ∀ t, Steps p.tables e below (s₁.setTop (mkF m 0 #[.val (.int va)] [])) t → Steps p.tables e below (s₁.setTop (entryFrame m #[(.int va)] 1)) t := fun t k => castTop (ef_sc m va) k
  by_cases h3_1 : va < (63 : Int32)
  · obtain ⟨fs, hr, hrun, hended, hW, hsame⟩ := X0.leave (v := some (.long (((1 : Int64) <<< (va &&& 0x3f).toInt64) - (1 : Int64)))) (fun h => by rw [Bd.returns] at h; cases h)
    refine ⟨_, _, pre0 _ ?_, hrun, hended, _, _, rfl, ?_, ⟨_, rfl⟩, hW, hsame.mono (by decide) (by decide)⟩
    · show Steps p.tables e below (s₁.setTop (mkF m 0 #[.val (.int va)] [])) _
      refine XS.iloadN X0.here hx rfl (hb hby d_prog_20_method_5_code_0) rfl ?_
      show Steps p.tables e below (s₁.setTop (mkF m 1 #[.val (.int va)] [(.int va)])) _
      refine XS.bipush X0.here hx rfl (hb hby d_prog_20_method_5_code_1) ?_
      show Steps p.tables e below (s₁.setTop (mkF m 3 #[.val (.int va)] [(.int (63 : Int32)), (.int va)])) _
      refine XS.icmpNo X0.here hx rfl (hb hby d_prog_20_method_5_code_3) rfl (tlt h3_1).2.1 ?_
      show Steps p.tables e below (s₁.setTop (mkF m 6 #[.val (.int va)] [])) _
      refine XS.lconst X0.here hx rfl (hb hby d_prog_20_method_5_code_6) ?_
      show Steps p.tables e below (s₁.setTop (mkF m 7 #[.val (.int va)] [(.long (1 : Int64))])) _
      refine XS.iloadN X0.here hx rfl (hb hby d_prog_20_method_5_code_7) rfl ?_
      show Steps p.tables e below (s₁.setTop (mkF m 8 #[.val (.int va)] [(.int va), (.long (1 : Int64))])) _
      refine XS.lshl X0.here hx rfl (hb hby d_prog_20_method_5_code_8) rfl ?_
      show Steps p.tables e below (s₁.setTop (mkF m 9 #[.val (.int va)] [(.long ((1 : Int64) <<< (va &&& 0x3f).toInt64))])) _
      refine XS.lconst X0.here hx rfl (hb hby d_prog_20_method_5_code_9) ?_
      show Steps p.tables e below (s₁.setTop (mkF m 10 #[.val (.int va)] [(.long (1 : Int64)), (.long ((1 : Int64) <<< (va &&& 0x3f).toInt64))])) _
      refine XS.lsub X0.here hx rfl (hb hby d_prog_20_method_5_code_10) rfl ?_
      show Steps p.tables e below (s₁.setTop (mkF m 11 #[.val (.int va)] [(.long (((1 : Int64) <<< (va &&& 0x3f).toInt64) - (1 : Int64)))])) _
      refine XS.goto X0.here hx rfl (pc0 := 11) (pc' := 17) rfl (hb hby d_prog_20_method_5_code_11) (by decide) (by decide) ?_
      show Steps p.tables e below (s₁.setTop (mkF m 17 #[.val (.int va)] [(.long (((1 : Int64) <<< (va &&& 0x3f).toInt64) - (1 : Int64)))])) _
      exact X0.lreturnOut hx Bd.returns (hb hby d_prog_20_method_5_code_17) hr
    · show Q_sc Z va h0 n0 _ s₁.heap _
      rw [e0]
      exact ⟨⟨_, rfl, by simp [h3_1]⟩, N0, rfl⟩
  · obtain ⟨fs, hr, hrun, hended, hW, hsame⟩ := X0.leave (v := some (.long (9223372036854775807 : Int64))) (fun h => by rw [Bd.returns] at h; cases h)
    refine ⟨_, _, pre0 _ ?_, hrun, hended, _, _, rfl, ?_, ⟨_, rfl⟩, hW, hsame.mono (by decide) (by decide)⟩
    · show Steps p.tables e below (s₁.setTop (mkF m 0 #[.val (.int va)] [])) _
      refine XS.iloadN X0.here hx rfl (hb hby d_prog_20_method_5_code_0) rfl ?_
      show Steps p.tables e below (s₁.setTop (mkF m 1 #[.val (.int va)] [(.int va)])) _
      refine XS.bipush X0.here hx rfl (hb hby d_prog_20_method_5_code_1) ?_
      show Steps p.tables e below (s₁.setTop (mkF m 3 #[.val (.int va)] [(.int (63 : Int32)), (.int va)])) _
      refine XS.icmpYes X0.here hx rfl (pc0 := 3) (pc' := 14) rfl (hb hby d_prog_20_method_5_code_3) rfl (flt h3_1).2.1 (by decide) (by decide) ?_
      show Steps p.tables e below (s₁.setTop (mkF m 14 #[.val (.int va)] [])) _
      refine X0.ldc2Long hx hown (mvT hZ (hw _ (List.mem_of_getElem? (i := 5) rfl))) (g := (mkF m 14 #[.val (.int va)] [])) rfl (hb hby d_prog_20_method_5_code_14) _ ?_
      show Steps p.tables e below (s₁.setTop (mkF m 17 #[.val (.int va)] [(.long (9223372036854775807 : Int64))])) _
      exact X0.lreturnOut hx Bd.returns (hb hby d_prog_20_method_5_code_17) hr
    · show Q_sc Z va h0 n0 _ s₁.heap _
      rw [e0]
      exact ⟨⟨_, rfl, by simp [h3_1]⟩, N0, rfl⟩
theorem pn_1 : plainName "com/example/serialscope/serialscope/ChoicesSubsetCountPinLaw" = true := by first | (simp [plainName, overriddenIn]; done) | decide +kernel
theorem pd_0 : parseMethodDescriptor "(I)J" = some ⟨[.int], some .long⟩ := by decide +kernel
theorem ef_law (m : MethodId) (vx : Int32) (vm : Int32) : entryFrame m #[(.int vx), (.int vm)] maxLocals = mkF m 0 #[.val (.int vx), .val (.int vm), .unset, .unset, .unset, .unset, .unset] [] := by first | (simp [entryFrame, mkF, argsToLocals, Value.category, maxLocals]; done) | rfl
def Q_law (Z : State) (vx : Int32) (vm : Int32) (h0 : Heap) (n0 : Nat) (v : Option Value) (h : Heap) (L : List Loc) : Prop := v = some (.int 1) ∧ Fr n0 L
set_option maxRecDepth 65536 in
set_option maxHeartbeats 40000000 in
theorem rm_law (l : Launch) (Z : State) (a0 : Array Value) (hw : ∀ d ∈ tables_1, d.before a0 Z = true) (ws : List Jvm.Cond) (vx : Int32) (vm : Int32) (h0 : Heap) (n0 : Nat) (Z0 : n0 ≤ h0.size) :
    MetFree l x (head1 (Jvm.Cond.code x code maxLocals ret :: ws) room_1) (fun a U => a = #[(.int vx), (.int vm)] ∧ Z.Warmed39 U.vm ∧ U.heap = h0) (fun _ _ _ _ _ => True) (fun _ U o U' => ∃ v L, o = .returned v ∧ Q_law Z vx vm h0 n0 v U'.heap L ∧ FrameEnd U o U' L room_1.cells room_1.slots) := by
  refine MetFree.of_bodySF (plainFor_of_name pn_1) hisR ?_
  intro p e s m args below meth c s₁ Bd hml0 hP hK
  obtain ⟨rfl, hZ, hh⟩ := hP
  have hx := Bd.exec
  have hby := Bd.bytes
  have hml : c.maxLocals = 7 := hml0
  have hown : s.vm.findClass "com/example/serialscope/serialscope/ChoicesSubsetCountPinLaw" = some m.cls := findClass_of_methodNamed Bd.named
  have hnm := (name_of_methodNamed Bd.named Bd.method).1
  have X0 : Stand p l e room_1 s m #[(.int vx), (.int vm)] below meth c s₁ [] 0 0 := Stand.of_body Bd
  have e0 : s₁.heap = h0 := by rw [← hh, Bd.state]; rfl
  have N0 := Fr.nil n0
  have pre0 : ∀ t, Steps p.tables e below (s₁.setTop (mkF m 0 #[.val (.int vx), .val (.int vm), .unset, .unset, .unset, .unset, .unset] [])) t → Steps p.tables e below (s₁.setTop (entryFrame m #[(.int vx), (.int vm)] maxLocals)) t := fun t k => castTop (ef_law m vx vm) k
  obtain ⟨z2, hz2⟩ : ∃ z : Int32, z = if (vm &&& (1 : Int32)) = 0 then (vx &&& (2147483647 : Int32)) else (vx &&& (127 : Int32)) := ⟨_, rfl⟩
  have seg2 : ∀ t, Steps p.tables e below (s₁.setTop (mkF m 17 #[.val (.int vx), .val (.int vm), .unset, .unset, .unset, .unset, .unset] [(.int z2)])) t → Steps p.tables e below (s₁.setTop (mkF m 0 #[.val (.int vx), .val (.int vm), .unset, .unset, .unset, .unset, .unset] [])) t := by
    intro t kt
    show Steps p.tables e below (s₁.setTop (mkF m 0 #[.val (.int vx), .val (.int vm), .unset, .unset, .unset, .unset, .unset] [])) _
    refine XS.iloadN X0.here hx rfl (hb hby at_0) rfl ?_
    show Steps p.tables e below (s₁.setTop (mkF m 1 #[.val (.int vx), .val (.int vm), .unset, .unset, .unset, .unset, .unset] [(.int vm)])) _
    refine XS.iconst X0.here hx rfl (hb hby at_1) ?_
    show Steps p.tables e below (s₁.setTop (mkF m 2 #[.val (.int vx), .val (.int vm), .unset, .unset, .unset, .unset, .unset] [(.int (1 : Int32)), (.int vm)])) _
    refine XS.iand X0.here hx rfl (hb hby at_2) rfl ?_
    show Steps p.tables e below (s₁.setTop (mkF m 3 #[.val (.int vx), .val (.int vm), .unset, .unset, .unset, .unset, .unset] [(.int (vm &&& (1 : Int32)))])) _
    by_cases h3_3 : (vm &&& (1 : Int32)) = (0 : Int32)
    · refine XS.ifYes X0.here hx rfl (pc0 := 3) (pc' := 13) rfl (hb hby at_3) rfl ((if0 _ _).trans (teq h3_3).1) (by decide) (by decide) ?_
      show Steps p.tables e below (s₁.setTop (mkF m 13 #[.val (.int vx), .val (.int vm), .unset, .unset, .unset, .unset, .unset] [])) _
      refine XS.iloadN X0.here hx rfl (hb hby at_13) rfl ?_
      show Steps p.tables e below (s₁.setTop (mkF m 14 #[.val (.int vx), .val (.int vm), .unset, .unset, .unset, .unset, .unset] [(.int vx)])) _
      refine X0.ldcInt hx hown (mvT hZ (hw _ (List.mem_of_getElem? (i := 7) rfl))) (g := (mkF m 14 #[.val (.int vx), .val (.int vm), .unset, .unset, .unset, .unset, .unset] [(.int vx)])) rfl (hb hby at_14) _ ?_
      show Steps p.tables e below (s₁.setTop (mkF m 16 #[.val (.int vx), .val (.int vm), .unset, .unset, .unset, .unset, .unset] [(.int (2147483647 : Int32)), (.int vx)])) _
      refine XS.iand X0.here hx rfl (hb hby at_16) rfl ?_
      have qz2 : z2 = (vx &&& (2147483647 : Int32)) := hz2.trans (by simp [h3_3])
      rw [qz2] at kt
      exact kt
    · refine XS.ifNo X0.here hx rfl (hb hby at_3) rfl ((if0 _ _).trans (feq h3_3).1) ?_
      show Steps p.tables e below (s₁.setTop (mkF m 6 #[.val (.int vx), .val (.int vm), .unset, .unset, .unset, .unset, .unset] [])) _
      refine XS.iloadN X0.here hx rfl (hb hby at_6) rfl ?_
      show Steps p.tables e below (s₁.setTop (mkF m 7 #[.val (.int vx), .val (.int vm), .unset, .unset, .unset, .unset, .unset] [(.int vx)])) _
      refine XS.bipush X0.here hx rfl (hb hby at_7) ?_
      show Steps p.tables e below (s₁.setTop (mkF m 9 #[.val (.int vx), .val (.int vm), .unset, .unset, .unset, .unset, .unset] [(.int (127 : Int32)), (.int vx)])) _
      refine XS.iand X0.here hx rfl (hb hby at_9) rfl ?_
      show Steps p.tables e below (s₁.setTop (mkF m 10 #[.val (.int vx), .val (.int vm), .unset, .unset, .unset, .unset, .unset] [(.int (vx &&& (127 : Int32)))])) _
      refine XS.goto X0.here hx rfl (pc0 := 10) (pc' := 17) rfl (hb hby at_10) (by decide) (by decide) ?_
      have qz2 : z2 = (vx &&& (127 : Int32)) := hz2.trans (by simp [h3_3])
      rw [qz2] at kt
      exact kt
  have hz0 := own_n vm vx z2 hz2
  obtain ⟨_, _, ⟨T4, L4, k4, n4⟩, -, X4, ⟨Lc4, hQ4, l4, y4, z4⟩, st4⟩ := Jvm.LawKit.callS X0 hx (y := (⟨"com/example/serialscope/serialscope/Choices", "subsetCount", "(I)J"⟩ : MethodName)) hown (mvT hZ (hw _ (List.mem_of_getElem? (i := 0) rfl))) (mvT hZ (hw _ (List.mem_of_getElem? (i := 1) rfl))) (mvT hZ (hw _ (List.mem_of_getElem? (i := 2) rfl))) (mvT hZ (hw _ (List.mem_of_getElem? (i := 3) rfl))) (by decide) (backOf (W := 0) (rm_sc l Z a0 hw [] z2 h0 n0 Z0 ) hZ (hw _ (List.mem_of_getElem? (i := 3) rfl)) (hw _ (List.mem_of_getElem? (i := 2) rfl)) (by decide) (by decide)) (g := (mkF m 19 #[.val (.int vx), .val (.int vm), .val (.int z2), .unset, .unset, .unset, .unset] [(.int z2)])) rfl (by rw [hml]; rfl) (argsL := [(.int z2)]) (rest := []) (lenOf pd_0 rfl) rfl (by show 2 * 0 + _ ≤ _; exact Nat.le_of_eq rfl) (hb hby at_19) (fun _ _ => ⟨rfl, e0, (by decide : 0 + 0 ≤ _), (by decide : 0 + 0 ≤ _)⟩)
  dsimp only [Pt.U, Pt.locs, Pt.cells, Pt.slots] at X4 l4 y4 z4 st4 hQ4
  subst l4 y4 z4
  obtain ⟨⟨r4, rfl, hr4⟩, N4q, e4⟩ := hQ4
  have N4 := Fr.app N0 N4q
  by_cases h24_5 : z2 = (0 : Int32)
  · obtain ⟨fs, hr, hrun, hended, hW, hsame⟩ := X4.leave (v := some (.int (1 : Int32))) (fun h => by rw [Bd.returns] at h; cases h)
    refine ⟨_, _, pre0 _ ?_, hrun, hended, _, _, rfl, ?_, ⟨_, rfl⟩, hW, hsame.mono (by decide) (by decide)⟩
    · show Steps p.tables e below (s₁.setTop (mkF m 0 #[.val (.int vx), .val (.int vm), .unset, .unset, .unset, .unset, .unset] [])) _
      refine seg2 _ ?_
      show Steps p.tables e below (s₁.setTop (mkF m 17 #[.val (.int vx), .val (.int vm), .unset, .unset, .unset, .unset, .unset] [(.int z2)])) _
      refine XS.istoreN X0.here hx rfl (hb hby at_17) rfl (l' := #[.val (.int vx), .val (.int vm), .val (.int z2), .unset, .unset, .unset, .unset]) rfl ?_
      show Steps p.tables e below (s₁.setTop (mkF m 18 #[.val (.int vx), .val (.int vm), .val (.int z2), .unset, .unset, .unset, .unset] [])) _
      refine XS.iloadN X0.here hx rfl (hb hby at_18) rfl ?_
      show Steps p.tables e below (s₁.setTop (mkF m 19 #[.val (.int vx), .val (.int vm), .val (.int z2), .unset, .unset, .unset, .unset] [(.int z2)])) _
      refine st4 _ ?_
      show Steps p.tables e below (T4.setTop (mkF m 22 #[.val (.int vx), .val (.int vm), .val (.int z2), .unset, .unset, .unset, .unset] [(.long r4)])) _
      refine XS.lstoreN X4.here hx rfl (hb hby at_22) rfl (l' := #[.val (.int vx), .val (.int vm), .val (.int z2), .val (.long r4), .second, .unset, .unset]) rfl ?_
      show Steps p.tables e below (T4.setTop (mkF m 23 #[.val (.int vx), .val (.int vm), .val (.int z2), .val (.long r4), .second, .unset, .unset] [])) _
      refine XS.iloadN X4.here hx rfl (hb hby at_23) rfl ?_
      show Steps p.tables e below (T4.setTop (mkF m 24 #[.val (.int vx), .val (.int vm), .val (.int z2), .val (.long r4), .second, .unset, .unset] [(.int z2)])) _
      refine XS.ifNo X4.here hx rfl (hb hby at_24) rfl ((if0 _ _).trans (teq h24_5).2) ?_
      show Steps p.tables e below (T4.setTop (mkF m 27 #[.val (.int vx), .val (.int vm), .val (.int z2), .val (.long r4), .second, .unset, .unset] [])) _
      refine XS.lloadN X4.here hx rfl (hb hby at_27) rfl ?_
      show Steps p.tables e below (T4.setTop (mkF m 28 #[.val (.int vx), .val (.int vm), .val (.int z2), .val (.long r4), .second, .unset, .unset] [(.long r4)])) _
      refine XS.lconst X4.here hx rfl (hb hby at_28) ?_
      show Steps p.tables e below (T4.setTop (mkF m 29 #[.val (.int vx), .val (.int vm), .val (.int z2), .val (.long r4), .second, .unset, .unset] [(.long (0 : Int64)), (.long r4)])) _
      refine XS.lcmp X4.here hx rfl (hb hby at_29) rfl ?_
      show Steps p.tables e below (T4.setTop (mkF m 30 #[.val (.int vx), .val (.int vm), .val (.int z2), .val (.long r4), .second, .unset, .unset] [(.int (lcmpW r4 (0 : Int64)))])) _
      refine XS.ifNo X4.here hx rfl (hb hby at_30) rfl ((if0 _ _).trans (teq ((lw_eq _ _).mpr (hr4.trans (by rw [h24_5]; decide) : r4 = (0 : Int64)))).2) ?_
      show Steps p.tables e below (T4.setTop (mkF m 33 #[.val (.int vx), .val (.int vm), .val (.int z2), .val (.long r4), .second, .unset, .unset] [])) _
      refine XS.iconst X4.here hx rfl (hb hby at_33) ?_
      show Steps p.tables e below (T4.setTop (mkF m 34 #[.val (.int vx), .val (.int vm), .val (.int z2), .val (.long r4), .second, .unset, .unset] [(.int (1 : Int32))])) _
      refine XS.goto X4.here hx rfl (pc0 := 34) (pc' := 38) rfl (hb hby at_34) (by decide) (by decide) ?_
      show Steps p.tables e below (T4.setTop (mkF m 38 #[.val (.int vx), .val (.int vm), .val (.int z2), .val (.long r4), .second, .unset, .unset] [(.int (1 : Int32))])) _
      exact retN X4 hx (t := .boolean) Bd.returns (by simp) (hb hby at_38) hr
    · show Q_law Z vx vm h0 n0 _ T4.heap _
      rw [e4]
      exact ⟨rfl, N4⟩
  · by_cases h42_6 : (63 : Int32) < z2
    · obtain ⟨fs, hr, hrun, hended, hW, hsame⟩ := X4.leave (v := some (.int (1 : Int32))) (fun h => by rw [Bd.returns] at h; cases h)
      refine ⟨_, _, pre0 _ ?_, hrun, hended, _, _, rfl, ?_, ⟨_, rfl⟩, hW, hsame.mono (by decide) (by decide)⟩
      · show Steps p.tables e below (s₁.setTop (mkF m 0 #[.val (.int vx), .val (.int vm), .unset, .unset, .unset, .unset, .unset] [])) _
        refine seg2 _ ?_
        show Steps p.tables e below (s₁.setTop (mkF m 17 #[.val (.int vx), .val (.int vm), .unset, .unset, .unset, .unset, .unset] [(.int z2)])) _
        refine XS.istoreN X0.here hx rfl (hb hby at_17) rfl (l' := #[.val (.int vx), .val (.int vm), .val (.int z2), .unset, .unset, .unset, .unset]) rfl ?_
        show Steps p.tables e below (s₁.setTop (mkF m 18 #[.val (.int vx), .val (.int vm), .val (.int z2), .unset, .unset, .unset, .unset] [])) _
        refine XS.iloadN X0.here hx rfl (hb hby at_18) rfl ?_
        show Steps p.tables e below (s₁.setTop (mkF m 19 #[.val (.int vx), .val (.int vm), .val (.int z2), .unset, .unset, .unset, .unset] [(.int z2)])) _
        refine st4 _ ?_
        show Steps p.tables e below (T4.setTop (mkF m 22 #[.val (.int vx), .val (.int vm), .val (.int z2), .unset, .unset, .unset, .unset] [(.long r4)])) _
        refine XS.lstoreN X4.here hx rfl (hb hby at_22) rfl (l' := #[.val (.int vx), .val (.int vm), .val (.int z2), .val (.long r4), .second, .unset, .unset]) rfl ?_
        show Steps p.tables e below (T4.setTop (mkF m 23 #[.val (.int vx), .val (.int vm), .val (.int z2), .val (.long r4), .second, .unset, .unset] [])) _
        refine XS.iloadN X4.here hx rfl (hb hby at_23) rfl ?_
        show Steps p.tables e below (T4.setTop (mkF m 24 #[.val (.int vx), .val (.int vm), .val (.int z2), .val (.long r4), .second, .unset, .unset] [(.int z2)])) _
        refine XS.ifYes X4.here hx rfl (pc0 := 24) (pc' := 39) rfl (hb hby at_24) rfl ((if0 _ _).trans (feq h24_5).2) (by decide) (by decide) ?_
        show Steps p.tables e below (T4.setTop (mkF m 39 #[.val (.int vx), .val (.int vm), .val (.int z2), .val (.long r4), .second, .unset, .unset] [])) _
        refine XS.iloadN X4.here hx rfl (hb hby at_39) rfl ?_
        show Steps p.tables e below (T4.setTop (mkF m 40 #[.val (.int vx), .val (.int vm), .val (.int z2), .val (.long r4), .second, .unset, .unset] [(.int z2)])) _
        refine XS.bipush X4.here hx rfl (hb hby at_40) ?_
        show Steps p.tables e below (T4.setTop (mkF m 42 #[.val (.int vx), .val (.int vm), .val (.int z2), .val (.long r4), .second, .unset, .unset] [(.int (63 : Int32)), (.int z2)])) _
        refine XS.icmpYes X4.here hx rfl (pc0 := 42) (pc' := 79) rfl (hb hby at_42) rfl (tlt h42_6).2.2.1 (by decide) (by decide) ?_
        show Steps p.tables e below (T4.setTop (mkF m 79 #[.val (.int vx), .val (.int vm), .val (.int z2), .val (.long r4), .second, .unset, .unset] [])) _
        refine XS.lloadN X4.here hx rfl (hb hby at_79) rfl ?_
        show Steps p.tables e below (T4.setTop (mkF m 80 #[.val (.int vx), .val (.int vm), .val (.int z2), .val (.long r4), .second, .unset, .unset] [(.long r4)])) _
        refine X4.ldc2Long hx hown (mvT hZ (hw _ (List.mem_of_getElem? (i := 6) rfl))) (g := (mkF m 80 #[.val (.int vx), .val (.int vm), .val (.int z2), .val (.long r4), .second, .unset, .unset] [(.long r4)])) rfl (hb hby at_80) _ ?_
        show Steps p.tables e below (T4.setTop (mkF m 83 #[.val (.int vx), .val (.int vm), .val (.int z2), .val (.long r4), .second, .unset, .unset] [(.long (9223372036854775807 : Int64)), (.long r4)])) _
        refine XS.lcmp X4.here hx rfl (hb hby at_83) rfl ?_
        show Steps p.tables e below (T4.setTop (mkF m 84 #[.val (.int vx), .val (.int vm), .val (.int z2), .val (.long r4), .second, .unset, .unset] [(.int (lcmpW r4 (9223372036854775807 : Int64)))])) _
        refine XS.ifNo X4.here hx rfl (hb hby at_84) rfl ((if0 _ _).trans (teq ((lw_eq _ _).mpr (hr4.trans (if_neg (fun q => own_asym q h42_6)) : r4 = (9223372036854775807 : Int64)))).2) ?_
        show Steps p.tables e below (T4.setTop (mkF m 87 #[.val (.int vx), .val (.int vm), .val (.int z2), .val (.long r4), .second, .unset, .unset] [])) _
        refine XS.iconst X4.here hx rfl (hb hby at_87) ?_
        show Steps p.tables e below (T4.setTop (mkF m 88 #[.val (.int vx), .val (.int vm), .val (.int z2), .val (.long r4), .second, .unset, .unset] [(.int (1 : Int32))])) _
        refine XS.goto X4.here hx rfl (pc0 := 88) (pc' := 92) rfl (hb hby at_88) (by decide) (by decide) ?_
        show Steps p.tables e below (T4.setTop (mkF m 92 #[.val (.int vx), .val (.int vm), .val (.int z2), .val (.long r4), .second, .unset, .unset] [(.int (1 : Int32))])) _
        exact retN X4 hx (t := .boolean) Bd.returns (by simp) (hb hby at_92) hr
      · show Q_law Z vx vm h0 n0 _ T4.heap _
        rw [e4]
        exact ⟨rfl, N4⟩
    · obtain ⟨_, _, ⟨T7, L7, k7, n7⟩, -, X7, ⟨Lc7, hQ7, l7, y7, z7⟩, st7⟩ := Jvm.LawKit.callS X4 hx (y := (⟨"com/example/serialscope/serialscope/Choices", "subsetCount", "(I)J"⟩ : MethodName)) hown (mvT hZ (hw _ (List.mem_of_getElem? (i := 0) rfl))) (mvT hZ (hw _ (List.mem_of_getElem? (i := 1) rfl))) (mvT hZ (hw _ (List.mem_of_getElem? (i := 2) rfl))) (mvT hZ (hw _ (List.mem_of_getElem? (i := 3) rfl))) (by decide) (backOf (W := 0) (rm_sc l Z a0 hw [] (z2 - (1 : Int32)) h0 n0 Z0 ) hZ (hw _ (List.mem_of_getElem? (i := 3) rfl)) (hw _ (List.mem_of_getElem? (i := 2) rfl)) (by decide) (by decide)) (g := (mkF m 48 #[.val (.int vx), .val (.int vm), .val (.int z2), .val (.long r4), .second, .unset, .unset] [(.int (z2 - (1 : Int32)))])) rfl (by rw [hml]; rfl) (argsL := [(.int (z2 - (1 : Int32)))]) (rest := []) (lenOf pd_0 rfl) rfl (by show 2 * 0 + _ ≤ _; exact Nat.le_of_eq rfl) (hb hby at_48) (fun _ _ => ⟨rfl, e4, (by decide : 0 + 0 ≤ _), (by decide : 0 + 0 ≤ _)⟩)
      dsimp only [Pt.U, Pt.locs, Pt.cells, Pt.slots] at X7 l7 y7 z7 st7 hQ7
      subst l7 y7 z7
      obtain ⟨⟨r7, rfl, hr7⟩, N7q, e7⟩ := hQ7
      have N7 := Fr.app N4 N7q
      obtain ⟨fs, hr, hrun, hended, hW, hsame⟩ := X7.leave (v := some (.int (1 : Int32))) (fun h => by rw [Bd.returns] at h; cases h)
      refine ⟨_, _, pre0 _ ?_, hrun, hended, _, _, rfl, ?_, ⟨_, rfl⟩, hW, hsame.mono (by decide) (by decide)⟩
      · show Steps p.tables e below (s₁.setTop (mkF m 0 #[.val (.int vx), .val (.int vm), .unset, .unset, .unset, .unset, .unset] [])) _
        refine seg2 _ ?_
        show Steps p.tables e below (s₁.setTop (mkF m 17 #[.val (.int vx), .val (.int vm), .unset, .unset, .unset, .unset, .unset] [(.int z2)])) _
        refine XS.istoreN X0.here hx rfl (hb hby at_17) rfl (l' := #[.val (.int vx), .val (.int vm), .val (.int z2), .unset, .unset, .unset, .unset]) rfl ?_
        show Steps p.tables e below (s₁.setTop (mkF m 18 #[.val (.int vx), .val (.int vm), .val (.int z2), .unset, .unset, .unset, .unset] [])) _
        refine XS.iloadN X0.here hx rfl (hb hby at_18) rfl ?_
        show Steps p.tables e below (s₁.setTop (mkF m 19 #[.val (.int vx), .val (.int vm), .val (.int z2), .unset, .unset, .unset, .unset] [(.int z2)])) _
        refine st4 _ ?_
        show Steps p.tables e below (T4.setTop (mkF m 22 #[.val (.int vx), .val (.int vm), .val (.int z2), .unset, .unset, .unset, .unset] [(.long r4)])) _
        refine XS.lstoreN X4.here hx rfl (hb hby at_22) rfl (l' := #[.val (.int vx), .val (.int vm), .val (.int z2), .val (.long r4), .second, .unset, .unset]) rfl ?_
        show Steps p.tables e below (T4.setTop (mkF m 23 #[.val (.int vx), .val (.int vm), .val (.int z2), .val (.long r4), .second, .unset, .unset] [])) _
        refine XS.iloadN X4.here hx rfl (hb hby at_23) rfl ?_
        show Steps p.tables e below (T4.setTop (mkF m 24 #[.val (.int vx), .val (.int vm), .val (.int z2), .val (.long r4), .second, .unset, .unset] [(.int z2)])) _
        refine XS.ifYes X4.here hx rfl (pc0 := 24) (pc' := 39) rfl (hb hby at_24) rfl ((if0 _ _).trans (feq h24_5).2) (by decide) (by decide) ?_
        show Steps p.tables e below (T4.setTop (mkF m 39 #[.val (.int vx), .val (.int vm), .val (.int z2), .val (.long r4), .second, .unset, .unset] [])) _
        refine XS.iloadN X4.here hx rfl (hb hby at_39) rfl ?_
        show Steps p.tables e below (T4.setTop (mkF m 40 #[.val (.int vx), .val (.int vm), .val (.int z2), .val (.long r4), .second, .unset, .unset] [(.int z2)])) _
        refine XS.bipush X4.here hx rfl (hb hby at_40) ?_
        show Steps p.tables e below (T4.setTop (mkF m 42 #[.val (.int vx), .val (.int vm), .val (.int z2), .val (.long r4), .second, .unset, .unset] [(.int (63 : Int32)), (.int z2)])) _
        refine XS.icmpNo X4.here hx rfl (hb hby at_42) rfl (flt h42_6).2.2.1 ?_
        show Steps p.tables e below (T4.setTop (mkF m 45 #[.val (.int vx), .val (.int vm), .val (.int z2), .val (.long r4), .second, .unset, .unset] [])) _
        refine XS.iloadN X4.here hx rfl (hb hby at_45) rfl ?_
        show Steps p.tables e below (T4.setTop (mkF m 46 #[.val (.int vx), .val (.int vm), .val (.int z2), .val (.long r4), .second, .unset, .unset] [(.int z2)])) _
        refine XS.iconst X4.here hx rfl (hb hby at_46) ?_
        show Steps p.tables e below (T4.setTop (mkF m 47 #[.val (.int vx), .val (.int vm), .val (.int z2), .val (.long r4), .second, .unset, .unset] [(.int (1 : Int32)), (.int z2)])) _
        refine XS.isub X4.here hx rfl (hb hby at_47) rfl ?_
        show Steps p.tables e below (T4.setTop (mkF m 48 #[.val (.int vx), .val (.int vm), .val (.int z2), .val (.long r4), .second, .unset, .unset] [(.int (z2 - (1 : Int32)))])) _
        refine st7 _ ?_
        show Steps p.tables e below (T7.setTop (mkF m 51 #[.val (.int vx), .val (.int vm), .val (.int z2), .val (.long r4), .second, .unset, .unset] [(.long r7)])) _
        refine XS.lstore X7.here hx rfl (hb hby at_51) rfl (l' := #[.val (.int vx), .val (.int vm), .val (.int z2), .val (.long r4), .second, .val (.long r7), .second]) rfl ?_
        show Steps p.tables e below (T7.setTop (mkF m 53 #[.val (.int vx), .val (.int vm), .val (.int z2), .val (.long r4), .second, .val (.long r7), .second] [])) _
        refine XS.lloadN X7.here hx rfl (hb hby at_53) rfl ?_
        show Steps p.tables e below (T7.setTop (mkF m 54 #[.val (.int vx), .val (.int vm), .val (.int z2), .val (.long r4), .second, .val (.long r7), .second] [(.long r4)])) _
        refine X7.ldc2Long hx hown (mvT hZ (hw _ (List.mem_of_getElem? (i := 4) rfl))) (g := (mkF m 54 #[.val (.int vx), .val (.int vm), .val (.int z2), .val (.long r4), .second, .val (.long r7), .second] [(.long r4)])) rfl (hb hby at_54) _ ?_
        show Steps p.tables e below (T7.setTop (mkF m 57 #[.val (.int vx), .val (.int vm), .val (.int z2), .val (.long r4), .second, .val (.long r7), .second] [(.long (2 : Int64)), (.long r4)])) _
        refine XS.lload X7.here hx rfl (hb hby at_57) rfl ?_
        show Steps p.tables e below (T7.setTop (mkF m 59 #[.val (.int vx), .val (.int vm), .val (.int z2), .val (.long r4), .second, .val (.long r7), .second] [(.long r7), (.long (2 : Int64)), (.long r4)])) _
        refine XS.lmul X7.here hx rfl (hb hby at_59) rfl ?_
        show Steps p.tables e below (T7.setTop (mkF m 60 #[.val (.int vx), .val (.int vm), .val (.int z2), .val (.long r4), .second, .val (.long r7), .second] [(.long ((2 : Int64) * r7)), (.long r4)])) _
        refine XS.lconst X7.here hx rfl (hb hby at_60) ?_
        show Steps p.tables e below (T7.setTop (mkF m 61 #[.val (.int vx), .val (.int vm), .val (.int z2), .val (.long r4), .second, .val (.long r7), .second] [(.long (1 : Int64)), (.long ((2 : Int64) * r7)), (.long r4)])) _
        refine XS.ladd X7.here hx rfl (hb hby at_61) rfl ?_
        show Steps p.tables e below (T7.setTop (mkF m 62 #[.val (.int vx), .val (.int vm), .val (.int z2), .val (.long r4), .second, .val (.long r7), .second] [(.long (((2 : Int64) * r7) + (1 : Int64))), (.long r4)])) _
        refine XS.lcmp X7.here hx rfl (hb hby at_62) rfl ?_
        show Steps p.tables e below (T7.setTop (mkF m 63 #[.val (.int vx), .val (.int vm), .val (.int z2), .val (.long r4), .second, .val (.long r7), .second] [(.int (lcmpW r4 (((2 : Int64) * r7) + (1 : Int64))))])) _
        refine XS.ifNo X7.here hx rfl (hb hby at_63) rfl ((if0 _ _).trans (teq ((lw_eq _ _).mpr (by rw [hr4, hr7]; exact (own_s z2 hz0 h24_5 h42_6).1 : r4 = (((2 : Int64) * r7) + (1 : Int64))))).2) ?_
        show Steps p.tables e below (T7.setTop (mkF m 66 #[.val (.int vx), .val (.int vm), .val (.int z2), .val (.long r4), .second, .val (.long r7), .second] [])) _
        refine XS.lloadN X7.here hx rfl (hb hby at_66) rfl ?_
        show Steps p.tables e below (T7.setTop (mkF m 67 #[.val (.int vx), .val (.int vm), .val (.int z2), .val (.long r4), .second, .val (.long r7), .second] [(.long r4)])) _
        refine XS.lload X7.here hx rfl (hb hby at_67) rfl ?_
        show Steps p.tables e below (T7.setTop (mkF m 69 #[.val (.int vx), .val (.int vm), .val (.int z2), .val (.long r4), .second, .val (.long r7), .second] [(.long r7), (.long r4)])) _
        refine XS.lcmp X7.here hx rfl (hb hby at_69) rfl ?_
        show Steps p.tables e below (T7.setTop (mkF m 70 #[.val (.int vx), .val (.int vm), .val (.int z2), .val (.long r4), .second, .val (.long r7), .second] [(.int (lcmpW r4 r7))])) _
        refine XS.ifNo X7.here hx rfl (hb hby at_70) rfl ((if0 _ _).trans (tlt ((lw_gt _ _).mpr (by rw [hr4, hr7]; exact (own_s z2 hz0 h24_5 h42_6).2 : r7 < r4))).2.2.2) ?_
        show Steps p.tables e below (T7.setTop (mkF m 73 #[.val (.int vx), .val (.int vm), .val (.int z2), .val (.long r4), .second, .val (.long r7), .second] [])) _
        refine XS.iconst X7.here hx rfl (hb hby at_73) ?_
        show Steps p.tables e below (T7.setTop (mkF m 74 #[.val (.int vx), .val (.int vm), .val (.int z2), .val (.long r4), .second, .val (.long r7), .second] [(.int (1 : Int32))])) _
        refine XS.goto X7.here hx rfl (pc0 := 74) (pc' := 78) rfl (hb hby at_74) (by decide) (by decide) ?_
        show Steps p.tables e below (T7.setTop (mkF m 78 #[.val (.int vx), .val (.int vm), .val (.int z2), .val (.long r4), .second, .val (.long r7), .second] [(.int (1 : Int32))])) _
        exact retN X7 hx (t := .boolean) Bd.returns (by simp) (hb hby at_78) hr
      · show Q_law Z vx vm h0 n0 _ T7.heap _
        rw [e7]
        exact ⟨rfl, N7⟩
set_option maxRecDepth 65536 in
set_option maxHeartbeats 40000000 in
theorem comes_1 {Post : Tables → Env → Array Value → State → Outcome → State → Prop} (hpost : ∀ tb e args s v u, (limb_1_1.after args s (.returned v) u = true ∧ limb_1_2.after args s (.returned v) u = true ∧ True) → FrameEnd s (.returned v) u (Jvm.fieldLocs frame_1_writes args s ++ Jvm.arrayLocs frame_1_arrays args s ++ Jvm.staticLocs frame_1_statics s) 0 0 → Post tb e args s (.returned v) u) :
    ArmFor flags0 classFile x code maxLocals ret World_1 tables_1 room_1 Calls_1 rest_1 Pre_1 Post := by
  intro l hfl _ _ p e ha hc hk s m args below hf hA hF happ hP
  obtain ⟨hcalls, hrest, hpre⟩ := hP
  obtain ⟨-, -, -, hnamed, -, -, -, hat⟩ := (Spec.applies_iff hf).mp happ
  obtain ⟨hg, hn⟩ := and_e (Cond.before_iff.mp (show (Jvm.Cond.and given_1 narrow_1).before args s = true from hpre))
  obtain ⟨hg0, hr0⟩ := and_e hg
  obtain ⟨ha0, hr1⟩ := and_e hr0
  obtain ⟨w0, w1, rfl⟩ : ∃ w0 w1 : Value, args = #[w0, w1] := by
    have hs : args.size = 2 := by simpa [Cond.value, given_1] using hg0
    obtain ⟨L⟩ := args
    match L, hs with
    | [w0, w1], _ => exact ⟨w0, w1, rfl⟩
  have hw := fun d (hd : d ∈ tables_1) => atoms_spec (ws := Jvm.Cond.code x code maxLocals ret :: tables_1) hat d (List.mem_cons_of_mem _ hd)
  obtain ⟨i0, ei0⟩ := is_v ha0
  obtain rfl : w0 = (.int i0) := Option.some.inj ei0
  obtain ⟨i1, ei1⟩ := is_v hr1
  obtain rfl : w1 = (.int i1) := Option.some.inj ei1
  obtain ⟨n, o, h1, h2, h3, _, L, rfl, ⟨rfl, N⟩, hq⟩ := rm_law l s _ hw tables_1 i0 i1 s.heap s.heap.size (Nat.le_refl _)  p e ha hc hk s m _ below hf ((Spec.applies_iff_loose hf).mp happ).1 ⟨rfl, State.Warmed39.refl s, rfl⟩ trivial
  refine ⟨n, _, h1, h2, h3, hpost _ _ _ _ _ _ ⟨Cond.after_iff.mpr rfl, Cond.after_iff.mpr (eq_i res_at (Term.int_eval (1)) rfl), trivial⟩ ⟨hq.1, hq.2.1, (hq.2.2.sift fun y hy => Or.inr (N y hy)).mono (by decide) (by decide)⟩⟩
theorem main_1_1 : Claimed_1_1 := comes_1 fun _ _ _ _ _ _ h hF => ⟨h.1, hF⟩
theorem main_1_2 : Claimed_1_2 := comes_1 fun _ _ _ _ _ _ h hF => ⟨h.2.1, hF⟩
end Jvm.Pilot.@@N@@
namespace Jvm.Pilot.@@N@@
open Jvm Jvm.ClassFile Sem Op Lib Jvm.Free Jvm.Stand Jvm.Pilot.@@N@@.Jvm.D
/-! MADE BY PROGRAM (witnessworld.py) out of the Statement's table words and the real class files: 9 classes; the members and pool entries that the words name. The judged class is class 1, her method 1. -/
namespace start1
open Jvm.ClassFile
def u (s : String) : CpInfo := .utf8 (stringToUtf16 s)
/-- a pool by its gaps: so many unusable entries, then the entry; so many at the end -/
def gap : Nat → List CpInfo → List CpInfo
  | 0, r => r
  | n + 1, r => .unusable :: gap n r
def poolList (es : List (Nat × CpInfo)) (last : Nat) : List CpInfo := es.foldr (fun e r => gap e.1 (e.2 :: r)) (gap last [])
def pool (es : List (Nat × CpInfo)) (last : Nat) : Array CpInfo := ⟨poolList es last⟩
def fileOf (pool : Array CpInfo) (this : Nat) (attrs : Array Attribute := #[]) (ms : Array MethodInfo := #[]) (fl : Nat := 33) (sup : Nat := 0) (ifs : Array Nat := #[]) (fds : Array FieldInfo := #[]) : ClassFile where
  minorVersion := 0
  majorVersion := 65
  constantPool := pool
  accessFlags := fl
  thisClass := this
  superClass := sup
  interfaces := ifs
  fields := fds
  methods := ms
  attributes := attrs
def plain (name : String) (sup : Option ClassId) : Class where
  name := name
  kind := .ordinary
  loader := none
  accessFlags := 33
  super := sup
  interfaces := #[]
  cf := none
  fields := #[]
  methods := #[]
  instanceTypes := #[]
  staticTypes := #[]
  resolved := #[]
  callSites := []
  init := .initialized
  statics := none
  mirror := none

def pool0 : Array CpInfo := pool [(5, u "<init>"), (0, u "()V"), (1, .class_ 10), (1, u "java/lang/Object")] 113

def k0m0 : Method := { name := "<init>", desc := "()V", sig := { parameters := [], returnType := none }, accessFlags := 1, code := none }
/-- java/lang/Object -/
def k0 : Class := { plain "java/lang/Object" none with
  accessFlags := 33
  interfaces := #[]
  cf := some (fileOf pool0 8 #[] #[{ accessFlags := 1, nameIndex := 5, descriptorIndex := 6, attributes := #[] }] 33 0 #[] #[])
  fields := #[]
  methods := #[k0m0]
  instanceTypes := #[]
  staticTypes := #[]
  resolved := Array.replicate 124 none
  statics := none }

def pool1 : Array CpInfo := pool [(2, .class_ 4), (1, u "java/lang/Object"), (0, u "<init>"), (0, u "()V"), (0, .integer 2147483647), (0, .methodref 9 10), (0, .class_ 11), (0, .nameAndType 12 13), (0, u "com/example/serialscope/serialscope/Choices"), (0, u "subsetCount"), (0, u "(I)J"), (0, .long 2), (3, .long 9223372036854775807), (1, .class_ 21), (0, u "com/example/serialscope/serialscope/ChoicesSubsetCountPinLaw"), (2, u "law"), (0, u "(II)Z")] 3

def k1m0 : Method := { name := "<init>", desc := "()V", sig := { parameters := [], returnType := none }, accessFlags := 2, code := none }
def k1c1 : Code := { maxStack := 6, maxLocals := 7, code := code, exceptionTable := #[], attributes := #[] }
def k1m1 : Method := { name := "law", desc := "(II)Z", sig := { parameters := [.int, .int], returnType := some .boolean }, accessFlags := 9, code := some k1c1 }
/-- com/example/serialscope/serialscope/ChoicesSubsetCountPinLaw -/
def k1 : Class := { plain "com/example/serialscope/serialscope/ChoicesSubsetCountPinLaw" (some 0) with
  accessFlags := 49
  interfaces := #[]
  cf := some (fileOf pool1 20 #[] #[{ accessFlags := 2, nameIndex := 5, descriptorIndex := 6, attributes := #[] }, { accessFlags := 9, nameIndex := 24, descriptorIndex := 25, attributes := #[] }] 49 2 #[] #[])
  fields := #[]
  methods := #[k1m0, k1m1]
  instanceTypes := #[]
  staticTypes := #[]
  resolved := Array.replicate 29 none
  statics := none }

def pool2 : Array CpInfo := pool [(2, .class_ 4), (1, u "java/lang/Object"), (0, u "<init>"), (0, u "()V"), (28, .class_ 37), (1, u "com/example/serialscope/serialscope/Choices"), (29, .long 9223372036854775807), (24, u "subsetCount"), (0, u "(I)J"), (11, .class_ 106), (0, u "com/example/serialscope/serialscope/Choices$Cut"), (0, .class_ 108), (0, u "com/example/serialscope/serialscope/Choices$Cut$Tie")] 3

def k2m0 : Method := { name := "<init>", desc := "()V", sig := { parameters := [], returnType := none }, accessFlags := 2, code := none }
def k2c1 : Code := { maxStack := 4, maxLocals := 1, code := prog_20_method_5_code, exceptionTable := #[], attributes := #[] }
def k2m1 : Method := { name := "subsetCount", desc := "(I)J", sig := { parameters := [.int], returnType := some .long }, accessFlags := 8, code := some k2c1 }
/-- com/example/serialscope/serialscope/Choices -/
def k2 : Class := { plain "com/example/serialscope/serialscope/Choices" (some 0) with
  accessFlags := 48
  interfaces := #[]
  cf := some (fileOf pool2 35 #[.nestMembers #[105, 107]] #[{ accessFlags := 2, nameIndex := 5, descriptorIndex := 6, attributes := #[] }, { accessFlags := 8, nameIndex := 92, descriptorIndex := 93, attributes := #[] }] 48 2 #[] #[])
  fields := #[]
  methods := #[k2m0, k2m1]
  instanceTypes := #[]
  staticTypes := #[]
  resolved := Array.replicate 112 none
  statics := none }

def pool3 : Array CpInfo := pool [(1, u "java/lang/Cloneable"), (0, .class_ 1), (0, u "java/lang/Object"), (0, .class_ 3)] 3

/-- java/lang/Cloneable -/
def k3 : Class := { plain "java/lang/Cloneable" (some 0) with
  accessFlags := 1537
  interfaces := #[]
  cf := some (fileOf pool3 2 #[] #[] 1537 4 #[] #[])
  fields := #[]
  methods := #[]
  instanceTypes := #[]
  staticTypes := #[]
  resolved := Array.replicate 8 none
  statics := none }

def pool4 : Array CpInfo := pool [(1, u "java/io/Serializable"), (0, .class_ 1), (0, u "java/lang/Object"), (0, .class_ 3)] 3

/-- java/io/Serializable -/
def k4 : Class := { plain "java/io/Serializable" (some 0) with
  accessFlags := 1537
  interfaces := #[]
  cf := some (fileOf pool4 2 #[] #[] 1537 4 #[] #[])
  fields := #[]
  methods := #[]
  instanceTypes := #[]
  staticTypes := #[]
  resolved := Array.replicate 8 none
  statics := none }

/-- the primitive byte -/
def k5 : Class := { plain "byte" none with kind := .primitive 'B', accessFlags := 0x411 }
/-- [B -/
def k6 : Class := { plain "[B" (some 0) with kind := .array 5 .byte, interfaces := #[3, 4], accessFlags := 1041 }

/-- the primitive int -/
def k7 : Class := { plain "int" none with kind := .primitive 'I', accessFlags := 0x411 }
/-- [I -/
def k8 : Class := { plain "[I" (some 0) with kind := .array 7 .int, interfaces := #[3, 4], accessFlags := 1041 }

def heap : Heap := #[]
def classes : Array Class := #[k0, k1, k2, k3, k4, k5, k6, k7, k8]
def interned : List (Array UInt16 × Addr) := []
def slotsUsed : Nat := 0
def theMethod : MethodId := ⟨1, 1⟩
def args0 : Array Value := #[.int 5, .int 3]
def aboutOver (below : List Frame) : State where
  vm := { classes := classes, interned := interned.toArray }
  heap := heap
  slotsUsed := slotsUsed
  threads := #[{ frames := .invoking theMethod args0 :: below }]
def below0 : List Frame := [.native { method := ⟨0, 0⟩, args := #[] }]
def about1 : State := aboutOver below0
def p0 : Program := .bare "" "" ""
def e0 : Env := launch0.env 0 0 0
theorem w_frames : about1.frames = Frame.invoking theMethod args0 :: below0 := rfl
set_option maxRecDepth 65536 in
theorem w_args : argsFit about1.vm theMethod args0 = true := by decide +kernel
set_option maxRecDepth 65536 in
theorem w_heap : heapFits about1 = true := by decide +kernel
set_option maxRecDepth 65536 in
theorem w_runnable : about1.curStatus? = some .runnable := by decide +kernel
set_option maxRecDepth 65536 in
theorem w_alone : about1.alone = true := by decide +kernel
set_option maxRecDepth 65536 in
theorem w_named : about1.methodNamed? x = some theMethod := by decide +kernel
set_option maxRecDepth 65536 in
theorem w_hears : about1.hears theMethod below0 = true := by decide +kernel
set_option maxRecDepth 65536 in
theorem w_ripe : about1.ripe theMethod args0 below0 = true := by decide +kernel
theorem w_running : about1.status = .running := rfl
set_option maxRecDepth 65536 in
theorem w_room : about1.hasRoom e0.platform room_1 = true :=
  launch0.hasRoom_least _ room_1 (by decide +kernel) (by decide +kernel) (by decide +kernel) (by decide +kernel) (by decide +kernel) (by decide +kernel)
theorem allAtoms_all (ts : List Jvm.Cond) (a : Array Jvm.Value) (st : Jvm.State) : (allAtoms ts).before a st = ts.all (fun c => c.before a st) := by
  induction ts with
  | nil => rfl
  | cons c t ih =>
    show (Jvm.Cond.and c (allAtoms t)).before a st = _
    rw [Jvm.Cond.before_and, ih, List.all_cons]
def words1 : List Jvm.Cond := Jvm.Cond.code x code maxLocals ret :: tables_1
/-- a 'code' word, met by the world's own term for the bytes: nothing is compared byte by byte -/
theorem code_word {y : MethodName} {bytes : ByteArray} {mx : Nat} {rt : Option FieldType} {a : Array Value} {s : State} {m : MethodId} {meth : Method} {c : Code} (h1 : s.methodNamed? y = some m) (h2 : s.vm.method? m = some meth) (h3 : meth.code = some c) (h4 : c.code = bytes)
    (h5 : (c.maxLocals == mx && c.exceptionTable.isEmpty && decide (c.maxStack ≤ mostOperands) && decide (meth.sig.returnType = rt) && !meth.locks && decide (parseMethodDescriptor y.desc = some meth.sig)) = true) : (Jvm.Cond.code y bytes mx rt).before a s = true := by
  simp only [Bool.and_eq_true, beq_iff_eq, Bool.not_eq_true', decide_eq_true_eq] at h5
  obtain ⟨⟨⟨⟨⟨g1, g2⟩, g3⟩, g4⟩, g5⟩, g6⟩ := h5
  simp [Cond.before, Cond.holds, Cond.value, h1, h2, h3, h4, g1, g2, g3, g4, g5, g6]
def isCode : Jvm.Cond → Bool
  | .code _ _ _ _ => true
  | _ => false
theorem all_split {L : List Jvm.Cond} {P : Jvm.Cond → Bool} (h1 : L.all (fun c => isCode c || P c) = true) (h2 : ∀ c ∈ L.filter isCode, P c = true) : L.all P = true := by
  refine List.all_eq_true.mpr fun c hc => ?_
  have h := List.all_eq_true.mp h1 c hc
  rcases Bool.eq_false_or_eq_true (isCode c) with hi | hi
  · exact h2 c (List.mem_filter.mpr ⟨hc, hi⟩)
  · simpa [hi] using h
set_option maxRecDepth 65536 in
theorem w_c0 : (Jvm.Cond.code x code maxLocals ret).before args0 about1 = true := code_word (m := ⟨1, 1⟩) (meth := k1m1) (c := k1c1) (by decide +kernel) rfl rfl rfl (by decide +kernel)
set_option maxRecDepth 65536 in
theorem w_c1 : (Jvm.Cond.code ({ cls := "com/example/serialscope/serialscope/Choices", name := "subsetCount", desc := "(I)J" } : Jvm.MethodName) prog_20_method_5_code (1 : Nat) (Option.some Jvm.ClassFile.FieldType.long)).before args0 about1 = true := code_word (m := ⟨2, 1⟩) (meth := k2m1) (c := k2c1) (by decide +kernel) rfl rfl rfl (by decide +kernel)
def codes1 : List Jvm.Cond := [Jvm.Cond.code x code maxLocals ret, Jvm.Cond.code ({ cls := "com/example/serialscope/serialscope/Choices", name := "subsetCount", desc := "(I)J" } : Jvm.MethodName) prog_20_method_5_code (1 : Nat) (Option.some Jvm.ClassFile.FieldType.long)]
set_option maxRecDepth 65536 in
theorem codes_eq : words1.filter isCode = codes1 := rfl
theorem w_codes : ∀ c ∈ words1.filter isCode, c.before args0 about1 = true := by
  rw [codes_eq]
  intro c hc
  simp only [codes1, List.mem_cons, List.not_mem_nil, or_false] at hc
  rcases hc with rfl | rfl
  · exact w_c0
  · exact w_c1
set_option maxRecDepth 65536 in
theorem w_t1 : words1.all (fun c => isCode c || c.before args0 about1) = true := by decide +kernel
theorem w_tables : (allAtoms (Jvm.Cond.code x code maxLocals ret :: tables_1)).before args0 about1 = true := by
  rw [allAtoms_all]
  show words1.all (fun c => c.before args0 about1) = true
  refine all_split ?_ w_codes
  rw [w_t1]
set_option maxRecDepth 65536 in
theorem w_case : (Jvm.Cond.and given_1 narrow_1).before args0 about1 = true := by decide +kernel
theorem w_applies : (headSpec (Jvm.Cond.code x code maxLocals ret :: tables_1) room_1).applies x e0.platform about1 = true :=
  (Spec.applies_iff w_frames).mpr ⟨w_running, w_runnable, w_alone, w_named, w_hears, w_ripe, w_room, w_tables⟩
theorem atStart : AtStart classFile x code maxLocals ret World_1 tables_1 room_1 Calls_1 rest_1 Pre_1 launch0 p0 e0 about1 theMethod args0 below0 :=
  ⟨lists_1, trivial, launch0.admits_env _ _ _, launch0.least_env, fairChoices_fair.cas, fairChoices_fair.clock, w_frames, w_args, w_heap, w_applies, trivial, trivial, w_case⟩
end start1
theorem witness_1 : WitnessClaimed_1 := ⟨start1.p0, start1.e0, start1.about1, start1.theMethod, start1.args0, start1.below0, start1.atStart⟩
end Jvm.Pilot.@@N@@
