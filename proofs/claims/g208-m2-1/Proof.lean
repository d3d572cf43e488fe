import JvmDerived
import JvmDerived.Pilot.@@N@@Statement
import JvmDerived.Pilot.@@N@@Code
set_option linter.unusedVariables false
set_option linter.unusedSimpArgs false
namespace Jvm.RoadKit
open Sem ClassFile Op Lib Jvm.Stand Jvm.Free Jvm.LawKit
section New
variable {p : Program} {l : Launch} {e : Env} {R : Room} {s : State} {m : MethodId} {args : Array Value} {below : List Frame} {meth : Method} {c : Code} {T : State} {locs : List Loc} {cells slots : Nat}
theorem retI (X : Stand p l e R s m args below meth c T locs cells slots) (hx : p.tables.exec = Jvm.exec) {pc : Nat} {Ls : Array Slot} {z : Int32} {rest : List Value} (hret : meth.sig.returnType = some .int) (hd : decode c.code pc = .ok (.ireturn, 1)) {fs : List Frame}
    (hl : ∀ (f : JFrame) (acts : List Action), f.method = m → f.locked = none → f.entered = [] → (doReturn e (T.setTop f) acts (some (.int z))).1 = T.setFrames fs) : Steps p.tables e below (T.setTop (mkF m pc Ls (.int z :: rest))) (T.setFrames fs) := by
  have hm' : T.vm.method? m = some meth := X.method'
  have hn : narrow .int (.int z) = .int z := rfl
  show Steps p.tables e below (T.setTop { method := m, pc := pc, locals := Ls, stack := _ :: rest, locked := none }) _
  jvm_step X.here [X.here.top, hx, hd, hm', hret, hn]
  first | (intro acts; rw [hl _ acts rfl rfl rfl]) | rw [hl _ _ rfl rfl rfl]
  exact Steps.refl _
end New
end Jvm.RoadKit
namespace Jvm.Pilot.@@N@@
open Jvm Jvm.ClassFile Sem Op Lib Jvm.Free Jvm.Stand Jvm.LawKit Jvm.RoadKit Bundle Jvm.Pilot.@@N@@.Jvm.D
theorem own_f (va : Int64) : (if va < (1 : Int64) then (0 : Int32) else if (1000 : Int64) < va then 0 else 1) = if 1 ≤ va.toInt ∧ va.toInt ≤ 1000 then (1 : Int32) else 0 := by
  have e1 : (1 : Int64).toInt = 1 := by decide
  have e2 : (1000 : Int64).toInt = 1000 := by decide
  simp only [Int64.lt_iff_toInt_lt, e1, e2]
  by_cases a : va.toInt < 1
  · rw [if_pos a, if_neg (by omega)]
  · rw [if_neg a]
    by_cases b : 1000 < va.toInt
    · rw [if_pos b, if_neg (by omega)]
    · rw [if_neg b, if_pos (by omega)]
theorem own_w (vq : Int64) : (if vq < (1 : Int64) then (0 : Int32) else if (1000 : Int64) < vq then 0 else 1) = if (0 : Int64) < vq then (if vq < (1001 : Int64) then (1 : Int32) else 0) else 0 := by
  rw [own_f]
  have e1 : (0 : Int64).toInt = 0 := by decide
  have e2 : (1001 : Int64).toInt = 1001 := by decide
  simp only [Int64.lt_iff_toInt_lt, e1, e2]
  by_cases a : 0 < vq.toInt
  · by_cases b : vq.toInt < 1001
    · rw [if_pos (by omega)]; simp [a, b]
    · rw [if_neg (by omega)]; simp [a, b]
  · rw [if_neg (by omega)]; simp [a]
theorem own_k (vk : Int32) : -4 ≤ (((vk &&& (7 : Int32)) - (4 : Int32)).toInt64).toInt ∧ (((vk &&& (7 : Int32)) - (4 : Int32)).toInt64).toInt ≤ 3 ∧ 0 ≤ ((vk &&& (7 : Int32)).toInt64).toInt ∧ ((vk &&& (7 : Int32)).toInt64).toInt ≤ 7 := by
  have a1 := c_mask vk 7 3 (by decide) (by decide)
  simp only [Nat.reducePow] at a1
  have a2 := c_isub (vk &&& (7 : Int32)) 4
  have e4 : (4 : Int32).toInt = 4 := by decide
  have b2 := rng32 ((vk &&& (7 : Int32)) - 4)
  rw [c_i2l, c_i2l]
  omega
theorem own_low (e : Int64) (h1 : -4 ≤ e.toInt) (h2 : e.toInt ≤ 3) : (if ((1 : Int64) + e) < (1 : Int64) then (0 : Int32) else if (1000 : Int64) < ((1 : Int64) + e) then 0 else 1) = if e < (0 : Int64) then (0 : Int32) else 1 := by
  rw [own_f]
  have a := c_ladd 1 e
  have b := rng64 ((1 : Int64) + e)
  have e1 : (1 : Int64).toInt = 1 := by decide
  have e0 : (0 : Int64).toInt = 0 := by decide
  simp only [Int64.lt_iff_toInt_lt, e0]
  by_cases c : e.toInt < 0
  · rw [if_neg (by omega), if_pos c]
  · rw [if_pos (by omega), if_neg c]
theorem own_high (e : Int64) (h1 : -4 ≤ e.toInt) (h2 : e.toInt ≤ 3) : (if ((1000 : Int64) + e) < (1 : Int64) then (0 : Int32) else if (1000 : Int64) < ((1000 : Int64) + e) then 0 else 1) = if (0 : Int64) < e then (0 : Int32) else 1 := by
  rw [own_f]
  have a := c_ladd 1000 e
  have b := rng64 ((1000 : Int64) + e)
  have e1 : (1000 : Int64).toInt = 1000 := by decide
  have e0 : (0 : Int64).toInt = 0 := by decide
  simp only [Int64.lt_iff_toInt_lt, e0]
  by_cases c : 0 < e.toInt
  · rw [if_neg (by omega), if_pos c]
  · rw [if_pos (by omega), if_neg c]
theorem own_min (e : Int64) (h1 : 0 ≤ e.toInt) (h2 : e.toInt ≤ 7) : (if ((-9223372036854775808 : Int64) + e) < (1 : Int64) then (0 : Int32) else if (1000 : Int64) < ((-9223372036854775808 : Int64) + e) then 0 else 1) = (0 : Int32) := by
  rw [own_f]
  have a := c_ladd (-9223372036854775808) e
  have b := rng64 ((-9223372036854775808 : Int64) + e)
  have e1 : (-9223372036854775808 : Int64).toInt = -9223372036854775808 := by decide
  rw [if_neg (by omega)]
theorem own_max (e : Int64) (h1 : 0 ≤ e.toInt) (h2 : e.toInt ≤ 7) : (if ((9223372036854775807 : Int64) - e) < (1 : Int64) then (0 : Int32) else if (1000 : Int64) < ((9223372036854775807 : Int64) - e) then 0 else 1) = (0 : Int32) := by
  rw [own_f]
  have a := c_lsub 9223372036854775807 e
  have b := rng64 ((9223372036854775807 : Int64) - e)
  have e1 : (9223372036854775807 : Int64).toInt = 9223372036854775807 := by decide
  rw [if_neg (by omega)]
theorem own_wrap (e : Int64) (h1 : 0 ≤ e.toInt) (h2 : e.toInt ≤ 7) : (if ((4294967297 : Int64) + e) < (1 : Int64) then (0 : Int32) else if (1000 : Int64) < ((4294967297 : Int64) + e) then 0 else 1) = (0 : Int32) := by
  rw [own_f]
  have a := c_ladd 4294967297 e
  have b := rng64 ((4294967297 : Int64) + e)
  have e1 : (4294967297 : Int64).toInt = 4294967297 := by decide
  rw [if_neg (by omega)]
theorem pn_0 : plainName "com/example/stock_gate/stockgate/model/Order" = true := by first | (simp [plainName, overriddenIn]; done) | decide +kernel
theorem d_prog_9_method_3_code_0 : decode prog_9_method_3_code 0 = .ok (.lload_n 0, 1) := by decide +kernel
theorem d_prog_9_method_3_code_1 : decode prog_9_method_3_code 1 = .ok (.lconst 1, 1) := by decide +kernel
theorem d_prog_9_method_3_code_2 : decode prog_9_method_3_code 2 = .ok (.lcmp, 1) := by decide +kernel
theorem d_prog_9_method_3_code_3 : decode prog_9_method_3_code 3 = .ok (.ifCond .lt 15, 3) := by decide +kernel
theorem d_prog_9_method_3_code_18 : decode prog_9_method_3_code 18 = .ok (.iconst 0, 1) := by decide +kernel
theorem d_prog_9_method_3_code_19 : decode prog_9_method_3_code 19 = .ok (.ireturn, 1) := by decide +kernel
theorem d_prog_9_method_3_code_6 : decode prog_9_method_3_code 6 = .ok (.lload_n 0, 1) := by decide +kernel
theorem d_prog_9_method_3_code_7 : decode prog_9_method_3_code 7 = .ok (.ldc2_w 79, 3) := by decide +kernel
theorem d_prog_9_method_3_code_10 : decode prog_9_method_3_code 10 = .ok (.lcmp, 1) := by decide +kernel
theorem d_prog_9_method_3_code_11 : decode prog_9_method_3_code 11 = .ok (.ifCond .gt 7, 3) := by decide +kernel
theorem d_prog_9_method_3_code_14 : decode prog_9_method_3_code 14 = .ok (.iconst 1, 1) := by decide +kernel
theorem d_prog_9_method_3_code_15 : decode prog_9_method_3_code 15 = .ok (.goto 4, 3) := by decide +kernel
theorem ef_vq (m : MethodId) (va : Int64) : entryFrame m #[(.long va)] 2 = mkF m 0 #[.val (.long va), .second] [] := by first | (simp [entryFrame, mkF, argsToLocals, Value.category]; done) | rfl
def Q_vq (Z : State) (va : Int64) (h0 : Heap) (n0 : Nat) (v : Option Value) (h : Heap) (L : List Loc) : Prop := (∃ z : Int32, v = some (.int z) ∧ (z = if va < (1 : Int64) then (0 : Int32) else if (1000 : Int64) < va then 0 else 1)) ∧ Fr n0 L ∧ h = h0
set_option maxRecDepth 65536 in
set_option maxHeartbeats 40000000 in
theorem rm_vq (l : Launch) (Z : State) (a0 : Array Value) (hw : ∀ d ∈ tables_1, d.before a0 Z = true) (ws : List Jvm.Cond) (va : Int64) (h0 : Heap) (n0 : Nat) (Z0 : n0 ≤ h0.size) :
    MetFree l (⟨"com/example/stock_gate/stockgate/model/Order", "isValidQuantity", "(J)Z"⟩ : MethodName) (head1 (Jvm.Cond.code (⟨"com/example/stock_gate/stockgate/model/Order", "isValidQuantity", "(J)Z"⟩ : MethodName) prog_9_method_3_code 2 (some .boolean) :: ws) ({ frames := 0, cells := 0, slots := 0, locals := 0 } : Room)) (fun a U => a = #[(.long va)] ∧ Z.Warmed39 U.vm ∧ U.heap = h0) (fun _ _ _ _ _ => True) (fun _ U o U' => ∃ v L, o = .returned v ∧ Q_vq Z va h0 n0 v U'.heap L ∧ FrameEnd U o U' L ({ frames := 0, cells := 0, slots := 0, locals := 0 } : Room).cells ({ frames := 0, cells := 0, slots := 0, locals := 0 } : Room).slots) := by
  refine MetFree.of_bodySF (plainFor_of_name pn_0) hisR ?_
  intro p e s m args below meth c s₁ Bd hml0 hP hK
  obtain ⟨rfl, hZ, hh⟩ := hP
  have hx := Bd.exec
  have hby := Bd.bytes
  have hml : c.maxLocals = 2 := hml0
  have hown : s.vm.findClass "com/example/stock_gate/stockgate/model/Order" = some m.cls := findClass_of_methodNamed Bd.named
  have hnm := (name_of_methodNamed Bd.named Bd.method).1
  have X0 : Stand p l e ({ frames := 0, cells := 0, slots := 0, locals := 0 } : Room) s m #[(.long va)] below meth c s₁ [] 0 0 := Stand.of_body Bd
  have e0 : s₁.heap = h0 := by rw [← hh, Bd.state]; rfl
  have N0 := Fr.nil n0
  have pre0 : ∀ t, Steps p.tables e below (s₁.setTop (mkF m 0 #[.val (.long va), .second] [])) t → Steps p.tables e below (s₁.setTop (entryFrame m #[(.long va)] 2)) t := fun t k => castTop (ef_vq m va) k
  by_cases h3_1 : va < (1 : Int64)
  · obtain ⟨fs, hr, hrun, hended, hW, hsame⟩ := X0.leave (v := some (.int (0 : Int32))) (fun h => by rw [Bd.returns] at h; cases h)
    refine ⟨_, _, pre0 _ ?_, hrun, hended, _, _, rfl, ?_, ⟨_, rfl⟩, hW, hsame.mono (by decide) (by decide)⟩
    · show Steps p.tables e below (s₁.setTop (mkF m 0 #[.val (.long va), .second] [])) _
      refine XS.lloadN X0.here hx rfl (hb hby d_prog_9_method_3_code_0) rfl ?_
      show Steps p.tables e below (s₁.setTop (mkF m 1 #[.val (.long va), .second] [(.long va)])) _
      refine XS.lconst X0.here hx rfl (hb hby d_prog_9_method_3_code_1) ?_
      show Steps p.tables e below (s₁.setTop (mkF m 2 #[.val (.long va), .second] [(.long (1 : Int64)), (.long va)])) _
      refine XS.lcmp X0.here hx rfl (hb hby d_prog_9_method_3_code_2) rfl ?_
      show Steps p.tables e below (s₁.setTop (mkF m 3 #[.val (.long va), .second] [(.int (lcmpW va (1 : Int64)))])) _
      refine XS.ifYes X0.here hx rfl (pc0 := 3) (pc' := 18) rfl (hb hby d_prog_9_method_3_code_3) rfl ((if0 _ _).trans (tlt ((lw_lt _ _).mpr h3_1)).1) (by decide) (by decide) ?_
      show Steps p.tables e below (s₁.setTop (mkF m 18 #[.val (.long va), .second] [])) _
      refine XS.iconst X0.here hx rfl (hb hby d_prog_9_method_3_code_18) ?_
      show Steps p.tables e below (s₁.setTop (mkF m 19 #[.val (.long va), .second] [(.int (0 : Int32))])) _
      exact retN X0 hx (t := .boolean) Bd.returns (by simp) (hb hby d_prog_9_method_3_code_19) hr
    · show Q_vq Z va h0 n0 _ s₁.heap _
      rw [e0]
      exact ⟨⟨_, rfl, by simp [h3_1]⟩, N0, rfl⟩
  · by_cases h11_2 : (1000 : Int64) < va
    · obtain ⟨fs, hr, hrun, hended, hW, hsame⟩ := X0.leave (v := some (.int (0 : Int32))) (fun h => by rw [Bd.returns] at h; cases h)
      refine ⟨_, _, pre0 _ ?_, hrun, hended, _, _, rfl, ?_, ⟨_, rfl⟩, hW, hsame.mono (by decide) (by decide)⟩
      · show Steps p.tables e below (s₁.setTop (mkF m 0 #[.val (.long va), .second] [])) _
        refine XS.lloadN X0.here hx rfl (hb hby d_prog_9_method_3_code_0) rfl ?_
        show Steps p.tables e below (s₁.setTop (mkF m 1 #[.val (.long va), .second] [(.long va)])) _
        refine XS.lconst X0.here hx rfl (hb hby d_prog_9_method_3_code_1) ?_
        show Steps p.tables e below (s₁.setTop (mkF m 2 #[.val (.long va), .second] [(.long (1 : Int64)), (.long va)])) _
        refine XS.lcmp X0.here hx rfl (hb hby d_prog_9_method_3_code_2) rfl ?_
        show Steps p.tables e below (s₁.setTop (mkF m 3 #[.val (.long va), .second] [(.int (lcmpW va (1 : Int64)))])) _
        refine XS.ifNo X0.here hx rfl (hb hby d_prog_9_method_3_code_3) rfl ((if0 _ _).trans (flt (fun q => h3_1 ((lw_lt _ _).mp q))).1) ?_
        show Steps p.tables e below (s₁.setTop (mkF m 6 #[.val (.long va), .second] [])) _
        refine XS.lloadN X0.here hx rfl (hb hby d_prog_9_method_3_code_6) rfl ?_
        show Steps p.tables e below (s₁.setTop (mkF m 7 #[.val (.long va), .second] [(.long va)])) _
        refine X0.ldc2Long hx hown (mvT hZ (hw _ (List.mem_of_getElem? (i := 4) rfl))) (g := (mkF m 7 #[.val (.long va), .second] [(.long va)])) rfl (hb hby d_prog_9_method_3_code_7) _ ?_
        show Steps p.tables e below (s₁.setTop (mkF m 10 #[.val (.long va), .second] [(.long (1000 : Int64)), (.long va)])) _
        refine XS.lcmp X0.here hx rfl (hb hby d_prog_9_method_3_code_10) rfl ?_
        show Steps p.tables e below (s₁.setTop (mkF m 11 #[.val (.long va), .second] [(.int (lcmpW va (1000 : Int64)))])) _
        refine XS.ifYes X0.here hx rfl (pc0 := 11) (pc' := 18) rfl (hb hby d_prog_9_method_3_code_11) rfl ((if0 _ _).trans (tlt ((lw_gt _ _).mpr h11_2)).2.2.1) (by decide) (by decide) ?_
        show Steps p.tables e below (s₁.setTop (mkF m 18 #[.val (.long va), .second] [])) _
        refine XS.iconst X0.here hx rfl (hb hby d_prog_9_method_3_code_18) ?_
        show Steps p.tables e below (s₁.setTop (mkF m 19 #[.val (.long va), .second] [(.int (0 : Int32))])) _
        exact retN X0 hx (t := .boolean) Bd.returns (by simp) (hb hby d_prog_9_method_3_code_19) hr
      · show Q_vq Z va h0 n0 _ s₁.heap _
        rw [e0]
        exact ⟨⟨_, rfl, by simp [h3_1, h11_2]⟩, N0, rfl⟩
    · obtain ⟨fs, hr, hrun, hended, hW, hsame⟩ := X0.leave (v := some (.int (1 : Int32))) (fun h => by rw [Bd.returns] at h; cases h)
      refine ⟨_, _, pre0 _ ?_, hrun, hended, _, _, rfl, ?_, ⟨_, rfl⟩, hW, hsame.mono (by decide) (by decide)⟩
      · show Steps p.tables e below (s₁.setTop (mkF m 0 #[.val (.long va), .second] [])) _
        refine XS.lloadN X0.here hx rfl (hb hby d_prog_9_method_3_code_0) rfl ?_
        show Steps p.tables e below (s₁.setTop (mkF m 1 #[.val (.long va), .second] [(.long va)])) _
        refine XS.lconst X0.here hx rfl (hb hby d_prog_9_method_3_code_1) ?_
        show Steps p.tables e below (s₁.setTop (mkF m 2 #[.val (.long va), .second] [(.long (1 : Int64)), (.long va)])) _
        refine XS.lcmp X0.here hx rfl (hb hby d_prog_9_method_3_code_2) rfl ?_
        show Steps p.tables e below (s₁.setTop (mkF m 3 #[.val (.long va), .second] [(.int (lcmpW va (1 : Int64)))])) _
        refine XS.ifNo X0.here hx rfl (hb hby d_prog_9_method_3_code_3) rfl ((if0 _ _).trans (flt (fun q => h3_1 ((lw_lt _ _).mp q))).1) ?_
        show Steps p.tables e below (s₁.setTop (mkF m 6 #[.val (.long va), .second] [])) _
        refine XS.lloadN X0.here hx rfl (hb hby d_prog_9_method_3_code_6) rfl ?_
        show Steps p.tables e below (s₁.setTop (mkF m 7 #[.val (.long va), .second] [(.long va)])) _
        refine X0.ldc2Long hx hown (mvT hZ (hw _ (List.mem_of_getElem? (i := 4) rfl))) (g := (mkF m 7 #[.val (.long va), .second] [(.long va)])) rfl (hb hby d_prog_9_method_3_code_7) _ ?_
        show Steps p.tables e below (s₁.setTop (mkF m 10 #[.val (.long va), .second] [(.long (1000 : Int64)), (.long va)])) _
        refine XS.lcmp X0.here hx rfl (hb hby d_prog_9_method_3_code_10) rfl ?_
        show Steps p.tables e below (s₁.setTop (mkF m 11 #[.val (.long va), .second] [(.int (lcmpW va (1000 : Int64)))])) _
        refine XS.ifNo X0.here hx rfl (hb hby d_prog_9_method_3_code_11) rfl ((if0 _ _).trans (flt (fun q => h11_2 ((lw_gt _ _).mp q))).2.2.1) ?_
        show Steps p.tables e below (s₁.setTop (mkF m 14 #[.val (.long va), .second] [])) _
        refine XS.iconst X0.here hx rfl (hb hby d_prog_9_method_3_code_14) ?_
        show Steps p.tables e below (s₁.setTop (mkF m 15 #[.val (.long va), .second] [(.int (1 : Int32))])) _
        refine XS.goto X0.here hx rfl (pc0 := 15) (pc' := 19) rfl (hb hby d_prog_9_method_3_code_15) (by decide) (by decide) ?_
        show Steps p.tables e below (s₁.setTop (mkF m 19 #[.val (.long va), .second] [(.int (1 : Int32))])) _
        exact retN X0 hx (t := .boolean) Bd.returns (by simp) (hb hby d_prog_9_method_3_code_19) hr
      · show Q_vq Z va h0 n0 _ s₁.heap _
        rw [e0]
        exact ⟨⟨_, rfl, by simp [h3_1, h11_2]⟩, N0, rfl⟩
theorem pn_1 : plainName "com/example/stock_gate/stockgate/model/OrderIsValidQuantityPinLaw" = true := by first | (simp [plainName, overriddenIn]; done) | decide +kernel
theorem pd_0 : parseMethodDescriptor "(J)Z" = some ⟨[.long], some .boolean⟩ := by decide +kernel
theorem ef_law (m : MethodId) (vq : Int64) (vk : Int32) : entryFrame m #[(.long vq), (.int vk)] maxLocals = mkF m 0 #[.val (.long vq), .second, .val (.int vk), .unset, .unset, .unset, .unset, .unset, .unset, .unset, .unset, .unset, .unset] [] := by first | (simp [entryFrame, mkF, argsToLocals, Value.category, maxLocals]; done) | rfl
def Q_law (Z : State) (vq : Int64) (vk : Int32) (h0 : Heap) (n0 : Nat) (v : Option Value) (h : Heap) (L : List Loc) : Prop := v = some (.int 1) ∧ Fr n0 L
set_option maxRecDepth 65536 in
set_option maxHeartbeats 40000000 in
theorem rm_law (l : Launch) (Z : State) (a0 : Array Value) (hw : ∀ d ∈ tables_1, d.before a0 Z = true) (ws : List Jvm.Cond) (vq : Int64) (vk : Int32) (h0 : Heap) (n0 : Nat) (Z0 : n0 ≤ h0.size) :
    MetFree l x (head1 (Jvm.Cond.code x code maxLocals ret :: ws) room_1) (fun a U => a = #[(.long vq), (.int vk)] ∧ Z.Warmed39 U.vm ∧ U.heap = h0) (fun _ _ _ _ _ => True) (fun _ U o U' => ∃ v L, o = .returned v ∧ Q_law Z vq vk h0 n0 v U'.heap L ∧ FrameEnd U o U' L room_1.cells room_1.slots) := by
  refine MetFree.of_bodySF (plainFor_of_name pn_1) hisR ?_
  intro p e s m args below meth c s₁ Bd hml0 hP hK
  obtain ⟨rfl, hZ, hh⟩ := hP
  have hx := Bd.exec
  have hby := Bd.bytes
  have hml : c.maxLocals = 13 := hml0
  have hown : s.vm.findClass "com/example/stock_gate/stockgate/model/OrderIsValidQuantityPinLaw" = some m.cls := findClass_of_methodNamed Bd.named
  have hnm := (name_of_methodNamed Bd.named Bd.method).1
  have X0 : Stand p l e room_1 s m #[(.long vq), (.int vk)] below meth c s₁ [] 0 0 := Stand.of_body Bd
  have e0 : s₁.heap = h0 := by rw [← hh, Bd.state]; rfl
  have N0 := Fr.nil n0
  have pre0 : ∀ t, Steps p.tables e below (s₁.setTop (mkF m 0 #[.val (.long vq), .second, .val (.int vk), .unset, .unset, .unset, .unset, .unset, .unset, .unset, .unset, .unset, .unset] [])) t → Steps p.tables e below (s₁.setTop (entryFrame m #[(.long vq), (.int vk)] maxLocals)) t := fun t k => castTop (ef_law m vq vk) k
  obtain ⟨_, _, ⟨T3, L3, k3, n3⟩, -, X3, ⟨Lc3, hQ3, l3, y3, z3⟩, st3⟩ := Jvm.LawKit.callS X0 hx (y := (⟨"com/example/stock_gate/stockgate/model/Order", "isValidQuantity", "(J)Z"⟩ : MethodName)) hown (mvT hZ (hw _ (List.mem_of_getElem? (i := 0) rfl))) (mvT hZ (hw _ (List.mem_of_getElem? (i := 1) rfl))) (mvT hZ (hw _ (List.mem_of_getElem? (i := 2) rfl))) (mvT hZ (hw _ (List.mem_of_getElem? (i := 3) rfl))) (by decide) (backOf (W := 0) (rm_vq l Z a0 hw [] vq h0 n0 Z0 ) hZ (hw _ (List.mem_of_getElem? (i := 3) rfl)) (hw _ (List.mem_of_getElem? (i := 2) rfl)) (by decide) (by decide)) (g := (mkF m 1 #[.val (.long vq), .second, .val (.int vk), .unset, .unset, .unset, .unset, .unset, .unset, .unset, .unset, .unset, .unset] [(.long vq)])) rfl (by rw [hml]; rfl) (argsL := [(.long vq)]) (rest := []) (lenOf pd_0 rfl) rfl (by show 2 * 0 + _ ≤ _; exact Nat.le_of_eq rfl) (hb hby at_1) (fun _ _ => ⟨rfl, e0, (by decide : 0 + 0 ≤ _), (by decide : 0 + 0 ≤ _)⟩)
  dsimp only [Pt.U, Pt.locs, Pt.cells, Pt.slots] at X3 l3 y3 z3 st3 hQ3
  subst l3 y3 z3
  obtain ⟨⟨r3, rfl, hr3⟩, N3q, e3⟩ := hQ3
  have N3 := Fr.app N0 N3q
  obtain ⟨z4, hz4⟩ : ∃ z : Int32, z = if (0 : Int64) < vq then (if vq < (1001 : Int64) then (1 : Int32) else 0) else 0 := ⟨_, rfl⟩
  have seg4 : ∀ t, Steps p.tables e below (T3.setTop (mkF m 23 #[.val (.long vq), .second, .val (.int vk), .unset, .unset, .unset, .unset, .unset, .unset, .unset, .unset, .unset, .unset] [(.int z4), (.int r3)])) t → Steps p.tables e below (T3.setTop (mkF m 4 #[.val (.long vq), .second, .val (.int vk), .unset, .unset, .unset, .unset, .unset, .unset, .unset, .unset, .unset, .unset] [(.int r3)])) t := by
    intro t kt
    show Steps p.tables e below (T3.setTop (mkF m 4 #[.val (.long vq), .second, .val (.int vk), .unset, .unset, .unset, .unset, .unset, .unset, .unset, .unset, .unset, .unset] [(.int r3)])) _
    refine XS.lloadN X3.here hx rfl (hb hby at_4) rfl ?_
    show Steps p.tables e below (T3.setTop (mkF m 5 #[.val (.long vq), .second, .val (.int vk), .unset, .unset, .unset, .unset, .unset, .unset, .unset, .unset, .unset, .unset] [(.long vq), (.int r3)])) _
    refine XS.lconst X3.here hx rfl (hb hby at_5) ?_
    show Steps p.tables e below (T3.setTop (mkF m 6 #[.val (.long vq), .second, .val (.int vk), .unset, .unset, .unset, .unset, .unset, .unset, .unset, .unset, .unset, .unset] [(.long (0 : Int64)), (.long vq), (.int r3)])) _
    refine XS.lcmp X3.here hx rfl (hb hby at_6) rfl ?_
    show Steps p.tables e below (T3.setTop (mkF m 7 #[.val (.long vq), .second, .val (.int vk), .unset, .unset, .unset, .unset, .unset, .unset, .unset, .unset, .unset, .unset] [(.int (lcmpW vq (0 : Int64))), (.int r3)])) _
    by_cases h7_5 : (0 : Int64) < vq
    · refine XS.ifNo X3.here hx rfl (hb hby at_7) rfl ((if0 _ _).trans (tlt ((lw_gt _ _).mpr h7_5)).2.2.2) ?_
      show Steps p.tables e below (T3.setTop (mkF m 10 #[.val (.long vq), .second, .val (.int vk), .unset, .unset, .unset, .unset, .unset, .unset, .unset, .unset, .unset, .unset] [(.int r3)])) _
      refine XS.lloadN X3.here hx rfl (hb hby at_10) rfl ?_
      show Steps p.tables e below (T3.setTop (mkF m 11 #[.val (.long vq), .second, .val (.int vk), .unset, .unset, .unset, .unset, .unset, .unset, .unset, .unset, .unset, .unset] [(.long vq), (.int r3)])) _
      refine X3.ldc2Long hx hown (mvT hZ (hw _ (List.mem_of_getElem? (i := 5) rfl))) (g := (mkF m 11 #[.val (.long vq), .second, .val (.int vk), .unset, .unset, .unset, .unset, .unset, .unset, .unset, .unset, .unset, .unset] [(.long vq), (.int r3)])) rfl (hb hby at_11) _ ?_
      show Steps p.tables e below (T3.setTop (mkF m 14 #[.val (.long vq), .second, .val (.int vk), .unset, .unset, .unset, .unset, .unset, .unset, .unset, .unset, .unset, .unset] [(.long (1001 : Int64)), (.long vq), (.int r3)])) _
      refine XS.lcmp X3.here hx rfl (hb hby at_14) rfl ?_
      show Steps p.tables e below (T3.setTop (mkF m 15 #[.val (.long vq), .second, .val (.int vk), .unset, .unset, .unset, .unset, .unset, .unset, .unset, .unset, .unset, .unset] [(.int (lcmpW vq (1001 : Int64))), (.int r3)])) _
      by_cases h15_6 : vq < (1001 : Int64)
      · refine XS.ifNo X3.here hx rfl (hb hby at_15) rfl ((if0 _ _).trans (tlt ((lw_lt _ _).mpr h15_6)).2.1) ?_
        show Steps p.tables e below (T3.setTop (mkF m 18 #[.val (.long vq), .second, .val (.int vk), .unset, .unset, .unset, .unset, .unset, .unset, .unset, .unset, .unset, .unset] [(.int r3)])) _
        refine XS.iconst X3.here hx rfl (hb hby at_18) ?_
        show Steps p.tables e below (T3.setTop (mkF m 19 #[.val (.long vq), .second, .val (.int vk), .unset, .unset, .unset, .unset, .unset, .unset, .unset, .unset, .unset, .unset] [(.int (1 : Int32)), (.int r3)])) _
        refine XS.goto X3.here hx rfl (pc0 := 19) (pc' := 23) rfl (hb hby at_19) (by decide) (by decide) ?_
        have qz4 : z4 = (1 : Int32) := hz4.trans (by simp [h7_5, h15_6])
        rw [qz4] at kt
        exact kt
      · refine XS.ifYes X3.here hx rfl (pc0 := 15) (pc' := 22) rfl (hb hby at_15) rfl ((if0 _ _).trans (flt (fun q => h15_6 ((lw_lt _ _).mp q))).2.1) (by decide) (by decide) ?_
        show Steps p.tables e below (T3.setTop (mkF m 22 #[.val (.long vq), .second, .val (.int vk), .unset, .unset, .unset, .unset, .unset, .unset, .unset, .unset, .unset, .unset] [(.int r3)])) _
        refine XS.iconst X3.here hx rfl (hb hby at_22) ?_
        have qz4 : z4 = (0 : Int32) := hz4.trans (by simp [h7_5, h15_6])
        rw [qz4] at kt
        exact kt
    · refine XS.ifYes X3.here hx rfl (pc0 := 7) (pc' := 22) rfl (hb hby at_7) rfl ((if0 _ _).trans (flt (fun q => h7_5 ((lw_gt _ _).mp q))).2.2.2) (by decide) (by decide) ?_
      show Steps p.tables e below (T3.setTop (mkF m 22 #[.val (.long vq), .second, .val (.int vk), .unset, .unset, .unset, .unset, .unset, .unset, .unset, .unset, .unset, .unset] [(.int r3)])) _
      refine XS.iconst X3.here hx rfl (hb hby at_22) ?_
      have qz4 : z4 = (0 : Int32) := hz4.trans (by simp [h7_5])
      rw [qz4] at kt
      exact kt
  obtain ⟨_, _, ⟨T7, L7, k7, n7⟩, -, X7, ⟨Lc7, hQ7, l7, y7, z7⟩, st7⟩ := Jvm.LawKit.callS X3 hx (y := (⟨"com/example/stock_gate/stockgate/model/Order", "isValidQuantity", "(J)Z"⟩ : MethodName)) hown (mvT hZ (hw _ (List.mem_of_getElem? (i := 0) rfl))) (mvT hZ (hw _ (List.mem_of_getElem? (i := 1) rfl))) (mvT hZ (hw _ (List.mem_of_getElem? (i := 2) rfl))) (mvT hZ (hw _ (List.mem_of_getElem? (i := 3) rfl))) (by decide) (backOf (W := 0) (rm_vq l Z a0 hw [] ((1 : Int64) + (((vk &&& (7 : Int32)) - (4 : Int32)).toInt64)) h0 n0 Z0 ) hZ (hw _ (List.mem_of_getElem? (i := 3) rfl)) (hw _ (List.mem_of_getElem? (i := 2) rfl)) (by decide) (by decide)) (g := (mkF m 45 #[.val (.long vq), .second, .val (.int vk), .val (.int (1 : Int32)), .val (.long (((vk &&& (7 : Int32)) - (4 : Int32)).toInt64)), .second, .unset, .unset, .unset, .unset, .unset, .unset, .unset] [(.long ((1 : Int64) + (((vk &&& (7 : Int32)) - (4 : Int32)).toInt64)))])) rfl (by rw [hml]; rfl) (argsL := [(.long ((1 : Int64) + (((vk &&& (7 : Int32)) - (4 : Int32)).toInt64)))]) (rest := []) (lenOf pd_0 rfl) rfl (by show 2 * 0 + _ ≤ _; exact Nat.le_of_eq rfl) (hb hby at_45) (fun _ _ => ⟨rfl, e3, (by decide : 0 + 0 ≤ _), (by decide : 0 + 0 ≤ _)⟩)
  dsimp only [Pt.U, Pt.locs, Pt.cells, Pt.slots] at X7 l7 y7 z7 st7 hQ7
  subst l7 y7 z7
  obtain ⟨⟨r7, rfl, hr7⟩, N7q, e7⟩ := hQ7
  have N7 := Fr.app N3 N7q
  obtain ⟨z8, hz8⟩ : ∃ z : Int32, z = if (((vk &&& (7 : Int32)) - (4 : Int32)).toInt64) < (0 : Int64) then (0 : Int32) else 1 := ⟨_, rfl⟩
  have seg8 : ∀ t, Steps p.tables e below (T7.setTop (mkF m 60 #[.val (.long vq), .second, .val (.int vk), .val (.int (1 : Int32)), .val (.long (((vk &&& (7 : Int32)) - (4 : Int32)).toInt64)), .second, .unset, .unset, .unset, .unset, .unset, .unset, .unset] [(.int z8), (.int r7)])) t → Steps p.tables e below (T7.setTop (mkF m 48 #[.val (.long vq), .second, .val (.int vk), .val (.int (1 : Int32)), .val (.long (((vk &&& (7 : Int32)) - (4 : Int32)).toInt64)), .second, .unset, .unset, .unset, .unset, .unset, .unset, .unset] [(.int r7)])) t := by
    intro t kt
    show Steps p.tables e below (T7.setTop (mkF m 48 #[.val (.long vq), .second, .val (.int vk), .val (.int (1 : Int32)), .val (.long (((vk &&& (7 : Int32)) - (4 : Int32)).toInt64)), .second, .unset, .unset, .unset, .unset, .unset, .unset, .unset] [(.int r7)])) _
    refine XS.lload X7.here hx rfl (hb hby at_48) rfl ?_
    show Steps p.tables e below (T7.setTop (mkF m 50 #[.val (.long vq), .second, .val (.int vk), .val (.int (1 : Int32)), .val (.long (((vk &&& (7 : Int32)) - (4 : Int32)).toInt64)), .second, .unset, .unset, .unset, .unset, .unset, .unset, .unset] [(.long (((vk &&& (7 : Int32)) - (4 : Int32)).toInt64)), (.int r7)])) _
    refine XS.lconst X7.here hx rfl (hb hby at_50) ?_
    show Steps p.tables e below (T7.setTop (mkF m 51 #[.val (.long vq), .second, .val (.int vk), .val (.int (1 : Int32)), .val (.long (((vk &&& (7 : Int32)) - (4 : Int32)).toInt64)), .second, .unset, .unset, .unset, .unset, .unset, .unset, .unset] [(.long (0 : Int64)), (.long (((vk &&& (7 : Int32)) - (4 : Int32)).toInt64)), (.int r7)])) _
    refine XS.lcmp X7.here hx rfl (hb hby at_51) rfl ?_
    show Steps p.tables e below (T7.setTop (mkF m 52 #[.val (.long vq), .second, .val (.int vk), .val (.int (1 : Int32)), .val (.long (((vk &&& (7 : Int32)) - (4 : Int32)).toInt64)), .second, .unset, .unset, .unset, .unset, .unset, .unset, .unset] [(.int (lcmpW (((vk &&& (7 : Int32)) - (4 : Int32)).toInt64) (0 : Int64))), (.int r7)])) _
    by_cases h52_9 : (((vk &&& (7 : Int32)) - (4 : Int32)).toInt64) < (0 : Int64)
    · refine XS.ifYes X7.here hx rfl (pc0 := 52) (pc' := 59) rfl (hb hby at_52) rfl ((if0 _ _).trans (tlt ((lw_lt _ _).mpr h52_9)).1) (by decide) (by decide) ?_
      show Steps p.tables e below (T7.setTop (mkF m 59 #[.val (.long vq), .second, .val (.int vk), .val (.int (1 : Int32)), .val (.long (((vk &&& (7 : Int32)) - (4 : Int32)).toInt64)), .second, .unset, .unset, .unset, .unset, .unset, .unset, .unset] [(.int r7)])) _
      refine XS.iconst X7.here hx rfl (hb hby at_59) ?_
      have qz8 : z8 = (0 : Int32) := hz8.trans (by simp [h52_9])
      rw [qz8] at kt
      exact kt
    · refine XS.ifNo X7.here hx rfl (hb hby at_52) rfl ((if0 _ _).trans (flt (fun q => h52_9 ((lw_lt _ _).mp q))).1) ?_
      show Steps p.tables e below (T7.setTop (mkF m 55 #[.val (.long vq), .second, .val (.int vk), .val (.int (1 : Int32)), .val (.long (((vk &&& (7 : Int32)) - (4 : Int32)).toInt64)), .second, .unset, .unset, .unset, .unset, .unset, .unset, .unset] [(.int r7)])) _
      refine XS.iconst X7.here hx rfl (hb hby at_55) ?_
      show Steps p.tables e below (T7.setTop (mkF m 56 #[.val (.long vq), .second, .val (.int vk), .val (.int (1 : Int32)), .val (.long (((vk &&& (7 : Int32)) - (4 : Int32)).toInt64)), .second, .unset, .unset, .unset, .unset, .unset, .unset, .unset] [(.int (1 : Int32)), (.int r7)])) _
      refine XS.goto X7.here hx rfl (pc0 := 56) (pc' := 60) rfl (hb hby at_56) (by decide) (by decide) ?_
      have qz8 : z8 = (1 : Int32) := hz8.trans (by simp [h52_9])
      rw [qz8] at kt
      exact kt
  obtain ⟨_, _, ⟨T10, L10, k10, n10⟩, -, X10, ⟨Lc10, hQ10, l10, y10, z10⟩, st10⟩ := Jvm.LawKit.callS X7 hx (y := (⟨"com/example/stock_gate/stockgate/model/Order", "isValidQuantity", "(J)Z"⟩ : MethodName)) hown (mvT hZ (hw _ (List.mem_of_getElem? (i := 0) rfl))) (mvT hZ (hw _ (List.mem_of_getElem? (i := 1) rfl))) (mvT hZ (hw _ (List.mem_of_getElem? (i := 2) rfl))) (mvT hZ (hw _ (List.mem_of_getElem? (i := 3) rfl))) (by decide) (backOf (W := 0) (rm_vq l Z a0 hw [] ((1000 : Int64) + (((vk &&& (7 : Int32)) - (4 : Int32)).toInt64)) h0 n0 Z0 ) hZ (hw _ (List.mem_of_getElem? (i := 3) rfl)) (hw _ (List.mem_of_getElem? (i := 2) rfl)) (by decide) (by decide)) (g := (mkF m 76 #[.val (.long vq), .second, .val (.int vk), .val (.int (1 : Int32)), .val (.long (((vk &&& (7 : Int32)) - (4 : Int32)).toInt64)), .second, .val (.int (1 : Int32)), .unset, .unset, .unset, .unset, .unset, .unset] [(.long ((1000 : Int64) + (((vk &&& (7 : Int32)) - (4 : Int32)).toInt64)))])) rfl (by rw [hml]; rfl) (argsL := [(.long ((1000 : Int64) + (((vk &&& (7 : Int32)) - (4 : Int32)).toInt64)))]) (rest := []) (lenOf pd_0 rfl) rfl (by show 2 * 0 + _ ≤ _; exact Nat.le_of_eq rfl) (hb hby at_76) (fun _ _ => ⟨rfl, e7, (by decide : 0 + 0 ≤ _), (by decide : 0 + 0 ≤ _)⟩)
  dsimp only [Pt.U, Pt.locs, Pt.cells, Pt.slots] at X10 l10 y10 z10 st10 hQ10
  subst l10 y10 z10
  obtain ⟨⟨r10, rfl, hr10⟩, N10q, e10⟩ := hQ10
  have N10 := Fr.app N7 N10q
  obtain ⟨z11, hz11⟩ : ∃ z : Int32, z = if (0 : Int64) < (((vk &&& (7 : Int32)) - (4 : Int32)).toInt64) then (0 : Int32) else 1 := ⟨_, rfl⟩
  have seg11 : ∀ t, Steps p.tables e below (T10.setTop (mkF m 91 #[.val (.long vq), .second, .val (.int vk), .val (.int (1 : Int32)), .val (.long (((vk &&& (7 : Int32)) - (4 : Int32)).toInt64)), .second, .val (.int (1 : Int32)), .unset, .unset, .unset, .unset, .unset, .unset] [(.int z11), (.int r10)])) t → Steps p.tables e below (T10.setTop (mkF m 79 #[.val (.long vq), .second, .val (.int vk), .val (.int (1 : Int32)), .val (.long (((vk &&& (7 : Int32)) - (4 : Int32)).toInt64)), .second, .val (.int (1 : Int32)), .unset, .unset, .unset, .unset, .unset, .unset] [(.int r10)])) t := by
    intro t kt
    show Steps p.tables e below (T10.setTop (mkF m 79 #[.val (.long vq), .second, .val (.int vk), .val (.int (1 : Int32)), .val (.long (((vk &&& (7 : Int32)) - (4 : Int32)).toInt64)), .second, .val (.int (1 : Int32)), .unset, .unset, .unset, .unset, .unset, .unset] [(.int r10)])) _
    refine XS.lload X10.here hx rfl (hb hby at_79) rfl ?_
    show Steps p.tables e below (T10.setTop (mkF m 81 #[.val (.long vq), .second, .val (.int vk), .val (.int (1 : Int32)), .val (.long (((vk &&& (7 : Int32)) - (4 : Int32)).toInt64)), .second, .val (.int (1 : Int32)), .unset, .unset, .unset, .unset, .unset, .unset] [(.long (((vk &&& (7 : Int32)) - (4 : Int32)).toInt64)), (.int r10)])) _
    refine XS.lconst X10.here hx rfl (hb hby at_81) ?_
    show Steps p.tables e below (T10.setTop (mkF m 82 #[.val (.long vq), .second, .val (.int vk), .val (.int (1 : Int32)), .val (.long (((vk &&& (7 : Int32)) - (4 : Int32)).toInt64)), .second, .val (.int (1 : Int32)), .unset, .unset, .unset, .unset, .unset, .unset] [(.long (0 : Int64)), (.long (((vk &&& (7 : Int32)) - (4 : Int32)).toInt64)), (.int r10)])) _
    refine XS.lcmp X10.here hx rfl (hb hby at_82) rfl ?_
    show Steps p.tables e below (T10.setTop (mkF m 83 #[.val (.long vq), .second, .val (.int vk), .val (.int (1 : Int32)), .val (.long (((vk &&& (7 : Int32)) - (4 : Int32)).toInt64)), .second, .val (.int (1 : Int32)), .unset, .unset, .unset, .unset, .unset, .unset] [(.int (lcmpW (((vk &&& (7 : Int32)) - (4 : Int32)).toInt64) (0 : Int64))), (.int r10)])) _
    by_cases h83_12 : (0 : Int64) < (((vk &&& (7 : Int32)) - (4 : Int32)).toInt64)
    · refine XS.ifYes X10.here hx rfl (pc0 := 83) (pc' := 90) rfl (hb hby at_83) rfl ((if0 _ _).trans (tlt ((lw_gt _ _).mpr h83_12)).2.2.1) (by decide) (by decide) ?_
      show Steps p.tables e below (T10.setTop (mkF m 90 #[.val (.long vq), .second, .val (.int vk), .val (.int (1 : Int32)), .val (.long (((vk &&& (7 : Int32)) - (4 : Int32)).toInt64)), .second, .val (.int (1 : Int32)), .unset, .unset, .unset, .unset, .unset, .unset] [(.int r10)])) _
      refine XS.iconst X10.here hx rfl (hb hby at_90) ?_
      have qz11 : z11 = (0 : Int32) := hz11.trans (by simp [h83_12])
      rw [qz11] at kt
      exact kt
    · refine XS.ifNo X10.here hx rfl (hb hby at_83) rfl ((if0 _ _).trans (flt (fun q => h83_12 ((lw_gt _ _).mp q))).2.2.1) ?_
      show Steps p.tables e below (T10.setTop (mkF m 86 #[.val (.long vq), .second, .val (.int vk), .val (.int (1 : Int32)), .val (.long (((vk &&& (7 : Int32)) - (4 : Int32)).toInt64)), .second, .val (.int (1 : Int32)), .unset, .unset, .unset, .unset, .unset, .unset] [(.int r10)])) _
      refine XS.iconst X10.here hx rfl (hb hby at_86) ?_
      show Steps p.tables e below (T10.setTop (mkF m 87 #[.val (.long vq), .second, .val (.int vk), .val (.int (1 : Int32)), .val (.long (((vk &&& (7 : Int32)) - (4 : Int32)).toInt64)), .second, .val (.int (1 : Int32)), .unset, .unset, .unset, .unset, .unset, .unset] [(.int (1 : Int32)), (.int r10)])) _
      refine XS.goto X10.here hx rfl (pc0 := 87) (pc' := 91) rfl (hb hby at_87) (by decide) (by decide) ?_
      have qz11 : z11 = (1 : Int32) := hz11.trans (by simp [h83_12])
      rw [qz11] at kt
      exact kt
  obtain ⟨_, _, ⟨T13, L13, k13, n13⟩, -, X13, ⟨Lc13, hQ13, l13, y13, z13⟩, st13⟩ := Jvm.LawKit.callS X10 hx (y := (⟨"com/example/stock_gate/stockgate/model/Order", "isValidQuantity", "(J)Z"⟩ : MethodName)) hown (mvT hZ (hw _ (List.mem_of_getElem? (i := 0) rfl))) (mvT hZ (hw _ (List.mem_of_getElem? (i := 1) rfl))) (mvT hZ (hw _ (List.mem_of_getElem? (i := 2) rfl))) (mvT hZ (hw _ (List.mem_of_getElem? (i := 3) rfl))) (by decide) (backOf (W := 0) (rm_vq l Z a0 hw [] ((-9223372036854775808 : Int64) + ((vk &&& (7 : Int32)).toInt64)) h0 n0 Z0 ) hZ (hw _ (List.mem_of_getElem? (i := 3) rfl)) (hw _ (List.mem_of_getElem? (i := 2) rfl)) (by decide) (by decide)) (g := (mkF m 114 #[.val (.long vq), .second, .val (.int vk), .val (.int (1 : Int32)), .val (.long (((vk &&& (7 : Int32)) - (4 : Int32)).toInt64)), .second, .val (.int (1 : Int32)), .val (.int (1 : Int32)), .val (.long ((vk &&& (7 : Int32)).toInt64)), .second, .unset, .unset, .unset] [(.long ((-9223372036854775808 : Int64) + ((vk &&& (7 : Int32)).toInt64)))])) rfl (by rw [hml]; rfl) (argsL := [(.long ((-9223372036854775808 : Int64) + ((vk &&& (7 : Int32)).toInt64)))]) (rest := []) (lenOf pd_0 rfl) rfl (by show 2 * 0 + _ ≤ _; exact Nat.le_of_eq rfl) (hb hby at_114) (fun _ _ => ⟨rfl, e10, (by decide : 0 + 0 ≤ _), (by decide : 0 + 0 ≤ _)⟩)
  dsimp only [Pt.U, Pt.locs, Pt.cells, Pt.slots] at X13 l13 y13 z13 st13 hQ13
  subst l13 y13 z13
  obtain ⟨⟨r13, rfl, hr13⟩, N13q, e13⟩ := hQ13
  have N13 := Fr.app N10 N13q
  obtain ⟨_, _, ⟨T14, L14, k14, n14⟩, -, X14, ⟨Lc14, hQ14, l14, y14, z14⟩, st14⟩ := Jvm.LawKit.callS X13 hx (y := (⟨"com/example/stock_gate/stockgate/model/Order", "isValidQuantity", "(J)Z"⟩ : MethodName)) hown (mvT hZ (hw _ (List.mem_of_getElem? (i := 0) rfl))) (mvT hZ (hw _ (List.mem_of_getElem? (i := 1) rfl))) (mvT hZ (hw _ (List.mem_of_getElem? (i := 2) rfl))) (mvT hZ (hw _ (List.mem_of_getElem? (i := 3) rfl))) (by decide) (backOf (W := 0) (rm_vq l Z a0 hw [] ((9223372036854775807 : Int64) - ((vk &&& (7 : Int32)).toInt64)) h0 n0 Z0 ) hZ (hw _ (List.mem_of_getElem? (i := 3) rfl)) (hw _ (List.mem_of_getElem? (i := 2) rfl)) (by decide) (by decide)) (g := (mkF m 133 #[.val (.long vq), .second, .val (.int vk), .val (.int (1 : Int32)), .val (.long (((vk &&& (7 : Int32)) - (4 : Int32)).toInt64)), .second, .val (.int (1 : Int32)), .val (.int (1 : Int32)), .val (.long ((vk &&& (7 : Int32)).toInt64)), .second, .val (.int (1 : Int32)), .unset, .unset] [(.long ((9223372036854775807 : Int64) - ((vk &&& (7 : Int32)).toInt64)))])) rfl (by rw [hml]; rfl) (argsL := [(.long ((9223372036854775807 : Int64) - ((vk &&& (7 : Int32)).toInt64)))]) (rest := []) (lenOf pd_0 rfl) rfl (by show 2 * 0 + _ ≤ _; exact Nat.le_of_eq rfl) (hb hby at_133) (fun _ _ => ⟨rfl, e13, (by decide : 0 + 0 ≤ _), (by decide : 0 + 0 ≤ _)⟩)
  dsimp only [Pt.U, Pt.locs, Pt.cells, Pt.slots] at X14 l14 y14 z14 st14 hQ14
  subst l14 y14 z14
  obtain ⟨⟨r14, rfl, hr14⟩, N14q, e14⟩ := hQ14
  have N14 := Fr.app N13 N14q
  obtain ⟨_, _, ⟨T15, L15, k15, n15⟩, -, X15, ⟨Lc15, hQ15, l15, y15, z15⟩, st15⟩ := Jvm.LawKit.callS X14 hx (y := (⟨"com/example/stock_gate/stockgate/model/Order", "isValidQuantity", "(J)Z"⟩ : MethodName)) hown (mvT hZ (hw _ (List.mem_of_getElem? (i := 0) rfl))) (mvT hZ (hw _ (List.mem_of_getElem? (i := 1) rfl))) (mvT hZ (hw _ (List.mem_of_getElem? (i := 2) rfl))) (mvT hZ (hw _ (List.mem_of_getElem? (i := 3) rfl))) (by decide) (backOf (W := 0) (rm_vq l Z a0 hw [] ((4294967297 : Int64) + ((vk &&& (7 : Int32)).toInt64)) h0 n0 Z0 ) hZ (hw _ (List.mem_of_getElem? (i := 3) rfl)) (hw _ (List.mem_of_getElem? (i := 2) rfl)) (by decide) (by decide)) (g := (mkF m 152 #[.val (.long vq), .second, .val (.int vk), .val (.int (1 : Int32)), .val (.long (((vk &&& (7 : Int32)) - (4 : Int32)).toInt64)), .second, .val (.int (1 : Int32)), .val (.int (1 : Int32)), .val (.long ((vk &&& (7 : Int32)).toInt64)), .second, .val (.int (1 : Int32)), .val (.int (1 : Int32)), .unset] [(.long ((4294967297 : Int64) + ((vk &&& (7 : Int32)).toInt64)))])) rfl (by rw [hml]; rfl) (argsL := [(.long ((4294967297 : Int64) + ((vk &&& (7 : Int32)).toInt64)))]) (rest := []) (lenOf pd_0 rfl) rfl (by show 2 * 0 + _ ≤ _; exact Nat.le_of_eq rfl) (hb hby at_152) (fun _ _ => ⟨rfl, e14, (by decide : 0 + 0 ≤ _), (by decide : 0 + 0 ≤ _)⟩)
  dsimp only [Pt.U, Pt.locs, Pt.cells, Pt.slots] at X15 l15 y15 z15 st15 hQ15
  subst l15 y15 z15
  obtain ⟨⟨r15, rfl, hr15⟩, N15q, e15⟩ := hQ15
  have N15 := Fr.app N14 N15q
  obtain ⟨fs, hr, hrun, hended, hW, hsame⟩ := X15.leave (v := some (.int (1 : Int32))) (fun h => by rw [Bd.returns] at h; cases h)
  refine ⟨_, _, pre0 _ ?_, hrun, hended, _, _, rfl, ?_, ⟨_, rfl⟩, hW, hsame.mono (by decide) (by decide)⟩
  · show Steps p.tables e below (s₁.setTop (mkF m 0 #[.val (.long vq), .second, .val (.int vk), .unset, .unset, .unset, .unset, .unset, .unset, .unset, .unset, .unset, .unset] [])) _
    refine XS.lloadN X0.here hx rfl (hb hby at_0) rfl ?_
    show Steps p.tables e below (s₁.setTop (mkF m 1 #[.val (.long vq), .second, .val (.int vk), .unset, .unset, .unset, .unset, .unset, .unset, .unset, .unset, .unset, .unset] [(.long vq)])) _
    refine st3 _ ?_
    show Steps p.tables e below (T3.setTop (mkF m 4 #[.val (.long vq), .second, .val (.int vk), .unset, .unset, .unset, .unset, .unset, .unset, .unset, .unset, .unset, .unset] [(.int r3)])) _
    refine seg4 _ ?_
    show Steps p.tables e below (T3.setTop (mkF m 23 #[.val (.long vq), .second, .val (.int vk), .unset, .unset, .unset, .unset, .unset, .unset, .unset, .unset, .unset, .unset] [(.int z4), (.int r3)])) _
    refine XS.icmpNo X3.here hx rfl (hb hby at_23) rfl (teq (hr3.trans ((own_w vq).trans hz4.symm) : r3 = z4)).2 ?_
    show Steps p.tables e below (T3.setTop (mkF m 26 #[.val (.long vq), .second, .val (.int vk), .unset, .unset, .unset, .unset, .unset, .unset, .unset, .unset, .unset, .unset] [])) _
    refine XS.iconst X3.here hx rfl (hb hby at_26) ?_
    show Steps p.tables e below (T3.setTop (mkF m 27 #[.val (.long vq), .second, .val (.int vk), .unset, .unset, .unset, .unset, .unset, .unset, .unset, .unset, .unset, .unset] [(.int (1 : Int32))])) _
    refine XS.goto X3.here hx rfl (pc0 := 27) (pc' := 31) rfl (hb hby at_27) (by decide) (by decide) ?_
    show Steps p.tables e below (T3.setTop (mkF m 31 #[.val (.long vq), .second, .val (.int vk), .unset, .unset, .unset, .unset, .unset, .unset, .unset, .unset, .unset, .unset] [(.int (1 : Int32))])) _
    refine XS.istoreN X3.here hx rfl (hb hby at_31) rfl (l' := #[.val (.long vq), .second, .val (.int vk), .val (.int (1 : Int32)), .unset, .unset, .unset, .unset, .unset, .unset, .unset, .unset, .unset]) rfl ?_
    show Steps p.tables e below (T3.setTop (mkF m 32 #[.val (.long vq), .second, .val (.int vk), .val (.int (1 : Int32)), .unset, .unset, .unset, .unset, .unset, .unset, .unset, .unset, .unset] [])) _
    refine XS.iloadN X3.here hx rfl (hb hby at_32) rfl ?_
    show Steps p.tables e below (T3.setTop (mkF m 33 #[.val (.long vq), .second, .val (.int vk), .val (.int (1 : Int32)), .unset, .unset, .unset, .unset, .unset, .unset, .unset, .unset, .unset] [(.int vk)])) _
    refine XS.bipush X3.here hx rfl (hb hby at_33) ?_
    show Steps p.tables e below (T3.setTop (mkF m 35 #[.val (.long vq), .second, .val (.int vk), .val (.int (1 : Int32)), .unset, .unset, .unset, .unset, .unset, .unset, .unset, .unset, .unset] [(.int (7 : Int32)), (.int vk)])) _
    refine XS.iand X3.here hx rfl (hb hby at_35) rfl ?_
    show Steps p.tables e below (T3.setTop (mkF m 36 #[.val (.long vq), .second, .val (.int vk), .val (.int (1 : Int32)), .unset, .unset, .unset, .unset, .unset, .unset, .unset, .unset, .unset] [(.int (vk &&& (7 : Int32)))])) _
    refine XS.iconst X3.here hx rfl (hb hby at_36) ?_
    show Steps p.tables e below (T3.setTop (mkF m 37 #[.val (.long vq), .second, .val (.int vk), .val (.int (1 : Int32)), .unset, .unset, .unset, .unset, .unset, .unset, .unset, .unset, .unset] [(.int (4 : Int32)), (.int (vk &&& (7 : Int32)))])) _
    refine XS.isub X3.here hx rfl (hb hby at_37) rfl ?_
    show Steps p.tables e below (T3.setTop (mkF m 38 #[.val (.long vq), .second, .val (.int vk), .val (.int (1 : Int32)), .unset, .unset, .unset, .unset, .unset, .unset, .unset, .unset, .unset] [(.int ((vk &&& (7 : Int32)) - (4 : Int32)))])) _
    refine XS.i2l X3.here hx rfl (hb hby at_38) rfl ?_
    show Steps p.tables e below (T3.setTop (mkF m 39 #[.val (.long vq), .second, .val (.int vk), .val (.int (1 : Int32)), .unset, .unset, .unset, .unset, .unset, .unset, .unset, .unset, .unset] [(.long (((vk &&& (7 : Int32)) - (4 : Int32)).toInt64))])) _
    refine XS.lstore X3.here hx rfl (hb hby at_39) rfl (l' := #[.val (.long vq), .second, .val (.int vk), .val (.int (1 : Int32)), .val (.long (((vk &&& (7 : Int32)) - (4 : Int32)).toInt64)), .second, .unset, .unset, .unset, .unset, .unset, .unset, .unset]) rfl ?_
    show Steps p.tables e below (T3.setTop (mkF m 41 #[.val (.long vq), .second, .val (.int vk), .val (.int (1 : Int32)), .val (.long (((vk &&& (7 : Int32)) - (4 : Int32)).toInt64)), .second, .unset, .unset, .unset, .unset, .unset, .unset, .unset] [])) _
    refine XS.lconst X3.here hx rfl (hb hby at_41) ?_
    show Steps p.tables e below (T3.setTop (mkF m 42 #[.val (.long vq), .second, .val (.int vk), .val (.int (1 : Int32)), .val (.long (((vk &&& (7 : Int32)) - (4 : Int32)).toInt64)), .second, .unset, .unset, .unset, .unset, .unset, .unset, .unset] [(.long (1 : Int64))])) _
    refine XS.lload X3.here hx rfl (hb hby at_42) rfl ?_
    show Steps p.tables e below (T3.setTop (mkF m 44 #[.val (.long vq), .second, .val (.int vk), .val (.int (1 : Int32)), .val (.long (((vk &&& (7 : Int32)) - (4 : Int32)).toInt64)), .second, .unset, .unset, .unset, .unset, .unset, .unset, .unset] [(.long (((vk &&& (7 : Int32)) - (4 : Int32)).toInt64)), (.long (1 : Int64))])) _
    refine XS.ladd X3.here hx rfl (hb hby at_44) rfl ?_
    show Steps p.tables e below (T3.setTop (mkF m 45 #[.val (.long vq), .second, .val (.int vk), .val (.int (1 : Int32)), .val (.long (((vk &&& (7 : Int32)) - (4 : Int32)).toInt64)), .second, .unset, .unset, .unset, .unset, .unset, .unset, .unset] [(.long ((1 : Int64) + (((vk &&& (7 : Int32)) - (4 : Int32)).toInt64)))])) _
    refine st7 _ ?_
    show Steps p.tables e below (T7.setTop (mkF m 48 #[.val (.long vq), .second, .val (.int vk), .val (.int (1 : Int32)), .val (.long (((vk &&& (7 : Int32)) - (4 : Int32)).toInt64)), .second, .unset, .unset, .unset, .unset, .unset, .unset, .unset] [(.int r7)])) _
    refine seg8 _ ?_
    show Steps p.tables e below (T7.setTop (mkF m 60 #[.val (.long vq), .second, .val (.int vk), .val (.int (1 : Int32)), .val (.long (((vk &&& (7 : Int32)) - (4 : Int32)).toInt64)), .second, .unset, .unset, .unset, .unset, .unset, .unset, .unset] [(.int z8), (.int r7)])) _
    refine XS.icmpNo X7.here hx rfl (hb hby at_60) rfl (teq (hr7.trans ((own_low _ (own_k vk).1 (own_k vk).2.1).trans hz8.symm) : r7 = z8)).2 ?_
    show Steps p.tables e below (T7.setTop (mkF m 63 #[.val (.long vq), .second, .val (.int vk), .val (.int (1 : Int32)), .val (.long (((vk &&& (7 : Int32)) - (4 : Int32)).toInt64)), .second, .unset, .unset, .unset, .unset, .unset, .unset, .unset] [])) _
    refine XS.iconst X7.here hx rfl (hb hby at_63) ?_
    show Steps p.tables e below (T7.setTop (mkF m 64 #[.val (.long vq), .second, .val (.int vk), .val (.int (1 : Int32)), .val (.long (((vk &&& (7 : Int32)) - (4 : Int32)).toInt64)), .second, .unset, .unset, .unset, .unset, .unset, .unset, .unset] [(.int (1 : Int32))])) _
    refine XS.goto X7.here hx rfl (pc0 := 64) (pc' := 68) rfl (hb hby at_64) (by decide) (by decide) ?_
    show Steps p.tables e below (T7.setTop (mkF m 68 #[.val (.long vq), .second, .val (.int vk), .val (.int (1 : Int32)), .val (.long (((vk &&& (7 : Int32)) - (4 : Int32)).toInt64)), .second, .unset, .unset, .unset, .unset, .unset, .unset, .unset] [(.int (1 : Int32))])) _
    refine XS.istore X7.here hx rfl (hb hby at_68) rfl (l' := #[.val (.long vq), .second, .val (.int vk), .val (.int (1 : Int32)), .val (.long (((vk &&& (7 : Int32)) - (4 : Int32)).toInt64)), .second, .val (.int (1 : Int32)), .unset, .unset, .unset, .unset, .unset, .unset]) rfl ?_
    show Steps p.tables e below (T7.setTop (mkF m 70 #[.val (.long vq), .second, .val (.int vk), .val (.int (1 : Int32)), .val (.long (((vk &&& (7 : Int32)) - (4 : Int32)).toInt64)), .second, .val (.int (1 : Int32)), .unset, .unset, .unset, .unset, .unset, .unset] [])) _
    refine X7.ldc2Long hx hown (mvT hZ (hw _ (List.mem_of_getElem? (i := 6) rfl))) (g := (mkF m 70 #[.val (.long vq), .second, .val (.int vk), .val (.int (1 : Int32)), .val (.long (((vk &&& (7 : Int32)) - (4 : Int32)).toInt64)), .second, .val (.int (1 : Int32)), .unset, .unset, .unset, .unset, .unset, .unset] [])) rfl (hb hby at_70) _ ?_
    show Steps p.tables e below (T7.setTop (mkF m 73 #[.val (.long vq), .second, .val (.int vk), .val (.int (1 : Int32)), .val (.long (((vk &&& (7 : Int32)) - (4 : Int32)).toInt64)), .second, .val (.int (1 : Int32)), .unset, .unset, .unset, .unset, .unset, .unset] [(.long (1000 : Int64))])) _
    refine XS.lload X7.here hx rfl (hb hby at_73) rfl ?_
    show Steps p.tables e below (T7.setTop (mkF m 75 #[.val (.long vq), .second, .val (.int vk), .val (.int (1 : Int32)), .val (.long (((vk &&& (7 : Int32)) - (4 : Int32)).toInt64)), .second, .val (.int (1 : Int32)), .unset, .unset, .unset, .unset, .unset, .unset] [(.long (((vk &&& (7 : Int32)) - (4 : Int32)).toInt64)), (.long (1000 : Int64))])) _
    refine XS.ladd X7.here hx rfl (hb hby at_75) rfl ?_
    show Steps p.tables e below (T7.setTop (mkF m 76 #[.val (.long vq), .second, .val (.int vk), .val (.int (1 : Int32)), .val (.long (((vk &&& (7 : Int32)) - (4 : Int32)).toInt64)), .second, .val (.int (1 : Int32)), .unset, .unset, .unset, .unset, .unset, .unset] [(.long ((1000 : Int64) + (((vk &&& (7 : Int32)) - (4 : Int32)).toInt64)))])) _
    refine st10 _ ?_
    show Steps p.tables e below (T10.setTop (mkF m 79 #[.val (.long vq), .second, .val (.int vk), .val (.int (1 : Int32)), .val (.long (((vk &&& (7 : Int32)) - (4 : Int32)).toInt64)), .second, .val (.int (1 : Int32)), .unset, .unset, .unset, .unset, .unset, .unset] [(.int r10)])) _
    refine seg11 _ ?_
    show Steps p.tables e below (T10.setTop (mkF m 91 #[.val (.long vq), .second, .val (.int vk), .val (.int (1 : Int32)), .val (.long (((vk &&& (7 : Int32)) - (4 : Int32)).toInt64)), .second, .val (.int (1 : Int32)), .unset, .unset, .unset, .unset, .unset, .unset] [(.int z11), (.int r10)])) _
    refine XS.icmpNo X10.here hx rfl (hb hby at_91) rfl (teq (hr10.trans ((own_high _ (own_k vk).1 (own_k vk).2.1).trans hz11.symm) : r10 = z11)).2 ?_
    show Steps p.tables e below (T10.setTop (mkF m 94 #[.val (.long vq), .second, .val (.int vk), .val (.int (1 : Int32)), .val (.long (((vk &&& (7 : Int32)) - (4 : Int32)).toInt64)), .second, .val (.int (1 : Int32)), .unset, .unset, .unset, .unset, .unset, .unset] [])) _
    refine XS.iconst X10.here hx rfl (hb hby at_94) ?_
    show Steps p.tables e below (T10.setTop (mkF m 95 #[.val (.long vq), .second, .val (.int vk), .val (.int (1 : Int32)), .val (.long (((vk &&& (7 : Int32)) - (4 : Int32)).toInt64)), .second, .val (.int (1 : Int32)), .unset, .unset, .unset, .unset, .unset, .unset] [(.int (1 : Int32))])) _
    refine XS.goto X10.here hx rfl (pc0 := 95) (pc' := 99) rfl (hb hby at_95) (by decide) (by decide) ?_
    show Steps p.tables e below (T10.setTop (mkF m 99 #[.val (.long vq), .second, .val (.int vk), .val (.int (1 : Int32)), .val (.long (((vk &&& (7 : Int32)) - (4 : Int32)).toInt64)), .second, .val (.int (1 : Int32)), .unset, .unset, .unset, .unset, .unset, .unset] [(.int (1 : Int32))])) _
    refine XS.istore X10.here hx rfl (hb hby at_99) rfl (l' := #[.val (.long vq), .second, .val (.int vk), .val (.int (1 : Int32)), .val (.long (((vk &&& (7 : Int32)) - (4 : Int32)).toInt64)), .second, .val (.int (1 : Int32)), .val (.int (1 : Int32)), .unset, .unset, .unset, .unset, .unset]) rfl ?_
    show Steps p.tables e below (T10.setTop (mkF m 101 #[.val (.long vq), .second, .val (.int vk), .val (.int (1 : Int32)), .val (.long (((vk &&& (7 : Int32)) - (4 : Int32)).toInt64)), .second, .val (.int (1 : Int32)), .val (.int (1 : Int32)), .unset, .unset, .unset, .unset, .unset] [])) _
    refine XS.iloadN X10.here hx rfl (hb hby at_101) rfl ?_
    show Steps p.tables e below (T10.setTop (mkF m 102 #[.val (.long vq), .second, .val (.int vk), .val (.int (1 : Int32)), .val (.long (((vk &&& (7 : Int32)) - (4 : Int32)).toInt64)), .second, .val (.int (1 : Int32)), .val (.int (1 : Int32)), .unset, .unset, .unset, .unset, .unset] [(.int vk)])) _
    refine XS.bipush X10.here hx rfl (hb hby at_102) ?_
    show Steps p.tables e below (T10.setTop (mkF m 104 #[.val (.long vq), .second, .val (.int vk), .val (.int (1 : Int32)), .val (.long (((vk &&& (7 : Int32)) - (4 : Int32)).toInt64)), .second, .val (.int (1 : Int32)), .val (.int (1 : Int32)), .unset, .unset, .unset, .unset, .unset] [(.int (7 : Int32)), (.int vk)])) _
    refine XS.iand X10.here hx rfl (hb hby at_104) rfl ?_
    show Steps p.tables e below (T10.setTop (mkF m 105 #[.val (.long vq), .second, .val (.int vk), .val (.int (1 : Int32)), .val (.long (((vk &&& (7 : Int32)) - (4 : Int32)).toInt64)), .second, .val (.int (1 : Int32)), .val (.int (1 : Int32)), .unset, .unset, .unset, .unset, .unset] [(.int (vk &&& (7 : Int32)))])) _
    refine XS.i2l X10.here hx rfl (hb hby at_105) rfl ?_
    show Steps p.tables e below (T10.setTop (mkF m 106 #[.val (.long vq), .second, .val (.int vk), .val (.int (1 : Int32)), .val (.long (((vk &&& (7 : Int32)) - (4 : Int32)).toInt64)), .second, .val (.int (1 : Int32)), .val (.int (1 : Int32)), .unset, .unset, .unset, .unset, .unset] [(.long ((vk &&& (7 : Int32)).toInt64))])) _
    refine XS.lstore X10.here hx rfl (hb hby at_106) rfl (l' := #[.val (.long vq), .second, .val (.int vk), .val (.int (1 : Int32)), .val (.long (((vk &&& (7 : Int32)) - (4 : Int32)).toInt64)), .second, .val (.int (1 : Int32)), .val (.int (1 : Int32)), .val (.long ((vk &&& (7 : Int32)).toInt64)), .second, .unset, .unset, .unset]) rfl ?_
    show Steps p.tables e below (T10.setTop (mkF m 108 #[.val (.long vq), .second, .val (.int vk), .val (.int (1 : Int32)), .val (.long (((vk &&& (7 : Int32)) - (4 : Int32)).toInt64)), .second, .val (.int (1 : Int32)), .val (.int (1 : Int32)), .val (.long ((vk &&& (7 : Int32)).toInt64)), .second, .unset, .unset, .unset] [])) _
    refine X10.ldc2Long hx hown (mvT hZ (hw _ (List.mem_of_getElem? (i := 7) rfl))) (g := (mkF m 108 #[.val (.long vq), .second, .val (.int vk), .val (.int (1 : Int32)), .val (.long (((vk &&& (7 : Int32)) - (4 : Int32)).toInt64)), .second, .val (.int (1 : Int32)), .val (.int (1 : Int32)), .val (.long ((vk &&& (7 : Int32)).toInt64)), .second, .unset, .unset, .unset] [])) rfl (hb hby at_108) _ ?_
    show Steps p.tables e below (T10.setTop (mkF m 111 #[.val (.long vq), .second, .val (.int vk), .val (.int (1 : Int32)), .val (.long (((vk &&& (7 : Int32)) - (4 : Int32)).toInt64)), .second, .val (.int (1 : Int32)), .val (.int (1 : Int32)), .val (.long ((vk &&& (7 : Int32)).toInt64)), .second, .unset, .unset, .unset] [(.long (-9223372036854775808 : Int64))])) _
    refine XS.lload X10.here hx rfl (hb hby at_111) rfl ?_
    show Steps p.tables e below (T10.setTop (mkF m 113 #[.val (.long vq), .second, .val (.int vk), .val (.int (1 : Int32)), .val (.long (((vk &&& (7 : Int32)) - (4 : Int32)).toInt64)), .second, .val (.int (1 : Int32)), .val (.int (1 : Int32)), .val (.long ((vk &&& (7 : Int32)).toInt64)), .second, .unset, .unset, .unset] [(.long ((vk &&& (7 : Int32)).toInt64)), (.long (-9223372036854775808 : Int64))])) _
    refine XS.ladd X10.here hx rfl (hb hby at_113) rfl ?_
    show Steps p.tables e below (T10.setTop (mkF m 114 #[.val (.long vq), .second, .val (.int vk), .val (.int (1 : Int32)), .val (.long (((vk &&& (7 : Int32)) - (4 : Int32)).toInt64)), .second, .val (.int (1 : Int32)), .val (.int (1 : Int32)), .val (.long ((vk &&& (7 : Int32)).toInt64)), .second, .unset, .unset, .unset] [(.long ((-9223372036854775808 : Int64) + ((vk &&& (7 : Int32)).toInt64)))])) _
    refine st13 _ ?_
    show Steps p.tables e below (T13.setTop (mkF m 117 #[.val (.long vq), .second, .val (.int vk), .val (.int (1 : Int32)), .val (.long (((vk &&& (7 : Int32)) - (4 : Int32)).toInt64)), .second, .val (.int (1 : Int32)), .val (.int (1 : Int32)), .val (.long ((vk &&& (7 : Int32)).toInt64)), .second, .unset, .unset, .unset] [(.int r13)])) _
    refine XS.ifNo X13.here hx rfl (hb hby at_117) rfl ((if0 _ _).trans (teq (hr13.trans (own_min _ (own_k vk).2.2.1 (own_k vk).2.2.2) : r13 = (0 : Int32))).2) ?_
    show Steps p.tables e below (T13.setTop (mkF m 120 #[.val (.long vq), .second, .val (.int vk), .val (.int (1 : Int32)), .val (.long (((vk &&& (7 : Int32)) - (4 : Int32)).toInt64)), .second, .val (.int (1 : Int32)), .val (.int (1 : Int32)), .val (.long ((vk &&& (7 : Int32)).toInt64)), .second, .unset, .unset, .unset] [])) _
    refine XS.iconst X13.here hx rfl (hb hby at_120) ?_
    show Steps p.tables e below (T13.setTop (mkF m 121 #[.val (.long vq), .second, .val (.int vk), .val (.int (1 : Int32)), .val (.long (((vk &&& (7 : Int32)) - (4 : Int32)).toInt64)), .second, .val (.int (1 : Int32)), .val (.int (1 : Int32)), .val (.long ((vk &&& (7 : Int32)).toInt64)), .second, .unset, .unset, .unset] [(.int (1 : Int32))])) _
    refine XS.goto X13.here hx rfl (pc0 := 121) (pc' := 125) rfl (hb hby at_121) (by decide) (by decide) ?_
    show Steps p.tables e below (T13.setTop (mkF m 125 #[.val (.long vq), .second, .val (.int vk), .val (.int (1 : Int32)), .val (.long (((vk &&& (7 : Int32)) - (4 : Int32)).toInt64)), .second, .val (.int (1 : Int32)), .val (.int (1 : Int32)), .val (.long ((vk &&& (7 : Int32)).toInt64)), .second, .unset, .unset, .unset] [(.int (1 : Int32))])) _
    refine XS.istore X13.here hx rfl (hb hby at_125) rfl (l' := #[.val (.long vq), .second, .val (.int vk), .val (.int (1 : Int32)), .val (.long (((vk &&& (7 : Int32)) - (4 : Int32)).toInt64)), .second, .val (.int (1 : Int32)), .val (.int (1 : Int32)), .val (.long ((vk &&& (7 : Int32)).toInt64)), .second, .val (.int (1 : Int32)), .unset, .unset]) rfl ?_
    show Steps p.tables e below (T13.setTop (mkF m 127 #[.val (.long vq), .second, .val (.int vk), .val (.int (1 : Int32)), .val (.long (((vk &&& (7 : Int32)) - (4 : Int32)).toInt64)), .second, .val (.int (1 : Int32)), .val (.int (1 : Int32)), .val (.long ((vk &&& (7 : Int32)).toInt64)), .second, .val (.int (1 : Int32)), .unset, .unset] [])) _
    refine X13.ldc2Long hx hown (mvT hZ (hw _ (List.mem_of_getElem? (i := 8) rfl))) (g := (mkF m 127 #[.val (.long vq), .second, .val (.int vk), .val (.int (1 : Int32)), .val (.long (((vk &&& (7 : Int32)) - (4 : Int32)).toInt64)), .second, .val (.int (1 : Int32)), .val (.int (1 : Int32)), .val (.long ((vk &&& (7 : Int32)).toInt64)), .second, .val (.int (1 : Int32)), .unset, .unset] [])) rfl (hb hby at_127) _ ?_
    show Steps p.tables e below (T13.setTop (mkF m 130 #[.val (.long vq), .second, .val (.int vk), .val (.int (1 : Int32)), .val (.long (((vk &&& (7 : Int32)) - (4 : Int32)).toInt64)), .second, .val (.int (1 : Int32)), .val (.int (1 : Int32)), .val (.long ((vk &&& (7 : Int32)).toInt64)), .second, .val (.int (1 : Int32)), .unset, .unset] [(.long (9223372036854775807 : Int64))])) _
    refine XS.lload X13.here hx rfl (hb hby at_130) rfl ?_
    show Steps p.tables e below (T13.setTop (mkF m 132 #[.val (.long vq), .second, .val (.int vk), .val (.int (1 : Int32)), .val (.long (((vk &&& (7 : Int32)) - (4 : Int32)).toInt64)), .second, .val (.int (1 : Int32)), .val (.int (1 : Int32)), .val (.long ((vk &&& (7 : Int32)).toInt64)), .second, .val (.int (1 : Int32)), .unset, .unset] [(.long ((vk &&& (7 : Int32)).toInt64)), (.long (9223372036854775807 : Int64))])) _
    refine XS.lsub X13.here hx rfl (hb hby at_132) rfl ?_
    show Steps p.tables e below (T13.setTop (mkF m 133 #[.val (.long vq), .second, .val (.int vk), .val (.int (1 : Int32)), .val (.long (((vk &&& (7 : Int32)) - (4 : Int32)).toInt64)), .second, .val (.int (1 : Int32)), .val (.int (1 : Int32)), .val (.long ((vk &&& (7 : Int32)).toInt64)), .second, .val (.int (1 : Int32)), .unset, .unset] [(.long ((9223372036854775807 : Int64) - ((vk &&& (7 : Int32)).toInt64)))])) _
    refine st14 _ ?_
    show Steps p.tables e below (T14.setTop (mkF m 136 #[.val (.long vq), .second, .val (.int vk), .val (.int (1 : Int32)), .val (.long (((vk &&& (7 : Int32)) - (4 : Int32)).toInt64)), .second, .val (.int (1 : Int32)), .val (.int (1 : Int32)), .val (.long ((vk &&& (7 : Int32)).toInt64)), .second, .val (.int (1 : Int32)), .unset, .unset] [(.int r14)])) _
    refine XS.ifNo X14.here hx rfl (hb hby at_136) rfl ((if0 _ _).trans (teq (hr14.trans (own_max _ (own_k vk).2.2.1 (own_k vk).2.2.2) : r14 = (0 : Int32))).2) ?_
    show Steps p.tables e below (T14.setTop (mkF m 139 #[.val (.long vq), .second, .val (.int vk), .val (.int (1 : Int32)), .val (.long (((vk &&& (7 : Int32)) - (4 : Int32)).toInt64)), .second, .val (.int (1 : Int32)), .val (.int (1 : Int32)), .val (.long ((vk &&& (7 : Int32)).toInt64)), .second, .val (.int (1 : Int32)), .unset, .unset] [])) _
    refine XS.iconst X14.here hx rfl (hb hby at_139) ?_
    show Steps p.tables e below (T14.setTop (mkF m 140 #[.val (.long vq), .second, .val (.int vk), .val (.int (1 : Int32)), .val (.long (((vk &&& (7 : Int32)) - (4 : Int32)).toInt64)), .second, .val (.int (1 : Int32)), .val (.int (1 : Int32)), .val (.long ((vk &&& (7 : Int32)).toInt64)), .second, .val (.int (1 : Int32)), .unset, .unset] [(.int (1 : Int32))])) _
    refine XS.goto X14.here hx rfl (pc0 := 140) (pc' := 144) rfl (hb hby at_140) (by decide) (by decide) ?_
    show Steps p.tables e below (T14.setTop (mkF m 144 #[.val (.long vq), .second, .val (.int vk), .val (.int (1 : Int32)), .val (.long (((vk &&& (7 : Int32)) - (4 : Int32)).toInt64)), .second, .val (.int (1 : Int32)), .val (.int (1 : Int32)), .val (.long ((vk &&& (7 : Int32)).toInt64)), .second, .val (.int (1 : Int32)), .unset, .unset] [(.int (1 : Int32))])) _
    refine XS.istore X14.here hx rfl (hb hby at_144) rfl (l' := #[.val (.long vq), .second, .val (.int vk), .val (.int (1 : Int32)), .val (.long (((vk &&& (7 : Int32)) - (4 : Int32)).toInt64)), .second, .val (.int (1 : Int32)), .val (.int (1 : Int32)), .val (.long ((vk &&& (7 : Int32)).toInt64)), .second, .val (.int (1 : Int32)), .val (.int (1 : Int32)), .unset]) rfl ?_
    show Steps p.tables e below (T14.setTop (mkF m 146 #[.val (.long vq), .second, .val (.int vk), .val (.int (1 : Int32)), .val (.long (((vk &&& (7 : Int32)) - (4 : Int32)).toInt64)), .second, .val (.int (1 : Int32)), .val (.int (1 : Int32)), .val (.long ((vk &&& (7 : Int32)).toInt64)), .second, .val (.int (1 : Int32)), .val (.int (1 : Int32)), .unset] [])) _
    refine X14.ldc2Long hx hown (mvT hZ (hw _ (List.mem_of_getElem? (i := 9) rfl))) (g := (mkF m 146 #[.val (.long vq), .second, .val (.int vk), .val (.int (1 : Int32)), .val (.long (((vk &&& (7 : Int32)) - (4 : Int32)).toInt64)), .second, .val (.int (1 : Int32)), .val (.int (1 : Int32)), .val (.long ((vk &&& (7 : Int32)).toInt64)), .second, .val (.int (1 : Int32)), .val (.int (1 : Int32)), .unset] [])) rfl (hb hby at_146) _ ?_
    show Steps p.tables e below (T14.setTop (mkF m 149 #[.val (.long vq), .second, .val (.int vk), .val (.int (1 : Int32)), .val (.long (((vk &&& (7 : Int32)) - (4 : Int32)).toInt64)), .second, .val (.int (1 : Int32)), .val (.int (1 : Int32)), .val (.long ((vk &&& (7 : Int32)).toInt64)), .second, .val (.int (1 : Int32)), .val (.int (1 : Int32)), .unset] [(.long (4294967297 : Int64))])) _
    refine XS.lload X14.here hx rfl (hb hby at_149) rfl ?_
    show Steps p.tables e below (T14.setTop (mkF m 151 #[.val (.long vq), .second, .val (.int vk), .val (.int (1 : Int32)), .val (.long (((vk &&& (7 : Int32)) - (4 : Int32)).toInt64)), .second, .val (.int (1 : Int32)), .val (.int (1 : Int32)), .val (.long ((vk &&& (7 : Int32)).toInt64)), .second, .val (.int (1 : Int32)), .val (.int (1 : Int32)), .unset] [(.long ((vk &&& (7 : Int32)).toInt64)), (.long (4294967297 : Int64))])) _
    refine XS.ladd X14.here hx rfl (hb hby at_151) rfl ?_
    show Steps p.tables e below (T14.setTop (mkF m 152 #[.val (.long vq), .second, .val (.int vk), .val (.int (1 : Int32)), .val (.long (((vk &&& (7 : Int32)) - (4 : Int32)).toInt64)), .second, .val (.int (1 : Int32)), .val (.int (1 : Int32)), .val (.long ((vk &&& (7 : Int32)).toInt64)), .second, .val (.int (1 : Int32)), .val (.int (1 : Int32)), .unset] [(.long ((4294967297 : Int64) + ((vk &&& (7 : Int32)).toInt64)))])) _
    refine st15 _ ?_
    show Steps p.tables e below (T15.setTop (mkF m 155 #[.val (.long vq), .second, .val (.int vk), .val (.int (1 : Int32)), .val (.long (((vk &&& (7 : Int32)) - (4 : Int32)).toInt64)), .second, .val (.int (1 : Int32)), .val (.int (1 : Int32)), .val (.long ((vk &&& (7 : Int32)).toInt64)), .second, .val (.int (1 : Int32)), .val (.int (1 : Int32)), .unset] [(.int r15)])) _
    refine XS.ifNo X15.here hx rfl (hb hby at_155) rfl ((if0 _ _).trans (teq (hr15.trans (own_wrap _ (own_k vk).2.2.1 (own_k vk).2.2.2) : r15 = (0 : Int32))).2) ?_
    show Steps p.tables e below (T15.setTop (mkF m 158 #[.val (.long vq), .second, .val (.int vk), .val (.int (1 : Int32)), .val (.long (((vk &&& (7 : Int32)) - (4 : Int32)).toInt64)), .second, .val (.int (1 : Int32)), .val (.int (1 : Int32)), .val (.long ((vk &&& (7 : Int32)).toInt64)), .second, .val (.int (1 : Int32)), .val (.int (1 : Int32)), .unset] [])) _
    refine XS.iconst X15.here hx rfl (hb hby at_158) ?_
    show Steps p.tables e below (T15.setTop (mkF m 159 #[.val (.long vq), .second, .val (.int vk), .val (.int (1 : Int32)), .val (.long (((vk &&& (7 : Int32)) - (4 : Int32)).toInt64)), .second, .val (.int (1 : Int32)), .val (.int (1 : Int32)), .val (.long ((vk &&& (7 : Int32)).toInt64)), .second, .val (.int (1 : Int32)), .val (.int (1 : Int32)), .unset] [(.int (1 : Int32))])) _
    refine XS.goto X15.here hx rfl (pc0 := 159) (pc' := 163) rfl (hb hby at_159) (by decide) (by decide) ?_
    show Steps p.tables e below (T15.setTop (mkF m 163 #[.val (.long vq), .second, .val (.int vk), .val (.int (1 : Int32)), .val (.long (((vk &&& (7 : Int32)) - (4 : Int32)).toInt64)), .second, .val (.int (1 : Int32)), .val (.int (1 : Int32)), .val (.long ((vk &&& (7 : Int32)).toInt64)), .second, .val (.int (1 : Int32)), .val (.int (1 : Int32)), .unset] [(.int (1 : Int32))])) _
    refine XS.istore X15.here hx rfl (hb hby at_163) rfl (l' := #[.val (.long vq), .second, .val (.int vk), .val (.int (1 : Int32)), .val (.long (((vk &&& (7 : Int32)) - (4 : Int32)).toInt64)), .second, .val (.int (1 : Int32)), .val (.int (1 : Int32)), .val (.long ((vk &&& (7 : Int32)).toInt64)), .second, .val (.int (1 : Int32)), .val (.int (1 : Int32)), .val (.int (1 : Int32))]) rfl ?_
    show Steps p.tables e below (T15.setTop (mkF m 165 #[.val (.long vq), .second, .val (.int vk), .val (.int (1 : Int32)), .val (.long (((vk &&& (7 : Int32)) - (4 : Int32)).toInt64)), .second, .val (.int (1 : Int32)), .val (.int (1 : Int32)), .val (.long ((vk &&& (7 : Int32)).toInt64)), .second, .val (.int (1 : Int32)), .val (.int (1 : Int32)), .val (.int (1 : Int32))] [])) _
    refine XS.iloadN X15.here hx rfl (hb hby at_165) rfl ?_
    show Steps p.tables e below (T15.setTop (mkF m 166 #[.val (.long vq), .second, .val (.int vk), .val (.int (1 : Int32)), .val (.long (((vk &&& (7 : Int32)) - (4 : Int32)).toInt64)), .second, .val (.int (1 : Int32)), .val (.int (1 : Int32)), .val (.long ((vk &&& (7 : Int32)).toInt64)), .second, .val (.int (1 : Int32)), .val (.int (1 : Int32)), .val (.int (1 : Int32))] [(.int (1 : Int32))])) _
    refine XS.ifNo X15.here hx rfl (hb hby at_166) rfl ((if0 _ _).trans (feq (by decide : ¬ ((1 : Int32) = (0 : Int32)))).1) ?_
    show Steps p.tables e below (T15.setTop (mkF m 169 #[.val (.long vq), .second, .val (.int vk), .val (.int (1 : Int32)), .val (.long (((vk &&& (7 : Int32)) - (4 : Int32)).toInt64)), .second, .val (.int (1 : Int32)), .val (.int (1 : Int32)), .val (.long ((vk &&& (7 : Int32)).toInt64)), .second, .val (.int (1 : Int32)), .val (.int (1 : Int32)), .val (.int (1 : Int32))] [])) _
    refine XS.iload X15.here hx rfl (hb hby at_169) rfl ?_
    show Steps p.tables e below (T15.setTop (mkF m 171 #[.val (.long vq), .second, .val (.int vk), .val (.int (1 : Int32)), .val (.long (((vk &&& (7 : Int32)) - (4 : Int32)).toInt64)), .second, .val (.int (1 : Int32)), .val (.int (1 : Int32)), .val (.long ((vk &&& (7 : Int32)).toInt64)), .second, .val (.int (1 : Int32)), .val (.int (1 : Int32)), .val (.int (1 : Int32))] [(.int (1 : Int32))])) _
    refine XS.ifNo X15.here hx rfl (hb hby at_171) rfl ((if0 _ _).trans (feq (by decide : ¬ ((1 : Int32) = (0 : Int32)))).1) ?_
    show Steps p.tables e below (T15.setTop (mkF m 174 #[.val (.long vq), .second, .val (.int vk), .val (.int (1 : Int32)), .val (.long (((vk &&& (7 : Int32)) - (4 : Int32)).toInt64)), .second, .val (.int (1 : Int32)), .val (.int (1 : Int32)), .val (.long ((vk &&& (7 : Int32)).toInt64)), .second, .val (.int (1 : Int32)), .val (.int (1 : Int32)), .val (.int (1 : Int32))] [])) _
    refine XS.iload X15.here hx rfl (hb hby at_174) rfl ?_
    show Steps p.tables e below (T15.setTop (mkF m 176 #[.val (.long vq), .second, .val (.int vk), .val (.int (1 : Int32)), .val (.long (((vk &&& (7 : Int32)) - (4 : Int32)).toInt64)), .second, .val (.int (1 : Int32)), .val (.int (1 : Int32)), .val (.long ((vk &&& (7 : Int32)).toInt64)), .second, .val (.int (1 : Int32)), .val (.int (1 : Int32)), .val (.int (1 : Int32))] [(.int (1 : Int32))])) _
    refine XS.ifNo X15.here hx rfl (hb hby at_176) rfl ((if0 _ _).trans (feq (by decide : ¬ ((1 : Int32) = (0 : Int32)))).1) ?_
    show Steps p.tables e below (T15.setTop (mkF m 179 #[.val (.long vq), .second, .val (.int vk), .val (.int (1 : Int32)), .val (.long (((vk &&& (7 : Int32)) - (4 : Int32)).toInt64)), .second, .val (.int (1 : Int32)), .val (.int (1 : Int32)), .val (.long ((vk &&& (7 : Int32)).toInt64)), .second, .val (.int (1 : Int32)), .val (.int (1 : Int32)), .val (.int (1 : Int32))] [])) _
    refine XS.iload X15.here hx rfl (hb hby at_179) rfl ?_
    show Steps p.tables e below (T15.setTop (mkF m 181 #[.val (.long vq), .second, .val (.int vk), .val (.int (1 : Int32)), .val (.long (((vk &&& (7 : Int32)) - (4 : Int32)).toInt64)), .second, .val (.int (1 : Int32)), .val (.int (1 : Int32)), .val (.long ((vk &&& (7 : Int32)).toInt64)), .second, .val (.int (1 : Int32)), .val (.int (1 : Int32)), .val (.int (1 : Int32))] [(.int (1 : Int32))])) _
    refine XS.ifNo X15.here hx rfl (hb hby at_181) rfl ((if0 _ _).trans (feq (by decide : ¬ ((1 : Int32) = (0 : Int32)))).1) ?_
    show Steps p.tables e below (T15.setTop (mkF m 184 #[.val (.long vq), .second, .val (.int vk), .val (.int (1 : Int32)), .val (.long (((vk &&& (7 : Int32)) - (4 : Int32)).toInt64)), .second, .val (.int (1 : Int32)), .val (.int (1 : Int32)), .val (.long ((vk &&& (7 : Int32)).toInt64)), .second, .val (.int (1 : Int32)), .val (.int (1 : Int32)), .val (.int (1 : Int32))] [])) _
    refine XS.iload X15.here hx rfl (hb hby at_184) rfl ?_
    show Steps p.tables e below (T15.setTop (mkF m 186 #[.val (.long vq), .second, .val (.int vk), .val (.int (1 : Int32)), .val (.long (((vk &&& (7 : Int32)) - (4 : Int32)).toInt64)), .second, .val (.int (1 : Int32)), .val (.int (1 : Int32)), .val (.long ((vk &&& (7 : Int32)).toInt64)), .second, .val (.int (1 : Int32)), .val (.int (1 : Int32)), .val (.int (1 : Int32))] [(.int (1 : Int32))])) _
    refine XS.ifNo X15.here hx rfl (hb hby at_186) rfl ((if0 _ _).trans (feq (by decide : ¬ ((1 : Int32) = (0 : Int32)))).1) ?_
    show Steps p.tables e below (T15.setTop (mkF m 189 #[.val (.long vq), .second, .val (.int vk), .val (.int (1 : Int32)), .val (.long (((vk &&& (7 : Int32)) - (4 : Int32)).toInt64)), .second, .val (.int (1 : Int32)), .val (.int (1 : Int32)), .val (.long ((vk &&& (7 : Int32)).toInt64)), .second, .val (.int (1 : Int32)), .val (.int (1 : Int32)), .val (.int (1 : Int32))] [])) _
    refine XS.iload X15.here hx rfl (hb hby at_189) rfl ?_
    show Steps p.tables e below (T15.setTop (mkF m 191 #[.val (.long vq), .second, .val (.int vk), .val (.int (1 : Int32)), .val (.long (((vk &&& (7 : Int32)) - (4 : Int32)).toInt64)), .second, .val (.int (1 : Int32)), .val (.int (1 : Int32)), .val (.long ((vk &&& (7 : Int32)).toInt64)), .second, .val (.int (1 : Int32)), .val (.int (1 : Int32)), .val (.int (1 : Int32))] [(.int (1 : Int32))])) _
    refine XS.ifNo X15.here hx rfl (hb hby at_191) rfl ((if0 _ _).trans (feq (by decide : ¬ ((1 : Int32) = (0 : Int32)))).1) ?_
    show Steps p.tables e below (T15.setTop (mkF m 194 #[.val (.long vq), .second, .val (.int vk), .val (.int (1 : Int32)), .val (.long (((vk &&& (7 : Int32)) - (4 : Int32)).toInt64)), .second, .val (.int (1 : Int32)), .val (.int (1 : Int32)), .val (.long ((vk &&& (7 : Int32)).toInt64)), .second, .val (.int (1 : Int32)), .val (.int (1 : Int32)), .val (.int (1 : Int32))] [])) _
    refine XS.iconst X15.here hx rfl (hb hby at_194) ?_
    show Steps p.tables e below (T15.setTop (mkF m 195 #[.val (.long vq), .second, .val (.int vk), .val (.int (1 : Int32)), .val (.long (((vk &&& (7 : Int32)) - (4 : Int32)).toInt64)), .second, .val (.int (1 : Int32)), .val (.int (1 : Int32)), .val (.long ((vk &&& (7 : Int32)).toInt64)), .second, .val (.int (1 : Int32)), .val (.int (1 : Int32)), .val (.int (1 : Int32))] [(.int (1 : Int32))])) _
    refine XS.goto X15.here hx rfl (pc0 := 195) (pc' := 199) rfl (hb hby at_195) (by decide) (by decide) ?_
    show Steps p.tables e below (T15.setTop (mkF m 199 #[.val (.long vq), .second, .val (.int vk), .val (.int (1 : Int32)), .val (.long (((vk &&& (7 : Int32)) - (4 : Int32)).toInt64)), .second, .val (.int (1 : Int32)), .val (.int (1 : Int32)), .val (.long ((vk &&& (7 : Int32)).toInt64)), .second, .val (.int (1 : Int32)), .val (.int (1 : Int32)), .val (.int (1 : Int32))] [(.int (1 : Int32))])) _
    exact retN X15 hx (t := .boolean) Bd.returns (by simp) (hb hby at_199) hr
  · show Q_law Z vq vk h0 n0 _ T15.heap _
    rw [e15]
    exact ⟨rfl, N15⟩
set_option maxRecDepth 65536 in
set_option maxHeartbeats 40000000 in
theorem comes_1 {Post : Tables → Env → Array Value → State → Outcome → State → Prop} (hpost : ∀ tb e args s v u, (limb_1_1.after args s (.returned v) u = true ∧ limb_1_2.after args s (.returned v) u = true ∧ True) → FrameEnd s (.returned v) u (Jvm.fieldLocs frame_1_writes args s ++ Jvm.arrayLocs frame_1_arrays args s ++ Jvm.staticLocs frame_1_statics s) 0 0 → Post tb e args s (.returned v) u) :
    ArmFor flags0 classFile x code maxLocals ret World_1 tables_1 room_1 Calls_1 rest_1 Pre_1 Post := by
  intro l hfl _ _ p e ha hc hk s m args below hf hA hF happ hP
  obtain ⟨hcalls, hrest, hpre⟩ := hP
  obtain ⟨-, -, -, hnamed, -, -, -, hat⟩ := (Spec.applies_iff hf).mp happ
  obtain ⟨hg, hn⟩ := and_e (Cond.before_iff.mp (show (Jvm.Cond.and given_1 narrow_1).before args s = true from hpre))
  obtain ⟨hg0, hr0⟩ := and_e hg
  obtain ⟨ha0, hr1⟩ := and_e hr0
  obtain ⟨w0, w1, rfl⟩ : ∃ w0 w1 : Value, args = #[w0, w1] := by
    have hs : args.size = 2 := by simpa [Cond.value, given_1] using hg0
    obtain ⟨L⟩ := args
    match L, hs with
    | [w0, w1], _ => exact ⟨w0, w1, rfl⟩
  have hw := fun d (hd : d ∈ tables_1) => atoms_spec (ws := Jvm.Cond.code x code maxLocals ret :: tables_1) hat d (List.mem_cons_of_mem _ hd)
  obtain ⟨i0, ei0⟩ := isL_v ha0
  obtain rfl : w0 = (.long i0) := Option.some.inj ei0
  obtain ⟨i1, ei1⟩ := is_v hr1
  obtain rfl : w1 = (.int i1) := Option.some.inj ei1
  obtain ⟨n, o, h1, h2, h3, _, L, rfl, ⟨rfl, N⟩, hq⟩ := rm_law l s _ hw tables_1 i0 i1 s.heap s.heap.size (Nat.le_refl _)  p e ha hc hk s m _ below hf ((Spec.applies_iff_loose hf).mp happ).1 ⟨rfl, State.Warmed39.refl s, rfl⟩ trivial
  refine ⟨n, _, h1, h2, h3, hpost _ _ _ _ _ _ ⟨Cond.after_iff.mpr rfl, Cond.after_iff.mpr (eq_i res_at (Term.int_eval (1)) rfl), trivial⟩ ⟨hq.1, hq.2.1, (hq.2.2.sift fun y hy => Or.inr (N y hy)).mono (by decide) (by decide)⟩⟩
theorem main_1_1 : Claimed_1_1 := comes_1 fun _ _ _ _ _ _ h hF => ⟨h.1, hF⟩
theorem main_1_2 : Claimed_1_2 := comes_1 fun _ _ _ _ _ _ h hF => ⟨h.2.1, hF⟩
end Jvm.Pilot.@@N@@
namespace Jvm.Pilot.@@N@@
open Jvm Jvm.ClassFile Sem Op Lib Jvm.Free Jvm.Stand Jvm.Pilot.@@N@@.Jvm.D
/-! MADE BY PROGRAM (witnessworld.py) out of the Statement's table words and the real class files: 10 classes; the members and pool entries that the words name. The judged class is class 1, her method 1. -/
namespace start1
open Jvm.ClassFile
def u (s : String) : CpInfo := .utf8 (stringToUtf16 s)
/-- a pool by its gaps: so many unusable entries, then the entry; so many at the end -/
def gap : Nat → List CpInfo → List CpInfo
  | 0, r => r
  | n + 1, r => .unusable :: gap n r
def poolList (es : List (Nat × CpInfo)) (last : Nat) : List CpInfo := es.foldr (fun e r => gap e.1 (e.2 :: r)) (gap last [])
def pool (es : List (Nat × CpInfo)) (last : Nat) : Array CpInfo := ⟨poolList es last⟩
def fileOf (pool : Array CpInfo) (this : Nat) (attrs : Array Attribute := #[]) (ms : Array MethodInfo := #[]) (fl : Nat := 33) (sup : Nat := 0) (ifs : Array Nat := #[]) (fds : Array FieldInfo := #[]) : ClassFile where
  minorVersion := 0
  majorVersion := 65
  constantPool := pool
  accessFlags := fl
  thisClass := this
  superClass := sup
  interfaces := ifs
  fields := fds
  methods := ms
  attributes := attrs
def plain (name : String) (sup : Option ClassId) : Class where
  name := name
  kind := .ordinary
  loader := none
  accessFlags := 33
  super := sup
  interfaces := #[]
  cf := none
  fields := #[]
  methods := #[]
  instanceTypes := #[]
  staticTypes := #[]
  resolved := #[]
  callSites := []
  init := .initialized
  statics := none
  mirror := none

def pool0 : Array CpInfo := pool [(5, u "<init>"), (0, u "()V"), (1, .class_ 10), (1, u "java/lang/Object")] 113

def k0m0 : Method := { name := "<init>", desc := "()V", sig := { parameters := [], returnType := none }, accessFlags := 1, code := none }
/-- java/lang/Object -/
def k0 : Class := { plain "java/lang/Object" none with
  accessFlags := 33
  interfaces := #[]
  cf := some (fileOf pool0 8 #[] #[{ accessFlags := 1, nameIndex := 5, descriptorIndex := 6, attributes := #[] }] 33 0 #[] #[])
  fields := #[]
  methods := #[k0m0]
  instanceTypes := #[]
  staticTypes := #[]
  resolved := Array.replicate 124 none
  statics := none }

def pool1 : Array CpInfo := pool [(2, .class_ 4), (1, u "java/lang/Object"), (0, u "<init>"), (0, u "()V"), (0, .methodref 8 9), (0, .class_ 10), (0, .nameAndType 11 12), (0, u "com/example/stock_gate/stockgate/model/Order"), (0, u "isValidQuantity"), (0, u "(J)Z"), (0, .long 1001), (1, .long 1000), (3, .long 9223372036854775808), (1, .long 9223372036854775807), (1, .long 4294967297), (1, .class_ 26), (0, u "com/example/stock_gate/stockgate/model/OrderIsValidQuantityPinLaw"), (2, u "law"), (0, u "(JI)Z")] 3

def k1m0 : Method := { name := "<init>", desc := "()V", sig := { parameters := [], returnType := none }, accessFlags := 2, code := none }
def k1c1 : Code := { maxStack := 5, maxLocals := 13, code := code, exceptionTable := #[], attributes := #[] }
def k1m1 : Method := { name := "law", desc := "(JI)Z", sig := { parameters := [.long, .int], returnType := some .boolean }, accessFlags := 9, code := some k1c1 }
/-- com/example/stock_gate/stockgate/model/OrderIsValidQuantityPinLaw -/
def k1 : Class := { plain "com/example/stock_gate/stockgate/model/OrderIsValidQuantityPinLaw" (some 0) with
  accessFlags := 49
  interfaces := #[]
  cf := some (fileOf pool1 25 #[] #[{ accessFlags := 2, nameIndex := 5, descriptorIndex := 6, attributes := #[] }, { accessFlags := 9, nameIndex := 29, descriptorIndex := 30, attributes := #[] }] 49 2 #[] #[])
  fields := #[]
  methods := #[k1m0, k1m1]
  instanceTypes := #[]
  staticTypes := #[]
  resolved := Array.replicate 34 none
  statics := none }

def pool2 : Array CpInfo := pool [(2, .class_ 4), (1, u "java/lang/Object"), (0, u "<init>"), (0, u "()V"), (0, .class_ 8), (0, u "java/lang/Record")] 13

def k2m0 : Method := { name := "<init>", desc := "()V", sig := { parameters := [], returnType := none }, accessFlags := 4, code := none }
/-- java/lang/Record -/
def k2 : Class := { plain "java/lang/Record" (some 0) with
  accessFlags := 1057
  interfaces := #[]
  cf := some (fileOf pool2 7 #[] #[{ accessFlags := 4, nameIndex := 5, descriptorIndex := 6, attributes := #[] }] 1057 2 #[] #[])
  fields := #[]
  methods := #[k2m0]
  instanceTypes := #[]
  staticTypes := #[]
  resolved := Array.replicate 22 none
  statics := none }

def pool3 : Array CpInfo := pool [(2, .class_ 4), (1, u "java/lang/Record"), (21, .class_ 28), (1, u "com/example/stock_gate/stockgate/model/Order"), (0, u "isValidQuantity"), (0, u "(J)Z"), (8, u "Lcom/example/stock_gate/stockgate/model/OrderStatus;"), (11, u "id"), (0, u "Ljava/lang/String;"), (2, u "saleId"), (2, u "buyer"), (2, u "requestId"), (2, u "quantity"), (0, u "I"), (2, u "status"), (2, u "heldUntil"), (0, u "Ljava/time/Instant;"), (2, u "definition"), (3, .long 1000), (13, u "MAX_QUANTITY")] 55

def k3c0 : Code := { maxStack := 4, maxLocals := 2, code := prog_9_method_3_code, exceptionTable := #[], attributes := #[] }
def k3m0 : Method := { name := "isValidQuantity", desc := "(J)Z", sig := { parameters := [.long], returnType := some .boolean }, accessFlags := 9, code := some k3c0 }
/-- com/example/stock_gate/stockgate/model/Order -/
def k3 : Class := { plain "com/example/stock_gate/stockgate/model/Order" (some 2) with
  accessFlags := 49
  interfaces := #[]
  cf := some (fileOf pool3 26 #[] #[{ accessFlags := 9, nameIndex := 29, descriptorIndex := 30, attributes := #[] }] 49 2 #[] #[{ accessFlags := 18, nameIndex := 51, descriptorIndex := 52, attributes := #[] }, { accessFlags := 18, nameIndex := 55, descriptorIndex := 52, attributes := #[] }, { accessFlags := 18, nameIndex := 58, descriptorIndex := 52, attributes := #[] }, { accessFlags := 18, nameIndex := 61, descriptorIndex := 52, attributes := #[] }, { accessFlags := 18, nameIndex := 64, descriptorIndex := 65, attributes := #[] }, { accessFlags := 18, nameIndex := 68, descriptorIndex := 39, attributes := #[] }, { accessFlags := 18, nameIndex := 71, descriptorIndex := 72, attributes := #[] }, { accessFlags := 18, nameIndex := 75, descriptorIndex := 52, attributes := #[] }, { accessFlags := 25, nameIndex := 93, descriptorIndex := 65, attributes := #[] }])
  fields := #[{ name := "id", type := (.object "java/lang/String"), accessFlags := 18, slot := 0, constantValue := 0 }, { name := "saleId", type := (.object "java/lang/String"), accessFlags := 18, slot := 1, constantValue := 0 }, { name := "buyer", type := (.object "java/lang/String"), accessFlags := 18, slot := 2, constantValue := 0 }, { name := "requestId", type := (.object "java/lang/String"), accessFlags := 18, slot := 3, constantValue := 0 }, { name := "quantity", type := .int, accessFlags := 18, slot := 4, constantValue := 0 }, { name := "status", type := (.object "com/example/stock_gate/stockgate/model/OrderStatus"), accessFlags := 18, slot := 5, constantValue := 0 }, { name := "heldUntil", type := (.object "java/time/Instant"), accessFlags := 18, slot := 6, constantValue := 0 }, { name := "definition", type := (.object "java/lang/String"), accessFlags := 18, slot := 7, constantValue := 0 }, { name := "MAX_QUANTITY", type := .int, accessFlags := 25, slot := 0, constantValue := 0 }]
  methods := #[k3m0]
  instanceTypes := #[(.object "java/lang/String"), (.object "java/lang/String"), (.object "java/lang/String"), (.object "java/lang/String"), .int, (.object "com/example/stock_gate/stockgate/model/OrderStatus"), (.object "java/time/Instant"), (.object "java/lang/String")]
  staticTypes := #[.int]
  resolved := Array.replicate 149 none
  statics := none }

def pool4 : Array CpInfo := pool [(1, u "java/lang/Cloneable"), (0, .class_ 1), (0, u "java/lang/Object"), (0, .class_ 3)] 3

/-- java/lang/Cloneable -/
def k4 : Class := { plain "java/lang/Cloneable" (some 0) with
  accessFlags := 1537
  interfaces := #[]
  cf := some (fileOf pool4 2 #[] #[] 1537 4 #[] #[])
  fields := #[]
  methods := #[]
  instanceTypes := #[]
  staticTypes := #[]
  resolved := Array.replicate 8 none
  statics := none }

def pool5 : Array CpInfo := pool [(1, u "java/io/Serializable"), (0, .class_ 1), (0, u "java/lang/Object"), (0, .class_ 3)] 3

/-- java/io/Serializable -/
def k5 : Class := { plain "java/io/Serializable" (some 0) with
  accessFlags := 1537
  interfaces := #[]
  cf := some (fileOf pool5 2 #[] #[] 1537 4 #[] #[])
  fields := #[]
  methods := #[]
  instanceTypes := #[]
  staticTypes := #[]
  resolved := Array.replicate 8 none
  statics := none }

/-- the primitive byte -/
def k6 : Class := { plain "byte" none with kind := .primitive 'B', accessFlags := 0x411 }
/-- [B -/
def k7 : Class := { plain "[B" (some 0) with kind := .array 6 .byte, interfaces := #[4, 5], accessFlags := 1041 }

/-- the primitive int -/
def k8 : Class := { plain "int" none with kind := .primitive 'I', accessFlags := 0x411 }
/-- [I -/
def k9 : Class := { plain "[I" (some 0) with kind := .array 8 .int, interfaces := #[4, 5], accessFlags := 1041 }

def heap : Heap := #[]
def classes : Array Class := #[k0, k1, k2, k3, k4, k5, k6, k7, k8, k9]
def interned : List (Array UInt16 × Addr) := []
def slotsUsed : Nat := 0
def theMethod : MethodId := ⟨1, 1⟩
def args0 : Array Value := #[.long 5, .int 3]
def aboutOver (below : List Frame) : State where
  vm := { classes := classes, interned := interned.toArray }
  heap := heap
  slotsUsed := slotsUsed
  threads := #[{ frames := .invoking theMethod args0 :: below }]
def below0 : List Frame := [.native { method := ⟨0, 0⟩, args := #[] }]
def about1 : State := aboutOver below0
def p0 : Program := .bare "" "" ""
def e0 : Env := launch0.env 0 0 0
theorem w_frames : about1.frames = Frame.invoking theMethod args0 :: below0 := rfl
set_option maxRecDepth 65536 in
theorem w_args : argsFit about1.vm theMethod args0 = true := by decide +kernel
set_option maxRecDepth 65536 in
theorem w_heap : heapFits about1 = true := by decide +kernel
set_option maxRecDepth 65536 in
theorem w_runnable : about1.curStatus? = some .runnable := by decide +kernel
set_option maxRecDepth 65536 in
theorem w_alone : about1.alone = true := by decide +kernel
set_option maxRecDepth 65536 in
theorem w_named : about1.methodNamed? x = some theMethod := by decide +kernel
set_option maxRecDepth 65536 in
theorem w_hears : about1.hears theMethod below0 = true := by decide +kernel
set_option maxRecDepth 65536 in
theorem w_ripe : about1.ripe theMethod args0 below0 = true := by decide +kernel
theorem w_running : about1.status = .running := rfl
set_option maxRecDepth 65536 in
theorem w_room : about1.hasRoom e0.platform room_1 = true :=
  launch0.hasRoom_least _ room_1 (by decide +kernel) (by decide +kernel) (by decide +kernel) (by decide +kernel) (by decide +kernel) (by decide +kernel)
theorem allAtoms_all (ts : List Jvm.Cond) (a : Array Jvm.Value) (st : Jvm.State) : (allAtoms ts).before a st = ts.all (fun c => c.before a st) := by
  induction ts with
  | nil => rfl
  | cons c t ih =>
    show (Jvm.Cond.and c (allAtoms t)).before a st = _
    rw [Jvm.Cond.before_and, ih, List.all_cons]
def words1 : List Jvm.Cond := Jvm.Cond.code x code maxLocals ret :: tables_1
/-- a 'code' word, met by the world's own term for the bytes: nothing is compared byte by byte -/
theorem code_word {y : MethodName} {bytes : ByteArray} {mx : Nat} {rt : Option FieldType} {a : Array Value} {s : State} {m : MethodId} {meth : Method} {c : Code} (h1 : s.methodNamed? y = some m) (h2 : s.vm.method? m = some meth) (h3 : meth.code = some c) (h4 : c.code = bytes)
    (h5 : (c.maxLocals == mx && c.exceptionTable.isEmpty && decide (c.maxStack ≤ mostOperands) && decide (meth.sig.returnType = rt) && !meth.locks && decide (parseMethodDescriptor y.desc = some meth.sig)) = true) : (Jvm.Cond.code y bytes mx rt).before a s = true := by
  simp only [Bool.and_eq_true, beq_iff_eq, Bool.not_eq_true', decide_eq_true_eq] at h5
  obtain ⟨⟨⟨⟨⟨g1, g2⟩, g3⟩, g4⟩, g5⟩, g6⟩ := h5
  simp [Cond.before, Cond.holds, Cond.value, h1, h2, h3, h4, g1, g2, g3, g4, g5, g6]
def isCode : Jvm.Cond → Bool
  | .code _ _ _ _ => true
  | _ => false
theorem all_split {L : List Jvm.Cond} {P : Jvm.Cond → Bool} (h1 : L.all (fun c => isCode c || P c) = true) (h2 : ∀ c ∈ L.filter isCode, P c = true) : L.all P = true := by
  refine List.all_eq_true.mpr fun c hc => ?_
  have h := List.all_eq_true.mp h1 c hc
  rcases Bool.eq_false_or_eq_true (isCode c) with hi | hi
  · exact h2 c (List.mem_filter.mpr ⟨hc, hi⟩)
  · simpa [hi] using h
set_option maxRecDepth 65536 in
theorem w_c0 : (Jvm.Cond.code x code maxLocals ret).before args0 about1 = true := code_word (m := ⟨1, 1⟩) (meth := k1m1) (c := k1c1) (by decide +kernel) rfl rfl rfl (by decide +kernel)
set_option maxRecDepth 65536 in
theorem w_c1 : (Jvm.Cond.code ({ cls := "com/example/stock_gate/stockgate/model/Order", name := "isValidQuantity", desc := "(J)Z" } : Jvm.MethodName) prog_9_method_3_code (2 : Nat) (Option.some Jvm.ClassFile.FieldType.boolean)).before args0 about1 = true := code_word (m := ⟨3, 0⟩) (meth := k3m0) (c := k3c0) (by decide +kernel) rfl rfl rfl (by decide +kernel)
def codes1 : List Jvm.Cond := [Jvm.Cond.code x code maxLocals ret, Jvm.Cond.code ({ cls := "com/example/stock_gate/stockgate/model/Order", name := "isValidQuantity", desc := "(J)Z" } : Jvm.MethodName) prog_9_method_3_code (2 : Nat) (Option.some Jvm.ClassFile.FieldType.boolean)]
set_option maxRecDepth 65536 in
theorem codes_eq : words1.filter isCode = codes1 := rfl
theorem w_codes : ∀ c ∈ words1.filter isCode, c.before args0 about1 = true := by
  rw [codes_eq]
  intro c hc
  simp only [codes1, List.mem_cons, List.not_mem_nil, or_false] at hc
  rcases hc with rfl | rfl
  · exact w_c0
  · exact w_c1
set_option maxRecDepth 65536 in
theorem w_t1 : words1.all (fun c => isCode c || c.before args0 about1) = true := by decide +kernel
theorem w_tables : (allAtoms (Jvm.Cond.code x code maxLocals ret :: tables_1)).before args0 about1 = true := by
  rw [allAtoms_all]
  show words1.all (fun c => c.before args0 about1) = true
  refine all_split ?_ w_codes
  rw [w_t1]
set_option maxRecDepth 65536 in
theorem w_case : (Jvm.Cond.and given_1 narrow_1).before args0 about1 = true := by decide +kernel
theorem w_applies : (headSpec (Jvm.Cond.code x code maxLocals ret :: tables_1) room_1).applies x e0.platform about1 = true :=
  (Spec.applies_iff w_frames).mpr ⟨w_running, w_runnable, w_alone, w_named, w_hears, w_ripe, w_room, w_tables⟩
theorem atStart : AtStart classFile x code maxLocals ret World_1 tables_1 room_1 Calls_1 rest_1 Pre_1 launch0 p0 e0 about1 theMethod args0 below0 :=
  ⟨lists_1, trivial, launch0.admits_env _ _ _, launch0.least_env, fairChoices_fair.cas, fairChoices_fair.clock, w_frames, w_args, w_heap, w_applies, trivial, trivial, w_case⟩
end start1
theorem witness_1 : WitnessClaimed_1 := ⟨start1.p0, start1.e0, start1.about1, start1.theMethod, start1.args0, start1.below0, start1.atStart⟩
end Jvm.Pilot.@@N@@
