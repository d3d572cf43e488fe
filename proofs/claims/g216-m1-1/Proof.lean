import JvmDerived
import JvmDerived.Pilot.@@N@@Statement
import JvmDerived.Pilot.@@N@@Code
set_option linter.unusedVariables false
set_option linter.unusedSimpArgs false
namespace Jvm.RoadKit
open Sem ClassFile Op Lib Jvm.Stand Jvm.Free Jvm.LawKit
section New
variable {p : Program} {l : Launch} {e : Env} {R : Room} {s : State} {m : MethodId} {args : Array Value} {below : List Frame} {meth : Method} {c : Code} {T : State} {locs : List Loc} {cells slots : Nat}
theorem retI (X : Stand p l e R s m args below meth c T locs cells slots) (hx : p.tables.exec = Jvm.exec) {pc : Nat} {Ls : Array Slot} {z : Int32} {rest : List Value} (hret : meth.sig.returnType = some .int) (hd : decode c.code pc = .ok (.ireturn, 1)) {fs : List Frame}
    (hl : ∀ (f : JFrame) (acts : List Action), f.method = m → f.locked = none → f.entered = [] → (doReturn e (T.setTop f) acts (some (.int z))).1 = T.setFrames fs) : Steps p.tables e below (T.setTop (mkF m pc Ls (.int z :: rest))) (T.setFrames fs) := by
  have hm' : T.vm.method? m = some meth := X.method'
  have hn : narrow .int (.int z) = .int z := rfl
  show Steps p.tables e below (T.setTop { method := m, pc := pc, locals := Ls, stack := _ :: rest, locked := none }) _
  jvm_step X.here [X.here.top, hx, hd, hm', hret, hn]
  first | (intro acts; rw [hl _ acts rfl rfl rfl]) | rw [hl _ _ rfl rfl rfl]
  exact Steps.refl _
end New
end Jvm.RoadKit
namespace Jvm.Pilot.@@N@@
open Jvm Jvm.ClassFile Sem Op Lib Jvm.Free Jvm.Stand Jvm.LawKit Jvm.RoadKit Bundle Jvm.Pilot.@@N@@.Jvm.D
def own_tab : List Int64 := [(1 : Int64), (1 : Int64), (2 : Int64), (6 : Int64), (24 : Int64), (120 : Int64), (720 : Int64), (5040 : Int64), (40320 : Int64), (362880 : Int64), (3628800 : Int64), (39916800 : Int64), (479001600 : Int64), (6227020800 : Int64), (87178291200 : Int64), (1307674368000 : Int64), (20922789888000 : Int64), (355687428096000 : Int64), (6402373705728000 : Int64), (121645100408832000 : Int64), (2432902008176640000 : Int64)]
def own_v (va : Int32) : Int64 := if (1 : Int32) < va then (if va < (21 : Int32) then own_tab.getD va.toNatClampNeg 0 - 1 else (9223372036854775807 : Int64)) else 0
theorem own_getD (L : List Int64) (k : Nat) : (L.map Value.long).getD k (.long 0) = .long (L.getD k 0) := by
  induction L generalizing k with
  | nil => simp
  | cons a t ih => cases k with
    | zero => simp
    | succ n => simpa using ih n
theorem own_at (va : Int32) (k : Nat) (hk : k < 21) (h : va = Int32.ofInt (k : Int)) (f : Int64) (hf : ∀ j : Fin 21, j.1 = k → own_v (Int32.ofInt (j.1 : Int)) = f) : own_v va = f := by
  rw [h]; exact hf ⟨k, hk⟩ rfl
theorem own_between (va : Int32) (k : Int) (h1 : k ≤ va.toInt) (h2 : va.toInt < k + 1) : va = Int32.ofInt k := by
  have e : va.toInt = k := by omega
  rw [← e]; exact (Int32.ofInt_toInt va).symm
theorem own_pos (va : Int32) (h : (1 : Int32) < va) : ¬ va < 0 := by
  rw [Int32.lt_iff_toInt_lt] at h ⊢
  have e1 : (1 : Int32).toInt = 1 := by decide
  have e0 : (0 : Int32).toInt = 0 := by decide
  omega
theorem pn_0 : plainName "com/example/serialscope/serialscope/ChoicesOrderCountPinLaw" = true := by first | (simp [plainName, overriddenIn]; done) | decide +kernel
theorem d_method_2_code_0 : decode method_2_code 0 = .ok (.iload_n 0, 1) := by decide +kernel
theorem d_method_2_code_1 : decode method_2_code 1 = .ok (.iconst 1, 1) := by decide +kernel
theorem d_method_2_code_2 : decode method_2_code 2 = .ok (.if_icmp .gt 5, 3) := by decide +kernel
theorem d_method_2_code_7 : decode method_2_code 7 = .ok (.iload_n 0, 1) := by decide +kernel
theorem d_method_2_code_8 : decode method_2_code 8 = .ok (.bipush 21, 2) := by decide +kernel
theorem d_method_2_code_10 : decode method_2_code 10 = .ok (.if_icmp .lt 7, 3) := by decide +kernel
theorem d_method_2_code_17 : decode method_2_code 17 = .ok (.bipush 21, 2) := by decide +kernel
theorem d_method_2_code_19 : decode method_2_code 19 = .ok (.newarray .long, 2) := by decide +kernel
theorem d_method_2_code_21 : decode method_2_code 21 = .ok (.dup, 1) := by decide +kernel
theorem d_method_2_code_22 : decode method_2_code 22 = .ok (.iconst 0, 1) := by decide +kernel
theorem d_method_2_code_23 : decode method_2_code 23 = .ok (.lconst 1, 1) := by decide +kernel
theorem d_method_2_code_24 : decode method_2_code 24 = .ok (.lastore, 1) := by decide +kernel
theorem d_method_2_code_25 : decode method_2_code 25 = .ok (.dup, 1) := by decide +kernel
theorem d_method_2_code_26 : decode method_2_code 26 = .ok (.iconst 1, 1) := by decide +kernel
theorem d_method_2_code_27 : decode method_2_code 27 = .ok (.lconst 1, 1) := by decide +kernel
theorem d_method_2_code_28 : decode method_2_code 28 = .ok (.lastore, 1) := by decide +kernel
theorem d_method_2_code_29 : decode method_2_code 29 = .ok (.dup, 1) := by decide +kernel
theorem d_method_2_code_30 : decode method_2_code 30 = .ok (.iconst 2, 1) := by decide +kernel
theorem d_method_2_code_31 : decode method_2_code 31 = .ok (.ldc2_w 11, 3) := by decide +kernel
theorem d_method_2_code_34 : decode method_2_code 34 = .ok (.lastore, 1) := by decide +kernel
theorem d_method_2_code_35 : decode method_2_code 35 = .ok (.dup, 1) := by decide +kernel
theorem d_method_2_code_36 : decode method_2_code 36 = .ok (.iconst 3, 1) := by decide +kernel
theorem d_method_2_code_37 : decode method_2_code 37 = .ok (.ldc2_w 13, 3) := by decide +kernel
theorem d_method_2_code_40 : decode method_2_code 40 = .ok (.lastore, 1) := by decide +kernel
theorem d_method_2_code_41 : decode method_2_code 41 = .ok (.dup, 1) := by decide +kernel
theorem d_method_2_code_42 : decode method_2_code 42 = .ok (.iconst 4, 1) := by decide +kernel
theorem d_method_2_code_43 : decode method_2_code 43 = .ok (.ldc2_w 15, 3) := by decide +kernel
theorem d_method_2_code_46 : decode method_2_code 46 = .ok (.lastore, 1) := by decide +kernel
theorem d_method_2_code_47 : decode method_2_code 47 = .ok (.dup, 1) := by decide +kernel
theorem d_method_2_code_48 : decode method_2_code 48 = .ok (.iconst 5, 1) := by decide +kernel
theorem d_method_2_code_49 : decode method_2_code 49 = .ok (.ldc2_w 17, 3) := by decide +kernel
theorem d_method_2_code_52 : decode method_2_code 52 = .ok (.lastore, 1) := by decide +kernel
theorem d_method_2_code_53 : decode method_2_code 53 = .ok (.dup, 1) := by decide +kernel
theorem d_method_2_code_54 : decode method_2_code 54 = .ok (.bipush 6, 2) := by decide +kernel
theorem d_method_2_code_56 : decode method_2_code 56 = .ok (.ldc2_w 19, 3) := by decide +kernel
theorem d_method_2_code_59 : decode method_2_code 59 = .ok (.lastore, 1) := by decide +kernel
theorem d_method_2_code_60 : decode method_2_code 60 = .ok (.dup, 1) := by decide +kernel
theorem d_method_2_code_61 : decode method_2_code 61 = .ok (.bipush 7, 2) := by decide +kernel
theorem d_method_2_code_63 : decode method_2_code 63 = .ok (.ldc2_w 21, 3) := by decide +kernel
theorem d_method_2_code_66 : decode method_2_code 66 = .ok (.lastore, 1) := by decide +kernel
theorem d_method_2_code_67 : decode method_2_code 67 = .ok (.dup, 1) := by decide +kernel
theorem d_method_2_code_68 : decode method_2_code 68 = .ok (.bipush 8, 2) := by decide +kernel
theorem d_method_2_code_70 : decode method_2_code 70 = .ok (.ldc2_w 23, 3) := by decide +kernel
theorem d_method_2_code_73 : decode method_2_code 73 = .ok (.lastore, 1) := by decide +kernel
theorem d_method_2_code_74 : decode method_2_code 74 = .ok (.dup, 1) := by decide +kernel
theorem d_method_2_code_75 : decode method_2_code 75 = .ok (.bipush 9, 2) := by decide +kernel
theorem d_method_2_code_77 : decode method_2_code 77 = .ok (.ldc2_w 25, 3) := by decide +kernel
theorem d_method_2_code_80 : decode method_2_code 80 = .ok (.lastore, 1) := by decide +kernel
theorem d_method_2_code_81 : decode method_2_code 81 = .ok (.dup, 1) := by decide +kernel
theorem d_method_2_code_82 : decode method_2_code 82 = .ok (.bipush 10, 2) := by decide +kernel
theorem d_method_2_code_84 : decode method_2_code 84 = .ok (.ldc2_w 27, 3) := by decide +kernel
theorem d_method_2_code_87 : decode method_2_code 87 = .ok (.lastore, 1) := by decide +kernel
theorem d_method_2_code_88 : decode method_2_code 88 = .ok (.dup, 1) := by decide +kernel
theorem d_method_2_code_89 : decode method_2_code 89 = .ok (.bipush 11, 2) := by decide +kernel
theorem d_method_2_code_91 : decode method_2_code 91 = .ok (.ldc2_w 29, 3) := by decide +kernel
theorem d_method_2_code_94 : decode method_2_code 94 = .ok (.lastore, 1) := by decide +kernel
theorem d_method_2_code_95 : decode method_2_code 95 = .ok (.dup, 1) := by decide +kernel
theorem d_method_2_code_96 : decode method_2_code 96 = .ok (.bipush 12, 2) := by decide +kernel
theorem d_method_2_code_98 : decode method_2_code 98 = .ok (.ldc2_w 31, 3) := by decide +kernel
theorem d_method_2_code_101 : decode method_2_code 101 = .ok (.lastore, 1) := by decide +kernel
theorem d_method_2_code_102 : decode method_2_code 102 = .ok (.dup, 1) := by decide +kernel
theorem d_method_2_code_103 : decode method_2_code 103 = .ok (.bipush 13, 2) := by decide +kernel
theorem d_method_2_code_105 : decode method_2_code 105 = .ok (.ldc2_w 33, 3) := by decide +kernel
theorem d_method_2_code_108 : decode method_2_code 108 = .ok (.lastore, 1) := by decide +kernel
theorem d_method_2_code_109 : decode method_2_code 109 = .ok (.dup, 1) := by decide +kernel
theorem d_method_2_code_110 : decode method_2_code 110 = .ok (.bipush 14, 2) := by decide +kernel
theorem d_method_2_code_112 : decode method_2_code 112 = .ok (.ldc2_w 35, 3) := by decide +kernel
theorem d_method_2_code_115 : decode method_2_code 115 = .ok (.lastore, 1) := by decide +kernel
theorem d_method_2_code_116 : decode method_2_code 116 = .ok (.dup, 1) := by decide +kernel
theorem d_method_2_code_117 : decode method_2_code 117 = .ok (.bipush 15, 2) := by decide +kernel
theorem d_method_2_code_119 : decode method_2_code 119 = .ok (.ldc2_w 37, 3) := by decide +kernel
theorem d_method_2_code_122 : decode method_2_code 122 = .ok (.lastore, 1) := by decide +kernel
theorem d_method_2_code_123 : decode method_2_code 123 = .ok (.dup, 1) := by decide +kernel
theorem d_method_2_code_124 : decode method_2_code 124 = .ok (.bipush 16, 2) := by decide +kernel
theorem d_method_2_code_126 : decode method_2_code 126 = .ok (.ldc2_w 39, 3) := by decide +kernel
theorem d_method_2_code_129 : decode method_2_code 129 = .ok (.lastore, 1) := by decide +kernel
theorem d_method_2_code_130 : decode method_2_code 130 = .ok (.dup, 1) := by decide +kernel
theorem d_method_2_code_131 : decode method_2_code 131 = .ok (.bipush 17, 2) := by decide +kernel
theorem d_method_2_code_133 : decode method_2_code 133 = .ok (.ldc2_w 41, 3) := by decide +kernel
theorem d_method_2_code_136 : decode method_2_code 136 = .ok (.lastore, 1) := by decide +kernel
theorem d_method_2_code_137 : decode method_2_code 137 = .ok (.dup, 1) := by decide +kernel
theorem d_method_2_code_138 : decode method_2_code 138 = .ok (.bipush 18, 2) := by decide +kernel
theorem d_method_2_code_140 : decode method_2_code 140 = .ok (.ldc2_w 43, 3) := by decide +kernel
theorem d_method_2_code_143 : decode method_2_code 143 = .ok (.lastore, 1) := by decide +kernel
theorem d_method_2_code_144 : decode method_2_code 144 = .ok (.dup, 1) := by decide +kernel
theorem d_method_2_code_145 : decode method_2_code 145 = .ok (.bipush 19, 2) := by decide +kernel
theorem d_method_2_code_147 : decode method_2_code 147 = .ok (.ldc2_w 45, 3) := by decide +kernel
theorem d_method_2_code_150 : decode method_2_code 150 = .ok (.lastore, 1) := by decide +kernel
theorem d_method_2_code_151 : decode method_2_code 151 = .ok (.dup, 1) := by decide +kernel
theorem d_method_2_code_152 : decode method_2_code 152 = .ok (.bipush 20, 2) := by decide +kernel
theorem d_method_2_code_154 : decode method_2_code 154 = .ok (.ldc2_w 47, 3) := by decide +kernel
theorem d_method_2_code_157 : decode method_2_code 157 = .ok (.lastore, 1) := by decide +kernel
theorem d_method_2_code_158 : decode method_2_code 158 = .ok (.astore_n 1, 1) := by decide +kernel
theorem d_method_2_code_159 : decode method_2_code 159 = .ok (.aload_n 1, 1) := by decide +kernel
theorem d_method_2_code_160 : decode method_2_code 160 = .ok (.iload_n 0, 1) := by decide +kernel
theorem d_method_2_code_161 : decode method_2_code 161 = .ok (.laload, 1) := by decide +kernel
theorem d_method_2_code_162 : decode method_2_code 162 = .ok (.lconst 1, 1) := by decide +kernel
theorem d_method_2_code_163 : decode method_2_code 163 = .ok (.lsub, 1) := by decide +kernel
theorem d_method_2_code_164 : decode method_2_code 164 = .ok (.lreturn, 1) := by decide +kernel
theorem d_method_2_code_13 : decode method_2_code 13 = .ok (.ldc2_w 9, 3) := by decide +kernel
theorem d_method_2_code_16 : decode method_2_code 16 = .ok (.lreturn, 1) := by decide +kernel
theorem d_method_2_code_5 : decode method_2_code 5 = .ok (.lconst 0, 1) := by decide +kernel
theorem d_method_2_code_6 : decode method_2_code 6 = .ok (.lreturn, 1) := by decide +kernel
theorem ef_exp (m : MethodId) (va : Int32) : entryFrame m #[(.int va)] 2 = mkF m 0 #[.val (.int va), .unset] [] := by first | (simp [entryFrame, mkF, argsToLocals, Value.category]; done) | rfl
def Q_exp (Z : State) (va : Int32) (h0 : Heap) (n0 : Nat) (v : Option Value) (h : Heap) (L : List Loc) : Prop := (∃ z : Int64, v = some (.long z) ∧ (z = own_v va)) ∧ Fr n0 L ∧ Keep h0 h []
set_option maxRecDepth 65536 in
set_option maxHeartbeats 40000000 in
theorem rm_exp (l : Launch) (Z : State) (a0 : Array Value) (hw : ∀ d ∈ tables_1, d.before a0 Z = true) (ws : List Jvm.Cond) (va : Int32) (h0 : Heap) (n0 : Nat) (Z0 : n0 ≤ h0.size) :
    MetFree l (⟨"com/example/serialscope/serialscope/ChoicesOrderCountPinLaw", "expected", "(I)J"⟩ : MethodName) (head1 (Jvm.Cond.code (⟨"com/example/serialscope/serialscope/ChoicesOrderCountPinLaw", "expected", "(I)J"⟩ : MethodName) method_2_code 2 (some .long) :: ws) ({ frames := 0, cells := 1, slots := 21, locals := 0 } : Room)) (fun a U => a = #[(.int va)] ∧ Z.Warmed39 U.vm ∧ U.heap = h0) (fun _ _ _ _ _ => True) (fun _ U o U' => ∃ v L, o = .returned v ∧ Q_exp Z va h0 n0 v U'.heap L ∧ FrameEnd U o U' L ({ frames := 0, cells := 1, slots := 21, locals := 0 } : Room).cells ({ frames := 0, cells := 1, slots := 21, locals := 0 } : Room).slots) := by
  refine MetFree.of_bodySF (plainFor_of_name pn_0) hisR ?_
  intro p e s m args below meth c s₁ Bd hml0 hP hK
  obtain ⟨rfl, hZ, hh⟩ := hP
  have hx := Bd.exec
  have hby := Bd.bytes
  have hml : c.maxLocals = 2 := hml0
  have hown : s.vm.findClass "com/example/serialscope/serialscope/ChoicesOrderCountPinLaw" = some m.cls := findClass_of_methodNamed Bd.named
  have hnm := (name_of_methodNamed Bd.named Bd.method).1
  have X0 : Stand p l e ({ frames := 0, cells := 1, slots := 21, locals := 0 } : Room) s m #[(.int va)] below meth c s₁ [] 0 0 := Stand.of_body Bd
  have e0 : s₁.heap = h0 := by rw [← hh, Bd.state]; rfl
  have N0 := Fr.nil n0
  have pre0 : ∀ t, Steps p.tables e below (s₁.setTop (mkF m 0 #[.val (.int va), .unset] [])) t → Steps p.tables e below (s₁.setTop (entryFrame m #[(.int va)] 2)) t := fun t k => castTop (ef_exp m va) k
  have kp0 : Keep h0 h0 [] := Keep.refl h0 _
  by_cases h2_1 : (1 : Int32) < va
  · by_cases h10_2 : va < (21 : Int32)
    · obtain ⟨T3, h3, k3, X3, e3, E3, A3, st3⟩ := newP X0 hx hZ (hw _ (List.mem_of_getElem? (i := 9) rfl)) e0 (g := (mkF m 19 #[.val (.int va), .unset] [(.int (21 : Int32))])) rfl (hb hby d_method_2_code_19) rfl (by decide) (cap := 21) (by decide) (by decide) (by decide) (by decide)
      obtain ⟨b3, g3⟩ : ∃ z, z = h0.size := ⟨_, rfl⟩
      rw [← g3] at A3 st3
      have g_b3 : n0 ≤ b3 := Nat.le_trans Z0 (Nat.le_of_eq g3.symm)
      have sz_b3 : h0.size ≤ b3 := Nat.le_trans kp0.1 (Nat.le_of_eq g3.symm)
      have Z3 : n0 ≤ h3.size := Nat.le_trans Z0 E3.1
      have kp3 := kp0.ext E3
      have Av_b3_3 : Arv Z h3 b3 k3 .long (21 : Int32) [(.long (0 : Int64)), (.long (0 : Int64)), (.long (0 : Int64)), (.long (0 : Int64)), (.long (0 : Int64)), (.long (0 : Int64)), (.long (0 : Int64)), (.long (0 : Int64)), (.long (0 : Int64)), (.long (0 : Int64)), (.long (0 : Int64)), (.long (0 : Int64)), (.long (0 : Int64)), (.long (0 : Int64)), (.long (0 : Int64)), (.long (0 : Int64)), (.long (0 : Int64)), (.long (0 : Int64)), (.long (0 : Int64)), (.long (0 : Int64)), (.long (0 : Int64))] (.long (0 : Int64)) := (Arv.new A3 (by decide)).pad (pad_rep [] (.long (0 : Int64)) 21)
      obtain ⟨cl4, Ar4, q4, S4, N4a, H4, G4⟩ := Av_b3_3
      have hin4 : ¬ ((0 : Int32) < 0 ∨ cl4.slots.size ≤ ((0 : Int32)).toNatClampNeg) := inb_of S4 ⟨by decide, by decide⟩
      obtain ⟨T4, h4, X4, e4, W4, st4⟩ := stJ X3 hx hZ e3 Ar4 (j := (0 : Int32)) hin4 (g := (mkF m 24 #[.val (.int va), .unset] [(.long (1 : Int64)), (.int (0 : Int32)), (.ref b3), (.ref b3)])) rfl rfl (hb hby d_method_2_code_24)
      have Av_b3_4 : Arv Z h4 b3 k3 .long (21 : Int32) [(.long (1 : Int64)), (.long (0 : Int64)), (.long (0 : Int64)), (.long (0 : Int64)), (.long (0 : Int64)), (.long (0 : Int64)), (.long (0 : Int64)), (.long (0 : Int64)), (.long (0 : Int64)), (.long (0 : Int64)), (.long (0 : Int64)), (.long (0 : Int64)), (.long (0 : Int64)), (.long (0 : Int64)), (.long (0 : Int64)), (.long (0 : Int64)), (.long (0 : Int64)), (.long (0 : Int64)), (.long (0 : Int64)), (.long (0 : Int64)), (.long (0 : Int64))] (.long (0 : Int64)) := Arv.set Ar4 q4 S4 N4a H4 G4 rfl W4 0 rfl (Nat.le_of_ble_eq_true rfl)
      have Z4 : n0 ≤ h4.size := Nat.le_trans Z3 (Keep.of_wr W4).1
      have kp4 := kp3.wr W4 (Or.inr sz_b3)
      have N4 := Fr.snoc X4 N0 g_b3
      obtain ⟨cl5, Ar5, q5, S5, N5a, H5, G5⟩ := Av_b3_4
      have hin5 : ¬ ((1 : Int32) < 0 ∨ cl5.slots.size ≤ ((1 : Int32)).toNatClampNeg) := inb_of S5 ⟨by decide, by decide⟩
      obtain ⟨T5, h5, X5, e5, W5, st5⟩ := stJ X4 hx hZ e4 Ar5 (j := (1 : Int32)) hin5 (g := (mkF m 28 #[.val (.int va), .unset] [(.long (1 : Int64)), (.int (1 : Int32)), (.ref b3), (.ref b3)])) rfl rfl (hb hby d_method_2_code_28)
      have Av_b3_5 : Arv Z h5 b3 k3 .long (21 : Int32) [(.long (1 : Int64)), (.long (1 : Int64)), (.long (0 : Int64)), (.long (0 : Int64)), (.long (0 : Int64)), (.long (0 : Int64)), (.long (0 : Int64)), (.long (0 : Int64)), (.long (0 : Int64)), (.long (0 : Int64)), (.long (0 : Int64)), (.long (0 : Int64)), (.long (0 : Int64)), (.long (0 : Int64)), (.long (0 : Int64)), (.long (0 : Int64)), (.long (0 : Int64)), (.long (0 : Int64)), (.long (0 : Int64)), (.long (0 : Int64)), (.long (0 : Int64))] (.long (0 : Int64)) := Arv.set Ar5 q5 S5 N5a H5 G5 rfl W5 1 rfl (Nat.le_of_ble_eq_true rfl)
      have Z5 : n0 ≤ h5.size := Nat.le_trans Z4 (Keep.of_wr W5).1
      have kp5 := kp4.wr W5 (Or.inr sz_b3)
      have N5 := Fr.snoc X5 N4 g_b3
      obtain ⟨cl6, Ar6, q6, S6, N6a, H6, G6⟩ := Av_b3_5
      have hin6 : ¬ ((2 : Int32) < 0 ∨ cl6.slots.size ≤ ((2 : Int32)).toNatClampNeg) := inb_of S6 ⟨by decide, by decide⟩
      obtain ⟨T6, h6, X6, e6, W6, st6⟩ := stJ X5 hx hZ e5 Ar6 (j := (2 : Int32)) hin6 (g := (mkF m 34 #[.val (.int va), .unset] [(.long (2 : Int64)), (.int (2 : Int32)), (.ref b3), (.ref b3)])) rfl rfl (hb hby d_method_2_code_34)
      have Av_b3_6 : Arv Z h6 b3 k3 .long (21 : Int32) [(.long (1 : Int64)), (.long (1 : Int64)), (.long (2 : Int64)), (.long (0 : Int64)), (.long (0 : Int64)), (.long (0 : Int64)), (.long (0 : Int64)), (.long (0 : Int64)), (.long (0 : Int64)), (.long (0 : Int64)), (.long (0 : Int64)), (.long (0 : Int64)), (.long (0 : Int64)), (.long (0 : Int64)), (.long (0 : Int64)), (.long (0 : Int64)), (.long (0 : Int64)), (.long (0 : Int64)), (.long (0 : Int64)), (.long (0 : Int64)), (.long (0 : Int64))] (.long (0 : Int64)) := Arv.set Ar6 q6 S6 N6a H6 G6 rfl W6 2 rfl (Nat.le_of_ble_eq_true rfl)
      have Z6 : n0 ≤ h6.size := Nat.le_trans Z5 (Keep.of_wr W6).1
      have kp6 := kp5.wr W6 (Or.inr sz_b3)
      have N6 := Fr.snoc X6 N5 g_b3
      obtain ⟨cl7, Ar7, q7, S7, N7a, H7, G7⟩ := Av_b3_6
      have hin7 : ¬ ((3 : Int32) < 0 ∨ cl7.slots.size ≤ ((3 : Int32)).toNatClampNeg) := inb_of S7 ⟨by decide, by decide⟩
      obtain ⟨T7, h7, X7, e7, W7, st7⟩ := stJ X6 hx hZ e6 Ar7 (j := (3 : Int32)) hin7 (g := (mkF m 40 #[.val (.int va), .unset] [(.long (6 : Int64)), (.int (3 : Int32)), (.ref b3), (.ref b3)])) rfl rfl (hb hby d_method_2_code_40)
      have Av_b3_7 : Arv Z h7 b3 k3 .long (21 : Int32) [(.long (1 : Int64)), (.long (1 : Int64)), (.long (2 : Int64)), (.long (6 : Int64)), (.long (0 : Int64)), (.long (0 : Int64)), (.long (0 : Int64)), (.long (0 : Int64)), (.long (0 : Int64)), (.long (0 : Int64)), (.long (0 : Int64)), (.long (0 : Int64)), (.long (0 : Int64)), (.long (0 : Int64)), (.long (0 : Int64)), (.long (0 : Int64)), (.long (0 : Int64)), (.long (0 : Int64)), (.long (0 : Int64)), (.long (0 : Int64)), (.long (0 : Int64))] (.long (0 : Int64)) := Arv.set Ar7 q7 S7 N7a H7 G7 rfl W7 3 rfl (Nat.le_of_ble_eq_true rfl)
      have Z7 : n0 ≤ h7.size := Nat.le_trans Z6 (Keep.of_wr W7).1
      have kp7 := kp6.wr W7 (Or.inr sz_b3)
      have N7 := Fr.snoc X7 N6 g_b3
      obtain ⟨cl8, Ar8, q8, S8, N8a, H8, G8⟩ := Av_b3_7
      have hin8 : ¬ ((4 : Int32) < 0 ∨ cl8.slots.size ≤ ((4 : Int32)).toNatClampNeg) := inb_of S8 ⟨by decide, by decide⟩
      obtain ⟨T8, h8, X8, e8, W8, st8⟩ := stJ X7 hx hZ e7 Ar8 (j := (4 : Int32)) hin8 (g := (mkF m 46 #[.val (.int va), .unset] [(.long (24 : Int64)), (.int (4 : Int32)), (.ref b3), (.ref b3)])) rfl rfl (hb hby d_method_2_code_46)
      have Av_b3_8 : Arv Z h8 b3 k3 .long (21 : Int32) [(.long (1 : Int64)), (.long (1 : Int64)), (.long (2 : Int64)), (.long (6 : Int64)), (.long (24 : Int64)), (.long (0 : Int64)), (.long (0 : Int64)), (.long (0 : Int64)), (.long (0 : Int64)), (.long (0 : Int64)), (.long (0 : Int64)), (.long (0 : Int64)), (.long (0 : Int64)), (.long (0 : Int64)), (.long (0 : Int64)), (.long (0 : Int64)), (.long (0 : Int64)), (.long (0 : Int64)), (.long (0 : Int64)), (.long (0 : Int64)), (.long (0 : Int64))] (.long (0 : Int64)) := Arv.set Ar8 q8 S8 N8a H8 G8 rfl W8 4 rfl (Nat.le_of_ble_eq_true rfl)
      have Z8 : n0 ≤ h8.size := Nat.le_trans Z7 (Keep.of_wr W8).1
      have kp8 := kp7.wr W8 (Or.inr sz_b3)
      have N8 := Fr.snoc X8 N7 g_b3
      obtain ⟨cl9, Ar9, q9, S9, N9a, H9, G9⟩ := Av_b3_8
      have hin9 : ¬ ((5 : Int32) < 0 ∨ cl9.slots.size ≤ ((5 : Int32)).toNatClampNeg) := inb_of S9 ⟨by decide, by decide⟩
      obtain ⟨T9, h9, X9, e9, W9, st9⟩ := stJ X8 hx hZ e8 Ar9 (j := (5 : Int32)) hin9 (g := (mkF m 52 #[.val (.int va), .unset] [(.long (120 : Int64)), (.int (5 : Int32)), (.ref b3), (.ref b3)])) rfl rfl (hb hby d_method_2_code_52)
      have Av_b3_9 : Arv Z h9 b3 k3 .long (21 : Int32) [(.long (1 : Int64)), (.long (1 : Int64)), (.long (2 : Int64)), (.long (6 : Int64)), (.long (24 : Int64)), (.long (120 : Int64)), (.long (0 : Int64)), (.long (0 : Int64)), (.long (0 : Int64)), (.long (0 : Int64)), (.long (0 : Int64)), (.long (0 : Int64)), (.long (0 : Int64)), (.long (0 : Int64)), (.long (0 : Int64)), (.long (0 : Int64)), (.long (0 : Int64)), (.long (0 : Int64)), (.long (0 : Int64)), (.long (0 : Int64)), (.long (0 : Int64))] (.long (0 : Int64)) := Arv.set Ar9 q9 S9 N9a H9 G9 rfl W9 5 rfl (Nat.le_of_ble_eq_true rfl)
      have Z9 : n0 ≤ h9.size := Nat.le_trans Z8 (Keep.of_wr W9).1
      have kp9 := kp8.wr W9 (Or.inr sz_b3)
      have N9 := Fr.snoc X9 N8 g_b3
      obtain ⟨cl10, Ar10, q10, S10, N10a, H10, G10⟩ := Av_b3_9
      have hin10 : ¬ ((6 : Int32) < 0 ∨ cl10.slots.size ≤ ((6 : Int32)).toNatClampNeg) := inb_of S10 ⟨by decide, by decide⟩
      obtain ⟨T10, h10, X10, e10, W10, st10⟩ := stJ X9 hx hZ e9 Ar10 (j := (6 : Int32)) hin10 (g := (mkF m 59 #[.val (.int va), .unset] [(.long (720 : Int64)), (.int (6 : Int32)), (.ref b3), (.ref b3)])) rfl rfl (hb hby d_method_2_code_59)
      have Av_b3_10 : Arv Z h10 b3 k3 .long (21 : Int32) [(.long (1 : Int64)), (.long (1 : Int64)), (.long (2 : Int64)), (.long (6 : Int64)), (.long (24 : Int64)), (.long (120 : Int64)), (.long (720 : Int64)), (.long (0 : Int64)), (.long (0 : Int64)), (.long (0 : Int64)), (.long (0 : Int64)), (.long (0 : Int64)), (.long (0 : Int64)), (.long (0 : Int64)), (.long (0 : Int64)), (.long (0 : Int64)), (.long (0 : Int64)), (.long (0 : Int64)), (.long (0 : Int64)), (.long (0 : Int64)), (.long (0 : Int64))] (.long (0 : Int64)) := Arv.set Ar10 q10 S10 N10a H10 G10 rfl W10 6 rfl (Nat.le_of_ble_eq_true rfl)
      have Z10 : n0 ≤ h10.size := Nat.le_trans Z9 (Keep.of_wr W10).1
      have kp10 := kp9.wr W10 (Or.inr sz_b3)
      have N10 := Fr.snoc X10 N9 g_b3
      obtain ⟨cl11, Ar11, q11, S11, N11a, H11, G11⟩ := Av_b3_10
      have hin11 : ¬ ((7 : Int32) < 0 ∨ cl11.slots.size ≤ ((7 : Int32)).toNatClampNeg) := inb_of S11 ⟨by decide, by decide⟩
      obtain ⟨T11, h11, X11, e11, W11, st11⟩ := stJ X10 hx hZ e10 Ar11 (j := (7 : Int32)) hin11 (g := (mkF m 66 #[.val (.int va), .unset] [(.long (5040 : Int64)), (.int (7 : Int32)), (.ref b3), (.ref b3)])) rfl rfl (hb hby d_method_2_code_66)
      have Av_b3_11 : Arv Z h11 b3 k3 .long (21 : Int32) [(.long (1 : Int64)), (.long (1 : Int64)), (.long (2 : Int64)), (.long (6 : Int64)), (.long (24 : Int64)), (.long (120 : Int64)), (.long (720 : Int64)), (.long (5040 : Int64)), (.long (0 : Int64)), (.long (0 : Int64)), (.long (0 : Int64)), (.long (0 : Int64)), (.long (0 : Int64)), (.long (0 : Int64)), (.long (0 : Int64)), (.long (0 : Int64)), (.long (0 : Int64)), (.long (0 : Int64)), (.long (0 : Int64)), (.long (0 : Int64)), (.long (0 : Int64))] (.long (0 : Int64)) := Arv.set Ar11 q11 S11 N11a H11 G11 rfl W11 7 rfl (Nat.le_of_ble_eq_true rfl)
      have Z11 : n0 ≤ h11.size := Nat.le_trans Z10 (Keep.of_wr W11).1
      have kp11 := kp10.wr W11 (Or.inr sz_b3)
      have N11 := Fr.snoc X11 N10 g_b3
      obtain ⟨cl12, Ar12, q12, S12, N12a, H12, G12⟩ := Av_b3_11
      have hin12 : ¬ ((8 : Int32) < 0 ∨ cl12.slots.size ≤ ((8 : Int32)).toNatClampNeg) := inb_of S12 ⟨by decide, by decide⟩
      obtain ⟨T12, h12, X12, e12, W12, st12⟩ := stJ X11 hx hZ e11 Ar12 (j := (8 : Int32)) hin12 (g := (mkF m 73 #[.val (.int va), .unset] [(.long (40320 : Int64)), (.int (8 : Int32)), (.ref b3), (.ref b3)])) rfl rfl (hb hby d_method_2_code_73)
      have Av_b3_12 : Arv Z h12 b3 k3 .long (21 : Int32) [(.long (1 : Int64)), (.long (1 : Int64)), (.long (2 : Int64)), (.long (6 : Int64)), (.long (24 : Int64)), (.long (120 : Int64)), (.long (720 : Int64)), (.long (5040 : Int64)), (.long (40320 : Int64)), (.long (0 : Int64)), (.long (0 : Int64)), (.long (0 : Int64)), (.long (0 : Int64)), (.long (0 : Int64)), (.long (0 : Int64)), (.long (0 : Int64)), (.long (0 : Int64)), (.long (0 : Int64)), (.long (0 : Int64)), (.long (0 : Int64)), (.long (0 : Int64))] (.long (0 : Int64)) := Arv.set Ar12 q12 S12 N12a H12 G12 rfl W12 8 rfl (Nat.le_of_ble_eq_true rfl)
      have Z12 : n0 ≤ h12.size := Nat.le_trans Z11 (Keep.of_wr W12).1
      have kp12 := kp11.wr W12 (Or.inr sz_b3)
      have N12 := Fr.snoc X12 N11 g_b3
      obtain ⟨cl13, Ar13, q13, S13, N13a, H13, G13⟩ := Av_b3_12
      have hin13 : ¬ ((9 : Int32) < 0 ∨ cl13.slots.size ≤ ((9 : Int32)).toNatClampNeg) := inb_of S13 ⟨by decide, by decide⟩
      obtain ⟨T13, h13, X13, e13, W13, st13⟩ := stJ X12 hx hZ e12 Ar13 (j := (9 : Int32)) hin13 (g := (mkF m 80 #[.val (.int va), .unset] [(.long (362880 : Int64)), (.int (9 : Int32)), (.ref b3), (.ref b3)])) rfl rfl (hb hby d_method_2_code_80)
      have Av_b3_13 : Arv Z h13 b3 k3 .long (21 : Int32) [(.long (1 : Int64)), (.long (1 : Int64)), (.long (2 : Int64)), (.long (6 : Int64)), (.long (24 : Int64)), (.long (120 : Int64)), (.long (720 : Int64)), (.long (5040 : Int64)), (.long (40320 : Int64)), (.long (362880 : Int64)), (.long (0 : Int64)), (.long (0 : Int64)), (.long (0 : Int64)), (.long (0 : Int64)), (.long (0 : Int64)), (.long (0 : Int64)), (.long (0 : Int64)), (.long (0 : Int64)), (.long (0 : Int64)), (.long (0 : Int64)), (.long (0 : Int64))] (.long (0 : Int64)) := Arv.set Ar13 q13 S13 N13a H13 G13 rfl W13 9 rfl (Nat.le_of_ble_eq_true rfl)
      have Z13 : n0 ≤ h13.size := Nat.le_trans Z12 (Keep.of_wr W13).1
      have kp13 := kp12.wr W13 (Or.inr sz_b3)
      have N13 := Fr.snoc X13 N12 g_b3
      obtain ⟨cl14, Ar14, q14, S14, N14a, H14, G14⟩ := Av_b3_13
      have hin14 : ¬ ((10 : Int32) < 0 ∨ cl14.slots.size ≤ ((10 : Int32)).toNatClampNeg) := inb_of S14 ⟨by decide, by decide⟩
      obtain ⟨T14, h14, X14, e14, W14, st14⟩ := stJ X13 hx hZ e13 Ar14 (j := (10 : Int32)) hin14 (g := (mkF m 87 #[.val (.int va), .unset] [(.long (3628800 : Int64)), (.int (10 : Int32)), (.ref b3), (.ref b3)])) rfl rfl (hb hby d_method_2_code_87)
      have Av_b3_14 : Arv Z h14 b3 k3 .long (21 : Int32) [(.long (1 : Int64)), (.long (1 : Int64)), (.long (2 : Int64)), (.long (6 : Int64)), (.long (24 : Int64)), (.long (120 : Int64)), (.long (720 : Int64)), (.long (5040 : Int64)), (.long (40320 : Int64)), (.long (362880 : Int64)), (.long (3628800 : Int64)), (.long (0 : Int64)), (.long (0 : Int64)), (.long (0 : Int64)), (.long (0 : Int64)), (.long (0 : Int64)), (.long (0 : Int64)), (.long (0 : Int64)), (.long (0 : Int64)), (.long (0 : Int64)), (.long (0 : Int64))] (.long (0 : Int64)) := Arv.set Ar14 q14 S14 N14a H14 G14 rfl W14 10 rfl (Nat.le_of_ble_eq_true rfl)
      have Z14 : n0 ≤ h14.size := Nat.le_trans Z13 (Keep.of_wr W14).1
      have kp14 := kp13.wr W14 (Or.inr sz_b3)
      have N14 := Fr.snoc X14 N13 g_b3
      obtain ⟨cl15, Ar15, q15, S15, N15a, H15, G15⟩ := Av_b3_14
      have hin15 : ¬ ((11 : Int32) < 0 ∨ cl15.slots.size ≤ ((11 : Int32)).toNatClampNeg) := inb_of S15 ⟨by decide, by decide⟩
      obtain ⟨T15, h15, X15, e15, W15, st15⟩ := stJ X14 hx hZ e14 Ar15 (j := (11 : Int32)) hin15 (g := (mkF m 94 #[.val (.int va), .unset] [(.long (39916800 : Int64)), (.int (11 : Int32)), (.ref b3), (.ref b3)])) rfl rfl (hb hby d_method_2_code_94)
      have Av_b3_15 : Arv Z h15 b3 k3 .long (21 : Int32) [(.long (1 : Int64)), (.long (1 : Int64)), (.long (2 : Int64)), (.long (6 : Int64)), (.long (24 : Int64)), (.long (120 : Int64)), (.long (720 : Int64)), (.long (5040 : Int64)), (.long (40320 : Int64)), (.long (362880 : Int64)), (.long (3628800 : Int64)), (.long (39916800 : Int64)), (.long (0 : Int64)), (.long (0 : Int64)), (.long (0 : Int64)), (.long (0 : Int64)), (.long (0 : Int64)), (.long (0 : Int64)), (.long (0 : Int64)), (.long (0 : Int64)), (.long (0 : Int64))] (.long (0 : Int64)) := Arv.set Ar15 q15 S15 N15a H15 G15 rfl W15 11 rfl (Nat.le_of_ble_eq_true rfl)
      have Z15 : n0 ≤ h15.size := Nat.le_trans Z14 (Keep.of_wr W15).1
      have kp15 := kp14.wr W15 (Or.inr sz_b3)
      have N15 := Fr.snoc X15 N14 g_b3
      obtain ⟨cl16, Ar16, q16, S16, N16a, H16, G16⟩ := Av_b3_15
      have hin16 : ¬ ((12 : Int32) < 0 ∨ cl16.slots.size ≤ ((12 : Int32)).toNatClampNeg) := inb_of S16 ⟨by decide, by decide⟩
      obtain ⟨T16, h16, X16, e16, W16, st16⟩ := stJ X15 hx hZ e15 Ar16 (j := (12 : Int32)) hin16 (g := (mkF m 101 #[.val (.int va), .unset] [(.long (479001600 : Int64)), (.int (12 : Int32)), (.ref b3), (.ref b3)])) rfl rfl (hb hby d_method_2_code_101)
      have Av_b3_16 : Arv Z h16 b3 k3 .long (21 : Int32) [(.long (1 : Int64)), (.long (1 : Int64)), (.long (2 : Int64)), (.long (6 : Int64)), (.long (24 : Int64)), (.long (120 : Int64)), (.long (720 : Int64)), (.long (5040 : Int64)), (.long (40320 : Int64)), (.long (362880 : Int64)), (.long (3628800 : Int64)), (.long (39916800 : Int64)), (.long (479001600 : Int64)), (.long (0 : Int64)), (.long (0 : Int64)), (.long (0 : Int64)), (.long (0 : Int64)), (.long (0 : Int64)), (.long (0 : Int64)), (.long (0 : Int64)), (.long (0 : Int64))] (.long (0 : Int64)) := Arv.set Ar16 q16 S16 N16a H16 G16 rfl W16 12 rfl (Nat.le_of_ble_eq_true rfl)
      have Z16 : n0 ≤ h16.size := Nat.le_trans Z15 (Keep.of_wr W16).1
      have kp16 := kp15.wr W16 (Or.inr sz_b3)
      have N16 := Fr.snoc X16 N15 g_b3
      obtain ⟨cl17, Ar17, q17, S17, N17a, H17, G17⟩ := Av_b3_16
      have hin17 : ¬ ((13 : Int32) < 0 ∨ cl17.slots.size ≤ ((13 : Int32)).toNatClampNeg) := inb_of S17 ⟨by decide, by decide⟩
      obtain ⟨T17, h17, X17, e17, W17, st17⟩ := stJ X16 hx hZ e16 Ar17 (j := (13 : Int32)) hin17 (g := (mkF m 108 #[.val (.int va), .unset] [(.long (6227020800 : Int64)), (.int (13 : Int32)), (.ref b3), (.ref b3)])) rfl rfl (hb hby d_method_2_code_108)
      have Av_b3_17 : Arv Z h17 b3 k3 .long (21 : Int32) [(.long (1 : Int64)), (.long (1 : Int64)), (.long (2 : Int64)), (.long (6 : Int64)), (.long (24 : Int64)), (.long (120 : Int64)), (.long (720 : Int64)), (.long (5040 : Int64)), (.long (40320 : Int64)), (.long (362880 : Int64)), (.long (3628800 : Int64)), (.long (39916800 : Int64)), (.long (479001600 : Int64)), (.long (6227020800 : Int64)), (.long (0 : Int64)), (.long (0 : Int64)), (.long (0 : Int64)), (.long (0 : Int64)), (.long (0 : Int64)), (.long (0 : Int64)), (.long (0 : Int64))] (.long (0 : Int64)) := Arv.set Ar17 q17 S17 N17a H17 G17 rfl W17 13 rfl (Nat.le_of_ble_eq_true rfl)
      have Z17 : n0 ≤ h17.size := Nat.le_trans Z16 (Keep.of_wr W17).1
      have kp17 := kp16.wr W17 (Or.inr sz_b3)
      have N17 := Fr.snoc X17 N16 g_b3
      obtain ⟨cl18, Ar18, q18, S18, N18a, H18, G18⟩ := Av_b3_17
      have hin18 : ¬ ((14 : Int32) < 0 ∨ cl18.slots.size ≤ ((14 : Int32)).toNatClampNeg) := inb_of S18 ⟨by decide, by decide⟩
      obtain ⟨T18, h18, X18, e18, W18, st18⟩ := stJ X17 hx hZ e17 Ar18 (j := (14 : Int32)) hin18 (g := (mkF m 115 #[.val (.int va), .unset] [(.long (87178291200 : Int64)), (.int (14 : Int32)), (.ref b3), (.ref b3)])) rfl rfl (hb hby d_method_2_code_115)
      have Av_b3_18 : Arv Z h18 b3 k3 .long (21 : Int32) [(.long (1 : Int64)), (.long (1 : Int64)), (.long (2 : Int64)), (.long (6 : Int64)), (.long (24 : Int64)), (.long (120 : Int64)), (.long (720 : Int64)), (.long (5040 : Int64)), (.long (40320 : Int64)), (.long (362880 : Int64)), (.long (3628800 : Int64)), (.long (39916800 : Int64)), (.long (479001600 : Int64)), (.long (6227020800 : Int64)), (.long (87178291200 : Int64)), (.long (0 : Int64)), (.long (0 : Int64)), (.long (0 : Int64)), (.long (0 : Int64)), (.long (0 : Int64)), (.long (0 : Int64))] (.long (0 : Int64)) := Arv.set Ar18 q18 S18 N18a H18 G18 rfl W18 14 rfl (Nat.le_of_ble_eq_true rfl)
      have Z18 : n0 ≤ h18.size := Nat.le_trans Z17 (Keep.of_wr W18).1
      have kp18 := kp17.wr W18 (Or.inr sz_b3)
      have N18 := Fr.snoc X18 N17 g_b3
      obtain ⟨cl19, Ar19, q19, S19, N19a, H19, G19⟩ := Av_b3_18
      have hin19 : ¬ ((15 : Int32) < 0 ∨ cl19.slots.size ≤ ((15 : Int32)).toNatClampNeg) := inb_of S19 ⟨by decide, by decide⟩
      obtain ⟨T19, h19, X19, e19, W19, st19⟩ := stJ X18 hx hZ e18 Ar19 (j := (15 : Int32)) hin19 (g := (mkF m 122 #[.val (.int va), .unset] [(.long (1307674368000 : Int64)), (.int (15 : Int32)), (.ref b3), (.ref b3)])) rfl rfl (hb hby d_method_2_code_122)
      have Av_b3_19 : Arv Z h19 b3 k3 .long (21 : Int32) [(.long (1 : Int64)), (.long (1 : Int64)), (.long (2 : Int64)), (.long (6 : Int64)), (.long (24 : Int64)), (.long (120 : Int64)), (.long (720 : Int64)), (.long (5040 : Int64)), (.long (40320 : Int64)), (.long (362880 : Int64)), (.long (3628800 : Int64)), (.long (39916800 : Int64)), (.long (479001600 : Int64)), (.long (6227020800 : Int64)), (.long (87178291200 : Int64)), (.long (1307674368000 : Int64)), (.long (0 : Int64)), (.long (0 : Int64)), (.long (0 : Int64)), (.long (0 : Int64)), (.long (0 : Int64))] (.long (0 : Int64)) := Arv.set Ar19 q19 S19 N19a H19 G19 rfl W19 15 rfl (Nat.le_of_ble_eq_true rfl)
      have Z19 : n0 ≤ h19.size := Nat.le_trans Z18 (Keep.of_wr W19).1
      have kp19 := kp18.wr W19 (Or.inr sz_b3)
      have N19 := Fr.snoc X19 N18 g_b3
      obtain ⟨cl20, Ar20, q20, S20, N20a, H20, G20⟩ := Av_b3_19
      have hin20 : ¬ ((16 : Int32) < 0 ∨ cl20.slots.size ≤ ((16 : Int32)).toNatClampNeg) := inb_of S20 ⟨by decide, by decide⟩
      obtain ⟨T20, h20, X20, e20, W20, st20⟩ := stJ X19 hx hZ e19 Ar20 (j := (16 : Int32)) hin20 (g := (mkF m 129 #[.val (.int va), .unset] [(.long (20922789888000 : Int64)), (.int (16 : Int32)), (.ref b3), (.ref b3)])) rfl rfl (hb hby d_method_2_code_129)
      have Av_b3_20 : Arv Z h20 b3 k3 .long (21 : Int32) [(.long (1 : Int64)), (.long (1 : Int64)), (.long (2 : Int64)), (.long (6 : Int64)), (.long (24 : Int64)), (.long (120 : Int64)), (.long (720 : Int64)), (.long (5040 : Int64)), (.long (40320 : Int64)), (.long (362880 : Int64)), (.long (3628800 : Int64)), (.long (39916800 : Int64)), (.long (479001600 : Int64)), (.long (6227020800 : Int64)), (.long (87178291200 : Int64)), (.long (1307674368000 : Int64)), (.long (20922789888000 : Int64)), (.long (0 : Int64)), (.long (0 : Int64)), (.long (0 : Int64)), (.long (0 : Int64))] (.long (0 : Int64)) := Arv.set Ar20 q20 S20 N20a H20 G20 rfl W20 16 rfl (Nat.le_of_ble_eq_true rfl)
      have Z20 : n0 ≤ h20.size := Nat.le_trans Z19 (Keep.of_wr W20).1
      have kp20 := kp19.wr W20 (Or.inr sz_b3)
      have N20 := Fr.snoc X20 N19 g_b3
      obtain ⟨cl21, Ar21, q21, S21, N21a, H21, G21⟩ := Av_b3_20
      have hin21 : ¬ ((17 : Int32) < 0 ∨ cl21.slots.size ≤ ((17 : Int32)).toNatClampNeg) := inb_of S21 ⟨by decide, by decide⟩
      obtain ⟨T21, h21, X21, e21, W21, st21⟩ := stJ X20 hx hZ e20 Ar21 (j := (17 : Int32)) hin21 (g := (mkF m 136 #[.val (.int va), .unset] [(.long (355687428096000 : Int64)), (.int (17 : Int32)), (.ref b3), (.ref b3)])) rfl rfl (hb hby d_method_2_code_136)
      have Av_b3_21 : Arv Z h21 b3 k3 .long (21 : Int32) [(.long (1 : Int64)), (.long (1 : Int64)), (.long (2 : Int64)), (.long (6 : Int64)), (.long (24 : Int64)), (.long (120 : Int64)), (.long (720 : Int64)), (.long (5040 : Int64)), (.long (40320 : Int64)), (.long (362880 : Int64)), (.long (3628800 : Int64)), (.long (39916800 : Int64)), (.long (479001600 : Int64)), (.long (6227020800 : Int64)), (.long (87178291200 : Int64)), (.long (1307674368000 : Int64)), (.long (20922789888000 : Int64)), (.long (355687428096000 : Int64)), (.long (0 : Int64)), (.long (0 : Int64)), (.long (0 : Int64))] (.long (0 : Int64)) := Arv.set Ar21 q21 S21 N21a H21 G21 rfl W21 17 rfl (Nat.le_of_ble_eq_true rfl)
      have Z21 : n0 ≤ h21.size := Nat.le_trans Z20 (Keep.of_wr W21).1
      have kp21 := kp20.wr W21 (Or.inr sz_b3)
      have N21 := Fr.snoc X21 N20 g_b3
      obtain ⟨cl22, Ar22, q22, S22, N22a, H22, G22⟩ := Av_b3_21
      have hin22 : ¬ ((18 : Int32) < 0 ∨ cl22.slots.size ≤ ((18 : Int32)).toNatClampNeg) := inb_of S22 ⟨by decide, by decide⟩
      obtain ⟨T22, h22, X22, e22, W22, st22⟩ := stJ X21 hx hZ e21 Ar22 (j := (18 : Int32)) hin22 (g := (mkF m 143 #[.val (.int va), .unset] [(.long (6402373705728000 : Int64)), (.int (18 : Int32)), (.ref b3), (.ref b3)])) rfl rfl (hb hby d_method_2_code_143)
      have Av_b3_22 : Arv Z h22 b3 k3 .long (21 : Int32) [(.long (1 : Int64)), (.long (1 : Int64)), (.long (2 : Int64)), (.long (6 : Int64)), (.long (24 : Int64)), (.long (120 : Int64)), (.long (720 : Int64)), (.long (5040 : Int64)), (.long (40320 : Int64)), (.long (362880 : Int64)), (.long (3628800 : Int64)), (.long (39916800 : Int64)), (.long (479001600 : Int64)), (.long (6227020800 : Int64)), (.long (87178291200 : Int64)), (.long (1307674368000 : Int64)), (.long (20922789888000 : Int64)), (.long (355687428096000 : Int64)), (.long (6402373705728000 : Int64)), (.long (0 : Int64)), (.long (0 : Int64))] (.long (0 : Int64)) := Arv.set Ar22 q22 S22 N22a H22 G22 rfl W22 18 rfl (Nat.le_of_ble_eq_true rfl)
      have Z22 : n0 ≤ h22.size := Nat.le_trans Z21 (Keep.of_wr W22).1
      have kp22 := kp21.wr W22 (Or.inr sz_b3)
      have N22 := Fr.snoc X22 N21 g_b3
      obtain ⟨cl23, Ar23, q23, S23, N23a, H23, G23⟩ := Av_b3_22
      have hin23 : ¬ ((19 : Int32) < 0 ∨ cl23.slots.size ≤ ((19 : Int32)).toNatClampNeg) := inb_of S23 ⟨by decide, by decide⟩
      obtain ⟨T23, h23, X23, e23, W23, st23⟩ := stJ X22 hx hZ e22 Ar23 (j := (19 : Int32)) hin23 (g := (mkF m 150 #[.val (.int va), .unset] [(.long (121645100408832000 : Int64)), (.int (19 : Int32)), (.ref b3), (.ref b3)])) rfl rfl (hb hby d_method_2_code_150)
      have Av_b3_23 : Arv Z h23 b3 k3 .long (21 : Int32) [(.long (1 : Int64)), (.long (1 : Int64)), (.long (2 : Int64)), (.long (6 : Int64)), (.long (24 : Int64)), (.long (120 : Int64)), (.long (720 : Int64)), (.long (5040 : Int64)), (.long (40320 : Int64)), (.long (362880 : Int64)), (.long (3628800 : Int64)), (.long (39916800 : Int64)), (.long (479001600 : Int64)), (.long (6227020800 : Int64)), (.long (87178291200 : Int64)), (.long (1307674368000 : Int64)), (.long (20922789888000 : Int64)), (.long (355687428096000 : Int64)), (.long (6402373705728000 : Int64)), (.long (121645100408832000 : Int64)), (.long (0 : Int64))] (.long (0 : Int64)) := Arv.set Ar23 q23 S23 N23a H23 G23 rfl W23 19 rfl (Nat.le_of_ble_eq_true rfl)
      have Z23 : n0 ≤ h23.size := Nat.le_trans Z22 (Keep.of_wr W23).1
      have kp23 := kp22.wr W23 (Or.inr sz_b3)
      have N23 := Fr.snoc X23 N22 g_b3
      obtain ⟨cl24, Ar24, q24, S24, N24a, H24, G24⟩ := Av_b3_23
      have hin24 : ¬ ((20 : Int32) < 0 ∨ cl24.slots.size ≤ ((20 : Int32)).toNatClampNeg) := inb_of S24 ⟨by decide, by decide⟩
      obtain ⟨T24, h24, X24, e24, W24, st24⟩ := stJ X23 hx hZ e23 Ar24 (j := (20 : Int32)) hin24 (g := (mkF m 157 #[.val (.int va), .unset] [(.long (2432902008176640000 : Int64)), (.int (20 : Int32)), (.ref b3), (.ref b3)])) rfl rfl (hb hby d_method_2_code_157)
      have Av_b3_24 : Arv Z h24 b3 k3 .long (21 : Int32) [(.long (1 : Int64)), (.long (1 : Int64)), (.long (2 : Int64)), (.long (6 : Int64)), (.long (24 : Int64)), (.long (120 : Int64)), (.long (720 : Int64)), (.long (5040 : Int64)), (.long (40320 : Int64)), (.long (362880 : Int64)), (.long (3628800 : Int64)), (.long (39916800 : Int64)), (.long (479001600 : Int64)), (.long (6227020800 : Int64)), (.long (87178291200 : Int64)), (.long (1307674368000 : Int64)), (.long (20922789888000 : Int64)), (.long (355687428096000 : Int64)), (.long (6402373705728000 : Int64)), (.long (121645100408832000 : Int64)), (.long (2432902008176640000 : Int64))] (.long (0 : Int64)) := Arv.set Ar24 q24 S24 N24a H24 G24 rfl W24 20 rfl (Nat.le_of_ble_eq_true rfl)
      have Z24 : n0 ≤ h24.size := Nat.le_trans Z23 (Keep.of_wr W24).1
      have kp24 := kp23.wr W24 (Or.inr sz_b3)
      have N24 := Fr.snoc X24 N23 g_b3
      obtain ⟨fs, hr, hrun, hended, hW, hsame⟩ := X24.leave (v := some (.long ((own_tab.getD va.toNatClampNeg 0) - (1 : Int64)))) (fun h => by rw [Bd.returns] at h; cases h)
      refine ⟨_, _, pre0 _ ?_, hrun, hended, _, _, rfl, ?_, ⟨_, rfl⟩, hW, hsame.mono (by decide) (by decide)⟩
      · show Steps p.tables e below (s₁.setTop (mkF m 0 #[.val (.int va), .unset] [])) _
        refine XS.iloadN X0.here hx rfl (hb hby d_method_2_code_0) rfl ?_
        show Steps p.tables e below (s₁.setTop (mkF m 1 #[.val (.int va), .unset] [(.int va)])) _
        refine XS.iconst X0.here hx rfl (hb hby d_method_2_code_1) ?_
        show Steps p.tables e below (s₁.setTop (mkF m 2 #[.val (.int va), .unset] [(.int (1 : Int32)), (.int va)])) _
        refine XS.icmpYes X0.here hx rfl (pc0 := 2) (pc' := 7) rfl (hb hby d_method_2_code_2) rfl (tlt h2_1).2.2.1 (by decide) (by decide) ?_
        show Steps p.tables e below (s₁.setTop (mkF m 7 #[.val (.int va), .unset] [])) _
        refine XS.iloadN X0.here hx rfl (hb hby d_method_2_code_7) rfl ?_
        show Steps p.tables e below (s₁.setTop (mkF m 8 #[.val (.int va), .unset] [(.int va)])) _
        refine XS.bipush X0.here hx rfl (hb hby d_method_2_code_8) ?_
        show Steps p.tables e below (s₁.setTop (mkF m 10 #[.val (.int va), .unset] [(.int (21 : Int32)), (.int va)])) _
        refine XS.icmpYes X0.here hx rfl (pc0 := 10) (pc' := 17) rfl (hb hby d_method_2_code_10) rfl (tlt h10_2).1 (by decide) (by decide) ?_
        show Steps p.tables e below (s₁.setTop (mkF m 17 #[.val (.int va), .unset] [])) _
        refine XS.bipush X0.here hx rfl (hb hby d_method_2_code_17) ?_
        show Steps p.tables e below (s₁.setTop (mkF m 19 #[.val (.int va), .unset] [(.int (21 : Int32))])) _
        refine st3 _ ?_
        show Steps p.tables e below (T3.setTop (mkF m 21 #[.val (.int va), .unset] [(.ref b3)])) _
        refine XS.dup X3.here hx rfl (hb hby d_method_2_code_21) rfl rfl ?_
        show Steps p.tables e below (T3.setTop (mkF m 22 #[.val (.int va), .unset] [(.ref b3), (.ref b3)])) _
        refine XS.iconst X3.here hx rfl (hb hby d_method_2_code_22) ?_
        show Steps p.tables e below (T3.setTop (mkF m 23 #[.val (.int va), .unset] [(.int (0 : Int32)), (.ref b3), (.ref b3)])) _
        refine XS.lconst X3.here hx rfl (hb hby d_method_2_code_23) ?_
        show Steps p.tables e below (T3.setTop (mkF m 24 #[.val (.int va), .unset] [(.long (1 : Int64)), (.int (0 : Int32)), (.ref b3), (.ref b3)])) _
        refine st4 _ ?_
        show Steps p.tables e below (T4.setTop (mkF m 25 #[.val (.int va), .unset] [(.ref b3)])) _
        refine XS.dup X4.here hx rfl (hb hby d_method_2_code_25) rfl rfl ?_
        show Steps p.tables e below (T4.setTop (mkF m 26 #[.val (.int va), .unset] [(.ref b3), (.ref b3)])) _
        refine XS.iconst X4.here hx rfl (hb hby d_method_2_code_26) ?_
        show Steps p.tables e below (T4.setTop (mkF m 27 #[.val (.int va), .unset] [(.int (1 : Int32)), (.ref b3), (.ref b3)])) _
        refine XS.lconst X4.here hx rfl (hb hby d_method_2_code_27) ?_
        show Steps p.tables e below (T4.setTop (mkF m 28 #[.val (.int va), .unset] [(.long (1 : Int64)), (.int (1 : Int32)), (.ref b3), (.ref b3)])) _
        refine st5 _ ?_
        show Steps p.tables e below (T5.setTop (mkF m 29 #[.val (.int va), .unset] [(.ref b3)])) _
        refine XS.dup X5.here hx rfl (hb hby d_method_2_code_29) rfl rfl ?_
        show Steps p.tables e below (T5.setTop (mkF m 30 #[.val (.int va), .unset] [(.ref b3), (.ref b3)])) _
        refine XS.iconst X5.here hx rfl (hb hby d_method_2_code_30) ?_
        show Steps p.tables e below (T5.setTop (mkF m 31 #[.val (.int va), .unset] [(.int (2 : Int32)), (.ref b3), (.ref b3)])) _
        refine X5.ldc2Long hx hown (mvT hZ (hw _ (List.mem_of_getElem? (i := 10) rfl))) (g := (mkF m 31 #[.val (.int va), .unset] [(.int (2 : Int32)), (.ref b3), (.ref b3)])) rfl (hb hby d_method_2_code_31) _ ?_
        show Steps p.tables e below (T5.setTop (mkF m 34 #[.val (.int va), .unset] [(.long (2 : Int64)), (.int (2 : Int32)), (.ref b3), (.ref b3)])) _
        refine st6 _ ?_
        show Steps p.tables e below (T6.setTop (mkF m 35 #[.val (.int va), .unset] [(.ref b3)])) _
        refine XS.dup X6.here hx rfl (hb hby d_method_2_code_35) rfl rfl ?_
        show Steps p.tables e below (T6.setTop (mkF m 36 #[.val (.int va), .unset] [(.ref b3), (.ref b3)])) _
        refine XS.iconst X6.here hx rfl (hb hby d_method_2_code_36) ?_
        show Steps p.tables e below (T6.setTop (mkF m 37 #[.val (.int va), .unset] [(.int (3 : Int32)), (.ref b3), (.ref b3)])) _
        refine X6.ldc2Long hx hown (mvT hZ (hw _ (List.mem_of_getElem? (i := 11) rfl))) (g := (mkF m 37 #[.val (.int va), .unset] [(.int (3 : Int32)), (.ref b3), (.ref b3)])) rfl (hb hby d_method_2_code_37) _ ?_
        show Steps p.tables e below (T6.setTop (mkF m 40 #[.val (.int va), .unset] [(.long (6 : Int64)), (.int (3 : Int32)), (.ref b3), (.ref b3)])) _
        refine st7 _ ?_
        show Steps p.tables e below (T7.setTop (mkF m 41 #[.val (.int va), .unset] [(.ref b3)])) _
        refine XS.dup X7.here hx rfl (hb hby d_method_2_code_41) rfl rfl ?_
        show Steps p.tables e below (T7.setTop (mkF m 42 #[.val (.int va), .unset] [(.ref b3), (.ref b3)])) _
        refine XS.iconst X7.here hx rfl (hb hby d_method_2_code_42) ?_
        show Steps p.tables e below (T7.setTop (mkF m 43 #[.val (.int va), .unset] [(.int (4 : Int32)), (.ref b3), (.ref b3)])) _
        refine X7.ldc2Long hx hown (mvT hZ (hw _ (List.mem_of_getElem? (i := 12) rfl))) (g := (mkF m 43 #[.val (.int va), .unset] [(.int (4 : Int32)), (.ref b3), (.ref b3)])) rfl (hb hby d_method_2_code_43) _ ?_
        show Steps p.tables e below (T7.setTop (mkF m 46 #[.val (.int va), .unset] [(.long (24 : Int64)), (.int (4 : Int32)), (.ref b3), (.ref b3)])) _
        refine st8 _ ?_
        show Steps p.tables e below (T8.setTop (mkF m 47 #[.val (.int va), .unset] [(.ref b3)])) _
        refine XS.dup X8.here hx rfl (hb hby d_method_2_code_47) rfl rfl ?_
        show Steps p.tables e below (T8.setTop (mkF m 48 #[.val (.int va), .unset] [(.ref b3), (.ref b3)])) _
        refine XS.iconst X8.here hx rfl (hb hby d_method_2_code_48) ?_
        show Steps p.tables e below (T8.setTop (mkF m 49 #[.val (.int va), .unset] [(.int (5 : Int32)), (.ref b3), (.ref b3)])) _
        refine X8.ldc2Long hx hown (mvT hZ (hw _ (List.mem_of_getElem? (i := 13) rfl))) (g := (mkF m 49 #[.val (.int va), .unset] [(.int (5 : Int32)), (.ref b3), (.ref b3)])) rfl (hb hby d_method_2_code_49) _ ?_
        show Steps p.tables e below (T8.setTop (mkF m 52 #[.val (.int va), .unset] [(.long (120 : Int64)), (.int (5 : Int32)), (.ref b3), (.ref b3)])) _
        refine st9 _ ?_
        show Steps p.tables e below (T9.setTop (mkF m 53 #[.val (.int va), .unset] [(.ref b3)])) _
        refine XS.dup X9.here hx rfl (hb hby d_method_2_code_53) rfl rfl ?_
        show Steps p.tables e below (T9.setTop (mkF m 54 #[.val (.int va), .unset] [(.ref b3), (.ref b3)])) _
        refine XS.bipush X9.here hx rfl (hb hby d_method_2_code_54) ?_
        show Steps p.tables e below (T9.setTop (mkF m 56 #[.val (.int va), .unset] [(.int (6 : Int32)), (.ref b3), (.ref b3)])) _
        refine X9.ldc2Long hx hown (mvT hZ (hw _ (List.mem_of_getElem? (i := 14) rfl))) (g := (mkF m 56 #[.val (.int va), .unset] [(.int (6 : Int32)), (.ref b3), (.ref b3)])) rfl (hb hby d_method_2_code_56) _ ?_
        show Steps p.tables e below (T9.setTop (mkF m 59 #[.val (.int va), .unset] [(.long (720 : Int64)), (.int (6 : Int32)), (.ref b3), (.ref b3)])) _
        refine st10 _ ?_
        show Steps p.tables e below (T10.setTop (mkF m 60 #[.val (.int va), .unset] [(.ref b3)])) _
        refine XS.dup X10.here hx rfl (hb hby d_method_2_code_60) rfl rfl ?_
        show Steps p.tables e below (T10.setTop (mkF m 61 #[.val (.int va), .unset] [(.ref b3), (.ref b3)])) _
        refine XS.bipush X10.here hx rfl (hb hby d_method_2_code_61) ?_
        show Steps p.tables e below (T10.setTop (mkF m 63 #[.val (.int va), .unset] [(.int (7 : Int32)), (.ref b3), (.ref b3)])) _
        refine X10.ldc2Long hx hown (mvT hZ (hw _ (List.mem_of_getElem? (i := 15) rfl))) (g := (mkF m 63 #[.val (.int va), .unset] [(.int (7 : Int32)), (.ref b3), (.ref b3)])) rfl (hb hby d_method_2_code_63) _ ?_
        show Steps p.tables e below (T10.setTop (mkF m 66 #[.val (.int va), .unset] [(.long (5040 : Int64)), (.int (7 : Int32)), (.ref b3), (.ref b3)])) _
        refine st11 _ ?_
        show Steps p.tables e below (T11.setTop (mkF m 67 #[.val (.int va), .unset] [(.ref b3)])) _
        refine XS.dup X11.here hx rfl (hb hby d_method_2_code_67) rfl rfl ?_
        show Steps p.tables e below (T11.setTop (mkF m 68 #[.val (.int va), .unset] [(.ref b3), (.ref b3)])) _
        refine XS.bipush X11.here hx rfl (hb hby d_method_2_code_68) ?_
        show Steps p.tables e below (T11.setTop (mkF m 70 #[.val (.int va), .unset] [(.int (8 : Int32)), (.ref b3), (.ref b3)])) _
        refine X11.ldc2Long hx hown (mvT hZ (hw _ (List.mem_of_getElem? (i := 16) rfl))) (g := (mkF m 70 #[.val (.int va), .unset] [(.int (8 : Int32)), (.ref b3), (.ref b3)])) rfl (hb hby d_method_2_code_70) _ ?_
        show Steps p.tables e below (T11.setTop (mkF m 73 #[.val (.int va), .unset] [(.long (40320 : Int64)), (.int (8 : Int32)), (.ref b3), (.ref b3)])) _
        refine st12 _ ?_
        show Steps p.tables e below (T12.setTop (mkF m 74 #[.val (.int va), .unset] [(.ref b3)])) _
        refine XS.dup X12.here hx rfl (hb hby d_method_2_code_74) rfl rfl ?_
        show Steps p.tables e below (T12.setTop (mkF m 75 #[.val (.int va), .unset] [(.ref b3), (.ref b3)])) _
        refine XS.bipush X12.here hx rfl (hb hby d_method_2_code_75) ?_
        show Steps p.tables e below (T12.setTop (mkF m 77 #[.val (.int va), .unset] [(.int (9 : Int32)), (.ref b3), (.ref b3)])) _
        refine X12.ldc2Long hx hown (mvT hZ (hw _ (List.mem_of_getElem? (i := 17) rfl))) (g := (mkF m 77 #[.val (.int va), .unset] [(.int (9 : Int32)), (.ref b3), (.ref b3)])) rfl (hb hby d_method_2_code_77) _ ?_
        show Steps p.tables e below (T12.setTop (mkF m 80 #[.val (.int va), .unset] [(.long (362880 : Int64)), (.int (9 : Int32)), (.ref b3), (.ref b3)])) _
        refine st13 _ ?_
        show Steps p.tables e below (T13.setTop (mkF m 81 #[.val (.int va), .unset] [(.ref b3)])) _
        refine XS.dup X13.here hx rfl (hb hby d_method_2_code_81) rfl rfl ?_
        show Steps p.tables e below (T13.setTop (mkF m 82 #[.val (.int va), .unset] [(.ref b3), (.ref b3)])) _
        refine XS.bipush X13.here hx rfl (hb hby d_method_2_code_82) ?_
        show Steps p.tables e below (T13.setTop (mkF m 84 #[.val (.int va), .unset] [(.int (10 : Int32)), (.ref b3), (.ref b3)])) _
        refine X13.ldc2Long hx hown (mvT hZ (hw _ (List.mem_of_getElem? (i := 18) rfl))) (g := (mkF m 84 #[.val (.int va), .unset] [(.int (10 : Int32)), (.ref b3), (.ref b3)])) rfl (hb hby d_method_2_code_84) _ ?_
        show Steps p.tables e below (T13.setTop (mkF m 87 #[.val (.int va), .unset] [(.long (3628800 : Int64)), (.int (10 : Int32)), (.ref b3), (.ref b3)])) _
        refine st14 _ ?_
        show Steps p.tables e below (T14.setTop (mkF m 88 #[.val (.int va), .unset] [(.ref b3)])) _
        refine XS.dup X14.here hx rfl (hb hby d_method_2_code_88) rfl rfl ?_
        show Steps p.tables e below (T14.setTop (mkF m 89 #[.val (.int va), .unset] [(.ref b3), (.ref b3)])) _
        refine XS.bipush X14.here hx rfl (hb hby d_method_2_code_89) ?_
        show Steps p.tables e below (T14.setTop (mkF m 91 #[.val (.int va), .unset] [(.int (11 : Int32)), (.ref b3), (.ref b3)])) _
        refine X14.ldc2Long hx hown (mvT hZ (hw _ (List.mem_of_getElem? (i := 19) rfl))) (g := (mkF m 91 #[.val (.int va), .unset] [(.int (11 : Int32)), (.ref b3), (.ref b3)])) rfl (hb hby d_method_2_code_91) _ ?_
        show Steps p.tables e below (T14.setTop (mkF m 94 #[.val (.int va), .unset] [(.long (39916800 : Int64)), (.int (11 : Int32)), (.ref b3), (.ref b3)])) _
        refine st15 _ ?_
        show Steps p.tables e below (T15.setTop (mkF m 95 #[.val (.int va), .unset] [(.ref b3)])) _
        refine XS.dup X15.here hx rfl (hb hby d_method_2_code_95) rfl rfl ?_
        show Steps p.tables e below (T15.setTop (mkF m 96 #[.val (.int va), .unset] [(.ref b3), (.ref b3)])) _
        refine XS.bipush X15.here hx rfl (hb hby d_method_2_code_96) ?_
        show Steps p.tables e below (T15.setTop (mkF m 98 #[.val (.int va), .unset] [(.int (12 : Int32)), (.ref b3), (.ref b3)])) _
        refine X15.ldc2Long hx hown (mvT hZ (hw _ (List.mem_of_getElem? (i := 20) rfl))) (g := (mkF m 98 #[.val (.int va), .unset] [(.int (12 : Int32)), (.ref b3), (.ref b3)])) rfl (hb hby d_method_2_code_98) _ ?_
        show Steps p.tables e below (T15.setTop (mkF m 101 #[.val (.int va), .unset] [(.long (479001600 : Int64)), (.int (12 : Int32)), (.ref b3), (.ref b3)])) _
        refine st16 _ ?_
        show Steps p.tables e below (T16.setTop (mkF m 102 #[.val (.int va), .unset] [(.ref b3)])) _
        refine XS.dup X16.here hx rfl (hb hby d_method_2_code_102) rfl rfl ?_
        show Steps p.tables e below (T16.setTop (mkF m 103 #[.val (.int va), .unset] [(.ref b3), (.ref b3)])) _
        refine XS.bipush X16.here hx rfl (hb hby d_method_2_code_103) ?_
        show Steps p.tables e below (T16.setTop (mkF m 105 #[.val (.int va), .unset] [(.int (13 : Int32)), (.ref b3), (.ref b3)])) _
        refine X16.ldc2Long hx hown (mvT hZ (hw _ (List.mem_of_getElem? (i := 21) rfl))) (g := (mkF m 105 #[.val (.int va), .unset] [(.int (13 : Int32)), (.ref b3), (.ref b3)])) rfl (hb hby d_method_2_code_105) _ ?_
        show Steps p.tables e below (T16.setTop (mkF m 108 #[.val (.int va), .unset] [(.long (6227020800 : Int64)), (.int (13 : Int32)), (.ref b3), (.ref b3)])) _
        refine st17 _ ?_
        show Steps p.tables e below (T17.setTop (mkF m 109 #[.val (.int va), .unset] [(.ref b3)])) _
        refine XS.dup X17.here hx rfl (hb hby d_method_2_code_109) rfl rfl ?_
        show Steps p.tables e below (T17.setTop (mkF m 110 #[.val (.int va), .unset] [(.ref b3), (.ref b3)])) _
        refine XS.bipush X17.here hx rfl (hb hby d_method_2_code_110) ?_
        show Steps p.tables e below (T17.setTop (mkF m 112 #[.val (.int va), .unset] [(.int (14 : Int32)), (.ref b3), (.ref b3)])) _
        refine X17.ldc2Long hx hown (mvT hZ (hw _ (List.mem_of_getElem? (i := 22) rfl))) (g := (mkF m 112 #[.val (.int va), .unset] [(.int (14 : Int32)), (.ref b3), (.ref b3)])) rfl (hb hby d_method_2_code_112) _ ?_
        show Steps p.tables e below (T17.setTop (mkF m 115 #[.val (.int va), .unset] [(.long (87178291200 : Int64)), (.int (14 : Int32)), (.ref b3), (.ref b3)])) _
        refine st18 _ ?_
        show Steps p.tables e below (T18.setTop (mkF m 116 #[.val (.int va), .unset] [(.ref b3)])) _
        refine XS.dup X18.here hx rfl (hb hby d_method_2_code_116) rfl rfl ?_
        show Steps p.tables e below (T18.setTop (mkF m 117 #[.val (.int va), .unset] [(.ref b3), (.ref b3)])) _
        refine XS.bipush X18.here hx rfl (hb hby d_method_2_code_117) ?_
        show Steps p.tables e below (T18.setTop (mkF m 119 #[.val (.int va), .unset] [(.int (15 : Int32)), (.ref b3), (.ref b3)])) _
        refine X18.ldc2Long hx hown (mvT hZ (hw _ (List.mem_of_getElem? (i := 23) rfl))) (g := (mkF m 119 #[.val (.int va), .unset] [(.int (15 : Int32)), (.ref b3), (.ref b3)])) rfl (hb hby d_method_2_code_119) _ ?_
        show Steps p.tables e below (T18.setTop (mkF m 122 #[.val (.int va), .unset] [(.long (1307674368000 : Int64)), (.int (15 : Int32)), (.ref b3), (.ref b3)])) _
        refine st19 _ ?_
        show Steps p.tables e below (T19.setTop (mkF m 123 #[.val (.int va), .unset] [(.ref b3)])) _
        refine XS.dup X19.here hx rfl (hb hby d_method_2_code_123) rfl rfl ?_
        show Steps p.tables e below (T19.setTop (mkF m 124 #[.val (.int va), .unset] [(.ref b3), (.ref b3)])) _
        refine XS.bipush X19.here hx rfl (hb hby d_method_2_code_124) ?_
        show Steps p.tables e below (T19.setTop (mkF m 126 #[.val (.int va), .unset] [(.int (16 : Int32)), (.ref b3), (.ref b3)])) _
        refine X19.ldc2Long hx hown (mvT hZ (hw _ (List.mem_of_getElem? (i := 24) rfl))) (g := (mkF m 126 #[.val (.int va), .unset] [(.int (16 : Int32)), (.ref b3), (.ref b3)])) rfl (hb hby d_method_2_code_126) _ ?_
        show Steps p.tables e below (T19.setTop (mkF m 129 #[.val (.int va), .unset] [(.long (20922789888000 : Int64)), (.int (16 : Int32)), (.ref b3), (.ref b3)])) _
        refine st20 _ ?_
        show Steps p.tables e below (T20.setTop (mkF m 130 #[.val (.int va), .unset] [(.ref b3)])) _
        refine XS.dup X20.here hx rfl (hb hby d_method_2_code_130) rfl rfl ?_
        show Steps p.tables e below (T20.setTop (mkF m 131 #[.val (.int va), .unset] [(.ref b3), (.ref b3)])) _
        refine XS.bipush X20.here hx rfl (hb hby d_method_2_code_131) ?_
        show Steps p.tables e below (T20.setTop (mkF m 133 #[.val (.int va), .unset] [(.int (17 : Int32)), (.ref b3), (.ref b3)])) _
        refine X20.ldc2Long hx hown (mvT hZ (hw _ (List.mem_of_getElem? (i := 25) rfl))) (g := (mkF m 133 #[.val (.int va), .unset] [(.int (17 : Int32)), (.ref b3), (.ref b3)])) rfl (hb hby d_method_2_code_133) _ ?_
        show Steps p.tables e below (T20.setTop (mkF m 136 #[.val (.int va), .unset] [(.long (355687428096000 : Int64)), (.int (17 : Int32)), (.ref b3), (.ref b3)])) _
        refine st21 _ ?_
        show Steps p.tables e below (T21.setTop (mkF m 137 #[.val (.int va), .unset] [(.ref b3)])) _
        refine XS.dup X21.here hx rfl (hb hby d_method_2_code_137) rfl rfl ?_
        show Steps p.tables e below (T21.setTop (mkF m 138 #[.val (.int va), .unset] [(.ref b3), (.ref b3)])) _
        refine XS.bipush X21.here hx rfl (hb hby d_method_2_code_138) ?_
        show Steps p.tables e below (T21.setTop (mkF m 140 #[.val (.int va), .unset] [(.int (18 : Int32)), (.ref b3), (.ref b3)])) _
        refine X21.ldc2Long hx hown (mvT hZ (hw _ (List.mem_of_getElem? (i := 26) rfl))) (g := (mkF m 140 #[.val (.int va), .unset] [(.int (18 : Int32)), (.ref b3), (.ref b3)])) rfl (hb hby d_method_2_code_140) _ ?_
        show Steps p.tables e below (T21.setTop (mkF m 143 #[.val (.int va), .unset] [(.long (6402373705728000 : Int64)), (.int (18 : Int32)), (.ref b3), (.ref b3)])) _
        refine st22 _ ?_
        show Steps p.tables e below (T22.setTop (mkF m 144 #[.val (.int va), .unset] [(.ref b3)])) _
        refine XS.dup X22.here hx rfl (hb hby d_method_2_code_144) rfl rfl ?_
        show Steps p.tables e below (T22.setTop (mkF m 145 #[.val (.int va), .unset] [(.ref b3), (.ref b3)])) _
        refine XS.bipush X22.here hx rfl (hb hby d_method_2_code_145) ?_
        show Steps p.tables e below (T22.setTop (mkF m 147 #[.val (.int va), .unset] [(.int (19 : Int32)), (.ref b3), (.ref b3)])) _
        refine X22.ldc2Long hx hown (mvT hZ (hw _ (List.mem_of_getElem? (i := 27) rfl))) (g := (mkF m 147 #[.val (.int va), .unset] [(.int (19 : Int32)), (.ref b3), (.ref b3)])) rfl (hb hby d_method_2_code_147) _ ?_
        show Steps p.tables e below (T22.setTop (mkF m 150 #[.val (.int va), .unset] [(.long (121645100408832000 : Int64)), (.int (19 : Int32)), (.ref b3), (.ref b3)])) _
        refine st23 _ ?_
        show Steps p.tables e below (T23.setTop (mkF m 151 #[.val (.int va), .unset] [(.ref b3)])) _
        refine XS.dup X23.here hx rfl (hb hby d_method_2_code_151) rfl rfl ?_
        show Steps p.tables e below (T23.setTop (mkF m 152 #[.val (.int va), .unset] [(.ref b3), (.ref b3)])) _
        refine XS.bipush X23.here hx rfl (hb hby d_method_2_code_152) ?_
        show Steps p.tables e below (T23.setTop (mkF m 154 #[.val (.int va), .unset] [(.int (20 : Int32)), (.ref b3), (.ref b3)])) _
        refine X23.ldc2Long hx hown (mvT hZ (hw _ (List.mem_of_getElem? (i := 28) rfl))) (g := (mkF m 154 #[.val (.int va), .unset] [(.int (20 : Int32)), (.ref b3), (.ref b3)])) rfl (hb hby d_method_2_code_154) _ ?_
        show Steps p.tables e below (T23.setTop (mkF m 157 #[.val (.int va), .unset] [(.long (2432902008176640000 : Int64)), (.int (20 : Int32)), (.ref b3), (.ref b3)])) _
        refine st24 _ ?_
        show Steps p.tables e below (T24.setTop (mkF m 158 #[.val (.int va), .unset] [(.ref b3)])) _
        refine XS.astoreN X24.here hx rfl (hb hby d_method_2_code_158) rfl rfl (l' := #[.val (.int va), .val (.ref b3)]) rfl ?_
        show Steps p.tables e below (T24.setTop (mkF m 159 #[.val (.int va), .val (.ref b3)] [])) _
        refine XS.aloadN X24.here hx rfl (hb hby d_method_2_code_159) rfl rfl ?_
        show Steps p.tables e below (T24.setTop (mkF m 160 #[.val (.int va), .val (.ref b3)] [(.ref b3)])) _
        refine XS.iloadN X24.here hx rfl (hb hby d_method_2_code_160) rfl ?_
        show Steps p.tables e below (T24.setTop (mkF m 161 #[.val (.int va), .val (.ref b3)] [(.int va), (.ref b3)])) _
        obtain ⟨cl25, Ar25, q25, S25, N25a, H25, G25⟩ := Av_b3_24
        have hin25 : ¬ (va < 0 ∨ cl25.slots.size ≤ (va).toNatClampNeg) := inb_of S25 ⟨own_pos _ h2_1, h10_2⟩
        have hat25 : cl25.slots[(va).toNatClampNeg]? = some (.long (own_tab.getD va.toNatClampNeg 0)) := H25.at hin25 (own_getD own_tab _)
        refine X24.laload hx (j := va) (v := (.long (own_tab.getD va.toNatClampNeg 0))) (by rw [e24]; exact Ar25.1) (State.isArrayOf_alike hZ.alike Ar25.2.1) Ar25.2.2 hin25 hat25 (g := (mkF m 161 #[.val (.int va), .val (.ref b3)] [(.int va), (.ref b3)])) rfl rfl (hb hby d_method_2_code_161) _ ?_
        show Steps p.tables e below (T24.setTop (mkF m 162 #[.val (.int va), .val (.ref b3)] [(.long (own_tab.getD va.toNatClampNeg 0))])) _
        refine XS.lconst X24.here hx rfl (hb hby d_method_2_code_162) ?_
        show Steps p.tables e below (T24.setTop (mkF m 163 #[.val (.int va), .val (.ref b3)] [(.long (1 : Int64)), (.long (own_tab.getD va.toNatClampNeg 0))])) _
        refine XS.lsub X24.here hx rfl (hb hby d_method_2_code_163) rfl ?_
        show Steps p.tables e below (T24.setTop (mkF m 164 #[.val (.int va), .val (.ref b3)] [(.long ((own_tab.getD va.toNatClampNeg 0) - (1 : Int64)))])) _
        exact X24.lreturnOut hx Bd.returns (hb hby d_method_2_code_164) hr
      · show Q_exp Z va h0 n0 _ T24.heap _
        rw [e24]
        exact ⟨⟨_, rfl, by simp [own_v, h2_1, h10_2]⟩, N24, kp24⟩
    · obtain ⟨fs, hr, hrun, hended, hW, hsame⟩ := X0.leave (v := some (.long (9223372036854775807 : Int64))) (fun h => by rw [Bd.returns] at h; cases h)
      refine ⟨_, _, pre0 _ ?_, hrun, hended, _, _, rfl, ?_, ⟨_, rfl⟩, hW, hsame.mono (by decide) (by decide)⟩
      · show Steps p.tables e below (s₁.setTop (mkF m 0 #[.val (.int va), .unset] [])) _
        refine XS.iloadN X0.here hx rfl (hb hby d_method_2_code_0) rfl ?_
        show Steps p.tables e below (s₁.setTop (mkF m 1 #[.val (.int va), .unset] [(.int va)])) _
        refine XS.iconst X0.here hx rfl (hb hby d_method_2_code_1) ?_
        show Steps p.tables e below (s₁.setTop (mkF m 2 #[.val (.int va), .unset] [(.int (1 : Int32)), (.int va)])) _
        refine XS.icmpYes X0.here hx rfl (pc0 := 2) (pc' := 7) rfl (hb hby d_method_2_code_2) rfl (tlt h2_1).2.2.1 (by decide) (by decide) ?_
        show Steps p.tables e below (s₁.setTop (mkF m 7 #[.val (.int va), .unset] [])) _
        refine XS.iloadN X0.here hx rfl (hb hby d_method_2_code_7) rfl ?_
        show Steps p.tables e below (s₁.setTop (mkF m 8 #[.val (.int va), .unset] [(.int va)])) _
        refine XS.bipush X0.here hx rfl (hb hby d_method_2_code_8) ?_
        show Steps p.tables e below (s₁.setTop (mkF m 10 #[.val (.int va), .unset] [(.int (21 : Int32)), (.int va)])) _
        refine XS.icmpNo X0.here hx rfl (hb hby d_method_2_code_10) rfl (flt h10_2).1 ?_
        show Steps p.tables e below (s₁.setTop (mkF m 13 #[.val (.int va), .unset] [])) _
        refine X0.ldc2Long hx hown (mvT hZ (hw _ (List.mem_of_getElem? (i := 29) rfl))) (g := (mkF m 13 #[.val (.int va), .unset] [])) rfl (hb hby d_method_2_code_13) _ ?_
        show Steps p.tables e below (s₁.setTop (mkF m 16 #[.val (.int va), .unset] [(.long (9223372036854775807 : Int64))])) _
        exact X0.lreturnOut hx Bd.returns (hb hby d_method_2_code_16) hr
      · show Q_exp Z va h0 n0 _ s₁.heap _
        rw [e0]
        exact ⟨⟨_, rfl, by simp [own_v, h2_1, h10_2]⟩, N0, kp0⟩
  · obtain ⟨fs, hr, hrun, hended, hW, hsame⟩ := X0.leave (v := some (.long (0 : Int64))) (fun h => by rw [Bd.returns] at h; cases h)
    refine ⟨_, _, pre0 _ ?_, hrun, hended, _, _, rfl, ?_, ⟨_, rfl⟩, hW, hsame.mono (by decide) (by decide)⟩
    · show Steps p.tables e below (s₁.setTop (mkF m 0 #[.val (.int va), .unset] [])) _
      refine XS.iloadN X0.here hx rfl (hb hby d_method_2_code_0) rfl ?_
      show Steps p.tables e below (s₁.setTop (mkF m 1 #[.val (.int va), .unset] [(.int va)])) _
      refine XS.iconst X0.here hx rfl (hb hby d_method_2_code_1) ?_
      show Steps p.tables e below (s₁.setTop (mkF m 2 #[.val (.int va), .unset] [(.int (1 : Int32)), (.int va)])) _
      refine XS.icmpNo X0.here hx rfl (hb hby d_method_2_code_2) rfl (flt h2_1).2.2.1 ?_
      show Steps p.tables e below (s₁.setTop (mkF m 5 #[.val (.int va), .unset] [])) _
      refine XS.lconst X0.here hx rfl (hb hby d_method_2_code_5) ?_
      show Steps p.tables e below (s₁.setTop (mkF m 6 #[.val (.int va), .unset] [(.long (0 : Int64))])) _
      exact X0.lreturnOut hx Bd.returns (hb hby d_method_2_code_6) hr
    · show Q_exp Z va h0 n0 _ s₁.heap _
      rw [e0]
      exact ⟨⟨_, rfl, by simp [own_v, h2_1]⟩, N0, kp0⟩
theorem pn_1 : plainName "com/example/serialscope/serialscope/Choices" = true := by first | (simp [plainName, overriddenIn]; done) | decide +kernel
theorem d_prog_20_method_8_code_4 : decode prog_20_method_8_code 4 = .ok (.iload_n 3, 1) := by decide +kernel
theorem d_prog_20_method_8_code_5 : decode prog_20_method_8_code 5 = .ok (.iload_n 0, 1) := by decide +kernel
theorem d_prog_20_method_8_code_6 : decode prog_20_method_8_code 6 = .ok (.if_icmp .gt 29, 3) := by decide +kernel
theorem d_prog_20_method_8_code_35 : decode prog_20_method_8_code 35 = .ok (.lload_n 1, 1) := by decide +kernel
theorem d_prog_20_method_8_code_36 : decode prog_20_method_8_code 36 = .ok (.lconst 1, 1) := by decide +kernel
theorem d_prog_20_method_8_code_37 : decode prog_20_method_8_code 37 = .ok (.lsub, 1) := by decide +kernel
theorem d_prog_20_method_8_code_38 : decode prog_20_method_8_code 38 = .ok (.lreturn, 1) := by decide +kernel
theorem d_prog_20_method_8_code_9 : decode prog_20_method_8_code 9 = .ok (.lload_n 1, 1) := by decide +kernel
theorem d_prog_20_method_8_code_10 : decode prog_20_method_8_code 10 = .ok (.ldc2_w 67, 3) := by decide +kernel
theorem d_prog_20_method_8_code_13 : decode prog_20_method_8_code 13 = .ok (.iload_n 3, 1) := by decide +kernel
theorem d_prog_20_method_8_code_14 : decode prog_20_method_8_code 14 = .ok (.i2l, 1) := by decide +kernel
theorem d_prog_20_method_8_code_15 : decode prog_20_method_8_code 15 = .ok (.ldiv, 1) := by decide +kernel
theorem d_prog_20_method_8_code_16 : decode prog_20_method_8_code 16 = .ok (.lcmp, 1) := by decide +kernel
theorem d_prog_20_method_8_code_17 : decode prog_20_method_8_code 17 = .ok (.ifCond .le 7, 3) := by decide +kernel
theorem d_prog_20_method_8_code_20 : decode prog_20_method_8_code 20 = .ok (.ldc2_w 67, 3) := by decide +kernel
theorem d_prog_20_method_8_code_23 : decode prog_20_method_8_code 23 = .ok (.lreturn, 1) := by decide +kernel
theorem d_prog_20_method_8_code_24 : decode prog_20_method_8_code 24 = .ok (.lload_n 1, 1) := by decide +kernel
theorem d_prog_20_method_8_code_25 : decode prog_20_method_8_code 25 = .ok (.iload_n 3, 1) := by decide +kernel
theorem d_prog_20_method_8_code_26 : decode prog_20_method_8_code 26 = .ok (.i2l, 1) := by decide +kernel
theorem d_prog_20_method_8_code_27 : decode prog_20_method_8_code 27 = .ok (.lmul, 1) := by decide +kernel
theorem d_prog_20_method_8_code_28 : decode prog_20_method_8_code 28 = .ok (.lstore_n 1, 1) := by decide +kernel
theorem d_prog_20_method_8_code_29 : decode prog_20_method_8_code 29 = .ok (.iinc 3 1, 3) := by decide +kernel
theorem d_prog_20_method_8_code_32 : decode prog_20_method_8_code 32 = .ok (.goto (-28), 3) := by decide +kernel
theorem d_prog_20_method_8_code_0 : decode prog_20_method_8_code 0 = .ok (.lconst 1, 1) := by decide +kernel
theorem d_prog_20_method_8_code_1 : decode prog_20_method_8_code 1 = .ok (.lstore_n 1, 1) := by decide +kernel
theorem d_prog_20_method_8_code_2 : decode prog_20_method_8_code 2 = .ok (.iconst 2, 1) := by decide +kernel
theorem d_prog_20_method_8_code_3 : decode prog_20_method_8_code 3 = .ok (.istore_n 3, 1) := by decide +kernel
theorem ef_oc (m : MethodId) (va : Int32) : entryFrame m #[(.int va)] 4 = mkF m 0 #[.val (.int va), .unset, .unset, .unset] [] := by first | (simp [entryFrame, mkF, argsToLocals, Value.category]; done) | rfl
def Q_oc (Z : State) (va : Int32) (h0 : Heap) (n0 : Nat) (v : Option Value) (h : Heap) (L : List Loc) : Prop := (∃ z : Int64, v = some (.long z) ∧ (z = own_v va)) ∧ Fr n0 L ∧ h = h0
set_option maxRecDepth 65536 in
set_option maxHeartbeats 40000000 in
theorem rm_oc (l : Launch) (Z : State) (a0 : Array Value) (hw : ∀ d ∈ tables_1, d.before a0 Z = true) (ws : List Jvm.Cond) (va : Int32) (h0 : Heap) (n0 : Nat) (Z0 : n0 ≤ h0.size) :
    MetFree l (⟨"com/example/serialscope/serialscope/Choices", "orderCount", "(I)J"⟩ : MethodName) (head1 (Jvm.Cond.code (⟨"com/example/serialscope/serialscope/Choices", "orderCount", "(I)J"⟩ : MethodName) prog_20_method_8_code 4 (some .long) :: ws) ({ frames := 0, cells := 0, slots := 0, locals := 0 } : Room)) (fun a U => a = #[(.int va)] ∧ Z.Warmed39 U.vm ∧ U.heap = h0) (fun _ _ _ _ _ => True) (fun _ U o U' => ∃ v L, o = .returned v ∧ Q_oc Z va h0 n0 v U'.heap L ∧ FrameEnd U o U' L ({ frames := 0, cells := 0, slots := 0, locals := 0 } : Room).cells ({ frames := 0, cells := 0, slots := 0, locals := 0 } : Room).slots) := by
  refine MetFree.of_bodySF (plainFor_of_name pn_1) hisR ?_
  intro p e s m args below meth c s₁ Bd hml0 hP hK
  obtain ⟨rfl, hZ, hh⟩ := hP
  have hx := Bd.exec
  have hby := Bd.bytes
  have hml : c.maxLocals = 4 := hml0
  have hown : s.vm.findClass "com/example/serialscope/serialscope/Choices" = some m.cls := findClass_of_methodNamed Bd.named
  have hnm := (name_of_methodNamed Bd.named Bd.method).1
  have X0 : Stand p l e ({ frames := 0, cells := 0, slots := 0, locals := 0 } : Room) s m #[(.int va)] below meth c s₁ [] 0 0 := Stand.of_body Bd
  have e0 : s₁.heap = h0 := by rw [← hh, Bd.state]; rfl
  have N0 := Fr.nil n0
  have pre0 : ∀ t, Steps p.tables e below (s₁.setTop (mkF m 0 #[.val (.int va), .unset, .unset, .unset] [])) t → Steps p.tables e below (s₁.setTop (entryFrame m #[(.int va)] 4)) t := fun t k => castTop (ef_oc m va) k
  obtain ⟨fs, hr, hrun, hended, hW, hsame⟩ := X0.leave (v := some (.long (own_v va))) (fun h => by rw [Bd.returns] at h; cases h)
  have x1 : ∀ (pr : Int64) (ii : Int32), va < ii → own_v va = pr - (1 : Int64) → Steps p.tables e below (s₁.setTop (mkF m 4 #[.val (.int va), .val (.long pr), .second, .val (.int ii)] [])) (s₁.setFrames fs) := by
    intro pr ii h hv
    rw [hv] at hr
    show Steps p.tables e below (s₁.setTop (mkF m 4 #[.val (.int va), .val (.long pr), .second, .val (.int ii)] [])) _
    refine XS.iloadN X0.here hx rfl (hb hby d_prog_20_method_8_code_4) rfl ?_
    show Steps p.tables e below (s₁.setTop (mkF m 5 #[.val (.int va), .val (.long pr), .second, .val (.int ii)] [(.int ii)])) _
    refine XS.iloadN X0.here hx rfl (hb hby d_prog_20_method_8_code_5) rfl ?_
    show Steps p.tables e below (s₁.setTop (mkF m 6 #[.val (.int va), .val (.long pr), .second, .val (.int ii)] [(.int va), (.int ii)])) _
    refine XS.icmpYes X0.here hx rfl (pc0 := 6) (pc' := 35) rfl (hb hby d_prog_20_method_8_code_6) rfl (tlt (h : va < ii)).2.2.1 (by decide) (by decide) ?_
    show Steps p.tables e below (s₁.setTop (mkF m 35 #[.val (.int va), .val (.long pr), .second, .val (.int ii)] [])) _
    refine XS.lloadN X0.here hx rfl (hb hby d_prog_20_method_8_code_35) rfl ?_
    show Steps p.tables e below (s₁.setTop (mkF m 36 #[.val (.int va), .val (.long pr), .second, .val (.int ii)] [(.long pr)])) _
    refine XS.lconst X0.here hx rfl (hb hby d_prog_20_method_8_code_36) ?_
    show Steps p.tables e below (s₁.setTop (mkF m 37 #[.val (.int va), .val (.long pr), .second, .val (.int ii)] [(.long (1 : Int64)), (.long pr)])) _
    refine XS.lsub X0.here hx rfl (hb hby d_prog_20_method_8_code_37) rfl ?_
    show Steps p.tables e below (s₁.setTop (mkF m 38 #[.val (.int va), .val (.long pr), .second, .val (.int ii)] [(.long (pr - (1 : Int64)))])) _
    exact X0.lreturnOut hx Bd.returns (hb hby d_prog_20_method_8_code_38) hr
  have x2 : ∀ (pr : Int64) (ii : Int32), ¬ (va < ii) → ¬ ii.toInt64 = 0 → (9223372036854775807 : Int64) / ii.toInt64 < pr → own_v va = (9223372036854775807 : Int64) → Steps p.tables e below (s₁.setTop (mkF m 4 #[.val (.int va), .val (.long pr), .second, .val (.int ii)] [])) (s₁.setFrames fs) := by
    intro pr ii h hz h2 hv
    rw [hv] at hr
    show Steps p.tables e below (s₁.setTop (mkF m 4 #[.val (.int va), .val (.long pr), .second, .val (.int ii)] [])) _
    refine XS.iloadN X0.here hx rfl (hb hby d_prog_20_method_8_code_4) rfl ?_
    show Steps p.tables e below (s₁.setTop (mkF m 5 #[.val (.int va), .val (.long pr), .second, .val (.int ii)] [(.int ii)])) _
    refine XS.iloadN X0.here hx rfl (hb hby d_prog_20_method_8_code_5) rfl ?_
    show Steps p.tables e below (s₁.setTop (mkF m 6 #[.val (.int va), .val (.long pr), .second, .val (.int ii)] [(.int va), (.int ii)])) _
    refine XS.icmpNo X0.here hx rfl (hb hby d_prog_20_method_8_code_6) rfl (flt (h : ¬ (va < ii))).2.2.1 ?_
    show Steps p.tables e below (s₁.setTop (mkF m 9 #[.val (.int va), .val (.long pr), .second, .val (.int ii)] [])) _
    refine XS.lloadN X0.here hx rfl (hb hby d_prog_20_method_8_code_9) rfl ?_
    show Steps p.tables e below (s₁.setTop (mkF m 10 #[.val (.int va), .val (.long pr), .second, .val (.int ii)] [(.long pr)])) _
    refine X0.ldc2Long hx hown (mvT hZ (hw _ (List.mem_of_getElem? (i := 8) rfl))) (g := (mkF m 10 #[.val (.int va), .val (.long pr), .second, .val (.int ii)] [(.long pr)])) rfl (hb hby d_prog_20_method_8_code_10) _ ?_
    show Steps p.tables e below (s₁.setTop (mkF m 13 #[.val (.int va), .val (.long pr), .second, .val (.int ii)] [(.long (9223372036854775807 : Int64)), (.long pr)])) _
    refine XS.iloadN X0.here hx rfl (hb hby d_prog_20_method_8_code_13) rfl ?_
    show Steps p.tables e below (s₁.setTop (mkF m 14 #[.val (.int va), .val (.long pr), .second, .val (.int ii)] [(.int ii), (.long (9223372036854775807 : Int64)), (.long pr)])) _
    refine XS.i2l X0.here hx rfl (hb hby d_prog_20_method_8_code_14) rfl ?_
    show Steps p.tables e below (s₁.setTop (mkF m 15 #[.val (.int va), .val (.long pr), .second, .val (.int ii)] [(.long (ii.toInt64)), (.long (9223372036854775807 : Int64)), (.long pr)])) _
    refine XS.ldiv X0.here hx rfl (hb hby d_prog_20_method_8_code_15) rfl hz ?_
    show Steps p.tables e below (s₁.setTop (mkF m 16 #[.val (.int va), .val (.long pr), .second, .val (.int ii)] [(.long ((9223372036854775807 : Int64) / (ii.toInt64))), (.long pr)])) _
    refine XS.lcmp X0.here hx rfl (hb hby d_prog_20_method_8_code_16) rfl ?_
    show Steps p.tables e below (s₁.setTop (mkF m 17 #[.val (.int va), .val (.long pr), .second, .val (.int ii)] [(.int (lcmpW pr ((9223372036854775807 : Int64) / (ii.toInt64))))])) _
    refine XS.ifNo X0.here hx rfl (hb hby d_prog_20_method_8_code_17) rfl ((if0 _ _).trans (tlt ((lw_gt _ _).mpr (h2 : ((9223372036854775807 : Int64) / (ii.toInt64)) < pr))).2.2.2) ?_
    show Steps p.tables e below (s₁.setTop (mkF m 20 #[.val (.int va), .val (.long pr), .second, .val (.int ii)] [])) _
    refine X0.ldc2Long hx hown (mvT hZ (hw _ (List.mem_of_getElem? (i := 8) rfl))) (g := (mkF m 20 #[.val (.int va), .val (.long pr), .second, .val (.int ii)] [])) rfl (hb hby d_prog_20_method_8_code_20) _ ?_
    show Steps p.tables e below (s₁.setTop (mkF m 23 #[.val (.int va), .val (.long pr), .second, .val (.int ii)] [(.long (9223372036854775807 : Int64))])) _
    exact X0.lreturnOut hx Bd.returns (hb hby d_prog_20_method_8_code_23) hr
  have x3 : ∀ (pr : Int64) (ii : Int32), ¬ (va < ii) → ¬ ii.toInt64 = 0 → ¬ ((9223372036854775807 : Int64) / ii.toInt64 < pr) → Steps p.tables e below (s₁.setTop (mkF m 4 #[.val (.int va), .val (.long (pr * ii.toInt64)), .second, .val (.int (ii + (1 : Int32)))] [])) (s₁.setFrames fs) → Steps p.tables e below (s₁.setTop (mkF m 4 #[.val (.int va), .val (.long pr), .second, .val (.int ii)] [])) (s₁.setFrames fs) := by
    intro pr ii h hz h2 kt
    show Steps p.tables e below (s₁.setTop (mkF m 4 #[.val (.int va), .val (.long pr), .second, .val (.int ii)] [])) _
    refine XS.iloadN X0.here hx rfl (hb hby d_prog_20_method_8_code_4) rfl ?_
    show Steps p.tables e below (s₁.setTop (mkF m 5 #[.val (.int va), .val (.long pr), .second, .val (.int ii)] [(.int ii)])) _
    refine XS.iloadN X0.here hx rfl (hb hby d_prog_20_method_8_code_5) rfl ?_
    show Steps p.tables e below (s₁.setTop (mkF m 6 #[.val (.int va), .val (.long pr), .second, .val (.int ii)] [(.int va), (.int ii)])) _
    refine XS.icmpNo X0.here hx rfl (hb hby d_prog_20_method_8_code_6) rfl (flt (h : ¬ (va < ii))).2.2.1 ?_
    show Steps p.tables e below (s₁.setTop (mkF m 9 #[.val (.int va), .val (.long pr), .second, .val (.int ii)] [])) _
    refine XS.lloadN X0.here hx rfl (hb hby d_prog_20_method_8_code_9) rfl ?_
    show Steps p.tables e below (s₁.setTop (mkF m 10 #[.val (.int va), .val (.long pr), .second, .val (.int ii)] [(.long pr)])) _
    refine X0.ldc2Long hx hown (mvT hZ (hw _ (List.mem_of_getElem? (i := 8) rfl))) (g := (mkF m 10 #[.val (.int va), .val (.long pr), .second, .val (.int ii)] [(.long pr)])) rfl (hb hby d_prog_20_method_8_code_10) _ ?_
    show Steps p.tables e below (s₁.setTop (mkF m 13 #[.val (.int va), .val (.long pr), .second, .val (.int ii)] [(.long (9223372036854775807 : Int64)), (.long pr)])) _
    refine XS.iloadN X0.here hx rfl (hb hby d_prog_20_method_8_code_13) rfl ?_
    show Steps p.tables e below (s₁.setTop (mkF m 14 #[.val (.int va), .val (.long pr), .second, .val (.int ii)] [(.int ii), (.long (9223372036854775807 : Int64)), (.long pr)])) _
    refine XS.i2l X0.here hx rfl (hb hby d_prog_20_method_8_code_14) rfl ?_
    show Steps p.tables e below (s₁.setTop (mkF m 15 #[.val (.int va), .val (.long pr), .second, .val (.int ii)] [(.long (ii.toInt64)), (.long (9223372036854775807 : Int64)), (.long pr)])) _
    refine XS.ldiv X0.here hx rfl (hb hby d_prog_20_method_8_code_15) rfl hz ?_
    show Steps p.tables e below (s₁.setTop (mkF m 16 #[.val (.int va), .val (.long pr), .second, .val (.int ii)] [(.long ((9223372036854775807 : Int64) / (ii.toInt64))), (.long pr)])) _
    refine XS.lcmp X0.here hx rfl (hb hby d_prog_20_method_8_code_16) rfl ?_
    show Steps p.tables e below (s₁.setTop (mkF m 17 #[.val (.int va), .val (.long pr), .second, .val (.int ii)] [(.int (lcmpW pr ((9223372036854775807 : Int64) / (ii.toInt64))))])) _
    refine XS.ifYes X0.here hx rfl (pc0 := 17) (pc' := 24) rfl (hb hby d_prog_20_method_8_code_17) rfl ((if0 _ _).trans (flt (fun q => (h2 : ¬ (((9223372036854775807 : Int64) / (ii.toInt64)) < pr)) ((lw_gt _ _).mp q))).2.2.2) (by decide) (by decide) ?_
    show Steps p.tables e below (s₁.setTop (mkF m 24 #[.val (.int va), .val (.long pr), .second, .val (.int ii)] [])) _
    refine XS.lloadN X0.here hx rfl (hb hby d_prog_20_method_8_code_24) rfl ?_
    show Steps p.tables e below (s₁.setTop (mkF m 25 #[.val (.int va), .val (.long pr), .second, .val (.int ii)] [(.long pr)])) _
    refine XS.iloadN X0.here hx rfl (hb hby d_prog_20_method_8_code_25) rfl ?_
    show Steps p.tables e below (s₁.setTop (mkF m 26 #[.val (.int va), .val (.long pr), .second, .val (.int ii)] [(.int ii), (.long pr)])) _
    refine XS.i2l X0.here hx rfl (hb hby d_prog_20_method_8_code_26) rfl ?_
    show Steps p.tables e below (s₁.setTop (mkF m 27 #[.val (.int va), .val (.long pr), .second, .val (.int ii)] [(.long (ii.toInt64)), (.long pr)])) _
    refine XS.lmul X0.here hx rfl (hb hby d_prog_20_method_8_code_27) rfl ?_
    show Steps p.tables e below (s₁.setTop (mkF m 28 #[.val (.int va), .val (.long pr), .second, .val (.int ii)] [(.long (pr * (ii.toInt64)))])) _
    refine XS.lstoreN X0.here hx rfl (hb hby d_prog_20_method_8_code_28) rfl (l' := #[.val (.int va), .val (.long (pr * (ii.toInt64))), .second, .val (.int ii)]) rfl ?_
    show Steps p.tables e below (s₁.setTop (mkF m 29 #[.val (.int va), .val (.long (pr * (ii.toInt64))), .second, .val (.int ii)] [])) _
    refine XS.iinc X0.here hx rfl (hb hby d_prog_20_method_8_code_29) rfl (l' := #[.val (.int va), .val (.long (pr * (ii.toInt64))), .second, .val (.int (ii + (1 : Int32)))]) rfl ?_
    show Steps p.tables e below (s₁.setTop (mkF m 32 #[.val (.int va), .val (.long (pr * (ii.toInt64))), .second, .val (.int (ii + (1 : Int32)))] [])) _
    refine XS.goto X0.here hx rfl (pc0 := 32) (pc' := 4) rfl (hb hby d_prog_20_method_8_code_32) (by decide) (by decide) ?_
    exact kt
  have r0 := rng32 va
  have lt_of : ∀ k : Int32, va < k ↔ va.toInt < k.toInt := fun k => Int32.lt_iff_toInt_lt
  have t2 : (2 : Int32).toInt = 2 := by decide
  have t3 : (3 : Int32).toInt = 3 := by decide
  have t4 : (4 : Int32).toInt = 4 := by decide
  have t5 : (5 : Int32).toInt = 5 := by decide
  have t6 : (6 : Int32).toInt = 6 := by decide
  have t7 : (7 : Int32).toInt = 7 := by decide
  have t8 : (8 : Int32).toInt = 8 := by decide
  have t9 : (9 : Int32).toInt = 9 := by decide
  have t10 : (10 : Int32).toInt = 10 := by decide
  have t11 : (11 : Int32).toInt = 11 := by decide
  have t12 : (12 : Int32).toInt = 12 := by decide
  have t13 : (13 : Int32).toInt = 13 := by decide
  have t14 : (14 : Int32).toInt = 14 := by decide
  have t15 : (15 : Int32).toInt = 15 := by decide
  have t16 : (16 : Int32).toInt = 16 := by decide
  have t17 : (17 : Int32).toInt = 17 := by decide
  have t18 : (18 : Int32).toInt = 18 := by decide
  have t19 : (19 : Int32).toInt = 19 := by decide
  have t20 : (20 : Int32).toInt = 20 := by decide
  have t21 : (21 : Int32).toInt = 21 := by decide
  have b21 : ¬ (va < (20 : Int32)) → Steps p.tables e below (s₁.setTop (mkF m 4 #[.val (.int va), .val (.long (2432902008176640000 : Int64)), .second, .val (.int (21 : Int32))] [])) (s₁.setFrames fs) := by
    intro hlo
    by_cases hb : va < (21 : Int32)
    · refine x1 _ _ hb (own_at va 20 (by decide) (own_between va 20 (by rw [lt_of, t20] at hlo; omega) (by rw [lt_of, t21] at hb; omega)) _ (by decide +kernel))
    · refine x2 _ _ hb (by decide) (by decide) ?_
      have h1 : (1 : Int32) < va := by rw [Int32.lt_iff_toInt_lt, show (1 : Int32).toInt = 1 from by decide]; rw [lt_of, t21] at hb; omega
      simp [own_v, h1, hb]
  have b20 : ¬ (va < (19 : Int32)) → Steps p.tables e below (s₁.setTop (mkF m 4 #[.val (.int va), .val (.long (121645100408832000 : Int64)), .second, .val (.int (20 : Int32))] [])) (s₁.setFrames fs) := by
    intro hlo
    by_cases hb : va < (20 : Int32)
    · refine x1 _ _ hb (own_at va 19 (by decide) (own_between va 19 (by rw [lt_of, t19] at hlo; omega) (by rw [lt_of, t20] at hb; omega)) _ (by decide +kernel))
    · exact x3 (121645100408832000 : Int64) (20 : Int32) hb (by decide) (by decide) (b21 hb)
  have b19 : ¬ (va < (18 : Int32)) → Steps p.tables e below (s₁.setTop (mkF m 4 #[.val (.int va), .val (.long (6402373705728000 : Int64)), .second, .val (.int (19 : Int32))] [])) (s₁.setFrames fs) := by
    intro hlo
    by_cases hb : va < (19 : Int32)
    · refine x1 _ _ hb (own_at va 18 (by decide) (own_between va 18 (by rw [lt_of, t18] at hlo; omega) (by rw [lt_of, t19] at hb; omega)) _ (by decide +kernel))
    · exact x3 (6402373705728000 : Int64) (19 : Int32) hb (by decide) (by decide) (b20 hb)
  have b18 : ¬ (va < (17 : Int32)) → Steps p.tables e below (s₁.setTop (mkF m 4 #[.val (.int va), .val (.long (355687428096000 : Int64)), .second, .val (.int (18 : Int32))] [])) (s₁.setFrames fs) := by
    intro hlo
    by_cases hb : va < (18 : Int32)
    · refine x1 _ _ hb (own_at va 17 (by decide) (own_between va 17 (by rw [lt_of, t17] at hlo; omega) (by rw [lt_of, t18] at hb; omega)) _ (by decide +kernel))
    · exact x3 (355687428096000 : Int64) (18 : Int32) hb (by decide) (by decide) (b19 hb)
  have b17 : ¬ (va < (16 : Int32)) → Steps p.tables e below (s₁.setTop (mkF m 4 #[.val (.int va), .val (.long (20922789888000 : Int64)), .second, .val (.int (17 : Int32))] [])) (s₁.setFrames fs) := by
    intro hlo
    by_cases hb : va < (17 : Int32)
    · refine x1 _ _ hb (own_at va 16 (by decide) (own_between va 16 (by rw [lt_of, t16] at hlo; omega) (by rw [lt_of, t17] at hb; omega)) _ (by decide +kernel))
    · exact x3 (20922789888000 : Int64) (17 : Int32) hb (by decide) (by decide) (b18 hb)
  have b16 : ¬ (va < (15 : Int32)) → Steps p.tables e below (s₁.setTop (mkF m 4 #[.val (.int va), .val (.long (1307674368000 : Int64)), .second, .val (.int (16 : Int32))] [])) (s₁.setFrames fs) := by
    intro hlo
    by_cases hb : va < (16 : Int32)
    · refine x1 _ _ hb (own_at va 15 (by decide) (own_between va 15 (by rw [lt_of, t15] at hlo; omega) (by rw [lt_of, t16] at hb; omega)) _ (by decide +kernel))
    · exact x3 (1307674368000 : Int64) (16 : Int32) hb (by decide) (by decide) (b17 hb)
  have b15 : ¬ (va < (14 : Int32)) → Steps p.tables e below (s₁.setTop (mkF m 4 #[.val (.int va), .val (.long (87178291200 : Int64)), .second, .val (.int (15 : Int32))] [])) (s₁.setFrames fs) := by
    intro hlo
    by_cases hb : va < (15 : Int32)
    · refine x1 _ _ hb (own_at va 14 (by decide) (own_between va 14 (by rw [lt_of, t14] at hlo; omega) (by rw [lt_of, t15] at hb; omega)) _ (by decide +kernel))
    · exact x3 (87178291200 : Int64) (15 : Int32) hb (by decide) (by decide) (b16 hb)
  have b14 : ¬ (va < (13 : Int32)) → Steps p.tables e below (s₁.setTop (mkF m 4 #[.val (.int va), .val (.long (6227020800 : Int64)), .second, .val (.int (14 : Int32))] [])) (s₁.setFrames fs) := by
    intro hlo
    by_cases hb : va < (14 : Int32)
    · refine x1 _ _ hb (own_at va 13 (by decide) (own_between va 13 (by rw [lt_of, t13] at hlo; omega) (by rw [lt_of, t14] at hb; omega)) _ (by decide +kernel))
    · exact x3 (6227020800 : Int64) (14 : Int32) hb (by decide) (by decide) (b15 hb)
  have b13 : ¬ (va < (12 : Int32)) → Steps p.tables e below (s₁.setTop (mkF m 4 #[.val (.int va), .val (.long (479001600 : Int64)), .second, .val (.int (13 : Int32))] [])) (s₁.setFrames fs) := by
    intro hlo
    by_cases hb : va < (13 : Int32)
    · refine x1 _ _ hb (own_at va 12 (by decide) (own_between va 12 (by rw [lt_of, t12] at hlo; omega) (by rw [lt_of, t13] at hb; omega)) _ (by decide +kernel))
    · exact x3 (479001600 : Int64) (13 : Int32) hb (by decide) (by decide) (b14 hb)
  have b12 : ¬ (va < (11 : Int32)) → Steps p.tables e below (s₁.setTop (mkF m 4 #[.val (.int va), .val (.long (39916800 : Int64)), .second, .val (.int (12 : Int32))] [])) (s₁.setFrames fs) := by
    intro hlo
    by_cases hb : va < (12 : Int32)
    · refine x1 _ _ hb (own_at va 11 (by decide) (own_between va 11 (by rw [lt_of, t11] at hlo; omega) (by rw [lt_of, t12] at hb; omega)) _ (by decide +kernel))
    · exact x3 (39916800 : Int64) (12 : Int32) hb (by decide) (by decide) (b13 hb)
  have b11 : ¬ (va < (10 : Int32)) → Steps p.tables e below (s₁.setTop (mkF m 4 #[.val (.int va), .val (.long (3628800 : Int64)), .second, .val (.int (11 : Int32))] [])) (s₁.setFrames fs) := by
    intro hlo
    by_cases hb : va < (11 : Int32)
    · refine x1 _ _ hb (own_at va 10 (by decide) (own_between va 10 (by rw [lt_of, t10] at hlo; omega) (by rw [lt_of, t11] at hb; omega)) _ (by decide +kernel))
    · exact x3 (3628800 : Int64) (11 : Int32) hb (by decide) (by decide) (b12 hb)
  have b10 : ¬ (va < (9 : Int32)) → Steps p.tables e below (s₁.setTop (mkF m 4 #[.val (.int va), .val (.long (362880 : Int64)), .second, .val (.int (10 : Int32))] [])) (s₁.setFrames fs) := by
    intro hlo
    by_cases hb : va < (10 : Int32)
    · refine x1 _ _ hb (own_at va 9 (by decide) (own_between va 9 (by rw [lt_of, t9] at hlo; omega) (by rw [lt_of, t10] at hb; omega)) _ (by decide +kernel))
    · exact x3 (362880 : Int64) (10 : Int32) hb (by decide) (by decide) (b11 hb)
  have b9 : ¬ (va < (8 : Int32)) → Steps p.tables e below (s₁.setTop (mkF m 4 #[.val (.int va), .val (.long (40320 : Int64)), .second, .val (.int (9 : Int32))] [])) (s₁.setFrames fs) := by
    intro hlo
    by_cases hb : va < (9 : Int32)
    · refine x1 _ _ hb (own_at va 8 (by decide) (own_between va 8 (by rw [lt_of, t8] at hlo; omega) (by rw [lt_of, t9] at hb; omega)) _ (by decide +kernel))
    · exact x3 (40320 : Int64) (9 : Int32) hb (by decide) (by decide) (b10 hb)
  have b8 : ¬ (va < (7 : Int32)) → Steps p.tables e below (s₁.setTop (mkF m 4 #[.val (.int va), .val (.long (5040 : Int64)), .second, .val (.int (8 : Int32))] [])) (s₁.setFrames fs) := by
    intro hlo
    by_cases hb : va < (8 : Int32)
    · refine x1 _ _ hb (own_at va 7 (by decide) (own_between va 7 (by rw [lt_of, t7] at hlo; omega) (by rw [lt_of, t8] at hb; omega)) _ (by decide +kernel))
    · exact x3 (5040 : Int64) (8 : Int32) hb (by decide) (by decide) (b9 hb)
  have b7 : ¬ (va < (6 : Int32)) → Steps p.tables e below (s₁.setTop (mkF m 4 #[.val (.int va), .val (.long (720 : Int64)), .second, .val (.int (7 : Int32))] [])) (s₁.setFrames fs) := by
    intro hlo
    by_cases hb : va < (7 : Int32)
    · refine x1 _ _ hb (own_at va 6 (by decide) (own_between va 6 (by rw [lt_of, t6] at hlo; omega) (by rw [lt_of, t7] at hb; omega)) _ (by decide +kernel))
    · exact x3 (720 : Int64) (7 : Int32) hb (by decide) (by decide) (b8 hb)
  have b6 : ¬ (va < (5 : Int32)) → Steps p.tables e below (s₁.setTop (mkF m 4 #[.val (.int va), .val (.long (120 : Int64)), .second, .val (.int (6 : Int32))] [])) (s₁.setFrames fs) := by
    intro hlo
    by_cases hb : va < (6 : Int32)
    · refine x1 _ _ hb (own_at va 5 (by decide) (own_between va 5 (by rw [lt_of, t5] at hlo; omega) (by rw [lt_of, t6] at hb; omega)) _ (by decide +kernel))
    · exact x3 (120 : Int64) (6 : Int32) hb (by decide) (by decide) (b7 hb)
  have b5 : ¬ (va < (4 : Int32)) → Steps p.tables e below (s₁.setTop (mkF m 4 #[.val (.int va), .val (.long (24 : Int64)), .second, .val (.int (5 : Int32))] [])) (s₁.setFrames fs) := by
    intro hlo
    by_cases hb : va < (5 : Int32)
    · refine x1 _ _ hb (own_at va 4 (by decide) (own_between va 4 (by rw [lt_of, t4] at hlo; omega) (by rw [lt_of, t5] at hb; omega)) _ (by decide +kernel))
    · exact x3 (24 : Int64) (5 : Int32) hb (by decide) (by decide) (b6 hb)
  have b4 : ¬ (va < (3 : Int32)) → Steps p.tables e below (s₁.setTop (mkF m 4 #[.val (.int va), .val (.long (6 : Int64)), .second, .val (.int (4 : Int32))] [])) (s₁.setFrames fs) := by
    intro hlo
    by_cases hb : va < (4 : Int32)
    · refine x1 _ _ hb (own_at va 3 (by decide) (own_between va 3 (by rw [lt_of, t3] at hlo; omega) (by rw [lt_of, t4] at hb; omega)) _ (by decide +kernel))
    · exact x3 (6 : Int64) (4 : Int32) hb (by decide) (by decide) (b5 hb)
  have b3 : ¬ (va < (2 : Int32)) → Steps p.tables e below (s₁.setTop (mkF m 4 #[.val (.int va), .val (.long (2 : Int64)), .second, .val (.int (3 : Int32))] [])) (s₁.setFrames fs) := by
    intro hlo
    by_cases hb : va < (3 : Int32)
    · refine x1 _ _ hb (own_at va 2 (by decide) (own_between va 2 (by rw [lt_of, t2] at hlo; omega) (by rw [lt_of, t3] at hb; omega)) _ (by decide +kernel))
    · exact x3 (2 : Int64) (3 : Int32) hb (by decide) (by decide) (b4 hb)
  have b2 : Steps p.tables e below (s₁.setTop (mkF m 4 #[.val (.int va), .val (.long (1 : Int64)), .second, .val (.int (2 : Int32))] [])) (s₁.setFrames fs) := by
    by_cases hb : va < (2 : Int32)
    · refine x1 _ _ hb ?_
      have h1 : ¬ (1 : Int32) < va := by rw [Int32.lt_iff_toInt_lt, show (1 : Int32).toInt = 1 from by decide]; rw [lt_of, t2] at hb; omega
      simp [own_v, h1]
    · exact x3 (1 : Int64) (2 : Int32) hb (by decide) (by decide) (b3 hb)
  refine ⟨_, _, pre0 _ ?_, hrun, hended, _, _, rfl, ?_, ⟨_, rfl⟩, hW, hsame.mono (by decide) (by decide)⟩
  · show Steps p.tables e below (s₁.setTop (mkF m 0 #[.val (.int va), .unset, .unset, .unset] [])) _
    refine XS.lconst X0.here hx rfl (hb hby d_prog_20_method_8_code_0) ?_
    show Steps p.tables e below (s₁.setTop (mkF m 1 #[.val (.int va), .unset, .unset, .unset] [(.long (1 : Int64))])) _
    refine XS.lstoreN X0.here hx rfl (hb hby d_prog_20_method_8_code_1) rfl (l' := #[.val (.int va), .val (.long (1 : Int64)), .second, .unset]) rfl ?_
    show Steps p.tables e below (s₁.setTop (mkF m 2 #[.val (.int va), .val (.long (1 : Int64)), .second, .unset] [])) _
    refine XS.iconst X0.here hx rfl (hb hby d_prog_20_method_8_code_2) ?_
    show Steps p.tables e below (s₁.setTop (mkF m 3 #[.val (.int va), .val (.long (1 : Int64)), .second, .unset] [(.int (2 : Int32))])) _
    refine XS.istoreN X0.here hx rfl (hb hby d_prog_20_method_8_code_3) rfl (l' := #[.val (.int va), .val (.long (1 : Int64)), .second, .val (.int (2 : Int32))]) rfl ?_
    exact b2
  · show Q_oc Z va h0 n0 _ s₁.heap _
    rw [e0]
    exact ⟨⟨_, rfl, rfl⟩, N0, rfl⟩
theorem pd_0 : parseMethodDescriptor "(I)J" = some ⟨[.int], some .long⟩ := by decide +kernel
theorem ef_law (m : MethodId) (vx : Int32) (vm : Int32) : entryFrame m #[(.int vx), (.int vm)] maxLocals = mkF m 0 #[.val (.int vx), .val (.int vm), .unset, .unset, .unset] [] := by first | (simp [entryFrame, mkF, argsToLocals, Value.category, maxLocals]; done) | rfl
def Q_law (Z : State) (vx : Int32) (vm : Int32) (h0 : Heap) (n0 : Nat) (v : Option Value) (h : Heap) (L : List Loc) : Prop := v = some (.int 1) ∧ Fr n0 L
set_option maxRecDepth 65536 in
set_option maxHeartbeats 40000000 in
theorem rm_law (l : Launch) (Z : State) (a0 : Array Value) (hw : ∀ d ∈ tables_1, d.before a0 Z = true) (ws : List Jvm.Cond) (vx : Int32) (vm : Int32) (h0 : Heap) (n0 : Nat) (Z0 : n0 ≤ h0.size) :
    MetFree l x (head1 (Jvm.Cond.code x code maxLocals ret :: ws) room_1) (fun a U => a = #[(.int vx), (.int vm)] ∧ Z.Warmed39 U.vm ∧ U.heap = h0) (fun _ _ _ _ _ => True) (fun _ U o U' => ∃ v L, o = .returned v ∧ Q_law Z vx vm h0 n0 v U'.heap L ∧ FrameEnd U o U' L room_1.cells room_1.slots) := by
  refine MetFree.of_bodySF (plainFor_of_name pn_0) hisR ?_
  intro p e s m args below meth c s₁ Bd hml0 hP hK
  obtain ⟨rfl, hZ, hh⟩ := hP
  have hx := Bd.exec
  have hby := Bd.bytes
  have hml : c.maxLocals = 5 := hml0
  have hown : s.vm.findClass "com/example/serialscope/serialscope/ChoicesOrderCountPinLaw" = some m.cls := findClass_of_methodNamed Bd.named
  have hnm := (name_of_methodNamed Bd.named Bd.method).1
  have X0 : Stand p l e room_1 s m #[(.int vx), (.int vm)] below meth c s₁ [] 0 0 := Stand.of_body Bd
  have e0 : s₁.heap = h0 := by rw [← hh, Bd.state]; rfl
  have N0 := Fr.nil n0
  have pre0 : ∀ t, Steps p.tables e below (s₁.setTop (mkF m 0 #[.val (.int vx), .val (.int vm), .unset, .unset, .unset] [])) t → Steps p.tables e below (s₁.setTop (entryFrame m #[(.int vx), (.int vm)] maxLocals)) t := fun t k => castTop (ef_law m vx vm) k
  obtain ⟨_, _, ⟨T26, L26, k26, n26⟩, -, X26, ⟨Lc26, hQ26, l26, y26, z26⟩, st26⟩ := Jvm.LawKit.callS X0 hx (y := (⟨"com/example/serialscope/serialscope/Choices", "orderCount", "(I)J"⟩ : MethodName)) hown (mvT hZ (hw _ (List.mem_of_getElem? (i := 0) rfl))) (mvT hZ (hw _ (List.mem_of_getElem? (i := 1) rfl))) (mvT hZ (hw _ (List.mem_of_getElem? (i := 2) rfl))) (mvT hZ (hw _ (List.mem_of_getElem? (i := 3) rfl))) (by decide) (backOf (W := 0) (rm_oc l Z a0 hw [] vx h0 n0 Z0 ) hZ (hw _ (List.mem_of_getElem? (i := 3) rfl)) (hw _ (List.mem_of_getElem? (i := 2) rfl)) (by decide) (by decide)) (g := (mkF m 8 #[.val (.int vx), .val (.int vm), .val (.int ((vm &&& (31 : Int32)) - (4 : Int32))), .unset, .unset] [(.int vx)])) rfl (by rw [hml]; rfl) (argsL := [(.int vx)]) (rest := []) (lenOf pd_0 rfl) rfl (by show 2 * 0 + _ ≤ _; exact Nat.le_of_eq rfl) (hb hby at_8) (fun _ _ => ⟨rfl, e0, (by decide : 0 + 0 ≤ _), (by decide : 0 + 0 ≤ _)⟩)
  dsimp only [Pt.U, Pt.locs, Pt.cells, Pt.slots] at X26 l26 y26 z26 st26 hQ26
  subst l26 y26 z26
  obtain ⟨⟨r26, rfl, hr26⟩, N26q, e26⟩ := hQ26
  have N26 := Fr.app N0 N26q
  obtain ⟨_, _, ⟨T27, L27, k27, n27⟩, -, X27, ⟨Lc27, hQ27, l27, y27, z27⟩, st27⟩ := Jvm.LawKit.callS X26 hx (y := (⟨"com/example/serialscope/serialscope/ChoicesOrderCountPinLaw", "expected", "(I)J"⟩ : MethodName)) hown (mvT hZ (hw _ (List.mem_of_getElem? (i := 4) rfl))) (mvT hZ (hw _ (List.mem_of_getElem? (i := 5) rfl))) (mvT hZ (hw _ (List.mem_of_getElem? (i := 6) rfl))) (mvT hZ (hw _ (List.mem_of_getElem? (i := 7) rfl))) (by decide) (backOf (W := 2) (rm_exp l Z a0 hw [] vx h0 n0 Z0 ) hZ (hw _ (List.mem_of_getElem? (i := 7) rfl)) (hw _ (List.mem_of_getElem? (i := 6) rfl)) (by decide) (by decide)) (g := (mkF m 12 #[.val (.int vx), .val (.int vm), .val (.int ((vm &&& (31 : Int32)) - (4 : Int32))), .unset, .unset] [(.int vx), (.long r26)])) rfl (by rw [hml]; rfl) (argsL := [(.int vx)]) (rest := [(.long r26)]) (lenOf pd_0 rfl) rfl (by show 2 * 0 + _ ≤ _; exact Nat.le_of_eq rfl) (hb hby at_12) (fun _ _ => ⟨rfl, e26, (by decide : 0 + 1 ≤ _), (by decide : 0 + 21 ≤ _)⟩)
  dsimp only [Pt.U, Pt.locs, Pt.cells, Pt.slots] at X27 l27 y27 z27 st27 hQ27
  subst l27 y27 z27
  obtain ⟨⟨r27, rfl, hr27⟩, N27q, K27⟩ := hQ27
  have N27 := Fr.app N26 N27q
  have Z27 : n0 ≤ T27.heap.size := Nat.le_trans Z0 K27.1
  obtain ⟨_, _, ⟨T28, L28, k28, n28⟩, -, X28, ⟨Lc28, hQ28, l28, y28, z28⟩, st28⟩ := Jvm.LawKit.callS X27 hx (y := (⟨"com/example/serialscope/serialscope/Choices", "orderCount", "(I)J"⟩ : MethodName)) hown (mvT hZ (hw _ (List.mem_of_getElem? (i := 0) rfl))) (mvT hZ (hw _ (List.mem_of_getElem? (i := 1) rfl))) (mvT hZ (hw _ (List.mem_of_getElem? (i := 2) rfl))) (mvT hZ (hw _ (List.mem_of_getElem? (i := 3) rfl))) (by decide) (backOf (W := 0) (rm_oc l Z a0 hw [] ((vm &&& (31 : Int32)) - (4 : Int32)) T27.heap n0 Z27 ) hZ (hw _ (List.mem_of_getElem? (i := 3) rfl)) (hw _ (List.mem_of_getElem? (i := 2) rfl)) (by decide) (by decide)) (g := (mkF m 26 #[.val (.int vx), .val (.int vm), .val (.int ((vm &&& (31 : Int32)) - (4 : Int32))), .val (.int (1 : Int32)), .unset] [(.int ((vm &&& (31 : Int32)) - (4 : Int32)))])) rfl (by rw [hml]; rfl) (argsL := [(.int ((vm &&& (31 : Int32)) - (4 : Int32)))]) (rest := []) (lenOf pd_0 rfl) rfl (by show 2 * 0 + _ ≤ _; exact Nat.le_of_eq rfl) (hb hby at_26) (fun _ _ => ⟨rfl, rfl, (by decide : 1 + 0 ≤ _), (by decide : 21 + 0 ≤ _)⟩)
  dsimp only [Pt.U, Pt.locs, Pt.cells, Pt.slots] at X28 l28 y28 z28 st28 hQ28
  subst l28 y28 z28
  obtain ⟨⟨r28, rfl, hr28⟩, N28q, e28⟩ := hQ28
  have N28 := Fr.app N27 N28q
  obtain ⟨_, _, ⟨T29, L29, k29, n29⟩, -, X29, ⟨Lc29, hQ29, l29, y29, z29⟩, st29⟩ := Jvm.LawKit.callS X28 hx (y := (⟨"com/example/serialscope/serialscope/ChoicesOrderCountPinLaw", "expected", "(I)J"⟩ : MethodName)) hown (mvT hZ (hw _ (List.mem_of_getElem? (i := 4) rfl))) (mvT hZ (hw _ (List.mem_of_getElem? (i := 5) rfl))) (mvT hZ (hw _ (List.mem_of_getElem? (i := 6) rfl))) (mvT hZ (hw _ (List.mem_of_getElem? (i := 7) rfl))) (by decide) (backOf (W := 2) (rm_exp l Z a0 hw [] ((vm &&& (31 : Int32)) - (4 : Int32)) T27.heap n0 Z27 ) hZ (hw _ (List.mem_of_getElem? (i := 7) rfl)) (hw _ (List.mem_of_getElem? (i := 6) rfl)) (by decide) (by decide)) (g := (mkF m 30 #[.val (.int vx), .val (.int vm), .val (.int ((vm &&& (31 : Int32)) - (4 : Int32))), .val (.int (1 : Int32)), .unset] [(.int ((vm &&& (31 : Int32)) - (4 : Int32))), (.long r28)])) rfl (by rw [hml]; rfl) (argsL := [(.int ((vm &&& (31 : Int32)) - (4 : Int32)))]) (rest := [(.long r28)]) (lenOf pd_0 rfl) rfl (by show 2 * 0 + _ ≤ _; exact Nat.le_of_eq rfl) (hb hby at_30) (fun _ _ => ⟨rfl, e28, (by decide : 1 + 1 ≤ _), (by decide : 21 + 21 ≤ _)⟩)
  dsimp only [Pt.U, Pt.locs, Pt.cells, Pt.slots] at X29 l29 y29 z29 st29 hQ29
  subst l29 y29 z29
  obtain ⟨⟨r29, rfl, hr29⟩, N29q, K29⟩ := hQ29
  have N29 := Fr.app N28 N29q
  have Z29 : n0 ≤ T29.heap.size := Nat.le_trans Z27 K29.1
  obtain ⟨fs, hr, hrun, hended, hW, hsame⟩ := X29.leave (v := some (.int (1 : Int32))) (fun h => by rw [Bd.returns] at h; cases h)
  refine ⟨_, _, pre0 _ ?_, hrun, hended, _, _, rfl, ?_, ⟨_, rfl⟩, hW, hsame.mono (by decide) (by decide)⟩
  · show Steps p.tables e below (s₁.setTop (mkF m 0 #[.val (.int vx), .val (.int vm), .unset, .unset, .unset] [])) _
    refine XS.iloadN X0.here hx rfl (hb hby at_0) rfl ?_
    show Steps p.tables e below (s₁.setTop (mkF m 1 #[.val (.int vx), .val (.int vm), .unset, .unset, .unset] [(.int vm)])) _
    refine XS.bipush X0.here hx rfl (hb hby at_1) ?_
    show Steps p.tables e below (s₁.setTop (mkF m 3 #[.val (.int vx), .val (.int vm), .unset, .unset, .unset] [(.int (31 : Int32)), (.int vm)])) _
    refine XS.iand X0.here hx rfl (hb hby at_3) rfl ?_
    show Steps p.tables e below (s₁.setTop (mkF m 4 #[.val (.int vx), .val (.int vm), .unset, .unset, .unset] [(.int (vm &&& (31 : Int32)))])) _
    refine XS.iconst X0.here hx rfl (hb hby at_4) ?_
    show Steps p.tables e below (s₁.setTop (mkF m 5 #[.val (.int vx), .val (.int vm), .unset, .unset, .unset] [(.int (4 : Int32)), (.int (vm &&& (31 : Int32)))])) _
    refine XS.isub X0.here hx rfl (hb hby at_5) rfl ?_
    show Steps p.tables e below (s₁.setTop (mkF m 6 #[.val (.int vx), .val (.int vm), .unset, .unset, .unset] [(.int ((vm &&& (31 : Int32)) - (4 : Int32)))])) _
    refine XS.istoreN X0.here hx rfl (hb hby at_6) rfl (l' := #[.val (.int vx), .val (.int vm), .val (.int ((vm &&& (31 : Int32)) - (4 : Int32))), .unset, .unset]) rfl ?_
    show Steps p.tables e below (s₁.setTop (mkF m 7 #[.val (.int vx), .val (.int vm), .val (.int ((vm &&& (31 : Int32)) - (4 : Int32))), .unset, .unset] [])) _
    refine XS.iloadN X0.here hx rfl (hb hby at_7) rfl ?_
    show Steps p.tables e below (s₁.setTop (mkF m 8 #[.val (.int vx), .val (.int vm), .val (.int ((vm &&& (31 : Int32)) - (4 : Int32))), .unset, .unset] [(.int vx)])) _
    refine st26 _ ?_
    show Steps p.tables e below (T26.setTop (mkF m 11 #[.val (.int vx), .val (.int vm), .val (.int ((vm &&& (31 : Int32)) - (4 : Int32))), .unset, .unset] [(.long r26)])) _
    refine XS.iloadN X26.here hx rfl (hb hby at_11) rfl ?_
    show Steps p.tables e below (T26.setTop (mkF m 12 #[.val (.int vx), .val (.int vm), .val (.int ((vm &&& (31 : Int32)) - (4 : Int32))), .unset, .unset] [(.int vx), (.long r26)])) _
    refine st27 _ ?_
    show Steps p.tables e below (T27.setTop (mkF m 15 #[.val (.int vx), .val (.int vm), .val (.int ((vm &&& (31 : Int32)) - (4 : Int32))), .unset, .unset] [(.long r27), (.long r26)])) _
    refine XS.lcmp X27.here hx rfl (hb hby at_15) rfl ?_
    show Steps p.tables e below (T27.setTop (mkF m 16 #[.val (.int vx), .val (.int vm), .val (.int ((vm &&& (31 : Int32)) - (4 : Int32))), .unset, .unset] [(.int (lcmpW r26 r27))])) _
    refine XS.ifNo X27.here hx rfl (hb hby at_16) rfl ((if0 _ _).trans (teq ((lw_eq _ _).mpr (hr26.trans hr27.symm : r26 = r27))).2) ?_
    show Steps p.tables e below (T27.setTop (mkF m 19 #[.val (.int vx), .val (.int vm), .val (.int ((vm &&& (31 : Int32)) - (4 : Int32))), .unset, .unset] [])) _
    refine XS.iconst X27.here hx rfl (hb hby at_19) ?_
    show Steps p.tables e below (T27.setTop (mkF m 20 #[.val (.int vx), .val (.int vm), .val (.int ((vm &&& (31 : Int32)) - (4 : Int32))), .unset, .unset] [(.int (1 : Int32))])) _
    refine XS.goto X27.here hx rfl (pc0 := 20) (pc' := 24) rfl (hb hby at_20) (by decide) (by decide) ?_
    show Steps p.tables e below (T27.setTop (mkF m 24 #[.val (.int vx), .val (.int vm), .val (.int ((vm &&& (31 : Int32)) - (4 : Int32))), .unset, .unset] [(.int (1 : Int32))])) _
    refine XS.istoreN X27.here hx rfl (hb hby at_24) rfl (l' := #[.val (.int vx), .val (.int vm), .val (.int ((vm &&& (31 : Int32)) - (4 : Int32))), .val (.int (1 : Int32)), .unset]) rfl ?_
    show Steps p.tables e below (T27.setTop (mkF m 25 #[.val (.int vx), .val (.int vm), .val (.int ((vm &&& (31 : Int32)) - (4 : Int32))), .val (.int (1 : Int32)), .unset] [])) _
    refine XS.iloadN X27.here hx rfl (hb hby at_25) rfl ?_
    show Steps p.tables e below (T27.setTop (mkF m 26 #[.val (.int vx), .val (.int vm), .val (.int ((vm &&& (31 : Int32)) - (4 : Int32))), .val (.int (1 : Int32)), .unset] [(.int ((vm &&& (31 : Int32)) - (4 : Int32)))])) _
    refine st28 _ ?_
    show Steps p.tables e below (T28.setTop (mkF m 29 #[.val (.int vx), .val (.int vm), .val (.int ((vm &&& (31 : Int32)) - (4 : Int32))), .val (.int (1 : Int32)), .unset] [(.long r28)])) _
    refine XS.iloadN X28.here hx rfl (hb hby at_29) rfl ?_
    show Steps p.tables e below (T28.setTop (mkF m 30 #[.val (.int vx), .val (.int vm), .val (.int ((vm &&& (31 : Int32)) - (4 : Int32))), .val (.int (1 : Int32)), .unset] [(.int ((vm &&& (31 : Int32)) - (4 : Int32))), (.long r28)])) _
    refine st29 _ ?_
    show Steps p.tables e below (T29.setTop (mkF m 33 #[.val (.int vx), .val (.int vm), .val (.int ((vm &&& (31 : Int32)) - (4 : Int32))), .val (.int (1 : Int32)), .unset] [(.long r29), (.long r28)])) _
    refine XS.lcmp X29.here hx rfl (hb hby at_33) rfl ?_
    show Steps p.tables e below (T29.setTop (mkF m 34 #[.val (.int vx), .val (.int vm), .val (.int ((vm &&& (31 : Int32)) - (4 : Int32))), .val (.int (1 : Int32)), .unset] [(.int (lcmpW r28 r29))])) _
    refine XS.ifNo X29.here hx rfl (hb hby at_34) rfl ((if0 _ _).trans (teq ((lw_eq _ _).mpr (hr28.trans hr29.symm : r28 = r29))).2) ?_
    show Steps p.tables e below (T29.setTop (mkF m 37 #[.val (.int vx), .val (.int vm), .val (.int ((vm &&& (31 : Int32)) - (4 : Int32))), .val (.int (1 : Int32)), .unset] [])) _
    refine XS.iconst X29.here hx rfl (hb hby at_37) ?_
    show Steps p.tables e below (T29.setTop (mkF m 38 #[.val (.int vx), .val (.int vm), .val (.int ((vm &&& (31 : Int32)) - (4 : Int32))), .val (.int (1 : Int32)), .unset] [(.int (1 : Int32))])) _
    refine XS.goto X29.here hx rfl (pc0 := 38) (pc' := 42) rfl (hb hby at_38) (by decide) (by decide) ?_
    show Steps p.tables e below (T29.setTop (mkF m 42 #[.val (.int vx), .val (.int vm), .val (.int ((vm &&& (31 : Int32)) - (4 : Int32))), .val (.int (1 : Int32)), .unset] [(.int (1 : Int32))])) _
    refine XS.istore X29.here hx rfl (hb hby at_42) rfl (l' := #[.val (.int vx), .val (.int vm), .val (.int ((vm &&& (31 : Int32)) - (4 : Int32))), .val (.int (1 : Int32)), .val (.int (1 : Int32))]) rfl ?_
    show Steps p.tables e below (T29.setTop (mkF m 44 #[.val (.int vx), .val (.int vm), .val (.int ((vm &&& (31 : Int32)) - (4 : Int32))), .val (.int (1 : Int32)), .val (.int (1 : Int32))] [])) _
    refine XS.iloadN X29.here hx rfl (hb hby at_44) rfl ?_
    show Steps p.tables e below (T29.setTop (mkF m 45 #[.val (.int vx), .val (.int vm), .val (.int ((vm &&& (31 : Int32)) - (4 : Int32))), .val (.int (1 : Int32)), .val (.int (1 : Int32))] [(.int (1 : Int32))])) _
    refine XS.ifNo X29.here hx rfl (hb hby at_45) rfl ((if0 _ _).trans (feq (by decide : ¬ ((1 : Int32) = (0 : Int32)))).1) ?_
    show Steps p.tables e below (T29.setTop (mkF m 48 #[.val (.int vx), .val (.int vm), .val (.int ((vm &&& (31 : Int32)) - (4 : Int32))), .val (.int (1 : Int32)), .val (.int (1 : Int32))] [])) _
    refine XS.iload X29.here hx rfl (hb hby at_48) rfl ?_
    show Steps p.tables e below (T29.setTop (mkF m 50 #[.val (.int vx), .val (.int vm), .val (.int ((vm &&& (31 : Int32)) - (4 : Int32))), .val (.int (1 : Int32)), .val (.int (1 : Int32))] [(.int (1 : Int32))])) _
    refine XS.ifNo X29.here hx rfl (hb hby at_50) rfl ((if0 _ _).trans (feq (by decide : ¬ ((1 : Int32) = (0 : Int32)))).1) ?_
    show Steps p.tables e below (T29.setTop (mkF m 53 #[.val (.int vx), .val (.int vm), .val (.int ((vm &&& (31 : Int32)) - (4 : Int32))), .val (.int (1 : Int32)), .val (.int (1 : Int32))] [])) _
    refine XS.iconst X29.here hx rfl (hb hby at_53) ?_
    show Steps p.tables e below (T29.setTop (mkF m 54 #[.val (.int vx), .val (.int vm), .val (.int ((vm &&& (31 : Int32)) - (4 : Int32))), .val (.int (1 : Int32)), .val (.int (1 : Int32))] [(.int (1 : Int32))])) _
    refine XS.goto X29.here hx rfl (pc0 := 54) (pc' := 58) rfl (hb hby at_54) (by decide) (by decide) ?_
    show Steps p.tables e below (T29.setTop (mkF m 58 #[.val (.int vx), .val (.int vm), .val (.int ((vm &&& (31 : Int32)) - (4 : Int32))), .val (.int (1 : Int32)), .val (.int (1 : Int32))] [(.int (1 : Int32))])) _
    exact retN X29 hx (t := .boolean) Bd.returns (by simp) (hb hby at_58) hr
  · show Q_law Z vx vm h0 n0 _ T29.heap _
    exact ⟨rfl, N29⟩
set_option maxRecDepth 65536 in
set_option maxHeartbeats 40000000 in
theorem comes_1 {Post : Tables → Env → Array Value → State → Outcome → State → Prop} (hpost : ∀ tb e args s v u, (limb_1_1.after args s (.returned v) u = true ∧ limb_1_2.after args s (.returned v) u = true ∧ True) → FrameEnd s (.returned v) u (Jvm.fieldLocs frame_1_writes args s ++ Jvm.arrayLocs frame_1_arrays args s ++ Jvm.staticLocs frame_1_statics s) 16 192 → Post tb e args s (.returned v) u) :
    ArmFor flags0 classFile x code maxLocals ret World_1 tables_1 room_1 Calls_1 rest_1 Pre_1 Post := by
  intro l hfl _ _ p e ha hc hk s m args below hf hA hF happ hP
  obtain ⟨hcalls, hrest, hpre⟩ := hP
  obtain ⟨-, -, -, hnamed, -, -, -, hat⟩ := (Spec.applies_iff hf).mp happ
  obtain ⟨hg, hn⟩ := and_e (Cond.before_iff.mp (show (Jvm.Cond.and given_1 narrow_1).before args s = true from hpre))
  obtain ⟨hg0, hr0⟩ := and_e hg
  obtain ⟨ha0, hr1⟩ := and_e hr0
  obtain ⟨w0, w1, rfl⟩ : ∃ w0 w1 : Value, args = #[w0, w1] := by
    have hs : args.size = 2 := by simpa [Cond.value, given_1] using hg0
    obtain ⟨L⟩ := args
    match L, hs with
    | [w0, w1], _ => exact ⟨w0, w1, rfl⟩
  have hw := fun d (hd : d ∈ tables_1) => atoms_spec (ws := Jvm.Cond.code x code maxLocals ret :: tables_1) hat d (List.mem_cons_of_mem _ hd)
  obtain ⟨i0, ei0⟩ := is_v ha0
  obtain rfl : w0 = (.int i0) := Option.some.inj ei0
  obtain ⟨i1, ei1⟩ := is_v hr1
  obtain rfl : w1 = (.int i1) := Option.some.inj ei1
  obtain ⟨n, o, h1, h2, h3, _, L, rfl, ⟨rfl, N⟩, hq⟩ := rm_law l s _ hw tables_1 i0 i1 s.heap s.heap.size (Nat.le_refl _)  p e ha hc hk s m _ below hf ((Spec.applies_iff_loose hf).mp happ).1 ⟨rfl, State.Warmed39.refl s, rfl⟩ trivial
  refine ⟨n, _, h1, h2, h3, hpost _ _ _ _ _ _ ⟨Cond.after_iff.mpr rfl, Cond.after_iff.mpr (eq_i res_at (Term.int_eval (1)) rfl), trivial⟩ ⟨hq.1, hq.2.1, (hq.2.2.sift fun y hy => Or.inr (N y hy)).mono (by decide) (by decide)⟩⟩
theorem main_1_1 : Claimed_1_1 := comes_1 fun _ _ _ _ _ _ h hF => ⟨h.1, hF⟩
theorem main_1_2 : Claimed_1_2 := comes_1 fun _ _ _ _ _ _ h hF => ⟨h.2.1, hF⟩
end Jvm.Pilot.@@N@@
namespace Jvm.Pilot.@@N@@
open Jvm Jvm.ClassFile Sem Op Lib Jvm.Free Jvm.Stand Jvm.Pilot.@@N@@.Jvm.D
/-! MADE BY PROGRAM (witnessworld.py) out of the Statement's table words and the real class files: 11 classes; the members and pool entries that the words name. The judged class is class 1, her method 2. -/
namespace start1
open Jvm.ClassFile
def u (s : String) : CpInfo := .utf8 (stringToUtf16 s)
/-- a pool by its gaps: so many unusable entries, then the entry; so many at the end -/
def gap : Nat → List CpInfo → List CpInfo
  | 0, r => r
  | n + 1, r => .unusable :: gap n r
def poolList (es : List (Nat × CpInfo)) (last : Nat) : List CpInfo := es.foldr (fun e r => gap e.1 (e.2 :: r)) (gap last [])
def pool (es : List (Nat × CpInfo)) (last : Nat) : Array CpInfo := ⟨poolList es last⟩
def fileOf (pool : Array CpInfo) (this : Nat) (attrs : Array Attribute := #[]) (ms : Array MethodInfo := #[]) (fl : Nat := 33) (sup : Nat := 0) (ifs : Array Nat := #[]) (fds : Array FieldInfo := #[]) : ClassFile where
  minorVersion := 0
  majorVersion := 65
  constantPool := pool
  accessFlags := fl
  thisClass := this
  superClass := sup
  interfaces := ifs
  fields := fds
  methods := ms
  attributes := attrs
def plain (name : String) (sup : Option ClassId) : Class where
  name := name
  kind := .ordinary
  loader := none
  accessFlags := 33
  super := sup
  interfaces := #[]
  cf := none
  fields := #[]
  methods := #[]
  instanceTypes := #[]
  staticTypes := #[]
  resolved := #[]
  callSites := []
  init := .initialized
  statics := none
  mirror := none

def pool0 : Array CpInfo := pool [(5, u "<init>"), (0, u "()V"), (1, .class_ 10), (1, u "java/lang/Object")] 113

def k0m0 : Method := { name := "<init>", desc := "()V", sig := { parameters := [], returnType := none }, accessFlags := 1, code := none }
/-- java/lang/Object -/
def k0 : Class := { plain "java/lang/Object" none with
  accessFlags := 33
  interfaces := #[]
  cf := some (fileOf pool0 8 #[] #[{ accessFlags := 1, nameIndex := 5, descriptorIndex := 6, attributes := #[] }] 33 0 #[] #[])
  fields := #[]
  methods := #[k0m0]
  instanceTypes := #[]
  staticTypes := #[]
  resolved := Array.replicate 124 none
  statics := none }

def pool1 : Array CpInfo := pool [(2, .class_ 4), (1, u "java/lang/Object"), (0, u "<init>"), (0, u "()V"), (2, .long 9223372036854775807), (1, .long 2), (1, .long 6), (1, .long 24), (1, .long 120), (1, .long 720), (1, .long 5040), (1, .long 40320), (1, .long 362880), (1, .long 3628800), (1, .long 39916800), (1, .long 479001600), (1, .long 6227020800), (1, .long 87178291200), (1, .long 1307674368000), (1, .long 20922789888000), (1, .long 355687428096000), (1, .long 6402373705728000), (1, .long 121645100408832000), (1, .long 2432902008176640000), (1, .methodref 50 51), (0, .class_ 52), (0, .nameAndType 53 54), (0, u "com/example/serialscope/serialscope/Choices"), (0, u "orderCount"), (0, u "(I)J"), (0, .methodref 56 57), (0, .class_ 58), (0, .nameAndType 59 54), (0, u "com/example/serialscope/serialscope/ChoicesOrderCountPinLaw"), (0, u "expected"), (3, u "law"), (0, u "(II)Z")] 2

def k1m0 : Method := { name := "<init>", desc := "()V", sig := { parameters := [], returnType := none }, accessFlags := 2, code := none }
def k1c1 : Code := { maxStack := 5, maxLocals := 2, code := method_2_code, exceptionTable := #[], attributes := #[] }
def k1m1 : Method := { name := "expected", desc := "(I)J", sig := { parameters := [.int], returnType := some .long }, accessFlags := 10, code := some k1c1 }
def k1c2 : Code := { maxStack := 4, maxLocals := 5, code := code, exceptionTable := #[], attributes := #[] }
def k1m2 : Method := { name := "law", desc := "(II)Z", sig := { parameters := [.int, .int], returnType := some .boolean }, accessFlags := 9, code := some k1c2 }
/-- com/example/serialscope/serialscope/ChoicesOrderCountPinLaw -/
def k1 : Class := { plain "com/example/serialscope/serialscope/ChoicesOrderCountPinLaw" (some 0) with
  accessFlags := 49
  interfaces := #[]
  cf := some (fileOf pool1 56 #[] #[{ accessFlags := 2, nameIndex := 5, descriptorIndex := 6, attributes := #[] }, { accessFlags := 10, nameIndex := 59, descriptorIndex := 54, attributes := #[] }, { accessFlags := 9, nameIndex := 63, descriptorIndex := 64, attributes := #[] }] 49 2 #[] #[])
  fields := #[]
  methods := #[k1m0, k1m1, k1m2]
  instanceTypes := #[]
  staticTypes := #[]
  resolved := Array.replicate 67 none
  statics := none }

def pool2 : Array CpInfo := pool [(2, .class_ 4), (1, u "java/lang/Object"), (0, u "<init>"), (0, u "()V"), (28, .class_ 37), (1, u "com/example/serialscope/serialscope/Choices"), (29, .long 9223372036854775807), (25, u "(I)J"), (5, u "orderCount"), (5, .class_ 106), (0, u "com/example/serialscope/serialscope/Choices$Cut"), (0, .class_ 108), (0, u "com/example/serialscope/serialscope/Choices$Cut$Tie")] 3

def k2m0 : Method := { name := "<init>", desc := "()V", sig := { parameters := [], returnType := none }, accessFlags := 2, code := none }
def k2c1 : Code := { maxStack := 6, maxLocals := 4, code := prog_20_method_8_code, exceptionTable := #[], attributes := #[] }
def k2m1 : Method := { name := "orderCount", desc := "(I)J", sig := { parameters := [.int], returnType := some .long }, accessFlags := 8, code := some k2c1 }
/-- com/example/serialscope/serialscope/Choices -/
def k2 : Class := { plain "com/example/serialscope/serialscope/Choices" (some 0) with
  accessFlags := 48
  interfaces := #[]
  cf := some (fileOf pool2 35 #[.nestMembers #[105, 107]] #[{ accessFlags := 2, nameIndex := 5, descriptorIndex := 6, attributes := #[] }, { accessFlags := 8, nameIndex := 99, descriptorIndex := 93, attributes := #[] }] 48 2 #[] #[])
  fields := #[]
  methods := #[k2m0, k2m1]
  instanceTypes := #[]
  staticTypes := #[]
  resolved := Array.replicate 112 none
  statics := none }

def pool3 : Array CpInfo := pool [(1, u "java/lang/Cloneable"), (0, .class_ 1), (0, u "java/lang/Object"), (0, .class_ 3)] 3

/-- java/lang/Cloneable -/
def k3 : Class := { plain "java/lang/Cloneable" (some 0) with
  accessFlags := 1537
  interfaces := #[]
  cf := some (fileOf pool3 2 #[] #[] 1537 4 #[] #[])
  fields := #[]
  methods := #[]
  instanceTypes := #[]
  staticTypes := #[]
  resolved := Array.replicate 8 none
  statics := none }

def pool4 : Array CpInfo := pool [(1, u "java/io/Serializable"), (0, .class_ 1), (0, u "java/lang/Object"), (0, .class_ 3)] 3

/-- java/io/Serializable -/
def k4 : Class := { plain "java/io/Serializable" (some 0) with
  accessFlags := 1537
  interfaces := #[]
  cf := some (fileOf pool4 2 #[] #[] 1537 4 #[] #[])
  fields := #[]
  methods := #[]
  instanceTypes := #[]
  staticTypes := #[]
  resolved := Array.replicate 8 none
  statics := none }

/-- the primitive byte -/
def k5 : Class := { plain "byte" none with kind := .primitive 'B', accessFlags := 0x411 }
/-- [B -/
def k6 : Class := { plain "[B" (some 0) with kind := .array 5 .byte, interfaces := #[3, 4], accessFlags := 1041 }

/-- the primitive int -/
def k7 : Class := { plain "int" none with kind := .primitive 'I', accessFlags := 0x411 }
/-- [I -/
def k8 : Class := { plain "[I" (some 0) with kind := .array 7 .int, interfaces := #[3, 4], accessFlags := 1041 }

/-- the primitive long -/
def k9 : Class := { plain "long" none with kind := .primitive 'J', accessFlags := 0x411 }
/-- [J -/
def k10 : Class := { plain "[J" (some 0) with kind := .array 9 .long, interfaces := #[3, 4], accessFlags := 1041 }

def heap : Heap := #[]
def classes : Array Class := #[k0, k1, k2, k3, k4, k5, k6, k7, k8, k9, k10]
def interned : List (Array UInt16 × Addr) := []
def slotsUsed : Nat := 0
def theMethod : MethodId := ⟨1, 2⟩
def args0 : Array Value := #[.int 5, .int 3]
def aboutOver (below : List Frame) : State where
  vm := { classes := classes, interned := interned.toArray }
  heap := heap
  slotsUsed := slotsUsed
  threads := #[{ frames := .invoking theMethod args0 :: below }]
def below0 : List Frame := [.native { method := ⟨0, 0⟩, args := #[] }]
def about1 : State := aboutOver below0
def p0 : Program := .bare "" "" ""
def e0 : Env := launch0.env 0 0 0
theorem w_frames : about1.frames = Frame.invoking theMethod args0 :: below0 := rfl
set_option maxRecDepth 65536 in
theorem w_args : argsFit about1.vm theMethod args0 = true := by decide +kernel
set_option maxRecDepth 65536 in
theorem w_heap : heapFits about1 = true := by decide +kernel
set_option maxRecDepth 65536 in
theorem w_runnable : about1.curStatus? = some .runnable := by decide +kernel
set_option maxRecDepth 65536 in
theorem w_alone : about1.alone = true := by decide +kernel
set_option maxRecDepth 65536 in
theorem w_named : about1.methodNamed? x = some theMethod := by decide +kernel
set_option maxRecDepth 65536 in
theorem w_hears : about1.hears theMethod below0 = true := by decide +kernel
set_option maxRecDepth 65536 in
theorem w_ripe : about1.ripe theMethod args0 below0 = true := by decide +kernel
theorem w_running : about1.status = .running := rfl
set_option maxRecDepth 65536 in
theorem w_room : about1.hasRoom e0.platform room_1 = true :=
  launch0.hasRoom_least _ room_1 (by decide +kernel) (by decide +kernel) (by decide +kernel) (by decide +kernel) (by decide +kernel) (by decide +kernel)
theorem allAtoms_all (ts : List Jvm.Cond) (a : Array Jvm.Value) (st : Jvm.State) : (allAtoms ts).before a st = ts.all (fun c => c.before a st) := by
  induction ts with
  | nil => rfl
  | cons c t ih =>
    show (Jvm.Cond.and c (allAtoms t)).before a st = _
    rw [Jvm.Cond.before_and, ih, List.all_cons]
def words1 : List Jvm.Cond := Jvm.Cond.code x code maxLocals ret :: tables_1
/-- a 'code' word, met by the world's own term for the bytes: nothing is compared byte by byte -/
theorem code_word {y : MethodName} {bytes : ByteArray} {mx : Nat} {rt : Option FieldType} {a : Array Value} {s : State} {m : MethodId} {meth : Method} {c : Code} (h1 : s.methodNamed? y = some m) (h2 : s.vm.method? m = some meth) (h3 : meth.code = some c) (h4 : c.code = bytes)
    (h5 : (c.maxLocals == mx && c.exceptionTable.isEmpty && decide (c.maxStack ≤ mostOperands) && decide (meth.sig.returnType = rt) && !meth.locks && decide (parseMethodDescriptor y.desc = some meth.sig)) = true) : (Jvm.Cond.code y bytes mx rt).before a s = true := by
  simp only [Bool.and_eq_true, beq_iff_eq, Bool.not_eq_true', decide_eq_true_eq] at h5
  obtain ⟨⟨⟨⟨⟨g1, g2⟩, g3⟩, g4⟩, g5⟩, g6⟩ := h5
  simp [Cond.before, Cond.holds, Cond.value, h1, h2, h3, h4, g1, g2, g3, g4, g5, g6]
def isCode : Jvm.Cond → Bool
  | .code _ _ _ _ => true
  | _ => false
theorem all_split {L : List Jvm.Cond} {P : Jvm.Cond → Bool} (h1 : L.all (fun c => isCode c || P c) = true) (h2 : ∀ c ∈ L.filter isCode, P c = true) : L.all P = true := by
  refine List.all_eq_true.mpr fun c hc => ?_
  have h := List.all_eq_true.mp h1 c hc
  rcases Bool.eq_false_or_eq_true (isCode c) with hi | hi
  · exact h2 c (List.mem_filter.mpr ⟨hc, hi⟩)
  · simpa [hi] using h
set_option maxRecDepth 65536 in
theorem w_c0 : (Jvm.Cond.code x code maxLocals ret).before args0 about1 = true := code_word (m := ⟨1, 2⟩) (meth := k1m2) (c := k1c2) (by decide +kernel) rfl rfl rfl (by decide +kernel)
set_option maxRecDepth 65536 in
theorem w_c1 : (Jvm.Cond.code ({ cls := "com/example/serialscope/serialscope/Choices", name := "orderCount", desc := "(I)J" } : Jvm.MethodName) prog_20_method_8_code (4 : Nat) (Option.some Jvm.ClassFile.FieldType.long)).before args0 about1 = true := code_word (m := ⟨2, 1⟩) (meth := k2m1) (c := k2c1) (by decide +kernel) rfl rfl rfl (by decide +kernel)
set_option maxRecDepth 65536 in
theorem w_c2 : (Jvm.Cond.code ({ cls := "com/example/serialscope/serialscope/ChoicesOrderCountPinLaw", name := "expected", desc := "(I)J" } : Jvm.MethodName) method_2_code (2 : Nat) (Option.some Jvm.ClassFile.FieldType.long)).before args0 about1 = true := code_word (m := ⟨1, 1⟩) (meth := k1m1) (c := k1c1) (by decide +kernel) rfl rfl rfl (by decide +kernel)
def codes1 : List Jvm.Cond := [Jvm.Cond.code x code maxLocals ret, Jvm.Cond.code ({ cls := "com/example/serialscope/serialscope/Choices", name := "orderCount", desc := "(I)J" } : Jvm.MethodName) prog_20_method_8_code (4 : Nat) (Option.some Jvm.ClassFile.FieldType.long), Jvm.Cond.code ({ cls := "com/example/serialscope/serialscope/ChoicesOrderCountPinLaw", name := "expected", desc := "(I)J" } : Jvm.MethodName) method_2_code (2 : Nat) (Option.some Jvm.ClassFile.FieldType.long)]
set_option maxRecDepth 65536 in
theorem codes_eq : words1.filter isCode = codes1 := rfl
theorem w_codes : ∀ c ∈ words1.filter isCode, c.before args0 about1 = true := by
  rw [codes_eq]
  intro c hc
  simp only [codes1, List.mem_cons, List.not_mem_nil, or_false] at hc
  rcases hc with rfl | rfl | rfl
  · exact w_c0
  · exact w_c1
  · exact w_c2
set_option maxRecDepth 65536 in
theorem w_t1 : (words1.take 24).all (fun c => isCode c || c.before args0 about1) = true := by decide +kernel
set_option maxRecDepth 65536 in
theorem w_t2 : (words1.drop 24).all (fun c => isCode c || c.before args0 about1) = true := by decide +kernel
theorem w_tables : (allAtoms (Jvm.Cond.code x code maxLocals ret :: tables_1)).before args0 about1 = true := by
  rw [allAtoms_all]
  show words1.all (fun c => c.before args0 about1) = true
  refine all_split ?_ w_codes
  rw [← List.take_append_drop 24 words1, List.all_append, w_t1, w_t2]
  rfl
set_option maxRecDepth 65536 in
theorem w_case : (Jvm.Cond.and given_1 narrow_1).before args0 about1 = true := by decide +kernel
theorem w_applies : (headSpec (Jvm.Cond.code x code maxLocals ret :: tables_1) room_1).applies x e0.platform about1 = true :=
  (Spec.applies_iff w_frames).mpr ⟨w_running, w_runnable, w_alone, w_named, w_hears, w_ripe, w_room, w_tables⟩
theorem atStart : AtStart classFile x code maxLocals ret World_1 tables_1 room_1 Calls_1 rest_1 Pre_1 launch0 p0 e0 about1 theMethod args0 below0 :=
  ⟨lists_1, trivial, launch0.admits_env _ _ _, launch0.least_env, fairChoices_fair.cas, fairChoices_fair.clock, w_frames, w_args, w_heap, w_applies, trivial, trivial, w_case⟩
end start1
theorem witness_1 : WitnessClaimed_1 := ⟨start1.p0, start1.e0, start1.about1, start1.theMethod, start1.args0, start1.below0, start1.atStart⟩
end Jvm.Pilot.@@N@@
