import JvmDerived
import JvmDerived.Pilot.@@N@@Statement
import JvmDerived.Pilot.@@N@@Code
set_option linter.unusedVariables false
set_option linter.unusedSimpArgs false
namespace Jvm.RoadKit
open Sem ClassFile Op Lib Jvm.Stand Jvm.Free Jvm.LawKit
section New
variable {p : Program} {l : Launch} {e : Env} {R : Room} {s : State} {m : MethodId} {args : Array Value} {below : List Frame} {meth : Method} {c : Code} {T : State} {locs : List Loc} {cells slots : Nat}
theorem retI (X : Stand p l e R s m args below meth c T locs cells slots) (hx : p.tables.exec = Jvm.exec) {pc : Nat} {Ls : Array Slot} {z : Int32} {rest : List Value} (hret : meth.sig.returnType = some .int) (hd : decode c.code pc = .ok (.ireturn, 1)) {fs : List Frame}
    (hl : ∀ (f : JFrame) (acts : List Action), f.method = m → f.locked = none → f.entered = [] → (doReturn e (T.setTop f) acts (some (.int z))).1 = T.setFrames fs) : Steps p.tables e below (T.setTop (mkF m pc Ls (.int z :: rest))) (T.setFrames fs) := by
  have hm' : T.vm.method? m = some meth := X.method'
  have hn : narrow .int (.int z) = .int z := rfl
  show Steps p.tables e below (T.setTop { method := m, pc := pc, locals := Ls, stack := _ :: rest, locked := none }) _
  jvm_step X.here [X.here.top, hx, hd, hm', hret, hn]
  first | (intro acts; rw [hl _ acts rfl rfl rfl]) | rw [hl _ _ rfl rfl rfl]
  exact Steps.refl _
end New
end Jvm.RoadKit
namespace Jvm.Pilot.@@N@@
open Jvm Jvm.ClassFile Sem Op Lib Jvm.Free Jvm.Stand Jvm.LawKit Jvm.RoadKit Bundle Jvm.Pilot.@@N@@.Jvm.D

def own_b (P : Prop) [Decidable P] : Int32 := if P then 1 else 0
theorem own_bt {P : Prop} [Decidable P] (h : P) : (1 : Int32) = own_b P := (if_pos h).symm
theorem own_bf {P : Prop} [Decidable P] (h : ¬ P) : (0 : Int32) = own_b P := (if_neg h).symm
theorem own_bc {P Q : Prop} [Decidable P] [Decidable Q] (h : P ↔ Q) : own_b P = own_b Q := by
  by_cases hp : P
  · rw [← own_bt hp, ← own_bt (h.mp hp)]
  · rw [← own_bf hp, ← own_bf (fun q => hp (h.mpr q))]
theorem own_bz {P : Prop} [Decidable P] : own_b P = 0 ↔ ¬ P := by
  by_cases hp : P
  · rw [← own_bt hp]; exact ⟨fun h => absurd h (by decide), fun h => absurd hp h⟩
  · rw [← own_bf hp]; exact ⟨fun _ => hp, fun _ => rfl⟩

def own_low (w : Int32) : Int64 := if w = 64 then -1 else ((1 : Int64) <<< (w &&& 0x3f).toInt64) - 1
def own_lb (P : Prop) [Decidable P] : Int64 := if P then 1 else 0
theorem own_lbt {P : Prop} [Decidable P] (h : P) : (1 : Int64) = own_lb P := (if_pos h).symm
theorem own_lbf {P : Prop} [Decidable P] (h : ¬ P) : (0 : Int64) = own_lb P := (if_neg h).symm
def own_w (n : Nat) : Int32 := Int32.ofNat n + 1
theorem own_d1 : ∀ n, n < 64 → (own_low (own_w n) &&& (own_low (own_w n) + 1)) = 0 := by decide +kernel
theorem own_d2 : ∀ n, n < 64 → ((own_low (own_w n)).toUInt64 >>> ((own_w n - 1) &&& 0x3f).toInt64.toUInt64).toInt64 = 1 := by decide +kernel
theorem own_d3 : ∀ n, n < 64 → ∀ j, j < 64 → (((own_low (own_w n)).toUInt64 >>> (Int32.ofNat j &&& 0x3f).toInt64.toUInt64).toInt64 &&& 1) = own_lb (Int32.ofNat j < own_w n) := by decide +kernel
theorem own_mask (x : Int32) : ∃ n, n < 64 ∧ x &&& 63 = Int32.ofNat n := by
  refine ⟨x.toBitVec.toNat % 64, Nat.mod_lt _ (by decide), ?_⟩
  apply Int32.toBitVec_inj.mp
  rw [Int32.toBitVec_and]
  apply BitVec.eq_of_toNat_eq
  rw [BitVec.toNat_and]
  show x.toBitVec.toNat &&& 63 = (BitVec.ofNat 32 (x.toBitVec.toNat % 64)).toNat
  rw [BitVec.toNat_ofNat, Nat.and_two_pow_sub_one_eq_mod _ 6, Nat.mod_eq_of_lt (Nat.lt_trans (Nat.mod_lt _ (by decide)) (by decide))]
theorem own_1 (a : Int32) : lcmpW (own_low ((a &&& 63) + 1) &&& (own_low ((a &&& 63) + 1) + 1)) 0 = 0 := by
  obtain ⟨n, hn, e⟩ := own_mask a
  rw [e]; exact (lw_eq _ _).mpr (own_d1 n hn)
theorem own_2 (a : Int32) : lcmpW (((own_low ((a &&& 63) + 1)).toUInt64 >>> (((((a &&& 63) + 1) - 1) &&& 0x3f).toInt64.toUInt64)).toInt64) 1 = 0 := by
  obtain ⟨n, hn, e⟩ := own_mask a
  rw [e]; exact (lw_eq _ _).mpr (own_d2 n hn)
theorem own_3 (a b : Int32) : lcmpW ((((own_low ((a &&& 63) + 1)).toUInt64 >>> ((b &&& 63) &&& 0x3f).toInt64.toUInt64).toInt64) &&& 1) (own_lb ((b &&& 63) < (a &&& 63) + 1)) = 0 := by
  obtain ⟨n, hn, e⟩ := own_mask a
  obtain ⟨j, hj, f⟩ := own_mask b
  rw [e, f]; exact (lw_eq _ _).mpr (own_d3 n hn j hj)

def Q1 (Z : State) (p1 : Int32) (h0 : Heap) (n0 : Nat) (v : Option Value) (h : Heap) (L : List Loc) : Prop := v = some (.long (own_low p1)) ∧ Fr n0 L ∧ h = h0
theorem d1_0 : decode prog_7_method_19_code 0 = .ok (.iload_n 0, 1) := by decide +kernel
theorem d1_1 : decode prog_7_method_19_code 1 = .ok (.bipush 64, 2) := by decide +kernel
theorem d1_3 : decode prog_7_method_19_code 3 = .ok (.if_icmp .ne 9, 3) := by decide +kernel
theorem d1_12 : decode prog_7_method_19_code 12 = .ok (.lconst 1, 1) := by decide +kernel
theorem d1_13 : decode prog_7_method_19_code 13 = .ok (.iload_n 0, 1) := by decide +kernel
theorem d1_14 : decode prog_7_method_19_code 14 = .ok (.lshl, 1) := by decide +kernel
theorem d1_15 : decode prog_7_method_19_code 15 = .ok (.lconst 1, 1) := by decide +kernel
theorem d1_16 : decode prog_7_method_19_code 16 = .ok (.lsub, 1) := by decide +kernel
theorem d1_17 : decode prog_7_method_19_code 17 = .ok (.lreturn, 1) := by decide +kernel
theorem pn_1 : plainName "com/example/absent_keys/absentkeys/filter/BitArray" = true := by first | (simp [plainName, overriddenIn]; done) | decide +kernel
theorem ef_1 (m : MethodId) (x0 : Int32) : entryFrame m #[(.int x0)] 1 = mkF m 0 #[.val (.int x0)] [] := by first | (simp [entryFrame, mkF, argsToLocals, Value.category]; done) | rfl
set_option maxRecDepth 65536 in
set_option maxHeartbeats 40000000 in
theorem rm1_t (l : Launch) (Z : State) (a0 : Array Value) (hw : ∀ d ∈ tables_1, d.before a0 Z = true) (ws : List Jvm.Cond) (p1 : Int32) (h0 : Heap) (n0 : Nat) (Z0 : n0 ≤ h0.size) (hc3 : ¬ (p1 = (64 : Int32))) :
    MetFree l (⟨"com/example/absent_keys/absentkeys/filter/BitArray", "lowBits", "(I)J"⟩ : MethodName) (head1 (Jvm.Cond.code (⟨"com/example/absent_keys/absentkeys/filter/BitArray", "lowBits", "(I)J"⟩ : MethodName) prog_7_method_19_code 1 (some .long) :: ws) ({ frames := 0, cells := 0, slots := 0, locals := 0 } : Room)) (fun a U => a = #[(.int p1)] ∧ Z.Warmed39 U.vm ∧ U.heap = h0) (fun _ _ _ _ _ => True) (fun _ U o U' => ∃ v L, o = .returned v ∧ Q1 Z p1 h0 n0 v U'.heap L ∧ FrameEnd U o U' L ({ frames := 0, cells := 0, slots := 0, locals := 0 } : Room).cells ({ frames := 0, cells := 0, slots := 0, locals := 0 } : Room).slots) := by
  refine MetFree.of_bodySF (plainFor_of_name pn_1) hisR ?_
  intro p e s m args below meth c s₁ Bd hml0 hP hK
  obtain ⟨rfl, hZ, hh⟩ := hP
  have hx := Bd.exec
  have hby := Bd.bytes
  have hml : c.maxLocals = 1 := hml0
  have hown : s.vm.findClass "com/example/absent_keys/absentkeys/filter/BitArray" = some m.cls := findClass_of_methodNamed Bd.named
  have hnm := (name_of_methodNamed Bd.named Bd.method).1
  have X0 : Stand p l e ({ frames := 0, cells := 0, slots := 0, locals := 0 } : Room) s m #[(.int p1)] below meth c s₁ [] 0 0 := Stand.of_body Bd
  have e0 : s₁.heap = h0 := by rw [← hh, Bd.state]; rfl
  have N0 := Fr.nil n0
  have pre0 : ∀ t, Steps p.tables e below (s₁.setTop (mkF m 0 #[.val (.int p1)] [])) t → Steps p.tables e below (s₁.setTop (entryFrame m #[(.int p1)] 1)) t := fun t k => castTop (ef_1 m p1) k

  obtain ⟨fs, hr, hrun, hended, hW, hsame⟩ := X0.leave (v := some (.long (((1 : Int64) <<< (p1 &&& 0x3f).toInt64) - (1 : Int64)))) (fun h => by rw [Bd.returns] at h; cases h)
  refine ⟨_, _, pre0 _ ?_, hrun, hended, _, _, rfl, ?_, ⟨_, rfl⟩, hW, hsame.mono (by decide) (by decide)⟩
  · show Steps p.tables e below (s₁.setTop (mkF m 0 #[.val (.int p1)] [])) _
    refine XS.iloadN X0.here hx rfl (hb hby d1_0) rfl ?_
    show Steps p.tables e below (s₁.setTop (mkF m 1 #[.val (.int p1)] [(.int p1)])) _
    refine XS.bipush X0.here hx rfl (hb hby d1_1) ?_
    show Steps p.tables e below (s₁.setTop (mkF m 3 #[.val (.int p1)] [(.int (64 : Int32)), (.int p1)])) _
    refine XS.icmpYes X0.here hx rfl (pc0 := 3) (pc' := 12) rfl (hb hby d1_3) rfl (feq hc3).2 (by decide) (by decide) ?_
    show Steps p.tables e below (s₁.setTop (mkF m 12 #[.val (.int p1)] [])) _
    refine XS.lconst X0.here hx rfl (hb hby d1_12) ?_
    show Steps p.tables e below (s₁.setTop (mkF m 13 #[.val (.int p1)] [(.long (1 : Int64))])) _
    refine XS.iloadN X0.here hx rfl (hb hby d1_13) rfl ?_
    show Steps p.tables e below (s₁.setTop (mkF m 14 #[.val (.int p1)] [(.int p1), (.long (1 : Int64))])) _
    refine XS.lshl X0.here hx rfl (hb hby d1_14) rfl ?_
    show Steps p.tables e below (s₁.setTop (mkF m 15 #[.val (.int p1)] [(.long ((1 : Int64) <<< (p1 &&& 0x3f).toInt64))])) _
    refine XS.lconst X0.here hx rfl (hb hby d1_15) ?_
    show Steps p.tables e below (s₁.setTop (mkF m 16 #[.val (.int p1)] [(.long (1 : Int64)), (.long ((1 : Int64) <<< (p1 &&& 0x3f).toInt64))])) _
    refine XS.lsub X0.here hx rfl (hb hby d1_16) rfl ?_
    show Steps p.tables e below (s₁.setTop (mkF m 17 #[.val (.int p1)] [(.long (((1 : Int64) <<< (p1 &&& 0x3f).toInt64) - (1 : Int64)))])) _
    exact X0.lreturnOut hx Bd.returns (hb hby d1_17) hr
  · show Q1 Z p1 h0 n0 _ s₁.heap _
    rw [e0]
    exact ⟨congrArg (fun z => some (Value.long z)) ((if_neg hc3).symm), N0, rfl⟩

theorem d1_6 : decode prog_7_method_19_code 6 = .ok (.ldc2_w 52, 3) := by decide +kernel
theorem d1_9 : decode prog_7_method_19_code 9 = .ok (.goto 8, 3) := by decide +kernel
set_option maxRecDepth 65536 in
set_option maxHeartbeats 40000000 in
theorem rm1_f (l : Launch) (Z : State) (a0 : Array Value) (hw : ∀ d ∈ tables_1, d.before a0 Z = true) (ws : List Jvm.Cond) (p1 : Int32) (h0 : Heap) (n0 : Nat) (Z0 : n0 ≤ h0.size) (hc3 : p1 = (64 : Int32)) :
    MetFree l (⟨"com/example/absent_keys/absentkeys/filter/BitArray", "lowBits", "(I)J"⟩ : MethodName) (head1 (Jvm.Cond.code (⟨"com/example/absent_keys/absentkeys/filter/BitArray", "lowBits", "(I)J"⟩ : MethodName) prog_7_method_19_code 1 (some .long) :: ws) ({ frames := 0, cells := 0, slots := 0, locals := 0 } : Room)) (fun a U => a = #[(.int p1)] ∧ Z.Warmed39 U.vm ∧ U.heap = h0) (fun _ _ _ _ _ => True) (fun _ U o U' => ∃ v L, o = .returned v ∧ Q1 Z p1 h0 n0 v U'.heap L ∧ FrameEnd U o U' L ({ frames := 0, cells := 0, slots := 0, locals := 0 } : Room).cells ({ frames := 0, cells := 0, slots := 0, locals := 0 } : Room).slots) := by
  refine MetFree.of_bodySF (plainFor_of_name pn_1) hisR ?_
  intro p e s m args below meth c s₁ Bd hml0 hP hK
  obtain ⟨rfl, hZ, hh⟩ := hP
  have hx := Bd.exec
  have hby := Bd.bytes
  have hml : c.maxLocals = 1 := hml0
  have hown : s.vm.findClass "com/example/absent_keys/absentkeys/filter/BitArray" = some m.cls := findClass_of_methodNamed Bd.named
  have hnm := (name_of_methodNamed Bd.named Bd.method).1
  have X0 : Stand p l e ({ frames := 0, cells := 0, slots := 0, locals := 0 } : Room) s m #[(.int p1)] below meth c s₁ [] 0 0 := Stand.of_body Bd
  have e0 : s₁.heap = h0 := by rw [← hh, Bd.state]; rfl
  have N0 := Fr.nil n0
  have pre0 : ∀ t, Steps p.tables e below (s₁.setTop (mkF m 0 #[.val (.int p1)] [])) t → Steps p.tables e below (s₁.setTop (entryFrame m #[(.int p1)] 1)) t := fun t k => castTop (ef_1 m p1) k

  obtain ⟨fs, hr, hrun, hended, hW, hsame⟩ := X0.leave (v := some (.long (-1 : Int64))) (fun h => by rw [Bd.returns] at h; cases h)
  refine ⟨_, _, pre0 _ ?_, hrun, hended, _, _, rfl, ?_, ⟨_, rfl⟩, hW, hsame.mono (by decide) (by decide)⟩
  · show Steps p.tables e below (s₁.setTop (mkF m 0 #[.val (.int p1)] [])) _
    refine XS.iloadN X0.here hx rfl (hb hby d1_0) rfl ?_
    show Steps p.tables e below (s₁.setTop (mkF m 1 #[.val (.int p1)] [(.int p1)])) _
    refine XS.bipush X0.here hx rfl (hb hby d1_1) ?_
    show Steps p.tables e below (s₁.setTop (mkF m 3 #[.val (.int p1)] [(.int (64 : Int32)), (.int p1)])) _
    refine XS.icmpNo X0.here hx rfl (hb hby d1_3) rfl (teq hc3).2 ?_
    show Steps p.tables e below (s₁.setTop (mkF m 6 #[.val (.int p1)] [])) _
    refine X0.ldc2Long hx hown (mvT hZ (hw _ (List.mem_of_getElem? (i := 4) rfl))) (g := (mkF m 6 #[.val (.int p1)] [])) rfl (hb hby d1_6) _ ?_
    show Steps p.tables e below (s₁.setTop (mkF m 9 #[.val (.int p1)] [(.long (-1 : Int64))])) _
    refine XS.goto X0.here hx rfl (pc0 := 9) (pc' := 17) rfl (hb hby d1_9) (by decide) (by decide) ?_
    show Steps p.tables e below (s₁.setTop (mkF m 17 #[.val (.int p1)] [(.long (-1 : Int64))])) _
    exact X0.lreturnOut hx Bd.returns (hb hby d1_17) hr
  · show Q1 Z p1 h0 n0 _ s₁.heap _
    rw [e0]
    exact ⟨congrArg (fun z => some (Value.long z)) ((if_pos hc3).symm), N0, rfl⟩

theorem rm1 (l : Launch) (Z : State) (a0 : Array Value) (hw : ∀ d ∈ tables_1, d.before a0 Z = true) (ws : List Jvm.Cond) (p1 : Int32) (h0 : Heap) (n0 : Nat) (Z0 : n0 ≤ h0.size) :
    MetFree l (⟨"com/example/absent_keys/absentkeys/filter/BitArray", "lowBits", "(I)J"⟩ : MethodName) (head1 (Jvm.Cond.code (⟨"com/example/absent_keys/absentkeys/filter/BitArray", "lowBits", "(I)J"⟩ : MethodName) prog_7_method_19_code 1 (some .long) :: ws) ({ frames := 0, cells := 0, slots := 0, locals := 0 } : Room)) (fun a U => a = #[(.int p1)] ∧ Z.Warmed39 U.vm ∧ U.heap = h0) (fun _ _ _ _ _ => True) (fun _ U o U' => ∃ v L, o = .returned v ∧ Q1 Z p1 h0 n0 v U'.heap L ∧ FrameEnd U o U' L ({ frames := 0, cells := 0, slots := 0, locals := 0 } : Room).cells ({ frames := 0, cells := 0, slots := 0, locals := 0 } : Room).slots) := by
  by_cases hc3 : p1 = (64 : Int32)
  · exact rm1_f l Z a0 hw ws p1 h0 n0 Z0 hc3
  · exact rm1_t l Z a0 hw ws p1 h0 n0 Z0 hc3
theorem pn_0 : plainName "com/example/absent_keys/absentkeys/filter/BitArrayLowBitsPinLaw" = true := by first | (simp [plainName, overriddenIn]; done) | decide +kernel
theorem pd_0_0 : parseMethodDescriptor "(I)J" = some ⟨[.int], some .long⟩ := by decide +kernel
theorem ef_0 (m : MethodId) (x0 : Int32) (x1 : Int32) : entryFrame m #[(.int x0), (.int x1)] maxLocals = mkF m 0 #[.val (.int x0), .val (.int x1), .unset, .unset, .unset, .unset, .unset, .unset, .unset, .unset, .unset] [] := by first | (simp [entryFrame, mkF, argsToLocals, Value.category, maxLocals]; done) | rfl
def Q0 (Z : State) (p1 : Int32) (p2 : Int32) (h0 : Heap) (n0 : Nat) (v : Option Value) (h : Heap) (L : List Loc) : Prop := v = some (.int (1 : Int32)) ∧ Fr n0 L
set_option maxRecDepth 65536 in
set_option maxHeartbeats 40000000 in
theorem rm0 (l : Launch) (Z : State) (a0 : Array Value) (hw : ∀ d ∈ tables_1, d.before a0 Z = true) (ws : List Jvm.Cond) (p1 : Int32) (p2 : Int32) (h0 : Heap) (n0 : Nat) (Z0 : n0 ≤ h0.size) :
    MetFree l x (head1 (Jvm.Cond.code x code maxLocals ret :: ws) room_1) (fun a U => a = #[(.int p1), (.int p2)] ∧ Z.Warmed39 U.vm ∧ U.heap = h0) (fun _ _ _ _ _ => True) (fun _ U o U' => ∃ v L, o = .returned v ∧ Q0 Z p1 p2 h0 n0 v U'.heap L ∧ FrameEnd U o U' L room_1.cells room_1.slots) := by
  refine MetFree.of_bodySF (plainFor_of_name pn_0) hisR ?_
  intro p e s m args below meth c s₁ Bd hml0 hP hK
  obtain ⟨rfl, hZ, hh⟩ := hP
  have hx := Bd.exec
  have hby := Bd.bytes
  have hml : c.maxLocals = 11 := hml0
  have hown : s.vm.findClass "com/example/absent_keys/absentkeys/filter/BitArrayLowBitsPinLaw" = some m.cls := findClass_of_methodNamed Bd.named
  have hnm := (name_of_methodNamed Bd.named Bd.method).1
  have X0 : Stand p l e room_1 s m #[(.int p1), (.int p2)] below meth c s₁ [] 0 0 := Stand.of_body Bd
  have e0 : s₁.heap = h0 := by rw [← hh, Bd.state]; rfl
  have N0 := Fr.nil n0
  have pre0 : ∀ t, Steps p.tables e below (s₁.setTop (mkF m 0 #[.val (.int p1), .val (.int p2), .unset, .unset, .unset, .unset, .unset, .unset, .unset, .unset, .unset] [])) t → Steps p.tables e below (s₁.setTop (entryFrame m #[(.int p1), (.int p2)] maxLocals)) t := fun t k => castTop (ef_0 m p1 p2) k
  obtain ⟨_, _, ⟨T3, L3, k3, n3⟩, -, X3, ⟨Lc3, hQ3, l3, y3, z3⟩, st3⟩ := Jvm.LawKit.callS X0 hx (y := (⟨"com/example/absent_keys/absentkeys/filter/BitArray", "lowBits", "(I)J"⟩ : MethodName)) hown (mvT hZ (hw _ (List.mem_of_getElem? (i := 0) rfl))) (mvT hZ (hw _ (List.mem_of_getElem? (i := 1) rfl))) (mvT hZ (hw _ (List.mem_of_getElem? (i := 2) rfl))) (mvT hZ (hw _ (List.mem_of_getElem? (i := 3) rfl))) (by decide) (backOf (W := 0) (rm1 l Z a0 hw [] ((p1 &&& (63 : Int32)) + (1 : Int32)) h0 n0 Z0) hZ (hw _ (List.mem_of_getElem? (i := 3) rfl)) (hw _ (List.mem_of_getElem? (i := 2) rfl)) (by decide) (by decide)) (g := (mkF m 13 #[.val (.int p1), .val (.int p2), .val (.int ((p1 &&& (63 : Int32)) + (1 : Int32))), .val (.int (p2 &&& (63 : Int32))), .unset, .unset, .unset, .unset, .unset, .unset, .unset] [(.int ((p1 &&& (63 : Int32)) + (1 : Int32)))])) rfl (by rw [hml]; rfl) (argsL := [(.int ((p1 &&& (63 : Int32)) + (1 : Int32)))]) (rest := []) (lenOf pd_0_0 rfl) rfl (by show 2 * 0 + _ ≤ _; exact Nat.le_of_eq rfl) (hb hby at_13) (fun _ _ => ⟨rfl, e0, (by decide : 0 + 0 ≤ _), (by decide : 0 + 0 ≤ _)⟩)
  dsimp only [Pt.U, Pt.locs, Pt.cells, Pt.slots] at X3 l3 y3 z3 st3 hQ3
  subst l3 y3 z3
  obtain ⟨rfl, N3q, q3h⟩ := hQ3
  have N3 := Fr.app N0 N3q
  obtain ⟨fs, hr, hrun, hended, hW, hsame⟩ := X3.leave (v := some (.int (1 : Int32))) (fun h => by rw [Bd.returns] at h; cases h)
  refine ⟨_, _, pre0 _ ?_, hrun, hended, _, _, rfl, ?_, ⟨_, rfl⟩, hW, hsame.mono (by decide) (by decide)⟩
  · have join65 : ∀ z : Int64, z = (own_lb ((p2 &&& (63 : Int32)) < ((p1 &&& (63 : Int32)) + (1 : Int32)))) → Steps p.tables e below (T3.setTop (mkF m 65 #[.val (.int p1), .val (.int p2), .val (.int ((p1 &&& (63 : Int32)) + (1 : Int32))), .val (.int (p2 &&& (63 : Int32))), .val (.long (own_low ((p1 &&& (63 : Int32)) + (1 : Int32)))), .second, .val (.int (1 : Int32)), .val (.int (1 : Int32)), .unset, .unset, .unset] [(.long z)])) (T3.setFrames fs) := by
      rintro z rfl
      show Steps p.tables e below (T3.setTop (mkF m 65 #[.val (.int p1), .val (.int p2), .val (.int ((p1 &&& (63 : Int32)) + (1 : Int32))), .val (.int (p2 &&& (63 : Int32))), .val (.long (own_low ((p1 &&& (63 : Int32)) + (1 : Int32)))), .second, .val (.int (1 : Int32)), .val (.int (1 : Int32)), .unset, .unset, .unset] [(.long (own_lb ((p2 &&& (63 : Int32)) < ((p1 &&& (63 : Int32)) + (1 : Int32)))))])) _
      refine XS.lstore X3.here hx rfl (hb hby at_65) rfl (l' := #[.val (.int p1), .val (.int p2), .val (.int ((p1 &&& (63 : Int32)) + (1 : Int32))), .val (.int (p2 &&& (63 : Int32))), .val (.long (own_low ((p1 &&& (63 : Int32)) + (1 : Int32)))), .second, .val (.int (1 : Int32)), .val (.int (1 : Int32)), .val (.long (own_lb ((p2 &&& (63 : Int32)) < ((p1 &&& (63 : Int32)) + (1 : Int32))))), .second, .unset]) rfl ?_
      show Steps p.tables e below (T3.setTop (mkF m 67 #[.val (.int p1), .val (.int p2), .val (.int ((p1 &&& (63 : Int32)) + (1 : Int32))), .val (.int (p2 &&& (63 : Int32))), .val (.long (own_low ((p1 &&& (63 : Int32)) + (1 : Int32)))), .second, .val (.int (1 : Int32)), .val (.int (1 : Int32)), .val (.long (own_lb ((p2 &&& (63 : Int32)) < ((p1 &&& (63 : Int32)) + (1 : Int32))))), .second, .unset] [])) _
      refine XS.lload X3.here hx rfl (hb hby at_67) rfl ?_
      show Steps p.tables e below (T3.setTop (mkF m 69 #[.val (.int p1), .val (.int p2), .val (.int ((p1 &&& (63 : Int32)) + (1 : Int32))), .val (.int (p2 &&& (63 : Int32))), .val (.long (own_low ((p1 &&& (63 : Int32)) + (1 : Int32)))), .second, .val (.int (1 : Int32)), .val (.int (1 : Int32)), .val (.long (own_lb ((p2 &&& (63 : Int32)) < ((p1 &&& (63 : Int32)) + (1 : Int32))))), .second, .unset] [(.long (own_low ((p1 &&& (63 : Int32)) + (1 : Int32))))])) _
      refine XS.iloadN X3.here hx rfl (hb hby at_69) rfl ?_
      show Steps p.tables e below (T3.setTop (mkF m 70 #[.val (.int p1), .val (.int p2), .val (.int ((p1 &&& (63 : Int32)) + (1 : Int32))), .val (.int (p2 &&& (63 : Int32))), .val (.long (own_low ((p1 &&& (63 : Int32)) + (1 : Int32)))), .second, .val (.int (1 : Int32)), .val (.int (1 : Int32)), .val (.long (own_lb ((p2 &&& (63 : Int32)) < ((p1 &&& (63 : Int32)) + (1 : Int32))))), .second, .unset] [(.int (p2 &&& (63 : Int32))), (.long (own_low ((p1 &&& (63 : Int32)) + (1 : Int32))))])) _
      refine XS.lushr X3.here hx rfl (hb hby at_70) rfl ?_
      show Steps p.tables e below (T3.setTop (mkF m 71 #[.val (.int p1), .val (.int p2), .val (.int ((p1 &&& (63 : Int32)) + (1 : Int32))), .val (.int (p2 &&& (63 : Int32))), .val (.long (own_low ((p1 &&& (63 : Int32)) + (1 : Int32)))), .second, .val (.int (1 : Int32)), .val (.int (1 : Int32)), .val (.long (own_lb ((p2 &&& (63 : Int32)) < ((p1 &&& (63 : Int32)) + (1 : Int32))))), .second, .unset] [(.long (((own_low ((p1 &&& (63 : Int32)) + (1 : Int32))).toUInt64 >>> ((p2 &&& (63 : Int32)) &&& 0x3f).toInt64.toUInt64).toInt64))])) _
      refine XS.lconst X3.here hx rfl (hb hby at_71) ?_
      show Steps p.tables e below (T3.setTop (mkF m 72 #[.val (.int p1), .val (.int p2), .val (.int ((p1 &&& (63 : Int32)) + (1 : Int32))), .val (.int (p2 &&& (63 : Int32))), .val (.long (own_low ((p1 &&& (63 : Int32)) + (1 : Int32)))), .second, .val (.int (1 : Int32)), .val (.int (1 : Int32)), .val (.long (own_lb ((p2 &&& (63 : Int32)) < ((p1 &&& (63 : Int32)) + (1 : Int32))))), .second, .unset] [(.long (1 : Int64)), (.long (((own_low ((p1 &&& (63 : Int32)) + (1 : Int32))).toUInt64 >>> ((p2 &&& (63 : Int32)) &&& 0x3f).toInt64.toUInt64).toInt64))])) _
      refine XS.land X3.here hx rfl (hb hby at_72) rfl ?_
      show Steps p.tables e below (T3.setTop (mkF m 73 #[.val (.int p1), .val (.int p2), .val (.int ((p1 &&& (63 : Int32)) + (1 : Int32))), .val (.int (p2 &&& (63 : Int32))), .val (.long (own_low ((p1 &&& (63 : Int32)) + (1 : Int32)))), .second, .val (.int (1 : Int32)), .val (.int (1 : Int32)), .val (.long (own_lb ((p2 &&& (63 : Int32)) < ((p1 &&& (63 : Int32)) + (1 : Int32))))), .second, .unset] [(.long ((((own_low ((p1 &&& (63 : Int32)) + (1 : Int32))).toUInt64 >>> ((p2 &&& (63 : Int32)) &&& 0x3f).toInt64.toUInt64).toInt64) &&& (1 : Int64)))])) _
      refine XS.lload X3.here hx rfl (hb hby at_73) rfl ?_
      show Steps p.tables e below (T3.setTop (mkF m 75 #[.val (.int p1), .val (.int p2), .val (.int ((p1 &&& (63 : Int32)) + (1 : Int32))), .val (.int (p2 &&& (63 : Int32))), .val (.long (own_low ((p1 &&& (63 : Int32)) + (1 : Int32)))), .second, .val (.int (1 : Int32)), .val (.int (1 : Int32)), .val (.long (own_lb ((p2 &&& (63 : Int32)) < ((p1 &&& (63 : Int32)) + (1 : Int32))))), .second, .unset] [(.long (own_lb ((p2 &&& (63 : Int32)) < ((p1 &&& (63 : Int32)) + (1 : Int32))))), (.long ((((own_low ((p1 &&& (63 : Int32)) + (1 : Int32))).toUInt64 >>> ((p2 &&& (63 : Int32)) &&& 0x3f).toInt64.toUInt64).toInt64) &&& (1 : Int64)))])) _
      refine XS.lcmp X3.here hx rfl (hb hby at_75) rfl ?_
      show Steps p.tables e below (T3.setTop (mkF m 76 #[.val (.int p1), .val (.int p2), .val (.int ((p1 &&& (63 : Int32)) + (1 : Int32))), .val (.int (p2 &&& (63 : Int32))), .val (.long (own_low ((p1 &&& (63 : Int32)) + (1 : Int32)))), .second, .val (.int (1 : Int32)), .val (.int (1 : Int32)), .val (.long (own_lb ((p2 &&& (63 : Int32)) < ((p1 &&& (63 : Int32)) + (1 : Int32))))), .second, .unset] [(.int (lcmpW ((((own_low ((p1 &&& (63 : Int32)) + (1 : Int32))).toUInt64 >>> ((p2 &&& (63 : Int32)) &&& 0x3f).toInt64.toUInt64).toInt64) &&& (1 : Int64)) (own_lb ((p2 &&& (63 : Int32)) < ((p1 &&& (63 : Int32)) + (1 : Int32))))))])) _
      refine XS.ifNo X3.here hx rfl (hb hby at_76) rfl ((if0 _ _).trans (teq (own_3 p1 p2 : (lcmpW ((((own_low ((p1 &&& (63 : Int32)) + (1 : Int32))).toUInt64 >>> ((p2 &&& (63 : Int32)) &&& 0x3f).toInt64.toUInt64).toInt64) &&& (1 : Int64)) (own_lb ((p2 &&& (63 : Int32)) < ((p1 &&& (63 : Int32)) + (1 : Int32))))) = (0 : Int32))).2) ?_
      show Steps p.tables e below (T3.setTop (mkF m 79 #[.val (.int p1), .val (.int p2), .val (.int ((p1 &&& (63 : Int32)) + (1 : Int32))), .val (.int (p2 &&& (63 : Int32))), .val (.long (own_low ((p1 &&& (63 : Int32)) + (1 : Int32)))), .second, .val (.int (1 : Int32)), .val (.int (1 : Int32)), .val (.long (own_lb ((p2 &&& (63 : Int32)) < ((p1 &&& (63 : Int32)) + (1 : Int32))))), .second, .unset] [])) _
      refine XS.iconst X3.here hx rfl (hb hby at_79) ?_
      show Steps p.tables e below (T3.setTop (mkF m 80 #[.val (.int p1), .val (.int p2), .val (.int ((p1 &&& (63 : Int32)) + (1 : Int32))), .val (.int (p2 &&& (63 : Int32))), .val (.long (own_low ((p1 &&& (63 : Int32)) + (1 : Int32)))), .second, .val (.int (1 : Int32)), .val (.int (1 : Int32)), .val (.long (own_lb ((p2 &&& (63 : Int32)) < ((p1 &&& (63 : Int32)) + (1 : Int32))))), .second, .unset] [(.int (1 : Int32))])) _
      refine XS.goto X3.here hx rfl (pc0 := 80) (pc' := 84) rfl (hb hby at_80) (by decide) (by decide) ?_
      show Steps p.tables e below (T3.setTop (mkF m 84 #[.val (.int p1), .val (.int p2), .val (.int ((p1 &&& (63 : Int32)) + (1 : Int32))), .val (.int (p2 &&& (63 : Int32))), .val (.long (own_low ((p1 &&& (63 : Int32)) + (1 : Int32)))), .second, .val (.int (1 : Int32)), .val (.int (1 : Int32)), .val (.long (own_lb ((p2 &&& (63 : Int32)) < ((p1 &&& (63 : Int32)) + (1 : Int32))))), .second, .unset] [(.int (1 : Int32))])) _
      refine XS.istore X3.here hx rfl (hb hby at_84) rfl (l' := #[.val (.int p1), .val (.int p2), .val (.int ((p1 &&& (63 : Int32)) + (1 : Int32))), .val (.int (p2 &&& (63 : Int32))), .val (.long (own_low ((p1 &&& (63 : Int32)) + (1 : Int32)))), .second, .val (.int (1 : Int32)), .val (.int (1 : Int32)), .val (.long (own_lb ((p2 &&& (63 : Int32)) < ((p1 &&& (63 : Int32)) + (1 : Int32))))), .second, .val (.int (1 : Int32))]) rfl ?_
      show Steps p.tables e below (T3.setTop (mkF m 86 #[.val (.int p1), .val (.int p2), .val (.int ((p1 &&& (63 : Int32)) + (1 : Int32))), .val (.int (p2 &&& (63 : Int32))), .val (.long (own_low ((p1 &&& (63 : Int32)) + (1 : Int32)))), .second, .val (.int (1 : Int32)), .val (.int (1 : Int32)), .val (.long (own_lb ((p2 &&& (63 : Int32)) < ((p1 &&& (63 : Int32)) + (1 : Int32))))), .second, .val (.int (1 : Int32))] [])) _
      refine XS.iload X3.here hx rfl (hb hby at_86) rfl ?_
      show Steps p.tables e below (T3.setTop (mkF m 88 #[.val (.int p1), .val (.int p2), .val (.int ((p1 &&& (63 : Int32)) + (1 : Int32))), .val (.int (p2 &&& (63 : Int32))), .val (.long (own_low ((p1 &&& (63 : Int32)) + (1 : Int32)))), .second, .val (.int (1 : Int32)), .val (.int (1 : Int32)), .val (.long (own_lb ((p2 &&& (63 : Int32)) < ((p1 &&& (63 : Int32)) + (1 : Int32))))), .second, .val (.int (1 : Int32))] [(.int (1 : Int32))])) _
      refine XS.ifNo X3.here hx rfl (hb hby at_88) rfl ((if0 _ _).trans (feq ((by decide) : ¬ ((1 : Int32) = (0 : Int32)))).1) ?_
      show Steps p.tables e below (T3.setTop (mkF m 91 #[.val (.int p1), .val (.int p2), .val (.int ((p1 &&& (63 : Int32)) + (1 : Int32))), .val (.int (p2 &&& (63 : Int32))), .val (.long (own_low ((p1 &&& (63 : Int32)) + (1 : Int32)))), .second, .val (.int (1 : Int32)), .val (.int (1 : Int32)), .val (.long (own_lb ((p2 &&& (63 : Int32)) < ((p1 &&& (63 : Int32)) + (1 : Int32))))), .second, .val (.int (1 : Int32))] [])) _
      refine XS.iload X3.here hx rfl (hb hby at_91) rfl ?_
      show Steps p.tables e below (T3.setTop (mkF m 93 #[.val (.int p1), .val (.int p2), .val (.int ((p1 &&& (63 : Int32)) + (1 : Int32))), .val (.int (p2 &&& (63 : Int32))), .val (.long (own_low ((p1 &&& (63 : Int32)) + (1 : Int32)))), .second, .val (.int (1 : Int32)), .val (.int (1 : Int32)), .val (.long (own_lb ((p2 &&& (63 : Int32)) < ((p1 &&& (63 : Int32)) + (1 : Int32))))), .second, .val (.int (1 : Int32))] [(.int (1 : Int32))])) _
      refine XS.ifNo X3.here hx rfl (hb hby at_93) rfl ((if0 _ _).trans (feq ((by decide) : ¬ ((1 : Int32) = (0 : Int32)))).1) ?_
      show Steps p.tables e below (T3.setTop (mkF m 96 #[.val (.int p1), .val (.int p2), .val (.int ((p1 &&& (63 : Int32)) + (1 : Int32))), .val (.int (p2 &&& (63 : Int32))), .val (.long (own_low ((p1 &&& (63 : Int32)) + (1 : Int32)))), .second, .val (.int (1 : Int32)), .val (.int (1 : Int32)), .val (.long (own_lb ((p2 &&& (63 : Int32)) < ((p1 &&& (63 : Int32)) + (1 : Int32))))), .second, .val (.int (1 : Int32))] [])) _
      refine XS.iload X3.here hx rfl (hb hby at_96) rfl ?_
      show Steps p.tables e below (T3.setTop (mkF m 98 #[.val (.int p1), .val (.int p2), .val (.int ((p1 &&& (63 : Int32)) + (1 : Int32))), .val (.int (p2 &&& (63 : Int32))), .val (.long (own_low ((p1 &&& (63 : Int32)) + (1 : Int32)))), .second, .val (.int (1 : Int32)), .val (.int (1 : Int32)), .val (.long (own_lb ((p2 &&& (63 : Int32)) < ((p1 &&& (63 : Int32)) + (1 : Int32))))), .second, .val (.int (1 : Int32))] [(.int (1 : Int32))])) _
      refine XS.ifNo X3.here hx rfl (hb hby at_98) rfl ((if0 _ _).trans (feq ((by decide) : ¬ ((1 : Int32) = (0 : Int32)))).1) ?_
      show Steps p.tables e below (T3.setTop (mkF m 101 #[.val (.int p1), .val (.int p2), .val (.int ((p1 &&& (63 : Int32)) + (1 : Int32))), .val (.int (p2 &&& (63 : Int32))), .val (.long (own_low ((p1 &&& (63 : Int32)) + (1 : Int32)))), .second, .val (.int (1 : Int32)), .val (.int (1 : Int32)), .val (.long (own_lb ((p2 &&& (63 : Int32)) < ((p1 &&& (63 : Int32)) + (1 : Int32))))), .second, .val (.int (1 : Int32))] [])) _
      refine XS.iconst X3.here hx rfl (hb hby at_101) ?_
      show Steps p.tables e below (T3.setTop (mkF m 102 #[.val (.int p1), .val (.int p2), .val (.int ((p1 &&& (63 : Int32)) + (1 : Int32))), .val (.int (p2 &&& (63 : Int32))), .val (.long (own_low ((p1 &&& (63 : Int32)) + (1 : Int32)))), .second, .val (.int (1 : Int32)), .val (.int (1 : Int32)), .val (.long (own_lb ((p2 &&& (63 : Int32)) < ((p1 &&& (63 : Int32)) + (1 : Int32))))), .second, .val (.int (1 : Int32))] [(.int (1 : Int32))])) _
      refine XS.goto X3.here hx rfl (pc0 := 102) (pc' := 106) rfl (hb hby at_102) (by decide) (by decide) ?_
      exact retN X3 hx (t := .boolean) Bd.returns (by simp) (hb hby at_106) hr
    show Steps p.tables e below (s₁.setTop (mkF m 0 #[.val (.int p1), .val (.int p2), .unset, .unset, .unset, .unset, .unset, .unset, .unset, .unset, .unset] [])) _
    refine XS.iloadN X0.here hx rfl (hb hby at_0) rfl ?_
    show Steps p.tables e below (s₁.setTop (mkF m 1 #[.val (.int p1), .val (.int p2), .unset, .unset, .unset, .unset, .unset, .unset, .unset, .unset, .unset] [(.int p1)])) _
    refine XS.bipush X0.here hx rfl (hb hby at_1) ?_
    show Steps p.tables e below (s₁.setTop (mkF m 3 #[.val (.int p1), .val (.int p2), .unset, .unset, .unset, .unset, .unset, .unset, .unset, .unset, .unset] [(.int (63 : Int32)), (.int p1)])) _
    refine XS.iand X0.here hx rfl (hb hby at_3) rfl ?_
    show Steps p.tables e below (s₁.setTop (mkF m 4 #[.val (.int p1), .val (.int p2), .unset, .unset, .unset, .unset, .unset, .unset, .unset, .unset, .unset] [(.int (p1 &&& (63 : Int32)))])) _
    refine XS.iconst X0.here hx rfl (hb hby at_4) ?_
    show Steps p.tables e below (s₁.setTop (mkF m 5 #[.val (.int p1), .val (.int p2), .unset, .unset, .unset, .unset, .unset, .unset, .unset, .unset, .unset] [(.int (1 : Int32)), (.int (p1 &&& (63 : Int32)))])) _
    refine XS.iadd X0.here hx rfl (hb hby at_5) rfl ?_
    show Steps p.tables e below (s₁.setTop (mkF m 6 #[.val (.int p1), .val (.int p2), .unset, .unset, .unset, .unset, .unset, .unset, .unset, .unset, .unset] [(.int ((p1 &&& (63 : Int32)) + (1 : Int32)))])) _
    refine XS.istoreN X0.here hx rfl (hb hby at_6) rfl (l' := #[.val (.int p1), .val (.int p2), .val (.int ((p1 &&& (63 : Int32)) + (1 : Int32))), .unset, .unset, .unset, .unset, .unset, .unset, .unset, .unset]) rfl ?_
    show Steps p.tables e below (s₁.setTop (mkF m 7 #[.val (.int p1), .val (.int p2), .val (.int ((p1 &&& (63 : Int32)) + (1 : Int32))), .unset, .unset, .unset, .unset, .unset, .unset, .unset, .unset] [])) _
    refine XS.iloadN X0.here hx rfl (hb hby at_7) rfl ?_
    show Steps p.tables e below (s₁.setTop (mkF m 8 #[.val (.int p1), .val (.int p2), .val (.int ((p1 &&& (63 : Int32)) + (1 : Int32))), .unset, .unset, .unset, .unset, .unset, .unset, .unset, .unset] [(.int p2)])) _
    refine XS.bipush X0.here hx rfl (hb hby at_8) ?_
    show Steps p.tables e below (s₁.setTop (mkF m 10 #[.val (.int p1), .val (.int p2), .val (.int ((p1 &&& (63 : Int32)) + (1 : Int32))), .unset, .unset, .unset, .unset, .unset, .unset, .unset, .unset] [(.int (63 : Int32)), (.int p2)])) _
    refine XS.iand X0.here hx rfl (hb hby at_10) rfl ?_
    show Steps p.tables e below (s₁.setTop (mkF m 11 #[.val (.int p1), .val (.int p2), .val (.int ((p1 &&& (63 : Int32)) + (1 : Int32))), .unset, .unset, .unset, .unset, .unset, .unset, .unset, .unset] [(.int (p2 &&& (63 : Int32)))])) _
    refine XS.istoreN X0.here hx rfl (hb hby at_11) rfl (l' := #[.val (.int p1), .val (.int p2), .val (.int ((p1 &&& (63 : Int32)) + (1 : Int32))), .val (.int (p2 &&& (63 : Int32))), .unset, .unset, .unset, .unset, .unset, .unset, .unset]) rfl ?_
    show Steps p.tables e below (s₁.setTop (mkF m 12 #[.val (.int p1), .val (.int p2), .val (.int ((p1 &&& (63 : Int32)) + (1 : Int32))), .val (.int (p2 &&& (63 : Int32))), .unset, .unset, .unset, .unset, .unset, .unset, .unset] [])) _
    refine XS.iloadN X0.here hx rfl (hb hby at_12) rfl ?_
    show Steps p.tables e below (s₁.setTop (mkF m 13 #[.val (.int p1), .val (.int p2), .val (.int ((p1 &&& (63 : Int32)) + (1 : Int32))), .val (.int (p2 &&& (63 : Int32))), .unset, .unset, .unset, .unset, .unset, .unset, .unset] [(.int ((p1 &&& (63 : Int32)) + (1 : Int32)))])) _
    refine st3 _ ?_
    show Steps p.tables e below (T3.setTop (mkF m 16 #[.val (.int p1), .val (.int p2), .val (.int ((p1 &&& (63 : Int32)) + (1 : Int32))), .val (.int (p2 &&& (63 : Int32))), .unset, .unset, .unset, .unset, .unset, .unset, .unset] [(.long (own_low ((p1 &&& (63 : Int32)) + (1 : Int32))))])) _
    refine XS.lstore X3.here hx rfl (hb hby at_16) rfl (l' := #[.val (.int p1), .val (.int p2), .val (.int ((p1 &&& (63 : Int32)) + (1 : Int32))), .val (.int (p2 &&& (63 : Int32))), .val (.long (own_low ((p1 &&& (63 : Int32)) + (1 : Int32)))), .second, .unset, .unset, .unset, .unset, .unset]) rfl ?_
    show Steps p.tables e below (T3.setTop (mkF m 18 #[.val (.int p1), .val (.int p2), .val (.int ((p1 &&& (63 : Int32)) + (1 : Int32))), .val (.int (p2 &&& (63 : Int32))), .val (.long (own_low ((p1 &&& (63 : Int32)) + (1 : Int32)))), .second, .unset, .unset, .unset, .unset, .unset] [])) _
    refine XS.lload X3.here hx rfl (hb hby at_18) rfl ?_
    show Steps p.tables e below (T3.setTop (mkF m 20 #[.val (.int p1), .val (.int p2), .val (.int ((p1 &&& (63 : Int32)) + (1 : Int32))), .val (.int (p2 &&& (63 : Int32))), .val (.long (own_low ((p1 &&& (63 : Int32)) + (1 : Int32)))), .second, .unset, .unset, .unset, .unset, .unset] [(.long (own_low ((p1 &&& (63 : Int32)) + (1 : Int32))))])) _
    refine XS.lload X3.here hx rfl (hb hby at_20) rfl ?_
    show Steps p.tables e below (T3.setTop (mkF m 22 #[.val (.int p1), .val (.int p2), .val (.int ((p1 &&& (63 : Int32)) + (1 : Int32))), .val (.int (p2 &&& (63 : Int32))), .val (.long (own_low ((p1 &&& (63 : Int32)) + (1 : Int32)))), .second, .unset, .unset, .unset, .unset, .unset] [(.long (own_low ((p1 &&& (63 : Int32)) + (1 : Int32)))), (.long (own_low ((p1 &&& (63 : Int32)) + (1 : Int32))))])) _
    refine XS.lconst X3.here hx rfl (hb hby at_22) ?_
    show Steps p.tables e below (T3.setTop (mkF m 23 #[.val (.int p1), .val (.int p2), .val (.int ((p1 &&& (63 : Int32)) + (1 : Int32))), .val (.int (p2 &&& (63 : Int32))), .val (.long (own_low ((p1 &&& (63 : Int32)) + (1 : Int32)))), .second, .unset, .unset, .unset, .unset, .unset] [(.long (1 : Int64)), (.long (own_low ((p1 &&& (63 : Int32)) + (1 : Int32)))), (.long (own_low ((p1 &&& (63 : Int32)) + (1 : Int32))))])) _
    refine XS.ladd X3.here hx rfl (hb hby at_23) rfl ?_
    show Steps p.tables e below (T3.setTop (mkF m 24 #[.val (.int p1), .val (.int p2), .val (.int ((p1 &&& (63 : Int32)) + (1 : Int32))), .val (.int (p2 &&& (63 : Int32))), .val (.long (own_low ((p1 &&& (63 : Int32)) + (1 : Int32)))), .second, .unset, .unset, .unset, .unset, .unset] [(.long ((own_low ((p1 &&& (63 : Int32)) + (1 : Int32))) + (1 : Int64))), (.long (own_low ((p1 &&& (63 : Int32)) + (1 : Int32))))])) _
    refine XS.land X3.here hx rfl (hb hby at_24) rfl ?_
    show Steps p.tables e below (T3.setTop (mkF m 25 #[.val (.int p1), .val (.int p2), .val (.int ((p1 &&& (63 : Int32)) + (1 : Int32))), .val (.int (p2 &&& (63 : Int32))), .val (.long (own_low ((p1 &&& (63 : Int32)) + (1 : Int32)))), .second, .unset, .unset, .unset, .unset, .unset] [(.long ((own_low ((p1 &&& (63 : Int32)) + (1 : Int32))) &&& ((own_low ((p1 &&& (63 : Int32)) + (1 : Int32))) + (1 : Int64))))])) _
    refine XS.lconst X3.here hx rfl (hb hby at_25) ?_
    show Steps p.tables e below (T3.setTop (mkF m 26 #[.val (.int p1), .val (.int p2), .val (.int ((p1 &&& (63 : Int32)) + (1 : Int32))), .val (.int (p2 &&& (63 : Int32))), .val (.long (own_low ((p1 &&& (63 : Int32)) + (1 : Int32)))), .second, .unset, .unset, .unset, .unset, .unset] [(.long (0 : Int64)), (.long ((own_low ((p1 &&& (63 : Int32)) + (1 : Int32))) &&& ((own_low ((p1 &&& (63 : Int32)) + (1 : Int32))) + (1 : Int64))))])) _
    refine XS.lcmp X3.here hx rfl (hb hby at_26) rfl ?_
    show Steps p.tables e below (T3.setTop (mkF m 27 #[.val (.int p1), .val (.int p2), .val (.int ((p1 &&& (63 : Int32)) + (1 : Int32))), .val (.int (p2 &&& (63 : Int32))), .val (.long (own_low ((p1 &&& (63 : Int32)) + (1 : Int32)))), .second, .unset, .unset, .unset, .unset, .unset] [(.int (lcmpW ((own_low ((p1 &&& (63 : Int32)) + (1 : Int32))) &&& ((own_low ((p1 &&& (63 : Int32)) + (1 : Int32))) + (1 : Int64))) (0 : Int64)))])) _
    refine XS.ifNo X3.here hx rfl (hb hby at_27) rfl ((if0 _ _).trans (teq (own_1 p1 : (lcmpW ((own_low ((p1 &&& (63 : Int32)) + (1 : Int32))) &&& ((own_low ((p1 &&& (63 : Int32)) + (1 : Int32))) + (1 : Int64))) (0 : Int64)) = (0 : Int32))).2) ?_
    show Steps p.tables e below (T3.setTop (mkF m 30 #[.val (.int p1), .val (.int p2), .val (.int ((p1 &&& (63 : Int32)) + (1 : Int32))), .val (.int (p2 &&& (63 : Int32))), .val (.long (own_low ((p1 &&& (63 : Int32)) + (1 : Int32)))), .second, .unset, .unset, .unset, .unset, .unset] [])) _
    refine XS.iconst X3.here hx rfl (hb hby at_30) ?_
    show Steps p.tables e below (T3.setTop (mkF m 31 #[.val (.int p1), .val (.int p2), .val (.int ((p1 &&& (63 : Int32)) + (1 : Int32))), .val (.int (p2 &&& (63 : Int32))), .val (.long (own_low ((p1 &&& (63 : Int32)) + (1 : Int32)))), .second, .unset, .unset, .unset, .unset, .unset] [(.int (1 : Int32))])) _
    refine XS.goto X3.here hx rfl (pc0 := 31) (pc' := 35) rfl (hb hby at_31) (by decide) (by decide) ?_
    show Steps p.tables e below (T3.setTop (mkF m 35 #[.val (.int p1), .val (.int p2), .val (.int ((p1 &&& (63 : Int32)) + (1 : Int32))), .val (.int (p2 &&& (63 : Int32))), .val (.long (own_low ((p1 &&& (63 : Int32)) + (1 : Int32)))), .second, .unset, .unset, .unset, .unset, .unset] [(.int (1 : Int32))])) _
    refine XS.istore X3.here hx rfl (hb hby at_35) rfl (l' := #[.val (.int p1), .val (.int p2), .val (.int ((p1 &&& (63 : Int32)) + (1 : Int32))), .val (.int (p2 &&& (63 : Int32))), .val (.long (own_low ((p1 &&& (63 : Int32)) + (1 : Int32)))), .second, .val (.int (1 : Int32)), .unset, .unset, .unset, .unset]) rfl ?_
    show Steps p.tables e below (T3.setTop (mkF m 37 #[.val (.int p1), .val (.int p2), .val (.int ((p1 &&& (63 : Int32)) + (1 : Int32))), .val (.int (p2 &&& (63 : Int32))), .val (.long (own_low ((p1 &&& (63 : Int32)) + (1 : Int32)))), .second, .val (.int (1 : Int32)), .unset, .unset, .unset, .unset] [])) _
    refine XS.lload X3.here hx rfl (hb hby at_37) rfl ?_
    show Steps p.tables e below (T3.setTop (mkF m 39 #[.val (.int p1), .val (.int p2), .val (.int ((p1 &&& (63 : Int32)) + (1 : Int32))), .val (.int (p2 &&& (63 : Int32))), .val (.long (own_low ((p1 &&& (63 : Int32)) + (1 : Int32)))), .second, .val (.int (1 : Int32)), .unset, .unset, .unset, .unset] [(.long (own_low ((p1 &&& (63 : Int32)) + (1 : Int32))))])) _
    refine XS.iloadN X3.here hx rfl (hb hby at_39) rfl ?_
    show Steps p.tables e below (T3.setTop (mkF m 40 #[.val (.int p1), .val (.int p2), .val (.int ((p1 &&& (63 : Int32)) + (1 : Int32))), .val (.int (p2 &&& (63 : Int32))), .val (.long (own_low ((p1 &&& (63 : Int32)) + (1 : Int32)))), .second, .val (.int (1 : Int32)), .unset, .unset, .unset, .unset] [(.int ((p1 &&& (63 : Int32)) + (1 : Int32))), (.long (own_low ((p1 &&& (63 : Int32)) + (1 : Int32))))])) _
    refine XS.iconst X3.here hx rfl (hb hby at_40) ?_
    show Steps p.tables e below (T3.setTop (mkF m 41 #[.val (.int p1), .val (.int p2), .val (.int ((p1 &&& (63 : Int32)) + (1 : Int32))), .val (.int (p2 &&& (63 : Int32))), .val (.long (own_low ((p1 &&& (63 : Int32)) + (1 : Int32)))), .second, .val (.int (1 : Int32)), .unset, .unset, .unset, .unset] [(.int (1 : Int32)), (.int ((p1 &&& (63 : Int32)) + (1 : Int32))), (.long (own_low ((p1 &&& (63 : Int32)) + (1 : Int32))))])) _
    refine XS.isub X3.here hx rfl (hb hby at_41) rfl ?_
    show Steps p.tables e below (T3.setTop (mkF m 42 #[.val (.int p1), .val (.int p2), .val (.int ((p1 &&& (63 : Int32)) + (1 : Int32))), .val (.int (p2 &&& (63 : Int32))), .val (.long (own_low ((p1 &&& (63 : Int32)) + (1 : Int32)))), .second, .val (.int (1 : Int32)), .unset, .unset, .unset, .unset] [(.int (((p1 &&& (63 : Int32)) + (1 : Int32)) - (1 : Int32))), (.long (own_low ((p1 &&& (63 : Int32)) + (1 : Int32))))])) _
    refine XS.lushr X3.here hx rfl (hb hby at_42) rfl ?_
    show Steps p.tables e below (T3.setTop (mkF m 43 #[.val (.int p1), .val (.int p2), .val (.int ((p1 &&& (63 : Int32)) + (1 : Int32))), .val (.int (p2 &&& (63 : Int32))), .val (.long (own_low ((p1 &&& (63 : Int32)) + (1 : Int32)))), .second, .val (.int (1 : Int32)), .unset, .unset, .unset, .unset] [(.long (((own_low ((p1 &&& (63 : Int32)) + (1 : Int32))).toUInt64 >>> ((((p1 &&& (63 : Int32)) + (1 : Int32)) - (1 : Int32)) &&& 0x3f).toInt64.toUInt64).toInt64))])) _
    refine XS.lconst X3.here hx rfl (hb hby at_43) ?_
    show Steps p.tables e below (T3.setTop (mkF m 44 #[.val (.int p1), .val (.int p2), .val (.int ((p1 &&& (63 : Int32)) + (1 : Int32))), .val (.int (p2 &&& (63 : Int32))), .val (.long (own_low ((p1 &&& (63 : Int32)) + (1 : Int32)))), .second, .val (.int (1 : Int32)), .unset, .unset, .unset, .unset] [(.long (1 : Int64)), (.long (((own_low ((p1 &&& (63 : Int32)) + (1 : Int32))).toUInt64 >>> ((((p1 &&& (63 : Int32)) + (1 : Int32)) - (1 : Int32)) &&& 0x3f).toInt64.toUInt64).toInt64))])) _
    refine XS.lcmp X3.here hx rfl (hb hby at_44) rfl ?_
    show Steps p.tables e below (T3.setTop (mkF m 45 #[.val (.int p1), .val (.int p2), .val (.int ((p1 &&& (63 : Int32)) + (1 : Int32))), .val (.int (p2 &&& (63 : Int32))), .val (.long (own_low ((p1 &&& (63 : Int32)) + (1 : Int32)))), .second, .val (.int (1 : Int32)), .unset, .unset, .unset, .unset] [(.int (lcmpW (((own_low ((p1 &&& (63 : Int32)) + (1 : Int32))).toUInt64 >>> ((((p1 &&& (63 : Int32)) + (1 : Int32)) - (1 : Int32)) &&& 0x3f).toInt64.toUInt64).toInt64) (1 : Int64)))])) _
    refine XS.ifNo X3.here hx rfl (hb hby at_45) rfl ((if0 _ _).trans (teq (own_2 p1 : (lcmpW (((own_low ((p1 &&& (63 : Int32)) + (1 : Int32))).toUInt64 >>> ((((p1 &&& (63 : Int32)) + (1 : Int32)) - (1 : Int32)) &&& 0x3f).toInt64.toUInt64).toInt64) (1 : Int64)) = (0 : Int32))).2) ?_
    show Steps p.tables e below (T3.setTop (mkF m 48 #[.val (.int p1), .val (.int p2), .val (.int ((p1 &&& (63 : Int32)) + (1 : Int32))), .val (.int (p2 &&& (63 : Int32))), .val (.long (own_low ((p1 &&& (63 : Int32)) + (1 : Int32)))), .second, .val (.int (1 : Int32)), .unset, .unset, .unset, .unset] [])) _
    refine XS.iconst X3.here hx rfl (hb hby at_48) ?_
    show Steps p.tables e below (T3.setTop (mkF m 49 #[.val (.int p1), .val (.int p2), .val (.int ((p1 &&& (63 : Int32)) + (1 : Int32))), .val (.int (p2 &&& (63 : Int32))), .val (.long (own_low ((p1 &&& (63 : Int32)) + (1 : Int32)))), .second, .val (.int (1 : Int32)), .unset, .unset, .unset, .unset] [(.int (1 : Int32))])) _
    refine XS.goto X3.here hx rfl (pc0 := 49) (pc' := 53) rfl (hb hby at_49) (by decide) (by decide) ?_
    show Steps p.tables e below (T3.setTop (mkF m 53 #[.val (.int p1), .val (.int p2), .val (.int ((p1 &&& (63 : Int32)) + (1 : Int32))), .val (.int (p2 &&& (63 : Int32))), .val (.long (own_low ((p1 &&& (63 : Int32)) + (1 : Int32)))), .second, .val (.int (1 : Int32)), .unset, .unset, .unset, .unset] [(.int (1 : Int32))])) _
    refine XS.istore X3.here hx rfl (hb hby at_53) rfl (l' := #[.val (.int p1), .val (.int p2), .val (.int ((p1 &&& (63 : Int32)) + (1 : Int32))), .val (.int (p2 &&& (63 : Int32))), .val (.long (own_low ((p1 &&& (63 : Int32)) + (1 : Int32)))), .second, .val (.int (1 : Int32)), .val (.int (1 : Int32)), .unset, .unset, .unset]) rfl ?_
    show Steps p.tables e below (T3.setTop (mkF m 55 #[.val (.int p1), .val (.int p2), .val (.int ((p1 &&& (63 : Int32)) + (1 : Int32))), .val (.int (p2 &&& (63 : Int32))), .val (.long (own_low ((p1 &&& (63 : Int32)) + (1 : Int32)))), .second, .val (.int (1 : Int32)), .val (.int (1 : Int32)), .unset, .unset, .unset] [])) _
    refine XS.iloadN X3.here hx rfl (hb hby at_55) rfl ?_
    show Steps p.tables e below (T3.setTop (mkF m 56 #[.val (.int p1), .val (.int p2), .val (.int ((p1 &&& (63 : Int32)) + (1 : Int32))), .val (.int (p2 &&& (63 : Int32))), .val (.long (own_low ((p1 &&& (63 : Int32)) + (1 : Int32)))), .second, .val (.int (1 : Int32)), .val (.int (1 : Int32)), .unset, .unset, .unset] [(.int (p2 &&& (63 : Int32)))])) _
    refine XS.iloadN X3.here hx rfl (hb hby at_56) rfl ?_
    show Steps p.tables e below (T3.setTop (mkF m 57 #[.val (.int p1), .val (.int p2), .val (.int ((p1 &&& (63 : Int32)) + (1 : Int32))), .val (.int (p2 &&& (63 : Int32))), .val (.long (own_low ((p1 &&& (63 : Int32)) + (1 : Int32)))), .second, .val (.int (1 : Int32)), .val (.int (1 : Int32)), .unset, .unset, .unset] [(.int ((p1 &&& (63 : Int32)) + (1 : Int32))), (.int (p2 &&& (63 : Int32)))])) _
    by_cases c57 : (p2 &&& (63 : Int32)) < ((p1 &&& (63 : Int32)) + (1 : Int32))
    · refine XS.icmpNo X3.here hx rfl (hb hby at_57) rfl (tlt (c57 : (p2 &&& (63 : Int32)) < ((p1 &&& (63 : Int32)) + (1 : Int32)))).2.1 ?_
      show Steps p.tables e below (T3.setTop (mkF m 60 #[.val (.int p1), .val (.int p2), .val (.int ((p1 &&& (63 : Int32)) + (1 : Int32))), .val (.int (p2 &&& (63 : Int32))), .val (.long (own_low ((p1 &&& (63 : Int32)) + (1 : Int32)))), .second, .val (.int (1 : Int32)), .val (.int (1 : Int32)), .unset, .unset, .unset] [])) _
      refine XS.lconst X3.here hx rfl (hb hby at_60) ?_
      show Steps p.tables e below (T3.setTop (mkF m 61 #[.val (.int p1), .val (.int p2), .val (.int ((p1 &&& (63 : Int32)) + (1 : Int32))), .val (.int (p2 &&& (63 : Int32))), .val (.long (own_low ((p1 &&& (63 : Int32)) + (1 : Int32)))), .second, .val (.int (1 : Int32)), .val (.int (1 : Int32)), .unset, .unset, .unset] [(.long (1 : Int64))])) _
      refine XS.goto X3.here hx rfl (pc0 := 61) (pc' := 65) rfl (hb hby at_61) (by decide) (by decide) ?_
      exact join65 _ (own_lbt c57)
    · refine XS.icmpYes X3.here hx rfl (pc0 := 57) (pc' := 64) rfl (hb hby at_57) rfl (flt (c57 : ¬ ((p2 &&& (63 : Int32)) < ((p1 &&& (63 : Int32)) + (1 : Int32))))).2.1 (by decide) (by decide) ?_
      show Steps p.tables e below (T3.setTop (mkF m 64 #[.val (.int p1), .val (.int p2), .val (.int ((p1 &&& (63 : Int32)) + (1 : Int32))), .val (.int (p2 &&& (63 : Int32))), .val (.long (own_low ((p1 &&& (63 : Int32)) + (1 : Int32)))), .second, .val (.int (1 : Int32)), .val (.int (1 : Int32)), .unset, .unset, .unset] [])) _
      refine XS.lconst X3.here hx rfl (hb hby at_64) ?_
      exact join65 _ (own_lbf c57)
  · show Q0 Z p1 p2 h0 n0 _ T3.heap _
    exact ⟨rfl, N3⟩
set_option maxRecDepth 65536 in
set_option maxHeartbeats 40000000 in
theorem comes_1 {Post : Tables → Env → Array Value → State → Outcome → State → Prop} (hpost : ∀ tb e args s v u, (limb_1_1.after args s (.returned v) u = true ∧ limb_1_2.after args s (.returned v) u = true ∧ True) → FrameEnd s (.returned v) u (Jvm.fieldLocs frame_1_writes args s ++ Jvm.arrayLocs frame_1_arrays args s ++ Jvm.staticLocs frame_1_statics s) 0 0 → Post tb e args s (.returned v) u) :
    ArmFor flags0 classFile x code maxLocals ret World_1 tables_1 room_1 Calls_1 rest_1 Pre_1 Post := by
  intro l hfl _ _ p e ha hc hk s m args below hf hA hF happ hP
  obtain ⟨hcalls, hrest, hpre⟩ := hP
  obtain ⟨-, -, -, hnamed, -, -, -, hat⟩ := (Spec.applies_iff hf).mp happ
  obtain ⟨hg, hn⟩ := and_e (Cond.before_iff.mp (show (Jvm.Cond.and given_1 narrow_1).before args s = true from hpre))
  obtain ⟨g4, g5⟩ := and_e hg
  obtain ⟨g6, g7⟩ := and_e g5
  obtain ⟨w0, w1, rfl⟩ : ∃ w0 w1 : Value, args = #[w0, w1] := by
    have hs : args.size = 2 := by simpa [Cond.value, given_1] using g4
    obtain ⟨L⟩ := args
    match L, hs with
    | [w0, w1], _ => exact ⟨w0, w1, rfl⟩
  have hw := fun d (hd : d ∈ tables_1) => atoms_spec (ws := Jvm.Cond.code x code maxLocals ret :: tables_1) hat d (List.mem_cons_of_mem _ hd)
  have hfit : Fit s := fun {y c} hc i hi => by
    obtain ⟨ha, rfl⟩ := Array.getElem?_eq_some_iff.mp hc
    have q := List.all_eq_true.mp ((Array.all_eq_true_iff_forall_mem.mp hF) _ (Array.getElem_mem ha)) i (List.mem_range.mpr hi)
    simpa [Array.getElem?_eq_getElem hi] using q
  obtain ⟨i0, ei0⟩ := is_v g6
  obtain rfl : w0 = (.int i0) := Option.some.inj ei0
  obtain ⟨i1, ei1⟩ := is_v g7
  obtain rfl : w1 = (.int i1) := Option.some.inj ei1
  obtain ⟨n, o, h1, h2, h3, _, L, rfl, ⟨rfl, N⟩, hq⟩ := rm0 l s _ hw tables_1 i0 i1 s.heap s.heap.size (Nat.le_refl _) p e ha hc hk s m _ below hf ((Spec.applies_iff_loose hf).mp happ).1 ⟨rfl, State.Warmed39.refl s, rfl⟩ trivial
  refine ⟨n, _, h1, h2, h3, hpost _ _ _ _ _ _ ⟨Cond.after_iff.mpr rfl, Cond.after_iff.mpr (eq_i res_at (Term.int_eval (1)) rfl), trivial⟩ ⟨hq.1, hq.2.1, (hq.2.2.sift fun y hy => Or.inr (N y hy)).mono (by decide) (by decide)⟩⟩
theorem main_1_1 : Claimed_1_1 := comes_1 fun _ _ _ _ _ _ h hF => ⟨h.1, hF⟩
theorem main_1_2 : Claimed_1_2 := comes_1 fun _ _ _ _ _ _ h hF => ⟨h.2.1, hF⟩

end Jvm.Pilot.@@N@@
namespace Jvm.Pilot.@@N@@
open Jvm Jvm.ClassFile Sem Op Lib Jvm.Free Jvm.Stand Jvm.Pilot.@@N@@.Jvm.D
/-! MADE BY PROGRAM (witnessworld.py) out of the Statement's table words and the real class files: 9 classes; the members and pool entries that the words name. The judged class is class 1, her method 1. -/
namespace start1
open Jvm.ClassFile
def u (s : String) : CpInfo := .utf8 (stringToUtf16 s)
/-- a pool by its gaps: so many unusable entries, then the entry; so many at the end -/
def gap : Nat → List CpInfo → List CpInfo
  | 0, r => r
  | n + 1, r => .unusable :: gap n r
def poolList (es : List (Nat × CpInfo)) (last : Nat) : List CpInfo := es.foldr (fun e r => gap e.1 (e.2 :: r)) (gap last [])
def pool (es : List (Nat × CpInfo)) (last : Nat) : Array CpInfo := ⟨poolList es last⟩
def fileOf (pool : Array CpInfo) (this : Nat) (attrs : Array Attribute := #[]) (ms : Array MethodInfo := #[]) (fl : Nat := 33) (sup : Nat := 0) (ifs : Array Nat := #[]) (fds : Array FieldInfo := #[]) : ClassFile where
  minorVersion := 0
  majorVersion := 65
  constantPool := pool
  accessFlags := fl
  thisClass := this
  superClass := sup
  interfaces := ifs
  fields := fds
  methods := ms
  attributes := attrs
def plain (name : String) (sup : Option ClassId) : Class where
  name := name
  kind := .ordinary
  loader := none
  accessFlags := 33
  super := sup
  interfaces := #[]
  cf := none
  fields := #[]
  methods := #[]
  instanceTypes := #[]
  staticTypes := #[]
  resolved := #[]
  callSites := []
  init := .initialized
  statics := none
  mirror := none

def pool0 : Array CpInfo := pool [(5, u "<init>"), (0, u "()V"), (1, .class_ 10), (1, u "java/lang/Object")] 113

def k0m0 : Method := { name := "<init>", desc := "()V", sig := { parameters := [], returnType := none }, accessFlags := 1, code := none }
/-- java/lang/Object -/
def k0 : Class := { plain "java/lang/Object" none with
  accessFlags := 33
  interfaces := #[]
  cf := some (fileOf pool0 8 #[] #[{ accessFlags := 1, nameIndex := 5, descriptorIndex := 6, attributes := #[] }] 33 0 #[] #[])
  fields := #[]
  methods := #[k0m0]
  instanceTypes := #[]
  staticTypes := #[]
  resolved := Array.replicate 124 none
  statics := none }

def pool1 : Array CpInfo := pool [(2, .class_ 4), (1, u "java/lang/Object"), (0, u "<init>"), (0, u "()V"), (0, .methodref 8 9), (0, .class_ 10), (0, .nameAndType 11 12), (0, u "com/example/absent_keys/absentkeys/filter/BitArray"), (0, u "lowBits"), (0, u "(I)J"), (0, .class_ 14), (0, u "com/example/absent_keys/absentkeys/filter/BitArrayLowBitsPinLaw"), (2, u "law"), (0, u "(II)Z")] 3

def k1m0 : Method := { name := "<init>", desc := "()V", sig := { parameters := [], returnType := none }, accessFlags := 2, code := none }
def k1c1 : Code := { maxStack := 6, maxLocals := 11, code := code, exceptionTable := #[], attributes := #[] }
def k1m1 : Method := { name := "law", desc := "(II)Z", sig := { parameters := [.int, .int], returnType := some .boolean }, accessFlags := 9, code := some k1c1 }
/-- com/example/absent_keys/absentkeys/filter/BitArrayLowBitsPinLaw -/
def k1 : Class := { plain "com/example/absent_keys/absentkeys/filter/BitArrayLowBitsPinLaw" (some 0) with
  accessFlags := 49
  interfaces := #[]
  cf := some (fileOf pool1 13 #[] #[{ accessFlags := 2, nameIndex := 5, descriptorIndex := 6, attributes := #[] }, { accessFlags := 9, nameIndex := 17, descriptorIndex := 18, attributes := #[] }] 49 2 #[] #[])
  fields := #[]
  methods := #[k1m0, k1m1]
  instanceTypes := #[]
  staticTypes := #[]
  resolved := Array.replicate 22 none
  statics := none }

def pool2 : Array CpInfo := pool [(6, .class_ 8), (1, u "java/lang/Object"), (3, .class_ 14), (1, u "com/example/absent_keys/absentkeys/filter/BitArray"), (0, u "bits"), (0, u "J"), (2, u "words"), (0, u "[J"), (31, .long 18446744073709551615), (8, u "lowBits"), (0, u "(I)J"), (6, u "MAX_BITS")] 52

def k2c0 : Code := { maxStack := 4, maxLocals := 1, code := prog_7_method_19_code, exceptionTable := #[], attributes := #[] }
def k2m0 : Method := { name := "lowBits", desc := "(I)J", sig := { parameters := [.int], returnType := some .long }, accessFlags := 8, code := some k2c0 }
/-- com/example/absent_keys/absentkeys/filter/BitArray -/
def k2 : Class := { plain "com/example/absent_keys/absentkeys/filter/BitArray" (some 0) with
  accessFlags := 49
  interfaces := #[]
  cf := some (fileOf pool2 12 #[] #[{ accessFlags := 8, nameIndex := 61, descriptorIndex := 62, attributes := #[] }] 49 6 #[] #[{ accessFlags := 25, nameIndex := 69, descriptorIndex := 16, attributes := #[] }, { accessFlags := 18, nameIndex := 15, descriptorIndex := 16, attributes := #[] }, { accessFlags := 18, nameIndex := 19, descriptorIndex := 20, attributes := #[] }])
  fields := #[{ name := "MAX_BITS", type := .long, accessFlags := 25, slot := 0, constantValue := 0 }, { name := "bits", type := .long, accessFlags := 18, slot := 0, constantValue := 0 }, { name := "words", type := (.array .long), accessFlags := 18, slot := 1, constantValue := 0 }]
  methods := #[k2m0]
  instanceTypes := #[.long, (.array .long)]
  staticTypes := #[.long]
  resolved := Array.replicate 122 none
  statics := none }

def pool3 : Array CpInfo := pool [(1, u "java/lang/Cloneable"), (0, .class_ 1), (0, u "java/lang/Object"), (0, .class_ 3)] 3

/-- java/lang/Cloneable -/
def k3 : Class := { plain "java/lang/Cloneable" (some 0) with
  accessFlags := 1537
  interfaces := #[]
  cf := some (fileOf pool3 2 #[] #[] 1537 4 #[] #[])
  fields := #[]
  methods := #[]
  instanceTypes := #[]
  staticTypes := #[]
  resolved := Array.replicate 8 none
  statics := none }

def pool4 : Array CpInfo := pool [(1, u "java/io/Serializable"), (0, .class_ 1), (0, u "java/lang/Object"), (0, .class_ 3)] 3

/-- java/io/Serializable -/
def k4 : Class := { plain "java/io/Serializable" (some 0) with
  accessFlags := 1537
  interfaces := #[]
  cf := some (fileOf pool4 2 #[] #[] 1537 4 #[] #[])
  fields := #[]
  methods := #[]
  instanceTypes := #[]
  staticTypes := #[]
  resolved := Array.replicate 8 none
  statics := none }

/-- the primitive byte -/
def k5 : Class := { plain "byte" none with kind := .primitive 'B', accessFlags := 0x411 }
/-- [B -/
def k6 : Class := { plain "[B" (some 0) with kind := .array 5 .byte, interfaces := #[3, 4], accessFlags := 1041 }

/-- the primitive int -/
def k7 : Class := { plain "int" none with kind := .primitive 'I', accessFlags := 0x411 }
/-- [I -/
def k8 : Class := { plain "[I" (some 0) with kind := .array 7 .int, interfaces := #[3, 4], accessFlags := 1041 }

def heap : Heap := #[]
def classes : Array Class := #[k0, k1, k2, k3, k4, k5, k6, k7, k8]
def interned : List (Array UInt16 × Addr) := []
def slotsUsed : Nat := 0
def theMethod : MethodId := ⟨1, 1⟩
def args0 : Array Value := #[.int 5, .int 3]
def aboutOver (below : List Frame) : State where
  vm := { classes := classes, interned := interned.toArray }
  heap := heap
  slotsUsed := slotsUsed
  threads := #[{ frames := .invoking theMethod args0 :: below }]
def below0 : List Frame := [.native { method := ⟨0, 0⟩, args := #[] }]
def about1 : State := aboutOver below0
def p0 : Program := .bare "" "" ""
def e0 : Env := launch0.env 0 0 0
theorem w_frames : about1.frames = Frame.invoking theMethod args0 :: below0 := rfl
set_option maxRecDepth 65536 in
theorem w_args : argsFit about1.vm theMethod args0 = true := by decide +kernel
set_option maxRecDepth 65536 in
theorem w_heap : heapFits about1 = true := by decide +kernel
set_option maxRecDepth 65536 in
theorem w_runnable : about1.curStatus? = some .runnable := by decide +kernel
set_option maxRecDepth 65536 in
theorem w_alone : about1.alone = true := by decide +kernel
set_option maxRecDepth 65536 in
theorem w_named : about1.methodNamed? x = some theMethod := by decide +kernel
set_option maxRecDepth 65536 in
theorem w_hears : about1.hears theMethod below0 = true := by decide +kernel
set_option maxRecDepth 65536 in
theorem w_ripe : about1.ripe theMethod args0 below0 = true := by decide +kernel
theorem w_running : about1.status = .running := rfl
set_option maxRecDepth 65536 in
theorem w_room : about1.hasRoom e0.platform room_1 = true :=
  launch0.hasRoom_least _ room_1 (by decide +kernel) (by decide +kernel) (by decide +kernel) (by decide +kernel) (by decide +kernel) (by decide +kernel)
theorem allAtoms_all (ts : List Jvm.Cond) (a : Array Jvm.Value) (st : Jvm.State) : (allAtoms ts).before a st = ts.all (fun c => c.before a st) := by
  induction ts with
  | nil => rfl
  | cons c t ih =>
    show (Jvm.Cond.and c (allAtoms t)).before a st = _
    rw [Jvm.Cond.before_and, ih, List.all_cons]
def words1 : List Jvm.Cond := Jvm.Cond.code x code maxLocals ret :: tables_1
/-- a 'code' word, met by the world's own term for the bytes: nothing is compared byte by byte -/
theorem code_word {y : MethodName} {bytes : ByteArray} {mx : Nat} {rt : Option FieldType} {a : Array Value} {s : State} {m : MethodId} {meth : Method} {c : Code} (h1 : s.methodNamed? y = some m) (h2 : s.vm.method? m = some meth) (h3 : meth.code = some c) (h4 : c.code = bytes)
    (h5 : (c.maxLocals == mx && c.exceptionTable.isEmpty && decide (c.maxStack ≤ mostOperands) && decide (meth.sig.returnType = rt) && !meth.locks && decide (parseMethodDescriptor y.desc = some meth.sig)) = true) : (Jvm.Cond.code y bytes mx rt).before a s = true := by
  simp only [Bool.and_eq_true, beq_iff_eq, Bool.not_eq_true', decide_eq_true_eq] at h5
  obtain ⟨⟨⟨⟨⟨g1, g2⟩, g3⟩, g4⟩, g5⟩, g6⟩ := h5
  simp [Cond.before, Cond.holds, Cond.value, h1, h2, h3, h4, g1, g2, g3, g4, g5, g6]
def isCode : Jvm.Cond → Bool
  | .code _ _ _ _ => true
  | _ => false
theorem all_split {L : List Jvm.Cond} {P : Jvm.Cond → Bool} (h1 : L.all (fun c => isCode c || P c) = true) (h2 : ∀ c ∈ L.filter isCode, P c = true) : L.all P = true := by
  refine List.all_eq_true.mpr fun c hc => ?_
  have h := List.all_eq_true.mp h1 c hc
  rcases Bool.eq_false_or_eq_true (isCode c) with hi | hi
  · exact h2 c (List.mem_filter.mpr ⟨hc, hi⟩)
  · simpa [hi] using h
set_option maxRecDepth 65536 in
theorem w_c0 : (Jvm.Cond.code x code maxLocals ret).before args0 about1 = true := code_word (m := ⟨1, 1⟩) (meth := k1m1) (c := k1c1) (by decide +kernel) rfl rfl rfl (by decide +kernel)
set_option maxRecDepth 65536 in
theorem w_c1 : (Jvm.Cond.code ({ cls := "com/example/absent_keys/absentkeys/filter/BitArray", name := "lowBits", desc := "(I)J" } : Jvm.MethodName) prog_7_method_19_code (1 : Nat) (Option.some Jvm.ClassFile.FieldType.long)).before args0 about1 = true := code_word (m := ⟨2, 0⟩) (meth := k2m0) (c := k2c0) (by decide +kernel) rfl rfl rfl (by decide +kernel)
def codes1 : List Jvm.Cond := [Jvm.Cond.code x code maxLocals ret, Jvm.Cond.code ({ cls := "com/example/absent_keys/absentkeys/filter/BitArray", name := "lowBits", desc := "(I)J" } : Jvm.MethodName) prog_7_method_19_code (1 : Nat) (Option.some Jvm.ClassFile.FieldType.long)]
set_option maxRecDepth 65536 in
theorem codes_eq : words1.filter isCode = codes1 := rfl
theorem w_codes : ∀ c ∈ words1.filter isCode, c.before args0 about1 = true := by
  rw [codes_eq]
  intro c hc
  simp only [codes1, List.mem_cons, List.not_mem_nil, or_false] at hc
  rcases hc with rfl | rfl
  · exact w_c0
  · exact w_c1
set_option maxRecDepth 65536 in
theorem w_t1 : words1.all (fun c => isCode c || c.before args0 about1) = true := by decide +kernel
theorem w_tables : (allAtoms (Jvm.Cond.code x code maxLocals ret :: tables_1)).before args0 about1 = true := by
  rw [allAtoms_all]
  show words1.all (fun c => c.before args0 about1) = true
  refine all_split ?_ w_codes
  rw [w_t1]
set_option maxRecDepth 65536 in
theorem w_case : (Jvm.Cond.and given_1 narrow_1).before args0 about1 = true := by decide +kernel
theorem w_applies : (headSpec (Jvm.Cond.code x code maxLocals ret :: tables_1) room_1).applies x e0.platform about1 = true :=
  (Spec.applies_iff w_frames).mpr ⟨w_running, w_runnable, w_alone, w_named, w_hears, w_ripe, w_room, w_tables⟩
theorem atStart : AtStart classFile x code maxLocals ret World_1 tables_1 room_1 Calls_1 rest_1 Pre_1 launch0 p0 e0 about1 theMethod args0 below0 :=
  ⟨lists_1, trivial, launch0.admits_env _ _ _, launch0.least_env, fairChoices_fair.cas, fairChoices_fair.clock, w_frames, w_args, w_heap, w_applies, trivial, trivial, w_case⟩
end start1
theorem witness_1 : WitnessClaimed_1 := ⟨start1.p0, start1.e0, start1.about1, start1.theMethod, start1.args0, start1.below0, start1.atStart⟩
end Jvm.Pilot.@@N@@
