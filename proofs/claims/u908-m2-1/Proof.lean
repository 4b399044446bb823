import JvmDerived
import JvmDerived.Pilot.@@N@@Statement
import JvmDerived.Pilot.@@N@@Code
set_option linter.unusedVariables false
set_option linter.unusedSimpArgs false
namespace Jvm.RoadKit
open Sem ClassFile Op Lib Jvm.Stand Jvm.Free Jvm.LawKit
section New
variable {p : Program} {l : Launch} {e : Env} {R : Room} {s : State} {m : MethodId} {args : Array Value} {below : List Frame} {meth : Method} {c : Code} {T : State} {locs : List Loc} {cells slots : Nat}
theorem retI (X : Stand p l e R s m args below meth c T locs cells slots) (hx : p.tables.exec = Jvm.exec) {pc : Nat} {Ls : Array Slot} {z : Int32} {rest : List Value} (hret : meth.sig.returnType = some .int) (hd : decode c.code pc = .ok (.ireturn, 1)) {fs : List Frame}
    (hl : ∀ (f : JFrame) (acts : List Action), f.method = m → f.locked = none → f.entered = [] → (doReturn e (T.setTop f) acts (some (.int z))).1 = T.setFrames fs) : Steps p.tables e below (T.setTop (mkF m pc Ls (.int z :: rest))) (T.setFrames fs) := by
  have hm' : T.vm.method? m = some meth := X.method'
  have hn : narrow .int (.int z) = .int z := rfl
  show Steps p.tables e below (T.setTop { method := m, pc := pc, locals := Ls, stack := _ :: rest, locked := none }) _
  jvm_step X.here [X.here.top, hx, hd, hm', hret, hn]
  first | (intro acts; rw [hl _ acts rfl rfl rfl]) | rw [hl _ _ rfl rfl rfl]
  exact Steps.refl _
end New
end Jvm.RoadKit
namespace Jvm.Pilot.@@N@@
open Jvm Jvm.ClassFile Sem Op Lib Jvm.Free Jvm.Stand Jvm.LawKit Jvm.RoadKit Bundle Jvm.Pilot.@@N@@.Jvm.D

def own_b (P : Prop) [Decidable P] : Int32 := if P then 1 else 0
theorem own_bt {P : Prop} [Decidable P] (h : P) : (1 : Int32) = own_b P := (if_pos h).symm
theorem own_bf {P : Prop} [Decidable P] (h : ¬ P) : (0 : Int32) = own_b P := (if_neg h).symm
theorem own_bc {P Q : Prop} [Decidable P] [Decidable Q] (h : P ↔ Q) : own_b P = own_b Q := by
  by_cases hp : P
  · rw [← own_bt hp, ← own_bt (h.mp hp)]
  · rw [← own_bf hp, ← own_bf (fun q => hp (h.mpr q))]
theorem own_nb {P : Prop} [Decidable P] : nar .boolean (own_b P) = own_b P := by
  by_cases hp : P
  · rw [← own_bt hp]; rfl
  · rw [← own_bf hp]; rfl
theorem own_bz {P : Prop} [Decidable P] : own_b P = 0 ↔ ¬ P := by
  by_cases hp : P
  · rw [← own_bt hp]; exact ⟨fun h => absurd h (by decide), fun h => absurd hp h⟩
  · rw [← own_bf hp]; exact ⟨fun _ => hp, fun _ => rfl⟩

theorem own_lt {a b : Int32} : a < b ↔ a.toInt < b.toInt := Int32.lt_iff_toInt_lt
theorem own_kle {k : Nat} (h : k < 2 ^ 31) : (Int32.ofNat k).toInt = (k : Int) := Int32.toInt_ofNat_of_lt h
def own_P (c : Int32) : Prop := (97 ≤ c.toInt ∧ c.toInt ≤ 122) ∨ (65 ≤ c.toInt ∧ c.toInt ≤ 90) ∨ (48 ≤ c.toInt ∧ c.toInt ≤ 57)
instance own_Pd (c : Int32) : Decidable (own_P c) := by unfold own_P; infer_instance
def own_R (lo hi d : Int32) : Prop := ¬ d < lo ∧ ¬ hi < d
instance own_Rd (lo hi d : Int32) : Decidable (own_R lo hi d) := by unfold own_R; infer_instance
def own_c (x : Int32) : Int32 := x.toUInt32.toUInt16.toUInt32.toInt32
theorem own_sub {p q : Int32} (low : -2 ^ 31 ≤ p.toInt - q.toInt) (high : p.toInt - q.toInt < 2 ^ 31) : (p - q).toInt = p.toInt - q.toInt := by
  rw [Int32.toInt_sub]
  exact Int.bmod_eq_of_le (by omega) (by omega)
theorem own_or32 (r : Nat) (h : r < 64) : r ||| 32 = if r / 32 % 2 = 1 then r else r + 32 := by
  revert r; decide
theorem own_or (n : Nat) : n ||| 32 = if n / 32 % 2 = 1 then n else n + 32 := by
  have h1 : (n ||| 32) % 2 ^ 6 = n % 2 ^ 6 ||| 32 % 2 ^ 6 := Nat.or_mod_two_pow
  have h2 : (n ||| 32) / 2 ^ 6 = n / 2 ^ 6 ||| 32 / 2 ^ 6 := Nat.or_div_two_pow
  have h3 : (32 : Nat) % 2 ^ 6 = 32 := rfl
  have h4 : (32 : Nat) / 2 ^ 6 = 0 := rfl
  rw [h3, own_or32 _ (Nat.mod_lt _ (by decide))] at h1
  rw [h4, Nat.or_zero] at h2
  generalize n ||| 32 = y at *
  split at h1 <;> split <;> omega
theorem own_small {y : Int32} {n : Nat} (h : y.toBitVec.toNat = n) (hn : n < 2 ^ 31) : y.toInt = (n : Int) := by
  show y.toBitVec.toInt = _
  rw [BitVec.toInt_eq_toNat_cond, h, if_pos (by omega)]
theorem own_cn (x : Int32) : (own_c x).toBitVec.toNat = x.toUInt32.toUInt16.toNat := by
  show (x.toUInt32.toUInt16.toUInt32.toInt32).toBitVec.toNat = _
  rw [UInt32.toBitVec_toInt32]
  rfl
theorem own_orn (c : Int32) : (c ||| 32).toBitVec.toNat = (c.toBitVec.toNat ||| 32) := by
  rw [Int32.toBitVec_or, BitVec.toNat_or]
  rfl
theorem own_law (x : Int32) : own_P (own_c x) ↔ (own_R 0 9 (own_c x - 48) ∨ own_R 0 25 ((own_c x ||| 32) - 97)) := by
  have hb : x.toUInt32.toUInt16.toNat < 65536 := x.toUInt32.toUInt16.toNat_lt
  have h1 := own_small (own_cn x) (by omega)
  have h2 := own_small (own_orn (own_c x)) (by rw [own_cn, own_or]; split <;> omega)
  rw [own_cn, own_or] at h2
  generalize own_c x = c at *
  generalize x.toUInt32.toUInt16.toNat = n at *
  have k48 : (48 : Int32).toInt = 48 := rfl
  have k97 : (97 : Int32).toInt = 97 := rfl
  have k0 : (0 : Int32).toInt = 0 := rfl
  have k9 : (9 : Int32).toInt = 9 := rfl
  have k25 : (25 : Int32).toInt = 25 := rfl
  have b2 : 0 ≤ (c ||| 32).toInt ∧ (c ||| 32).toInt < 65600 := by rw [h2]; split <;> omega
  have s1 : (c - 48).toInt = c.toInt - (48 : Int32).toInt := own_sub (by omega) (by omega)
  have s2 : ((c ||| 32) - 97).toInt = (c ||| 32).toInt - (97 : Int32).toInt := own_sub (by omega) (by omega)
  unfold own_P own_R
  simp only [own_lt]
  rw [s1, s2, k0, k9, k25, k48, k97, h1, h2]
  split <;> omega

theorem d1_0 : decode prog_104_method_3_code 0 = .ok (.iload_n 0, 1) := by decide +kernel
theorem d1_1 : decode prog_104_method_3_code 1 = .ok (.bipush 97, 2) := by decide +kernel
theorem d1_3 : decode prog_104_method_3_code 3 = .ok (.if_icmp .lt 9, 3) := by decide +kernel
theorem d1_6 : decode prog_104_method_3_code 6 = .ok (.iload_n 0, 1) := by decide +kernel
theorem d1_7 : decode prog_104_method_3_code 7 = .ok (.bipush 122, 2) := by decide +kernel
theorem d1_9 : decode prog_104_method_3_code 9 = .ok (.if_icmp .le 27, 3) := by decide +kernel
theorem d1_12 : decode prog_104_method_3_code 12 = .ok (.iload_n 0, 1) := by decide +kernel
theorem d1_13 : decode prog_104_method_3_code 13 = .ok (.bipush 65, 2) := by decide +kernel
theorem d1_15 : decode prog_104_method_3_code 15 = .ok (.if_icmp .lt 9, 3) := by decide +kernel
theorem d1_18 : decode prog_104_method_3_code 18 = .ok (.iload_n 0, 1) := by decide +kernel
theorem d1_19 : decode prog_104_method_3_code 19 = .ok (.bipush 90, 2) := by decide +kernel
theorem d1_21 : decode prog_104_method_3_code 21 = .ok (.if_icmp .le 15, 3) := by decide +kernel
theorem d1_24 : decode prog_104_method_3_code 24 = .ok (.iload_n 0, 1) := by decide +kernel
theorem d1_25 : decode prog_104_method_3_code 25 = .ok (.bipush 48, 2) := by decide +kernel
theorem d1_27 : decode prog_104_method_3_code 27 = .ok (.if_icmp .lt 13, 3) := by decide +kernel
theorem d1_30 : decode prog_104_method_3_code 30 = .ok (.iload_n 0, 1) := by decide +kernel
theorem d1_31 : decode prog_104_method_3_code 31 = .ok (.bipush 57, 2) := by decide +kernel
theorem d1_33 : decode prog_104_method_3_code 33 = .ok (.if_icmp .gt 7, 3) := by decide +kernel
theorem d1_36 : decode prog_104_method_3_code 36 = .ok (.iconst 1, 1) := by decide +kernel
theorem d1_37 : decode prog_104_method_3_code 37 = .ok (.goto 4, 3) := by decide +kernel
theorem d1_40 : decode prog_104_method_3_code 40 = .ok (.iconst 0, 1) := by decide +kernel
theorem d1_41 : decode prog_104_method_3_code 41 = .ok (.ireturn, 1) := by decide +kernel
theorem pn_1 : plainName "com/example/bindery/bindery/http/server/Syntax" = true := by first | (simp [plainName, overriddenIn]; done) | decide +kernel
theorem ef_1 (m : MethodId) (x0 : Int32) : entryFrame m #[(.int x0)] 1 = mkF m 0 #[.val (.int x0)] [] := by first | (simp [entryFrame, mkF, argsToLocals, Value.category]; done) | rfl
def Q1 (Z : State) (p1 : Int32) (h0 : Heap) (n0 : Nat) (v : Option Value) (h : Heap) (L : List Loc) : Prop := v = some (.int (own_b (own_P p1))) ∧ Fr n0 L ∧ h = h0
set_option maxRecDepth 65536 in
set_option maxHeartbeats 40000000 in
theorem rm1 (l : Launch) (Z : State) (a0 : Array Value) (hw : ∀ d ∈ tables_1, d.before a0 Z = true) (ws : List Jvm.Cond) (p1 : Int32) (h0 : Heap) (n0 : Nat) (Z0 : n0 ≤ h0.size) :
    MetFree l (⟨"com/example/bindery/bindery/http/server/Syntax", "isLetterOrDigit", "(C)Z"⟩ : MethodName) (head1 (Jvm.Cond.code (⟨"com/example/bindery/bindery/http/server/Syntax", "isLetterOrDigit", "(C)Z"⟩ : MethodName) prog_104_method_3_code 1 (some .boolean) :: ws) ({ frames := 0, cells := 0, slots := 0, locals := 0 } : Room)) (fun a U => a = #[(.int p1)] ∧ Z.Warmed39 U.vm ∧ U.heap = h0) (fun _ _ _ _ _ => True) (fun _ U o U' => ∃ v L, o = .returned v ∧ Q1 Z p1 h0 n0 v U'.heap L ∧ FrameEnd U o U' L ({ frames := 0, cells := 0, slots := 0, locals := 0 } : Room).cells ({ frames := 0, cells := 0, slots := 0, locals := 0 } : Room).slots) := by
  refine MetFree.of_bodySF (plainFor_of_name pn_1) hisR ?_
  intro p e s m args below meth c s₁ Bd hml0 hP hK
  obtain ⟨rfl, hZ, hh⟩ := hP
  have hx := Bd.exec
  have hby := Bd.bytes
  have hml : c.maxLocals = 1 := hml0
  have hown : s.vm.findClass "com/example/bindery/bindery/http/server/Syntax" = some m.cls := findClass_of_methodNamed Bd.named
  have hnm := (name_of_methodNamed Bd.named Bd.method).1
  have X0 : Stand p l e ({ frames := 0, cells := 0, slots := 0, locals := 0 } : Room) s m #[(.int p1)] below meth c s₁ [] 0 0 := Stand.of_body Bd
  have e0 : s₁.heap = h0 := by rw [← hh, Bd.state]; rfl
  have N0 := Fr.nil n0
  have pre0 : ∀ t, Steps p.tables e below (s₁.setTop (mkF m 0 #[.val (.int p1)] [])) t → Steps p.tables e below (s₁.setTop (entryFrame m #[(.int p1)] 1)) t := fun t k => castTop (ef_1 m p1) k
  obtain ⟨fs, hr, hrun, hended, hW, hsame⟩ := X0.leave (v := some (.int (own_b (own_P p1)))) (fun h => by rw [Bd.returns] at h; cases h)
  refine ⟨_, _, pre0 _ ?_, hrun, hended, _, _, rfl, ?_, ⟨_, rfl⟩, hW, hsame.mono (by decide) (by decide)⟩
  · have join : ∀ z : Int32, z = own_b (own_P p1) → Steps p.tables e below (s₁.setTop (mkF m 41 #[.val (.int p1)] [(.int z)])) (s₁.setFrames fs) := by
      rintro z rfl
      exact retN X0 hx (t := .boolean) Bd.returns (by simp) (hb hby d1_41) (by rw [own_nb]; exact hr)
    have k97 : (97 : Int32).toInt = 97 := rfl
    have k122 : (122 : Int32).toInt = 122 := rfl
    have k65 : (65 : Int32).toInt = 65 := rfl
    have k90 : (90 : Int32).toInt = 90 := rfl
    have k48 : (48 : Int32).toInt = 48 := rfl
    have k57 : (57 : Int32).toInt = 57 := rfl
    show Steps p.tables e below (s₁.setTop (mkF m 0 #[.val (.int p1)] [])) _
    refine XS.iloadN X0.here hx rfl (hb hby d1_0) rfl ?_
    show Steps p.tables e below (s₁.setTop (mkF m 1 #[.val (.int p1)] [(.int p1)])) _
    refine XS.bipush X0.here hx rfl (hb hby d1_1) ?_
    show Steps p.tables e below (s₁.setTop (mkF m 3 #[.val (.int p1)] [(.int (97 : Int32)), (.int p1)])) _
    by_cases c3 : p1 < (97 : Int32)
    · refine XS.icmpYes X0.here hx rfl (pc0 := 3) (pc' := 12) rfl (hb hby d1_3) rfl (tlt (c3 : p1 < (97 : Int32))).1 (by decide) (by decide) ?_
      show Steps p.tables e below (s₁.setTop (mkF m 12 #[.val (.int p1)] [])) _
      refine XS.iloadN X0.here hx rfl (hb hby d1_12) rfl ?_
      show Steps p.tables e below (s₁.setTop (mkF m 13 #[.val (.int p1)] [(.int p1)])) _
      refine XS.bipush X0.here hx rfl (hb hby d1_13) ?_
      show Steps p.tables e below (s₁.setTop (mkF m 15 #[.val (.int p1)] [(.int (65 : Int32)), (.int p1)])) _
      by_cases c15 : p1 < (65 : Int32)
      · refine XS.icmpYes X0.here hx rfl (pc0 := 15) (pc' := 24) rfl (hb hby d1_15) rfl (tlt (c15 : p1 < (65 : Int32))).1 (by decide) (by decide) ?_
        show Steps p.tables e below (s₁.setTop (mkF m 24 #[.val (.int p1)] [])) _
        refine XS.iloadN X0.here hx rfl (hb hby d1_24) rfl ?_
        show Steps p.tables e below (s₁.setTop (mkF m 25 #[.val (.int p1)] [(.int p1)])) _
        refine XS.bipush X0.here hx rfl (hb hby d1_25) ?_
        show Steps p.tables e below (s₁.setTop (mkF m 27 #[.val (.int p1)] [(.int (48 : Int32)), (.int p1)])) _
        by_cases c27 : p1 < (48 : Int32)
        · refine XS.icmpYes X0.here hx rfl (pc0 := 27) (pc' := 40) rfl (hb hby d1_27) rfl (tlt (c27 : p1 < (48 : Int32))).1 (by decide) (by decide) ?_
          show Steps p.tables e below (s₁.setTop (mkF m 40 #[.val (.int p1)] [])) _
          refine XS.iconst X0.here hx rfl (hb hby d1_40) ?_
          exact join _ (own_bf (by simp only [own_lt] at c3 c15 c27; unfold own_P; omega))
        · refine XS.icmpNo X0.here hx rfl (hb hby d1_27) rfl (flt (c27 : ¬ (p1 < (48 : Int32)))).1 ?_
          show Steps p.tables e below (s₁.setTop (mkF m 30 #[.val (.int p1)] [])) _
          refine XS.iloadN X0.here hx rfl (hb hby d1_30) rfl ?_
          show Steps p.tables e below (s₁.setTop (mkF m 31 #[.val (.int p1)] [(.int p1)])) _
          refine XS.bipush X0.here hx rfl (hb hby d1_31) ?_
          show Steps p.tables e below (s₁.setTop (mkF m 33 #[.val (.int p1)] [(.int (57 : Int32)), (.int p1)])) _
          by_cases c33 : (57 : Int32) < p1
          · refine XS.icmpYes X0.here hx rfl (pc0 := 33) (pc' := 40) rfl (hb hby d1_33) rfl (tlt (c33 : (57 : Int32) < p1)).2.2.1 (by decide) (by decide) ?_
            show Steps p.tables e below (s₁.setTop (mkF m 40 #[.val (.int p1)] [])) _
            refine XS.iconst X0.here hx rfl (hb hby d1_40) ?_
            exact join _ (own_bf (by simp only [own_lt] at c3 c15 c27 c33; unfold own_P; omega))
          · refine XS.icmpNo X0.here hx rfl (hb hby d1_33) rfl (flt (c33 : ¬ ((57 : Int32) < p1))).2.2.1 ?_
            show Steps p.tables e below (s₁.setTop (mkF m 36 #[.val (.int p1)] [])) _
            refine XS.iconst X0.here hx rfl (hb hby d1_36) ?_
            show Steps p.tables e below (s₁.setTop (mkF m 37 #[.val (.int p1)] [(.int (1 : Int32))])) _
            refine XS.goto X0.here hx rfl (pc0 := 37) (pc' := 41) rfl (hb hby d1_37) (by decide) (by decide) ?_
            exact join _ (own_bt (by simp only [own_lt] at c3 c15 c27 c33; unfold own_P; omega))
      · refine XS.icmpNo X0.here hx rfl (hb hby d1_15) rfl (flt (c15 : ¬ (p1 < (65 : Int32)))).1 ?_
        show Steps p.tables e below (s₁.setTop (mkF m 18 #[.val (.int p1)] [])) _
        refine XS.iloadN X0.here hx rfl (hb hby d1_18) rfl ?_
        show Steps p.tables e below (s₁.setTop (mkF m 19 #[.val (.int p1)] [(.int p1)])) _
        refine XS.bipush X0.here hx rfl (hb hby d1_19) ?_
        show Steps p.tables e below (s₁.setTop (mkF m 21 #[.val (.int p1)] [(.int (90 : Int32)), (.int p1)])) _
        by_cases c21 : (90 : Int32) < p1
        · refine XS.icmpNo X0.here hx rfl (hb hby d1_21) rfl (tlt (c21 : (90 : Int32) < p1)).2.2.2 ?_
          show Steps p.tables e below (s₁.setTop (mkF m 24 #[.val (.int p1)] [])) _
          refine XS.iloadN X0.here hx rfl (hb hby d1_24) rfl ?_
          show Steps p.tables e below (s₁.setTop (mkF m 25 #[.val (.int p1)] [(.int p1)])) _
          refine XS.bipush X0.here hx rfl (hb hby d1_25) ?_
          show Steps p.tables e below (s₁.setTop (mkF m 27 #[.val (.int p1)] [(.int (48 : Int32)), (.int p1)])) _
          by_cases c27 : p1 < (48 : Int32)
          · refine XS.icmpYes X0.here hx rfl (pc0 := 27) (pc' := 40) rfl (hb hby d1_27) rfl (tlt (c27 : p1 < (48 : Int32))).1 (by decide) (by decide) ?_
            show Steps p.tables e below (s₁.setTop (mkF m 40 #[.val (.int p1)] [])) _
            refine XS.iconst X0.here hx rfl (hb hby d1_40) ?_
            exact join _ (own_bf (by simp only [own_lt] at c3 c15 c21 c27; unfold own_P; omega))
          · refine XS.icmpNo X0.here hx rfl (hb hby d1_27) rfl (flt (c27 : ¬ (p1 < (48 : Int32)))).1 ?_
            show Steps p.tables e below (s₁.setTop (mkF m 30 #[.val (.int p1)] [])) _
            refine XS.iloadN X0.here hx rfl (hb hby d1_30) rfl ?_
            show Steps p.tables e below (s₁.setTop (mkF m 31 #[.val (.int p1)] [(.int p1)])) _
            refine XS.bipush X0.here hx rfl (hb hby d1_31) ?_
            show Steps p.tables e below (s₁.setTop (mkF m 33 #[.val (.int p1)] [(.int (57 : Int32)), (.int p1)])) _
            by_cases c33 : (57 : Int32) < p1
            · refine XS.icmpYes X0.here hx rfl (pc0 := 33) (pc' := 40) rfl (hb hby d1_33) rfl (tlt (c33 : (57 : Int32) < p1)).2.2.1 (by decide) (by decide) ?_
              show Steps p.tables e below (s₁.setTop (mkF m 40 #[.val (.int p1)] [])) _
              refine XS.iconst X0.here hx rfl (hb hby d1_40) ?_
              exact join _ (own_bf (by simp only [own_lt] at c3 c15 c21 c27 c33; unfold own_P; omega))
            · refine XS.icmpNo X0.here hx rfl (hb hby d1_33) rfl (flt (c33 : ¬ ((57 : Int32) < p1))).2.2.1 ?_
              show Steps p.tables e below (s₁.setTop (mkF m 36 #[.val (.int p1)] [])) _
              refine XS.iconst X0.here hx rfl (hb hby d1_36) ?_
              show Steps p.tables e below (s₁.setTop (mkF m 37 #[.val (.int p1)] [(.int (1 : Int32))])) _
              refine XS.goto X0.here hx rfl (pc0 := 37) (pc' := 41) rfl (hb hby d1_37) (by decide) (by decide) ?_
              exact join _ (own_bt (by simp only [own_lt] at c3 c15 c21 c27 c33; unfold own_P; omega))
        · refine XS.icmpYes X0.here hx rfl (pc0 := 21) (pc' := 36) rfl (hb hby d1_21) rfl (flt (c21 : ¬ ((90 : Int32) < p1))).2.2.2 (by decide) (by decide) ?_
          show Steps p.tables e below (s₁.setTop (mkF m 36 #[.val (.int p1)] [])) _
          refine XS.iconst X0.here hx rfl (hb hby d1_36) ?_
          show Steps p.tables e below (s₁.setTop (mkF m 37 #[.val (.int p1)] [(.int (1 : Int32))])) _
          refine XS.goto X0.here hx rfl (pc0 := 37) (pc' := 41) rfl (hb hby d1_37) (by decide) (by decide) ?_
          exact join _ (own_bt (by simp only [own_lt] at c3 c15 c21; unfold own_P; omega))
    · refine XS.icmpNo X0.here hx rfl (hb hby d1_3) rfl (flt (c3 : ¬ (p1 < (97 : Int32)))).1 ?_
      show Steps p.tables e below (s₁.setTop (mkF m 6 #[.val (.int p1)] [])) _
      refine XS.iloadN X0.here hx rfl (hb hby d1_6) rfl ?_
      show Steps p.tables e below (s₁.setTop (mkF m 7 #[.val (.int p1)] [(.int p1)])) _
      refine XS.bipush X0.here hx rfl (hb hby d1_7) ?_
      show Steps p.tables e below (s₁.setTop (mkF m 9 #[.val (.int p1)] [(.int (122 : Int32)), (.int p1)])) _
      by_cases c9 : (122 : Int32) < p1
      · refine XS.icmpNo X0.here hx rfl (hb hby d1_9) rfl (tlt (c9 : (122 : Int32) < p1)).2.2.2 ?_
        show Steps p.tables e below (s₁.setTop (mkF m 12 #[.val (.int p1)] [])) _
        refine XS.iloadN X0.here hx rfl (hb hby d1_12) rfl ?_
        show Steps p.tables e below (s₁.setTop (mkF m 13 #[.val (.int p1)] [(.int p1)])) _
        refine XS.bipush X0.here hx rfl (hb hby d1_13) ?_
        show Steps p.tables e below (s₁.setTop (mkF m 15 #[.val (.int p1)] [(.int (65 : Int32)), (.int p1)])) _
        by_cases c15 : p1 < (65 : Int32)
        · refine XS.icmpYes X0.here hx rfl (pc0 := 15) (pc' := 24) rfl (hb hby d1_15) rfl (tlt (c15 : p1 < (65 : Int32))).1 (by decide) (by decide) ?_
          show Steps p.tables e below (s₁.setTop (mkF m 24 #[.val (.int p1)] [])) _
          refine XS.iloadN X0.here hx rfl (hb hby d1_24) rfl ?_
          show Steps p.tables e below (s₁.setTop (mkF m 25 #[.val (.int p1)] [(.int p1)])) _
          refine XS.bipush X0.here hx rfl (hb hby d1_25) ?_
          show Steps p.tables e below (s₁.setTop (mkF m 27 #[.val (.int p1)] [(.int (48 : Int32)), (.int p1)])) _
          by_cases c27 : p1 < (48 : Int32)
          · refine XS.icmpYes X0.here hx rfl (pc0 := 27) (pc' := 40) rfl (hb hby d1_27) rfl (tlt (c27 : p1 < (48 : Int32))).1 (by decide) (by decide) ?_
            show Steps p.tables e below (s₁.setTop (mkF m 40 #[.val (.int p1)] [])) _
            refine XS.iconst X0.here hx rfl (hb hby d1_40) ?_
            exact join _ (own_bf (by simp only [own_lt] at c3 c9 c15 c27; unfold own_P; omega))
          · refine XS.icmpNo X0.here hx rfl (hb hby d1_27) rfl (flt (c27 : ¬ (p1 < (48 : Int32)))).1 ?_
            show Steps p.tables e below (s₁.setTop (mkF m 30 #[.val (.int p1)] [])) _
            refine XS.iloadN X0.here hx rfl (hb hby d1_30) rfl ?_
            show Steps p.tables e below (s₁.setTop (mkF m 31 #[.val (.int p1)] [(.int p1)])) _
            refine XS.bipush X0.here hx rfl (hb hby d1_31) ?_
            show Steps p.tables e below (s₁.setTop (mkF m 33 #[.val (.int p1)] [(.int (57 : Int32)), (.int p1)])) _
            by_cases c33 : (57 : Int32) < p1
            · refine XS.icmpYes X0.here hx rfl (pc0 := 33) (pc' := 40) rfl (hb hby d1_33) rfl (tlt (c33 : (57 : Int32) < p1)).2.2.1 (by decide) (by decide) ?_
              show Steps p.tables e below (s₁.setTop (mkF m 40 #[.val (.int p1)] [])) _
              refine XS.iconst X0.here hx rfl (hb hby d1_40) ?_
              exact join _ (own_bf (by simp only [own_lt] at c3 c9 c15 c27 c33; unfold own_P; omega))
            · refine XS.icmpNo X0.here hx rfl (hb hby d1_33) rfl (flt (c33 : ¬ ((57 : Int32) < p1))).2.2.1 ?_
              show Steps p.tables e below (s₁.setTop (mkF m 36 #[.val (.int p1)] [])) _
              refine XS.iconst X0.here hx rfl (hb hby d1_36) ?_
              show Steps p.tables e below (s₁.setTop (mkF m 37 #[.val (.int p1)] [(.int (1 : Int32))])) _
              refine XS.goto X0.here hx rfl (pc0 := 37) (pc' := 41) rfl (hb hby d1_37) (by decide) (by decide) ?_
              exact join _ (own_bt (by simp only [own_lt] at c3 c9 c15 c27 c33; unfold own_P; omega))
        · refine XS.icmpNo X0.here hx rfl (hb hby d1_15) rfl (flt (c15 : ¬ (p1 < (65 : Int32)))).1 ?_
          show Steps p.tables e below (s₁.setTop (mkF m 18 #[.val (.int p1)] [])) _
          refine XS.iloadN X0.here hx rfl (hb hby d1_18) rfl ?_
          show Steps p.tables e below (s₁.setTop (mkF m 19 #[.val (.int p1)] [(.int p1)])) _
          refine XS.bipush X0.here hx rfl (hb hby d1_19) ?_
          show Steps p.tables e below (s₁.setTop (mkF m 21 #[.val (.int p1)] [(.int (90 : Int32)), (.int p1)])) _
          by_cases c21 : (90 : Int32) < p1
          · refine XS.icmpNo X0.here hx rfl (hb hby d1_21) rfl (tlt (c21 : (90 : Int32) < p1)).2.2.2 ?_
            show Steps p.tables e below (s₁.setTop (mkF m 24 #[.val (.int p1)] [])) _
            refine XS.iloadN X0.here hx rfl (hb hby d1_24) rfl ?_
            show Steps p.tables e below (s₁.setTop (mkF m 25 #[.val (.int p1)] [(.int p1)])) _
            refine XS.bipush X0.here hx rfl (hb hby d1_25) ?_
            show Steps p.tables e below (s₁.setTop (mkF m 27 #[.val (.int p1)] [(.int (48 : Int32)), (.int p1)])) _
            by_cases c27 : p1 < (48 : Int32)
            · refine XS.icmpYes X0.here hx rfl (pc0 := 27) (pc' := 40) rfl (hb hby d1_27) rfl (tlt (c27 : p1 < (48 : Int32))).1 (by decide) (by decide) ?_
              show Steps p.tables e below (s₁.setTop (mkF m 40 #[.val (.int p1)] [])) _
              refine XS.iconst X0.here hx rfl (hb hby d1_40) ?_
              exact join _ (own_bf (by simp only [own_lt] at c3 c9 c15 c21 c27; unfold own_P; omega))
            · refine XS.icmpNo X0.here hx rfl (hb hby d1_27) rfl (flt (c27 : ¬ (p1 < (48 : Int32)))).1 ?_
              show Steps p.tables e below (s₁.setTop (mkF m 30 #[.val (.int p1)] [])) _
              refine XS.iloadN X0.here hx rfl (hb hby d1_30) rfl ?_
              show Steps p.tables e below (s₁.setTop (mkF m 31 #[.val (.int p1)] [(.int p1)])) _
              refine XS.bipush X0.here hx rfl (hb hby d1_31) ?_
              show Steps p.tables e below (s₁.setTop (mkF m 33 #[.val (.int p1)] [(.int (57 : Int32)), (.int p1)])) _
              by_cases c33 : (57 : Int32) < p1
              · refine XS.icmpYes X0.here hx rfl (pc0 := 33) (pc' := 40) rfl (hb hby d1_33) rfl (tlt (c33 : (57 : Int32) < p1)).2.2.1 (by decide) (by decide) ?_
                show Steps p.tables e below (s₁.setTop (mkF m 40 #[.val (.int p1)] [])) _
                refine XS.iconst X0.here hx rfl (hb hby d1_40) ?_
                exact join _ (own_bf (by simp only [own_lt] at c3 c9 c15 c21 c27 c33; unfold own_P; omega))
              · refine XS.icmpNo X0.here hx rfl (hb hby d1_33) rfl (flt (c33 : ¬ ((57 : Int32) < p1))).2.2.1 ?_
                show Steps p.tables e below (s₁.setTop (mkF m 36 #[.val (.int p1)] [])) _
                refine XS.iconst X0.here hx rfl (hb hby d1_36) ?_
                show Steps p.tables e below (s₁.setTop (mkF m 37 #[.val (.int p1)] [(.int (1 : Int32))])) _
                refine XS.goto X0.here hx rfl (pc0 := 37) (pc' := 41) rfl (hb hby d1_37) (by decide) (by decide) ?_
                exact join _ (own_bt (by simp only [own_lt] at c3 c9 c15 c21 c27 c33; unfold own_P; omega))
          · refine XS.icmpYes X0.here hx rfl (pc0 := 21) (pc' := 36) rfl (hb hby d1_21) rfl (flt (c21 : ¬ ((90 : Int32) < p1))).2.2.2 (by decide) (by decide) ?_
            show Steps p.tables e below (s₁.setTop (mkF m 36 #[.val (.int p1)] [])) _
            refine XS.iconst X0.here hx rfl (hb hby d1_36) ?_
            show Steps p.tables e below (s₁.setTop (mkF m 37 #[.val (.int p1)] [(.int (1 : Int32))])) _
            refine XS.goto X0.here hx rfl (pc0 := 37) (pc' := 41) rfl (hb hby d1_37) (by decide) (by decide) ?_
            exact join _ (own_bt (by simp only [own_lt] at c3 c9 c15 c21; unfold own_P; omega))
      · refine XS.icmpYes X0.here hx rfl (pc0 := 9) (pc' := 36) rfl (hb hby d1_9) rfl (flt (c9 : ¬ ((122 : Int32) < p1))).2.2.2 (by decide) (by decide) ?_
        show Steps p.tables e below (s₁.setTop (mkF m 36 #[.val (.int p1)] [])) _
        refine XS.iconst X0.here hx rfl (hb hby d1_36) ?_
        show Steps p.tables e below (s₁.setTop (mkF m 37 #[.val (.int p1)] [(.int (1 : Int32))])) _
        refine XS.goto X0.here hx rfl (pc0 := 37) (pc' := 41) rfl (hb hby d1_37) (by decide) (by decide) ?_
        exact join _ (own_bt (by simp only [own_lt] at c3 c9; unfold own_P; omega))
  · show Q1 Z p1 h0 n0 _ s₁.heap _
    rw [e0]
    exact ⟨rfl, N0, rfl⟩
theorem pn_0 : plainName "com/example/bindery/bindery/http/server/SyntaxIsLetterOrDigitPinLaw" = true := by first | (simp [plainName, overriddenIn]; done) | decide +kernel
theorem pd_0_0 : parseMethodDescriptor "(C)Z" = some ⟨[.char], some .boolean⟩ := by decide +kernel
theorem ef_0 (m : MethodId) (x0 : Int32) : entryFrame m #[(.int x0)] maxLocals = mkF m 0 #[.val (.int x0), .unset, .unset, .unset, .unset, .unset] [] := by first | (simp [entryFrame, mkF, argsToLocals, Value.category, maxLocals]; done) | rfl
def Q0 (Z : State) (p1 : Int32) (h0 : Heap) (n0 : Nat) (v : Option Value) (h : Heap) (L : List Loc) : Prop := v = some (.int (1 : Int32)) ∧ Fr n0 L
set_option maxRecDepth 65536 in
set_option maxHeartbeats 40000000 in
theorem rm0 (l : Launch) (Z : State) (a0 : Array Value) (hw : ∀ d ∈ tables_1, d.before a0 Z = true) (ws : List Jvm.Cond) (p1 : Int32) (h0 : Heap) (n0 : Nat) (Z0 : n0 ≤ h0.size) :
    MetFree l x (head1 (Jvm.Cond.code x code maxLocals ret :: ws) room_1) (fun a U => a = #[(.int p1)] ∧ Z.Warmed39 U.vm ∧ U.heap = h0) (fun _ _ _ _ _ => True) (fun _ U o U' => ∃ v L, o = .returned v ∧ Q0 Z p1 h0 n0 v U'.heap L ∧ FrameEnd U o U' L room_1.cells room_1.slots) := by
  refine MetFree.of_bodySF (plainFor_of_name pn_0) hisR ?_
  intro p e s m args below meth c s₁ Bd hml0 hP hK
  obtain ⟨rfl, hZ, hh⟩ := hP
  have hx := Bd.exec
  have hby := Bd.bytes
  have hml : c.maxLocals = 6 := hml0
  have hown : s.vm.findClass "com/example/bindery/bindery/http/server/SyntaxIsLetterOrDigitPinLaw" = some m.cls := findClass_of_methodNamed Bd.named
  have hnm := (name_of_methodNamed Bd.named Bd.method).1
  have X0 : Stand p l e room_1 s m #[(.int p1)] below meth c s₁ [] 0 0 := Stand.of_body Bd
  have e0 : s₁.heap = h0 := by rw [← hh, Bd.state]; rfl
  have N0 := Fr.nil n0
  have pre0 : ∀ t, Steps p.tables e below (s₁.setTop (mkF m 0 #[.val (.int p1), .unset, .unset, .unset, .unset, .unset] [])) t → Steps p.tables e below (s₁.setTop (entryFrame m #[(.int p1)] maxLocals)) t := fun t k => castTop (ef_0 m p1) k
  obtain ⟨_, _, ⟨T2, L2, k2, n2⟩, -, X2, ⟨Lc2, hQ2, l2, y2, z2⟩, st2⟩ := Jvm.LawKit.callS X0 hx (y := (⟨"com/example/bindery/bindery/http/server/Syntax", "isLetterOrDigit", "(C)Z"⟩ : MethodName)) hown (mvT hZ (hw _ (List.mem_of_getElem? (i := 0) rfl))) (mvT hZ (hw _ (List.mem_of_getElem? (i := 1) rfl))) (mvT hZ (hw _ (List.mem_of_getElem? (i := 2) rfl))) (mvT hZ (hw _ (List.mem_of_getElem? (i := 3) rfl))) (by decide) (backOf (W := 0) (rm1 l Z a0 hw [] (own_c p1) h0 n0 Z0) hZ (hw _ (List.mem_of_getElem? (i := 3) rfl)) (hw _ (List.mem_of_getElem? (i := 2) rfl)) (by decide) (by decide)) (g := (mkF m 53 #[.val (.int p1), .val (.int (own_c p1)), .val (.int ((own_c p1) - (48 : Int32))), .val (.int (own_b (own_R 0 9 ((own_c p1) - (48 : Int32))))), .val (.int (((own_c p1) ||| (32 : Int32)) - (97 : Int32))), .val (.int (own_b (own_R 0 25 (((own_c p1) ||| (32 : Int32)) - (97 : Int32)))))] [(.int (own_c p1))])) rfl (by rw [hml]; rfl) (argsL := [(.int (own_c p1))]) (rest := []) (lenOf pd_0_0 rfl) rfl (by show 2 * 0 + _ ≤ _; exact Nat.le_of_eq rfl) (hb hby at_53) (fun _ _ => ⟨rfl, e0, (by decide : 0 + 0 ≤ _), (by decide : 0 + 0 ≤ _)⟩)
  dsimp only [Pt.U, Pt.locs, Pt.cells, Pt.slots] at X2 l2 y2 z2 st2 hQ2
  subst l2 y2 z2
  obtain ⟨rfl, N2q, q2h⟩ := hQ2
  have N2 := Fr.app N0 N2q
  obtain ⟨fs, hr, hrun, hended, hW, hsame⟩ := X2.leave (v := some (.int (1 : Int32))) (fun h => by rw [Bd.returns] at h; cases h)
  refine ⟨_, _, pre0 _ ?_, hrun, hended, _, _, rfl, ?_, ⟨_, rfl⟩, hW, hsame.mono (by decide) (by decide)⟩
  · have join70 : ∀ z : Int32, z = (own_b (own_R 0 9 ((own_c p1) - (48 : Int32)) ∨ own_R 0 25 (((own_c p1) ||| (32 : Int32)) - (97 : Int32)))) → Steps p.tables e below (T2.setTop (mkF m 70 #[.val (.int p1), .val (.int (own_c p1)), .val (.int ((own_c p1) - (48 : Int32))), .val (.int (own_b (own_R 0 9 ((own_c p1) - (48 : Int32))))), .val (.int (((own_c p1) ||| (32 : Int32)) - (97 : Int32))), .val (.int (own_b (own_R 0 25 (((own_c p1) ||| (32 : Int32)) - (97 : Int32)))))] [(.int z), (.int (own_b (own_P (own_c p1))))])) (T2.setFrames fs) := by
      rintro z rfl
      show Steps p.tables e below (T2.setTop (mkF m 70 #[.val (.int p1), .val (.int (own_c p1)), .val (.int ((own_c p1) - (48 : Int32))), .val (.int (own_b (own_R 0 9 ((own_c p1) - (48 : Int32))))), .val (.int (((own_c p1) ||| (32 : Int32)) - (97 : Int32))), .val (.int (own_b (own_R 0 25 (((own_c p1) ||| (32 : Int32)) - (97 : Int32)))))] [(.int (own_b (own_R 0 9 ((own_c p1) - (48 : Int32)) ∨ own_R 0 25 (((own_c p1) ||| (32 : Int32)) - (97 : Int32))))), (.int (own_b (own_P (own_c p1))))])) _
      refine XS.icmpNo X2.here hx rfl (hb hby at_70) rfl (teq (own_bc (own_law p1) : (own_b (own_P (own_c p1))) = (own_b (own_R 0 9 ((own_c p1) - (48 : Int32)) ∨ own_R 0 25 (((own_c p1) ||| (32 : Int32)) - (97 : Int32)))))).2 ?_
      show Steps p.tables e below (T2.setTop (mkF m 73 #[.val (.int p1), .val (.int (own_c p1)), .val (.int ((own_c p1) - (48 : Int32))), .val (.int (own_b (own_R 0 9 ((own_c p1) - (48 : Int32))))), .val (.int (((own_c p1) ||| (32 : Int32)) - (97 : Int32))), .val (.int (own_b (own_R 0 25 (((own_c p1) ||| (32 : Int32)) - (97 : Int32)))))] [])) _
      refine XS.iconst X2.here hx rfl (hb hby at_73) ?_
      show Steps p.tables e below (T2.setTop (mkF m 74 #[.val (.int p1), .val (.int (own_c p1)), .val (.int ((own_c p1) - (48 : Int32))), .val (.int (own_b (own_R 0 9 ((own_c p1) - (48 : Int32))))), .val (.int (((own_c p1) ||| (32 : Int32)) - (97 : Int32))), .val (.int (own_b (own_R 0 25 (((own_c p1) ||| (32 : Int32)) - (97 : Int32)))))] [(.int (1 : Int32))])) _
      refine XS.goto X2.here hx rfl (pc0 := 74) (pc' := 78) rfl (hb hby at_74) (by decide) (by decide) ?_
      exact retN X2 hx (t := .boolean) Bd.returns (by simp) (hb hby at_78) hr
    have join53 : Steps p.tables e below (s₁.setTop (mkF m 53 #[.val (.int p1), .val (.int (own_c p1)), .val (.int ((own_c p1) - (48 : Int32))), .val (.int (own_b (own_R 0 9 ((own_c p1) - (48 : Int32))))), .val (.int (((own_c p1) ||| (32 : Int32)) - (97 : Int32))), .val (.int (own_b (own_R 0 25 (((own_c p1) ||| (32 : Int32)) - (97 : Int32)))))] [(.int (own_c p1))])) (T2.setFrames fs) := by
      refine st2 _ ?_
      show Steps p.tables e below (T2.setTop (mkF m 56 #[.val (.int p1), .val (.int (own_c p1)), .val (.int ((own_c p1) - (48 : Int32))), .val (.int (own_b (own_R 0 9 ((own_c p1) - (48 : Int32))))), .val (.int (((own_c p1) ||| (32 : Int32)) - (97 : Int32))), .val (.int (own_b (own_R 0 25 (((own_c p1) ||| (32 : Int32)) - (97 : Int32)))))] [(.int (own_b (own_P (own_c p1))))])) _
      refine XS.iloadN X2.here hx rfl (hb hby at_56) rfl ?_
      show Steps p.tables e below (T2.setTop (mkF m 57 #[.val (.int p1), .val (.int (own_c p1)), .val (.int ((own_c p1) - (48 : Int32))), .val (.int (own_b (own_R 0 9 ((own_c p1) - (48 : Int32))))), .val (.int (((own_c p1) ||| (32 : Int32)) - (97 : Int32))), .val (.int (own_b (own_R 0 25 (((own_c p1) ||| (32 : Int32)) - (97 : Int32)))))] [(.int (own_b (own_R 0 9 ((own_c p1) - (48 : Int32))))), (.int (own_b (own_P (own_c p1))))])) _
      by_cases c57 : (own_b (own_R 0 9 ((own_c p1) - (48 : Int32)))) = (0 : Int32)
      · refine XS.ifNo X2.here hx rfl (hb hby at_57) rfl ((if0 _ _).trans (teq (c57 : (own_b (own_R 0 9 ((own_c p1) - (48 : Int32)))) = (0 : Int32))).2) ?_
        show Steps p.tables e below (T2.setTop (mkF m 60 #[.val (.int p1), .val (.int (own_c p1)), .val (.int ((own_c p1) - (48 : Int32))), .val (.int (own_b (own_R 0 9 ((own_c p1) - (48 : Int32))))), .val (.int (((own_c p1) ||| (32 : Int32)) - (97 : Int32))), .val (.int (own_b (own_R 0 25 (((own_c p1) ||| (32 : Int32)) - (97 : Int32)))))] [(.int (own_b (own_P (own_c p1))))])) _
        refine XS.iload X2.here hx rfl (hb hby at_60) rfl ?_
        show Steps p.tables e below (T2.setTop (mkF m 62 #[.val (.int p1), .val (.int (own_c p1)), .val (.int ((own_c p1) - (48 : Int32))), .val (.int (own_b (own_R 0 9 ((own_c p1) - (48 : Int32))))), .val (.int (((own_c p1) ||| (32 : Int32)) - (97 : Int32))), .val (.int (own_b (own_R 0 25 (((own_c p1) ||| (32 : Int32)) - (97 : Int32)))))] [(.int (own_b (own_R 0 25 (((own_c p1) ||| (32 : Int32)) - (97 : Int32))))), (.int (own_b (own_P (own_c p1))))])) _
        by_cases c62 : (own_b (own_R 0 25 (((own_c p1) ||| (32 : Int32)) - (97 : Int32)))) = (0 : Int32)
        · refine XS.ifYes X2.here hx rfl (pc0 := 62) (pc' := 69) rfl (hb hby at_62) rfl ((if0 _ _).trans (teq (c62 : (own_b (own_R 0 25 (((own_c p1) ||| (32 : Int32)) - (97 : Int32)))) = (0 : Int32))).1) (by decide) (by decide) ?_
          show Steps p.tables e below (T2.setTop (mkF m 69 #[.val (.int p1), .val (.int (own_c p1)), .val (.int ((own_c p1) - (48 : Int32))), .val (.int (own_b (own_R 0 9 ((own_c p1) - (48 : Int32))))), .val (.int (((own_c p1) ||| (32 : Int32)) - (97 : Int32))), .val (.int (own_b (own_R 0 25 (((own_c p1) ||| (32 : Int32)) - (97 : Int32)))))] [(.int (own_b (own_P (own_c p1))))])) _
          refine XS.iconst X2.here hx rfl (hb hby at_69) ?_
          exact join70 _ (own_bf (fun q => q.elim (own_bz.mp c57) (own_bz.mp c62)))
        · refine XS.ifNo X2.here hx rfl (hb hby at_62) rfl ((if0 _ _).trans (feq (c62 : ¬ ((own_b (own_R 0 25 (((own_c p1) ||| (32 : Int32)) - (97 : Int32)))) = (0 : Int32)))).1) ?_
          show Steps p.tables e below (T2.setTop (mkF m 65 #[.val (.int p1), .val (.int (own_c p1)), .val (.int ((own_c p1) - (48 : Int32))), .val (.int (own_b (own_R 0 9 ((own_c p1) - (48 : Int32))))), .val (.int (((own_c p1) ||| (32 : Int32)) - (97 : Int32))), .val (.int (own_b (own_R 0 25 (((own_c p1) ||| (32 : Int32)) - (97 : Int32)))))] [(.int (own_b (own_P (own_c p1))))])) _
          refine XS.iconst X2.here hx rfl (hb hby at_65) ?_
          show Steps p.tables e below (T2.setTop (mkF m 66 #[.val (.int p1), .val (.int (own_c p1)), .val (.int ((own_c p1) - (48 : Int32))), .val (.int (own_b (own_R 0 9 ((own_c p1) - (48 : Int32))))), .val (.int (((own_c p1) ||| (32 : Int32)) - (97 : Int32))), .val (.int (own_b (own_R 0 25 (((own_c p1) ||| (32 : Int32)) - (97 : Int32)))))] [(.int (1 : Int32)), (.int (own_b (own_P (own_c p1))))])) _
          refine XS.goto X2.here hx rfl (pc0 := 66) (pc' := 70) rfl (hb hby at_66) (by decide) (by decide) ?_
          exact join70 _ (own_bt (Or.inr (Decidable.byContradiction fun q => c62 (own_bz.mpr q))))
      · refine XS.ifYes X2.here hx rfl (pc0 := 57) (pc' := 65) rfl (hb hby at_57) rfl ((if0 _ _).trans (feq (c57 : ¬ ((own_b (own_R 0 9 ((own_c p1) - (48 : Int32)))) = (0 : Int32)))).2) (by decide) (by decide) ?_
        show Steps p.tables e below (T2.setTop (mkF m 65 #[.val (.int p1), .val (.int (own_c p1)), .val (.int ((own_c p1) - (48 : Int32))), .val (.int (own_b (own_R 0 9 ((own_c p1) - (48 : Int32))))), .val (.int (((own_c p1) ||| (32 : Int32)) - (97 : Int32))), .val (.int (own_b (own_R 0 25 (((own_c p1) ||| (32 : Int32)) - (97 : Int32)))))] [(.int (own_b (own_P (own_c p1))))])) _
        refine XS.iconst X2.here hx rfl (hb hby at_65) ?_
        show Steps p.tables e below (T2.setTop (mkF m 66 #[.val (.int p1), .val (.int (own_c p1)), .val (.int ((own_c p1) - (48 : Int32))), .val (.int (own_b (own_R 0 9 ((own_c p1) - (48 : Int32))))), .val (.int (((own_c p1) ||| (32 : Int32)) - (97 : Int32))), .val (.int (own_b (own_R 0 25 (((own_c p1) ||| (32 : Int32)) - (97 : Int32)))))] [(.int (1 : Int32)), (.int (own_b (own_P (own_c p1))))])) _
        refine XS.goto X2.here hx rfl (pc0 := 66) (pc' := 70) rfl (hb hby at_66) (by decide) (by decide) ?_
        exact join70 _ (own_bt (Or.inl (Decidable.byContradiction fun q => c57 (own_bz.mpr q))))
    have join50 : ∀ z : Int32, z = (own_b (own_R 0 25 (((own_c p1) ||| (32 : Int32)) - (97 : Int32)))) → Steps p.tables e below (s₁.setTop (mkF m 50 #[.val (.int p1), .val (.int (own_c p1)), .val (.int ((own_c p1) - (48 : Int32))), .val (.int (own_b (own_R 0 9 ((own_c p1) - (48 : Int32))))), .val (.int (((own_c p1) ||| (32 : Int32)) - (97 : Int32))), .unset] [(.int z)])) (T2.setFrames fs) := by
      rintro z rfl
      show Steps p.tables e below (s₁.setTop (mkF m 50 #[.val (.int p1), .val (.int (own_c p1)), .val (.int ((own_c p1) - (48 : Int32))), .val (.int (own_b (own_R 0 9 ((own_c p1) - (48 : Int32))))), .val (.int (((own_c p1) ||| (32 : Int32)) - (97 : Int32))), .unset] [(.int (own_b (own_R 0 25 (((own_c p1) ||| (32 : Int32)) - (97 : Int32)))))])) _
      refine XS.istore X0.here hx rfl (hb hby at_50) rfl (l' := #[.val (.int p1), .val (.int (own_c p1)), .val (.int ((own_c p1) - (48 : Int32))), .val (.int (own_b (own_R 0 9 ((own_c p1) - (48 : Int32))))), .val (.int (((own_c p1) ||| (32 : Int32)) - (97 : Int32))), .val (.int (own_b (own_R 0 25 (((own_c p1) ||| (32 : Int32)) - (97 : Int32)))))]) rfl ?_
      show Steps p.tables e below (s₁.setTop (mkF m 52 #[.val (.int p1), .val (.int (own_c p1)), .val (.int ((own_c p1) - (48 : Int32))), .val (.int (own_b (own_R 0 9 ((own_c p1) - (48 : Int32))))), .val (.int (((own_c p1) ||| (32 : Int32)) - (97 : Int32))), .val (.int (own_b (own_R 0 25 (((own_c p1) ||| (32 : Int32)) - (97 : Int32)))))] [])) _
      refine XS.iloadN X0.here hx rfl (hb hby at_52) rfl ?_
      exact join53
    have join23 : ∀ z : Int32, z = (own_b (own_R 0 9 ((own_c p1) - (48 : Int32)))) → Steps p.tables e below (s₁.setTop (mkF m 23 #[.val (.int p1), .val (.int (own_c p1)), .val (.int ((own_c p1) - (48 : Int32))), .unset, .unset, .unset] [(.int z)])) (T2.setFrames fs) := by
      rintro z rfl
      show Steps p.tables e below (s₁.setTop (mkF m 23 #[.val (.int p1), .val (.int (own_c p1)), .val (.int ((own_c p1) - (48 : Int32))), .unset, .unset, .unset] [(.int (own_b (own_R 0 9 ((own_c p1) - (48 : Int32)))))])) _
      refine XS.istoreN X0.here hx rfl (hb hby at_23) rfl (l' := #[.val (.int p1), .val (.int (own_c p1)), .val (.int ((own_c p1) - (48 : Int32))), .val (.int (own_b (own_R 0 9 ((own_c p1) - (48 : Int32))))), .unset, .unset]) rfl ?_
      show Steps p.tables e below (s₁.setTop (mkF m 24 #[.val (.int p1), .val (.int (own_c p1)), .val (.int ((own_c p1) - (48 : Int32))), .val (.int (own_b (own_R 0 9 ((own_c p1) - (48 : Int32))))), .unset, .unset] [])) _
      refine XS.iloadN X0.here hx rfl (hb hby at_24) rfl ?_
      show Steps p.tables e below (s₁.setTop (mkF m 25 #[.val (.int p1), .val (.int (own_c p1)), .val (.int ((own_c p1) - (48 : Int32))), .val (.int (own_b (own_R 0 9 ((own_c p1) - (48 : Int32))))), .unset, .unset] [(.int (own_c p1))])) _
      refine XS.bipush X0.here hx rfl (hb hby at_25) ?_
      show Steps p.tables e below (s₁.setTop (mkF m 27 #[.val (.int p1), .val (.int (own_c p1)), .val (.int ((own_c p1) - (48 : Int32))), .val (.int (own_b (own_R 0 9 ((own_c p1) - (48 : Int32))))), .unset, .unset] [(.int (32 : Int32)), (.int (own_c p1))])) _
      refine XS.ior X0.here hx rfl (hb hby at_27) rfl ?_
      show Steps p.tables e below (s₁.setTop (mkF m 28 #[.val (.int p1), .val (.int (own_c p1)), .val (.int ((own_c p1) - (48 : Int32))), .val (.int (own_b (own_R 0 9 ((own_c p1) - (48 : Int32))))), .unset, .unset] [(.int ((own_c p1) ||| (32 : Int32)))])) _
      refine XS.bipush X0.here hx rfl (hb hby at_28) ?_
      show Steps p.tables e below (s₁.setTop (mkF m 30 #[.val (.int p1), .val (.int (own_c p1)), .val (.int ((own_c p1) - (48 : Int32))), .val (.int (own_b (own_R 0 9 ((own_c p1) - (48 : Int32))))), .unset, .unset] [(.int (97 : Int32)), (.int ((own_c p1) ||| (32 : Int32)))])) _
      refine XS.isub X0.here hx rfl (hb hby at_30) rfl ?_
      show Steps p.tables e below (s₁.setTop (mkF m 31 #[.val (.int p1), .val (.int (own_c p1)), .val (.int ((own_c p1) - (48 : Int32))), .val (.int (own_b (own_R 0 9 ((own_c p1) - (48 : Int32))))), .unset, .unset] [(.int (((own_c p1) ||| (32 : Int32)) - (97 : Int32)))])) _
      refine XS.istore X0.here hx rfl (hb hby at_31) rfl (l' := #[.val (.int p1), .val (.int (own_c p1)), .val (.int ((own_c p1) - (48 : Int32))), .val (.int (own_b (own_R 0 9 ((own_c p1) - (48 : Int32))))), .val (.int (((own_c p1) ||| (32 : Int32)) - (97 : Int32))), .unset]) rfl ?_
      show Steps p.tables e below (s₁.setTop (mkF m 33 #[.val (.int p1), .val (.int (own_c p1)), .val (.int ((own_c p1) - (48 : Int32))), .val (.int (own_b (own_R 0 9 ((own_c p1) - (48 : Int32))))), .val (.int (((own_c p1) ||| (32 : Int32)) - (97 : Int32))), .unset] [])) _
      refine XS.iload X0.here hx rfl (hb hby at_33) rfl ?_
      show Steps p.tables e below (s₁.setTop (mkF m 35 #[.val (.int p1), .val (.int (own_c p1)), .val (.int ((own_c p1) - (48 : Int32))), .val (.int (own_b (own_R 0 9 ((own_c p1) - (48 : Int32))))), .val (.int (((own_c p1) ||| (32 : Int32)) - (97 : Int32))), .unset] [(.int (((own_c p1) ||| (32 : Int32)) - (97 : Int32)))])) _
      by_cases c35 : (((own_c p1) ||| (32 : Int32)) - (97 : Int32)) < (0 : Int32)
      · refine XS.ifYes X0.here hx rfl (pc0 := 35) (pc' := 49) rfl (hb hby at_35) rfl ((if0 _ _).trans (tlt (c35 : (((own_c p1) ||| (32 : Int32)) - (97 : Int32)) < (0 : Int32))).1) (by decide) (by decide) ?_
        show Steps p.tables e below (s₁.setTop (mkF m 49 #[.val (.int p1), .val (.int (own_c p1)), .val (.int ((own_c p1) - (48 : Int32))), .val (.int (own_b (own_R 0 9 ((own_c p1) - (48 : Int32))))), .val (.int (((own_c p1) ||| (32 : Int32)) - (97 : Int32))), .unset] [])) _
        refine XS.iconst X0.here hx rfl (hb hby at_49) ?_
        exact join50 _ (own_bf (fun q => q.1 c35))
      · refine XS.ifNo X0.here hx rfl (hb hby at_35) rfl ((if0 _ _).trans (flt (c35 : ¬ ((((own_c p1) ||| (32 : Int32)) - (97 : Int32)) < (0 : Int32)))).1) ?_
        show Steps p.tables e below (s₁.setTop (mkF m 38 #[.val (.int p1), .val (.int (own_c p1)), .val (.int ((own_c p1) - (48 : Int32))), .val (.int (own_b (own_R 0 9 ((own_c p1) - (48 : Int32))))), .val (.int (((own_c p1) ||| (32 : Int32)) - (97 : Int32))), .unset] [])) _
        refine XS.iload X0.here hx rfl (hb hby at_38) rfl ?_
        show Steps p.tables e below (s₁.setTop (mkF m 40 #[.val (.int p1), .val (.int (own_c p1)), .val (.int ((own_c p1) - (48 : Int32))), .val (.int (own_b (own_R 0 9 ((own_c p1) - (48 : Int32))))), .val (.int (((own_c p1) ||| (32 : Int32)) - (97 : Int32))), .unset] [(.int (((own_c p1) ||| (32 : Int32)) - (97 : Int32)))])) _
        refine XS.bipush X0.here hx rfl (hb hby at_40) ?_
        show Steps p.tables e below (s₁.setTop (mkF m 42 #[.val (.int p1), .val (.int (own_c p1)), .val (.int ((own_c p1) - (48 : Int32))), .val (.int (own_b (own_R 0 9 ((own_c p1) - (48 : Int32))))), .val (.int (((own_c p1) ||| (32 : Int32)) - (97 : Int32))), .unset] [(.int (25 : Int32)), (.int (((own_c p1) ||| (32 : Int32)) - (97 : Int32)))])) _
        by_cases c42 : (25 : Int32) < (((own_c p1) ||| (32 : Int32)) - (97 : Int32))
        · refine XS.icmpYes X0.here hx rfl (pc0 := 42) (pc' := 49) rfl (hb hby at_42) rfl (tlt (c42 : (25 : Int32) < (((own_c p1) ||| (32 : Int32)) - (97 : Int32)))).2.2.1 (by decide) (by decide) ?_
          show Steps p.tables e below (s₁.setTop (mkF m 49 #[.val (.int p1), .val (.int (own_c p1)), .val (.int ((own_c p1) - (48 : Int32))), .val (.int (own_b (own_R 0 9 ((own_c p1) - (48 : Int32))))), .val (.int (((own_c p1) ||| (32 : Int32)) - (97 : Int32))), .unset] [])) _
          refine XS.iconst X0.here hx rfl (hb hby at_49) ?_
          exact join50 _ (own_bf (fun q => q.2 c42))
        · refine XS.icmpNo X0.here hx rfl (hb hby at_42) rfl (flt (c42 : ¬ ((25 : Int32) < (((own_c p1) ||| (32 : Int32)) - (97 : Int32))))).2.2.1 ?_
          show Steps p.tables e below (s₁.setTop (mkF m 45 #[.val (.int p1), .val (.int (own_c p1)), .val (.int ((own_c p1) - (48 : Int32))), .val (.int (own_b (own_R 0 9 ((own_c p1) - (48 : Int32))))), .val (.int (((own_c p1) ||| (32 : Int32)) - (97 : Int32))), .unset] [])) _
          refine XS.iconst X0.here hx rfl (hb hby at_45) ?_
          show Steps p.tables e below (s₁.setTop (mkF m 46 #[.val (.int p1), .val (.int (own_c p1)), .val (.int ((own_c p1) - (48 : Int32))), .val (.int (own_b (own_R 0 9 ((own_c p1) - (48 : Int32))))), .val (.int (((own_c p1) ||| (32 : Int32)) - (97 : Int32))), .unset] [(.int (1 : Int32))])) _
          refine XS.goto X0.here hx rfl (pc0 := 46) (pc' := 50) rfl (hb hby at_46) (by decide) (by decide) ?_
          exact join50 _ (own_bt ⟨c35, c42⟩)
    show Steps p.tables e below (s₁.setTop (mkF m 0 #[.val (.int p1), .unset, .unset, .unset, .unset, .unset] [])) _
    refine XS.iloadN X0.here hx rfl (hb hby at_0) rfl ?_
    show Steps p.tables e below (s₁.setTop (mkF m 1 #[.val (.int p1), .unset, .unset, .unset, .unset, .unset] [(.int p1)])) _
    refine XS.i2c X0.here hx rfl (hb hby at_1) rfl ?_
    show Steps p.tables e below (s₁.setTop (mkF m 2 #[.val (.int p1), .unset, .unset, .unset, .unset, .unset] [(.int (own_c p1))])) _
    refine XS.istoreN X0.here hx rfl (hb hby at_2) rfl (l' := #[.val (.int p1), .val (.int (own_c p1)), .unset, .unset, .unset, .unset]) rfl ?_
    show Steps p.tables e below (s₁.setTop (mkF m 3 #[.val (.int p1), .val (.int (own_c p1)), .unset, .unset, .unset, .unset] [])) _
    refine XS.iloadN X0.here hx rfl (hb hby at_3) rfl ?_
    show Steps p.tables e below (s₁.setTop (mkF m 4 #[.val (.int p1), .val (.int (own_c p1)), .unset, .unset, .unset, .unset] [(.int (own_c p1))])) _
    refine XS.bipush X0.here hx rfl (hb hby at_4) ?_
    show Steps p.tables e below (s₁.setTop (mkF m 6 #[.val (.int p1), .val (.int (own_c p1)), .unset, .unset, .unset, .unset] [(.int (48 : Int32)), (.int (own_c p1))])) _
    refine XS.isub X0.here hx rfl (hb hby at_6) rfl ?_
    show Steps p.tables e below (s₁.setTop (mkF m 7 #[.val (.int p1), .val (.int (own_c p1)), .unset, .unset, .unset, .unset] [(.int ((own_c p1) - (48 : Int32)))])) _
    refine XS.istoreN X0.here hx rfl (hb hby at_7) rfl (l' := #[.val (.int p1), .val (.int (own_c p1)), .val (.int ((own_c p1) - (48 : Int32))), .unset, .unset, .unset]) rfl ?_
    show Steps p.tables e below (s₁.setTop (mkF m 8 #[.val (.int p1), .val (.int (own_c p1)), .val (.int ((own_c p1) - (48 : Int32))), .unset, .unset, .unset] [])) _
    refine XS.iloadN X0.here hx rfl (hb hby at_8) rfl ?_
    show Steps p.tables e below (s₁.setTop (mkF m 9 #[.val (.int p1), .val (.int (own_c p1)), .val (.int ((own_c p1) - (48 : Int32))), .unset, .unset, .unset] [(.int ((own_c p1) - (48 : Int32)))])) _
    by_cases c9 : ((own_c p1) - (48 : Int32)) < (0 : Int32)
    · refine XS.ifYes X0.here hx rfl (pc0 := 9) (pc' := 22) rfl (hb hby at_9) rfl ((if0 _ _).trans (tlt (c9 : ((own_c p1) - (48 : Int32)) < (0 : Int32))).1) (by decide) (by decide) ?_
      show Steps p.tables e below (s₁.setTop (mkF m 22 #[.val (.int p1), .val (.int (own_c p1)), .val (.int ((own_c p1) - (48 : Int32))), .unset, .unset, .unset] [])) _
      refine XS.iconst X0.here hx rfl (hb hby at_22) ?_
      exact join23 _ (own_bf (fun q => q.1 c9))
    · refine XS.ifNo X0.here hx rfl (hb hby at_9) rfl ((if0 _ _).trans (flt (c9 : ¬ (((own_c p1) - (48 : Int32)) < (0 : Int32)))).1) ?_
      show Steps p.tables e below (s₁.setTop (mkF m 12 #[.val (.int p1), .val (.int (own_c p1)), .val (.int ((own_c p1) - (48 : Int32))), .unset, .unset, .unset] [])) _
      refine XS.iloadN X0.here hx rfl (hb hby at_12) rfl ?_
      show Steps p.tables e below (s₁.setTop (mkF m 13 #[.val (.int p1), .val (.int (own_c p1)), .val (.int ((own_c p1) - (48 : Int32))), .unset, .unset, .unset] [(.int ((own_c p1) - (48 : Int32)))])) _
      refine XS.bipush X0.here hx rfl (hb hby at_13) ?_
      show Steps p.tables e below (s₁.setTop (mkF m 15 #[.val (.int p1), .val (.int (own_c p1)), .val (.int ((own_c p1) - (48 : Int32))), .unset, .unset, .unset] [(.int (9 : Int32)), (.int ((own_c p1) - (48 : Int32)))])) _
      by_cases c15 : (9 : Int32) < ((own_c p1) - (48 : Int32))
      · refine XS.icmpYes X0.here hx rfl (pc0 := 15) (pc' := 22) rfl (hb hby at_15) rfl (tlt (c15 : (9 : Int32) < ((own_c p1) - (48 : Int32)))).2.2.1 (by decide) (by decide) ?_
        show Steps p.tables e below (s₁.setTop (mkF m 22 #[.val (.int p1), .val (.int (own_c p1)), .val (.int ((own_c p1) - (48 : Int32))), .unset, .unset, .unset] [])) _
        refine XS.iconst X0.here hx rfl (hb hby at_22) ?_
        exact join23 _ (own_bf (fun q => q.2 c15))
      · refine XS.icmpNo X0.here hx rfl (hb hby at_15) rfl (flt (c15 : ¬ ((9 : Int32) < ((own_c p1) - (48 : Int32))))).2.2.1 ?_
        show Steps p.tables e below (s₁.setTop (mkF m 18 #[.val (.int p1), .val (.int (own_c p1)), .val (.int ((own_c p1) - (48 : Int32))), .unset, .unset, .unset] [])) _
        refine XS.iconst X0.here hx rfl (hb hby at_18) ?_
        show Steps p.tables e below (s₁.setTop (mkF m 19 #[.val (.int p1), .val (.int (own_c p1)), .val (.int ((own_c p1) - (48 : Int32))), .unset, .unset, .unset] [(.int (1 : Int32))])) _
        refine XS.goto X0.here hx rfl (pc0 := 19) (pc' := 23) rfl (hb hby at_19) (by decide) (by decide) ?_
        exact join23 _ (own_bt ⟨c9, c15⟩)
  · show Q0 Z p1 h0 n0 _ T2.heap _
    exact ⟨rfl, N2⟩
set_option maxRecDepth 65536 in
set_option maxHeartbeats 40000000 in
theorem comes_1 {Post : Tables → Env → Array Value → State → Outcome → State → Prop} (hpost : ∀ tb e args s v u, (limb_1_1.after args s (.returned v) u = true ∧ limb_1_2.after args s (.returned v) u = true ∧ True) → FrameEnd s (.returned v) u (Jvm.fieldLocs frame_1_writes args s ++ Jvm.arrayLocs frame_1_arrays args s ++ Jvm.staticLocs frame_1_statics s) 0 0 → Post tb e args s (.returned v) u) :
    ArmFor flags0 classFile x code maxLocals ret World_1 tables_1 room_1 Calls_1 rest_1 Pre_1 Post := by
  intro l hfl _ _ p e ha hc hk s m args below hf hA hF happ hP
  obtain ⟨hcalls, hrest, hpre⟩ := hP
  obtain ⟨-, -, -, hnamed, -, -, -, hat⟩ := (Spec.applies_iff hf).mp happ
  obtain ⟨hg, hn⟩ := and_e (Cond.before_iff.mp (show (Jvm.Cond.and given_1 narrow_1).before args s = true from hpre))
  obtain ⟨g3, g4⟩ := and_e hg
  obtain ⟨w0, rfl⟩ : ∃ w0 : Value, args = #[w0] := by
    have hs : args.size = 1 := by simpa [Cond.value, given_1] using g3
    obtain ⟨L⟩ := args
    match L, hs with
    | [w0], _ => exact ⟨w0, rfl⟩
  have hw := fun d (hd : d ∈ tables_1) => atoms_spec (ws := Jvm.Cond.code x code maxLocals ret :: tables_1) hat d (List.mem_cons_of_mem _ hd)
  have hfit : Fit s := fun {y c} hc i hi => by
    obtain ⟨ha, rfl⟩ := Array.getElem?_eq_some_iff.mp hc
    have q := List.all_eq_true.mp ((Array.all_eq_true_iff_forall_mem.mp hF) _ (Array.getElem_mem ha)) i (List.mem_range.mpr hi)
    simpa [Array.getElem?_eq_getElem hi] using q
  obtain ⟨i0, ei0⟩ := is_v g4
  obtain rfl : w0 = (.int i0) := Option.some.inj ei0
  obtain ⟨n, o, h1, h2, h3, _, L, rfl, ⟨rfl, N⟩, hq⟩ := rm0 l s _ hw tables_1 i0 s.heap s.heap.size (Nat.le_refl _) p e ha hc hk s m _ below hf ((Spec.applies_iff_loose hf).mp happ).1 ⟨rfl, State.Warmed39.refl s, rfl⟩ trivial
  refine ⟨n, _, h1, h2, h3, hpost _ _ _ _ _ _ ⟨Cond.after_iff.mpr rfl, Cond.after_iff.mpr (eq_i res_at (Term.int_eval (1)) rfl), trivial⟩ ⟨hq.1, hq.2.1, (hq.2.2.sift fun y hy => Or.inr (N y hy)).mono (by decide) (by decide)⟩⟩
theorem main_1_1 : Claimed_1_1 := comes_1 fun _ _ _ _ _ _ h hF => ⟨h.1, hF⟩
theorem main_1_2 : Claimed_1_2 := comes_1 fun _ _ _ _ _ _ h hF => ⟨h.2.1, hF⟩

end Jvm.Pilot.@@N@@
namespace Jvm.Pilot.@@N@@
open Jvm Jvm.ClassFile Sem Op Lib Jvm.Free Jvm.Stand Jvm.Pilot.@@N@@.Jvm.D
/-! MADE BY PROGRAM (witnessworld.py) out of the Statement's table words and the real class files: 9 classes; the members and pool entries that the words name. The judged class is class 1, her method 1. -/
namespace start1
open Jvm.ClassFile
def u (s : String) : CpInfo := .utf8 (stringToUtf16 s)
/-- a pool by its gaps: so many unusable entries, then the entry; so many at the end -/
def gap : Nat → List CpInfo → List CpInfo
  | 0, r => r
  | n + 1, r => .unusable :: gap n r
def poolList (es : List (Nat × CpInfo)) (last : Nat) : List CpInfo := es.foldr (fun e r => gap e.1 (e.2 :: r)) (gap last [])
def pool (es : List (Nat × CpInfo)) (last : Nat) : Array CpInfo := ⟨poolList es last⟩
def fileOf (pool : Array CpInfo) (this : Nat) (attrs : Array Attribute := #[]) (ms : Array MethodInfo := #[]) (fl : Nat := 33) (sup : Nat := 0) (ifs : Array Nat := #[]) (fds : Array FieldInfo := #[]) : ClassFile where
  minorVersion := 0
  majorVersion := 65
  constantPool := pool
  accessFlags := fl
  thisClass := this
  superClass := sup
  interfaces := ifs
  fields := fds
  methods := ms
  attributes := attrs
def plain (name : String) (sup : Option ClassId) : Class where
  name := name
  kind := .ordinary
  loader := none
  accessFlags := 33
  super := sup
  interfaces := #[]
  cf := none
  fields := #[]
  methods := #[]
  instanceTypes := #[]
  staticTypes := #[]
  resolved := #[]
  callSites := []
  init := .initialized
  statics := none
  mirror := none

def pool0 : Array CpInfo := pool [(5, u "<init>"), (0, u "()V"), (1, .class_ 10), (1, u "java/lang/Object")] 113

def k0m0 : Method := { name := "<init>", desc := "()V", sig := { parameters := [], returnType := none }, accessFlags := 1, code := none }
/-- java/lang/Object -/
def k0 : Class := { plain "java/lang/Object" none with
  accessFlags := 33
  interfaces := #[]
  cf := some (fileOf pool0 8 #[] #[{ accessFlags := 1, nameIndex := 5, descriptorIndex := 6, attributes := #[] }] 33 0 #[] #[])
  fields := #[]
  methods := #[k0m0]
  instanceTypes := #[]
  staticTypes := #[]
  resolved := Array.replicate 124 none
  statics := none }

def pool1 : Array CpInfo := pool [(2, .class_ 4), (1, u "java/lang/Object"), (0, u "<init>"), (0, u "()V"), (0, .methodref 8 9), (0, .class_ 10), (0, .nameAndType 11 12), (0, u "com/example/bindery/bindery/http/server/Syntax"), (0, u "isLetterOrDigit"), (0, u "(C)Z"), (0, .class_ 14), (0, u "com/example/bindery/bindery/http/server/SyntaxIsLetterOrDigitPinLaw"), (2, u "law"), (0, u "(I)Z")] 3

def k1m0 : Method := { name := "<init>", desc := "()V", sig := { parameters := [], returnType := none }, accessFlags := 2, code := none }
def k1c1 : Code := { maxStack := 2, maxLocals := 6, code := code, exceptionTable := #[], attributes := #[] }
def k1m1 : Method := { name := "law", desc := "(I)Z", sig := { parameters := [.int], returnType := some .boolean }, accessFlags := 9, code := some k1c1 }
/-- com/example/bindery/bindery/http/server/SyntaxIsLetterOrDigitPinLaw -/
def k1 : Class := { plain "com/example/bindery/bindery/http/server/SyntaxIsLetterOrDigitPinLaw" (some 0) with
  accessFlags := 49
  interfaces := #[]
  cf := some (fileOf pool1 13 #[] #[{ accessFlags := 2, nameIndex := 5, descriptorIndex := 6, attributes := #[] }, { accessFlags := 9, nameIndex := 17, descriptorIndex := 18, attributes := #[] }] 49 2 #[] #[])
  fields := #[]
  methods := #[k1m0, k1m1]
  instanceTypes := #[]
  staticTypes := #[]
  resolved := Array.replicate 22 none
  statics := none }

def pool2 : Array CpInfo := pool [(2, .class_ 4), (1, u "java/lang/Object"), (0, u "<init>"), (0, u "()V"), (11, .class_ 20), (1, u "com/example/bindery/bindery/http/server/Syntax"), (0, u "isLetterOrDigit"), (0, u "(C)Z"), (18, u "TOKEN_SYMBOLS"), (0, u "Ljava/lang/String;")] 12

def k2m0 : Method := { name := "<init>", desc := "()V", sig := { parameters := [], returnType := none }, accessFlags := 2, code := none }
def k2c1 : Code := { maxStack := 2, maxLocals := 1, code := prog_104_method_3_code, exceptionTable := #[], attributes := #[] }
def k2m1 : Method := { name := "isLetterOrDigit", desc := "(C)Z", sig := { parameters := [.char], returnType := some .boolean }, accessFlags := 8, code := some k2c1 }
/-- com/example/bindery/bindery/http/server/Syntax -/
def k2 : Class := { plain "com/example/bindery/bindery/http/server/Syntax" (some 0) with
  accessFlags := 48
  interfaces := #[]
  cf := some (fileOf pool2 18 #[] #[{ accessFlags := 2, nameIndex := 5, descriptorIndex := 6, attributes := #[] }, { accessFlags := 8, nameIndex := 21, descriptorIndex := 22, attributes := #[] }] 48 2 #[] #[{ accessFlags := 26, nameIndex := 41, descriptorIndex := 42, attributes := #[] }])
  fields := #[{ name := "TOKEN_SYMBOLS", type := (.object "java/lang/String"), accessFlags := 26, slot := 0, constantValue := 0 }]
  methods := #[k2m0, k2m1]
  instanceTypes := #[]
  staticTypes := #[(.object "java/lang/String")]
  resolved := Array.replicate 55 none
  statics := none }

def pool3 : Array CpInfo := pool [(1, u "java/lang/Cloneable"), (0, .class_ 1), (0, u "java/lang/Object"), (0, .class_ 3)] 3

/-- java/lang/Cloneable -/
def k3 : Class := { plain "java/lang/Cloneable" (some 0) with
  accessFlags := 1537
  interfaces := #[]
  cf := some (fileOf pool3 2 #[] #[] 1537 4 #[] #[])
  fields := #[]
  methods := #[]
  instanceTypes := #[]
  staticTypes := #[]
  resolved := Array.replicate 8 none
  statics := none }

def pool4 : Array CpInfo := pool [(1, u "java/io/Serializable"), (0, .class_ 1), (0, u "java/lang/Object"), (0, .class_ 3)] 3

/-- java/io/Serializable -/
def k4 : Class := { plain "java/io/Serializable" (some 0) with
  accessFlags := 1537
  interfaces := #[]
  cf := some (fileOf pool4 2 #[] #[] 1537 4 #[] #[])
  fields := #[]
  methods := #[]
  instanceTypes := #[]
  staticTypes := #[]
  resolved := Array.replicate 8 none
  statics := none }

/-- the primitive byte -/
def k5 : Class := { plain "byte" none with kind := .primitive 'B', accessFlags := 0x411 }
/-- [B -/
def k6 : Class := { plain "[B" (some 0) with kind := .array 5 .byte, interfaces := #[3, 4], accessFlags := 1041 }

/-- the primitive int -/
def k7 : Class := { plain "int" none with kind := .primitive 'I', accessFlags := 0x411 }
/-- [I -/
def k8 : Class := { plain "[I" (some 0) with kind := .array 7 .int, interfaces := #[3, 4], accessFlags := 1041 }

def heap : Heap := #[]
def classes : Array Class := #[k0, k1, k2, k3, k4, k5, k6, k7, k8]
def interned : List (Array UInt16 × Addr) := []
def slotsUsed : Nat := 0
def theMethod : MethodId := ⟨1, 1⟩
def args0 : Array Value := #[.int 65]
def aboutOver (below : List Frame) : State where
  vm := { classes := classes, interned := interned.toArray }
  heap := heap
  slotsUsed := slotsUsed
  threads := #[{ frames := .invoking theMethod args0 :: below }]
def below0 : List Frame := [.native { method := ⟨0, 0⟩, args := #[] }]
def about1 : State := aboutOver below0
def p0 : Program := .bare "" "" ""
def e0 : Env := launch0.env 0 0 0
theorem w_frames : about1.frames = Frame.invoking theMethod args0 :: below0 := rfl
set_option maxRecDepth 65536 in
theorem w_args : argsFit about1.vm theMethod args0 = true := by decide +kernel
set_option maxRecDepth 65536 in
theorem w_heap : heapFits about1 = true := by decide +kernel
set_option maxRecDepth 65536 in
theorem w_runnable : about1.curStatus? = some .runnable := by decide +kernel
set_option maxRecDepth 65536 in
theorem w_alone : about1.alone = true := by decide +kernel
set_option maxRecDepth 65536 in
theorem w_named : about1.methodNamed? x = some theMethod := by decide +kernel
set_option maxRecDepth 65536 in
theorem w_hears : about1.hears theMethod below0 = true := by decide +kernel
set_option maxRecDepth 65536 in
theorem w_ripe : about1.ripe theMethod args0 below0 = true := by decide +kernel
theorem w_running : about1.status = .running := rfl
set_option maxRecDepth 65536 in
theorem w_room : about1.hasRoom e0.platform room_1 = true :=
  launch0.hasRoom_least _ room_1 (by decide +kernel) (by decide +kernel) (by decide +kernel) (by decide +kernel) (by decide +kernel) (by decide +kernel)
theorem allAtoms_all (ts : List Jvm.Cond) (a : Array Jvm.Value) (st : Jvm.State) : (allAtoms ts).before a st = ts.all (fun c => c.before a st) := by
  induction ts with
  | nil => rfl
  | cons c t ih =>
    show (Jvm.Cond.and c (allAtoms t)).before a st = _
    rw [Jvm.Cond.before_and, ih, List.all_cons]
def words1 : List Jvm.Cond := Jvm.Cond.code x code maxLocals ret :: tables_1
/-- a 'code' word, met by the world's own term for the bytes: nothing is compared byte by byte -/
theorem code_word {y : MethodName} {bytes : ByteArray} {mx : Nat} {rt : Option FieldType} {a : Array Value} {s : State} {m : MethodId} {meth : Method} {c : Code} (h1 : s.methodNamed? y = some m) (h2 : s.vm.method? m = some meth) (h3 : meth.code = some c) (h4 : c.code = bytes)
    (h5 : (c.maxLocals == mx && c.exceptionTable.isEmpty && decide (c.maxStack ≤ mostOperands) && decide (meth.sig.returnType = rt) && !meth.locks && decide (parseMethodDescriptor y.desc = some meth.sig)) = true) : (Jvm.Cond.code y bytes mx rt).before a s = true := by
  simp only [Bool.and_eq_true, beq_iff_eq, Bool.not_eq_true', decide_eq_true_eq] at h5
  obtain ⟨⟨⟨⟨⟨g1, g2⟩, g3⟩, g4⟩, g5⟩, g6⟩ := h5
  simp [Cond.before, Cond.holds, Cond.value, h1, h2, h3, h4, g1, g2, g3, g4, g5, g6]
def isCode : Jvm.Cond → Bool
  | .code _ _ _ _ => true
  | _ => false
theorem all_split {L : List Jvm.Cond} {P : Jvm.Cond → Bool} (h1 : L.all (fun c => isCode c || P c) = true) (h2 : ∀ c ∈ L.filter isCode, P c = true) : L.all P = true := by
  refine List.all_eq_true.mpr fun c hc => ?_
  have h := List.all_eq_true.mp h1 c hc
  rcases Bool.eq_false_or_eq_true (isCode c) with hi | hi
  · exact h2 c (List.mem_filter.mpr ⟨hc, hi⟩)
  · simpa [hi] using h
set_option maxRecDepth 65536 in
theorem w_c0 : (Jvm.Cond.code x code maxLocals ret).before args0 about1 = true := code_word (m := ⟨1, 1⟩) (meth := k1m1) (c := k1c1) (by decide +kernel) rfl rfl rfl (by decide +kernel)
set_option maxRecDepth 65536 in
theorem w_c1 : (Jvm.Cond.code ({ cls := "com/example/bindery/bindery/http/server/Syntax", name := "isLetterOrDigit", desc := "(C)Z" } : Jvm.MethodName) prog_104_method_3_code (1 : Nat) (Option.some Jvm.ClassFile.FieldType.boolean)).before args0 about1 = true := code_word (m := ⟨2, 1⟩) (meth := k2m1) (c := k2c1) (by decide +kernel) rfl rfl rfl (by decide +kernel)
def codes1 : List Jvm.Cond := [Jvm.Cond.code x code maxLocals ret, Jvm.Cond.code ({ cls := "com/example/bindery/bindery/http/server/Syntax", name := "isLetterOrDigit", desc := "(C)Z" } : Jvm.MethodName) prog_104_method_3_code (1 : Nat) (Option.some Jvm.ClassFile.FieldType.boolean)]
set_option maxRecDepth 65536 in
theorem codes_eq : words1.filter isCode = codes1 := rfl
theorem w_codes : ∀ c ∈ words1.filter isCode, c.before args0 about1 = true := by
  rw [codes_eq]
  intro c hc
  simp only [codes1, List.mem_cons, List.not_mem_nil, or_false] at hc
  rcases hc with rfl | rfl
  · exact w_c0
  · exact w_c1
set_option maxRecDepth 65536 in
theorem w_t1 : words1.all (fun c => isCode c || c.before args0 about1) = true := by decide +kernel
theorem w_tables : (allAtoms (Jvm.Cond.code x code maxLocals ret :: tables_1)).before args0 about1 = true := by
  rw [allAtoms_all]
  show words1.all (fun c => c.before args0 about1) = true
  refine all_split ?_ w_codes
  rw [w_t1]
set_option maxRecDepth 65536 in
theorem w_case : (Jvm.Cond.and given_1 narrow_1).before args0 about1 = true := by decide +kernel
theorem w_applies : (headSpec (Jvm.Cond.code x code maxLocals ret :: tables_1) room_1).applies x e0.platform about1 = true :=
  (Spec.applies_iff w_frames).mpr ⟨w_running, w_runnable, w_alone, w_named, w_hears, w_ripe, w_room, w_tables⟩
theorem atStart : AtStart classFile x code maxLocals ret World_1 tables_1 room_1 Calls_1 rest_1 Pre_1 launch0 p0 e0 about1 theMethod args0 below0 :=
  ⟨lists_1, trivial, launch0.admits_env _ _ _, launch0.least_env, fairChoices_fair.cas, fairChoices_fair.clock, w_frames, w_args, w_heap, w_applies, trivial, trivial, w_case⟩
end start1
theorem witness_1 : WitnessClaimed_1 := ⟨start1.p0, start1.e0, start1.about1, start1.theMethod, start1.args0, start1.below0, start1.atStart⟩
end Jvm.Pilot.@@N@@
