import JvmDerived
import JvmDerived.Pilot.@@N@@Statement
import JvmDerived.Pilot.@@N@@Code
set_option linter.unusedVariables false
set_option linter.unusedSimpArgs false
namespace Jvm.RoadKit
open Sem ClassFile Op Lib Jvm.Stand Jvm.Free Jvm.LawKit
section New
variable {p : Program} {l : Launch} {e : Env} {R : Room} {s : State} {m : MethodId} {args : Array Value} {below : List Frame} {meth : Method} {c : Code} {T : State} {locs : List Loc} {cells slots : Nat}
theorem retI (X : Stand p l e R s m args below meth c T locs cells slots) (hx : p.tables.exec = Jvm.exec) {pc : Nat} {Ls : Array Slot} {z : Int32} {rest : List Value} (hret : meth.sig.returnType = some .int) (hd : decode c.code pc = .ok (.ireturn, 1)) {fs : List Frame}
    (hl : ∀ (f : JFrame) (acts : List Action), f.method = m → f.locked = none → f.entered = [] → (doReturn e (T.setTop f) acts (some (.int z))).1 = T.setFrames fs) : Steps p.tables e below (T.setTop (mkF m pc Ls (.int z :: rest))) (T.setFrames fs) := by
  have hm' : T.vm.method? m = some meth := X.method'
  have hn : narrow .int (.int z) = .int z := rfl
  show Steps p.tables e below (T.setTop { method := m, pc := pc, locals := Ls, stack := _ :: rest, locked := none }) _
  jvm_step X.here [X.here.top, hx, hd, hm', hret, hn]
  first | (intro acts; rw [hl _ acts rfl rfl rfl]) | rw [hl _ _ rfl rfl rfl]
  exact Steps.refl _
end New
end Jvm.RoadKit
namespace Jvm.Pilot.@@N@@
open Jvm Jvm.ClassFile Sem Op Lib Jvm.Free Jvm.Stand Jvm.LawKit Jvm.RoadKit Bundle Jvm.Pilot.@@N@@.Jvm.D

section Own
variable {p : Program} {l : Launch} {e : Env} {R : Room} {s : State} {m : MethodId} {args : Array Value} {below : List Frame} {meth : Method} {c : Code} {T : State} {locs : List Loc} {cells slots : Nat} {Z : State} {h : Heap} {a : Addr} {k : ClassId} {n : Int32} {vs : List Value} {dv : Value}
theorem own_in {cl : Cell} {j : Int32} {i : Nat} (S : cl.slots.size = n.toNatClampNeg) (hj0 : ¬ j < 0) (hji : j.toNatClampNeg = i) (hin : i < n.toNatClampNeg) : ¬ (j < 0 ∨ cl.slots.size ≤ j.toNatClampNeg) := by
  rw [S, hji]; exact fun q => q.elim hj0 (fun q => absurd hin (Nat.not_lt.mpr q))
theorem own_ild (X : Stand p l e R s m args below meth c T locs cells slots) (hx : p.tables.exec = Jvm.exec) (hZ : Z.Warmed39 s.vm) (eT : T.heap = h) (A : Arv Z h a k .int n vs dv) {j w : Int32} (i : Nat) (hj0 : ¬ j < 0) (hji : j.toNatClampNeg = i) (hin : i < n.toNatClampNeg) (hw : vs.getD i dv = .int w)
    {g : JFrame} (hg : g.method = m) {rest : List Value} (hs : g.stack = .int j :: .ref a :: rest) (hd : decode c.code g.pc = .ok (.iaload, 1)) : ∀ target, Steps p.tables e below (T.setTop { g with pc := g.pc + 1, stack := .int w :: rest }) target → Steps p.tables e below (T.setTop g) target := by
  obtain ⟨cl, Ar, -, S, -, H, -⟩ := A
  have hat : cl.slots[j.toNatClampNeg]? = some (.int w) := by rw [hji, H i (by rw [S]; exact hin), hw]
  exact X.iaload hx (j := j) (v := .int w) (by rw [eT]; exact Ar.1) (State.isArrayOf_alike hZ.alike Ar.2.1) Ar.2.2 (own_in S hj0 hji hin) hat hg hs hd
theorem own_len (X : Stand p l e R s m args below meth c T locs cells slots) (hx : p.tables.exec = Jvm.exec) (hZ : Z.Warmed39 s.vm) (eT : T.heap = h) {ty : FieldType} (A : Arv Z h a k ty n vs dv)
    {g : JFrame} (hg : g.method = m) {rest : List Value} (hs : g.stack = .ref a :: rest) (hd : decode c.code g.pc = .ok (.arraylength, 1)) : ∀ target, Steps p.tables e below (T.setTop { g with pc := g.pc + 1, stack := .int n :: rest }) target → Steps p.tables e below (T.setTop g) target := by
  obtain ⟨cl, Ar, -, S, N, H, -⟩ := A
  have q := X.arraylength hx (by rw [eT]; exact Ar.1) (State.isArrayOf_alike hZ.alike Ar.2.1) hg hs hd
  rw [len_of S N] at q
  exact q
theorem own_ist (X : Stand p l e R s m args below meth c T locs cells slots) (hx : p.tables.exec = Jvm.exec) (hZ : Z.Warmed39 s.vm) (eT : T.heap = h) (A : Arv Z h a k .int n vs dv) {j x : Int32} (i : Nat) (hj0 : ¬ j < 0) (hji : j.toNatClampNeg = i) (hin : i < n.toNatClampNeg) (hi : i < vs.length)
    {g : JFrame} (hg : g.method = m) {rest : List Value} (hs : g.stack = .int x :: .int j :: .ref a :: rest) (hd : decode c.code g.pc = .ok (.iastore, 1)) :
    ∃ T' h', Stand p l e R s m args below meth c T' (locs ++ [⟨a, j.toNatClampNeg⟩]) cells slots ∧ T'.heap = h' ∧ Wr h h' a j.toNatClampNeg (.int x) ∧ Arv Z h' a k .int n (vs.set i (.int x)) dv ∧ ∀ target, Steps p.tables e below (T'.setTop { g with pc := g.pc + 1, stack := rest }) target → Steps p.tables e below (T.setTop g) target := by
  obtain ⟨cl, Ar, q1, S, N, H, G⟩ := A
  obtain ⟨T', h', X', e', W', st⟩ := stI X hx hZ eT Ar (j := j) (own_in S hj0 hji hin) hg hs hd
  exact ⟨T', h', X', e', W', Arv.set Ar q1 S N H G rfl W' i hji hi, st⟩
end Own

theorem own_sa (n x y z : Int32) (h : y.toInt - x.toInt = -z.toInt) : n - x + y = n - z := by
  apply Int32.toInt_inj.mp
  have c1 := c_isub n x
  have c2 := c_iadd (n - x) y
  have c3 := c_isub n z
  have r1 := rng32 (n - x + y)
  have r2 := rng32 (n - z)
  omega
theorem own_aa (n x y z : Int32) (h : x.toInt + y.toInt = z.toInt) : n + x + y = n + z := by
  apply Int32.toInt_inj.mp
  have c1 := c_iadd n x
  have c2 := c_iadd (n + x) y
  have c3 := c_iadd n z
  have r1 := rng32 (n + x + y)
  have r2 := rng32 (n + z)
  omega
theorem own_s32 (n : Int32) : n - 3 + 2 = n - 1 := own_sa n 3 2 1 (by decide)
theorem own_s31 (n : Int32) : n - 3 + 1 = n - 2 := own_sa n 3 1 2 (by decide)
theorem own_s30 (n : Int32) : n - 3 + 0 = n - 3 := own_sa n 3 0 3 (by decide)
theorem own_s21 (n : Int32) : n - 2 + 1 = n - 1 := own_sa n 2 1 1 (by decide)
theorem own_s20 (n : Int32) : n - 2 + 0 = n - 2 := own_sa n 2 0 2 (by decide)
theorem own_s10 (n : Int32) : n - 1 + 0 = n - 1 := own_sa n 1 0 1 (by decide)
theorem own_a2 (n : Int32) : n + 1 + 1 = n + 2 := own_aa n 1 1 2 (by decide)
theorem own_a3 (n : Int32) : n + 1 + 1 + 1 = n + 3 := by rw [own_a2 n]; exact own_aa n 2 1 3 (by decide)
def own_gap (g : Int32) : Int32 := if g &&& 1 = 0 then ((g.toUInt32 >>> ((1 : Int32) &&& 31).toUInt32).toInt32) &&& 1 else ((g.toUInt32 >>> ((2 : Int32) &&& 31).toUInt32).toInt32) &&& 268435455

theorem d1_0 : decode method_2_code 0 = .ok (.iload_n 0, 1) := by decide +kernel
theorem d1_1 : decode method_2_code 1 = .ok (.iconst 1, 1) := by decide +kernel
theorem d1_2 : decode method_2_code 2 = .ok (.iand, 1) := by decide +kernel
theorem d1_3 : decode method_2_code 3 = .ok (.ifCond .ne 9, 3) := by decide +kernel
theorem d1_6 : decode method_2_code 6 = .ok (.iload_n 0, 1) := by decide +kernel
theorem d1_7 : decode method_2_code 7 = .ok (.iconst 1, 1) := by decide +kernel
theorem d1_8 : decode method_2_code 8 = .ok (.iushr, 1) := by decide +kernel
theorem d1_9 : decode method_2_code 9 = .ok (.iconst 1, 1) := by decide +kernel
theorem d1_10 : decode method_2_code 10 = .ok (.iand, 1) := by decide +kernel
theorem d1_11 : decode method_2_code 11 = .ok (.ireturn, 1) := by decide +kernel
theorem d1_12 : decode method_2_code 12 = .ok (.iload_n 0, 1) := by decide +kernel
theorem d1_13 : decode method_2_code 13 = .ok (.iconst 2, 1) := by decide +kernel
theorem d1_14 : decode method_2_code 14 = .ok (.iushr, 1) := by decide +kernel
theorem d1_15 : decode method_2_code 15 = .ok (.ldc 7, 2) := by decide +kernel
theorem d1_17 : decode method_2_code 17 = .ok (.iand, 1) := by decide +kernel
theorem d1_18 : decode method_2_code 18 = .ok (.ireturn, 1) := by decide +kernel
theorem pn_1 : plainName "com/example/ashlar/ashlar/storage/SubsetsNextPinLaw" = true := by first | (simp [plainName, overriddenIn]; done) | decide +kernel
theorem ef_1 (m : MethodId) (x0 : Int32) : entryFrame m #[(.int x0)] 1 = mkF m 0 #[.val (.int x0)] [] := by first | (simp [entryFrame, mkF, argsToLocals, Value.category]; done) | rfl
def Q1 (Z : State) (p1 : Int32) (h0 : Heap) (n0 : Nat) (v : Option Value) (h : Heap) (L : List Loc) : Prop := v = some (.int (own_gap p1)) ∧ Fr n0 L ∧ h = h0
set_option maxRecDepth 65536 in
set_option maxHeartbeats 40000000 in
theorem rm1 (l : Launch) (Z : State) (a0 : Array Value) (hw : ∀ d ∈ tables_1, d.before a0 Z = true) (ws : List Jvm.Cond) (p1 : Int32) (h0 : Heap) (n0 : Nat) (Z0 : n0 ≤ h0.size) :
    MetFree l (⟨"com/example/ashlar/ashlar/storage/SubsetsNextPinLaw", "gap", "(I)I"⟩ : MethodName) (head1 (Jvm.Cond.code (⟨"com/example/ashlar/ashlar/storage/SubsetsNextPinLaw", "gap", "(I)I"⟩ : MethodName) method_2_code 1 (some .int) :: ws) ({ frames := 0, cells := 0, slots := 0, locals := 0 } : Room)) (fun a U => a = #[(.int p1)] ∧ Z.Warmed39 U.vm ∧ U.heap = h0) (fun _ _ _ _ _ => True) (fun _ U o U' => ∃ v L, o = .returned v ∧ Q1 Z p1 h0 n0 v U'.heap L ∧ FrameEnd U o U' L ({ frames := 0, cells := 0, slots := 0, locals := 0 } : Room).cells ({ frames := 0, cells := 0, slots := 0, locals := 0 } : Room).slots) := by
  refine MetFree.of_bodySF (plainFor_of_name pn_1) hisR ?_
  intro p e s m args below meth c s₁ Bd hml0 hP hK
  obtain ⟨rfl, hZ, hh⟩ := hP
  have hx := Bd.exec
  have hby := Bd.bytes
  have hml : c.maxLocals = 1 := hml0
  have hown : s.vm.findClass "com/example/ashlar/ashlar/storage/SubsetsNextPinLaw" = some m.cls := findClass_of_methodNamed Bd.named
  have hnm := (name_of_methodNamed Bd.named Bd.method).1
  have X0 : Stand p l e ({ frames := 0, cells := 0, slots := 0, locals := 0 } : Room) s m #[(.int p1)] below meth c s₁ [] 0 0 := Stand.of_body Bd
  have e0 : s₁.heap = h0 := by rw [← hh, Bd.state]; rfl
  have N0 := Fr.nil n0
  have pre0 : ∀ t, Steps p.tables e below (s₁.setTop (mkF m 0 #[.val (.int p1)] [])) t → Steps p.tables e below (s₁.setTop (entryFrame m #[(.int p1)] 1)) t := fun t k => castTop (ef_1 m p1) k
  obtain ⟨fs, hr, hrun, hended, hW, hsame⟩ := X0.leave (v := some (.int (own_gap p1))) (fun h => by rw [Bd.returns] at h; cases h)
  refine ⟨_, _, pre0 _ ?_, hrun, hended, _, _, rfl, ?_, ⟨_, rfl⟩, hW, hsame.mono (by decide) (by decide)⟩
  · have fin : ∀ (pc : Nat) (z : Int32), decode c.code pc = .ok (.ireturn, 1) → z = own_gap p1 → Steps p.tables e below (s₁.setTop (mkF m pc #[.val (.int p1)] [(.int z)])) (s₁.setFrames fs) := by
      rintro pc z hd rfl
      exact retI X0 hx Bd.returns hd hr
    show Steps p.tables e below (s₁.setTop (mkF m 0 #[.val (.int p1)] [])) _
    refine XS.iloadN X0.here hx rfl (hb hby d1_0) rfl ?_
    show Steps p.tables e below (s₁.setTop (mkF m 1 #[.val (.int p1)] [(.int p1)])) _
    refine XS.iconst X0.here hx rfl (hb hby d1_1) ?_
    show Steps p.tables e below (s₁.setTop (mkF m 2 #[.val (.int p1)] [(.int (1 : Int32)), (.int p1)])) _
    refine XS.iand X0.here hx rfl (hb hby d1_2) rfl ?_
    show Steps p.tables e below (s₁.setTop (mkF m 3 #[.val (.int p1)] [(.int (p1 &&& (1 : Int32)))])) _
    by_cases c3 : (p1 &&& (1 : Int32)) = (0 : Int32)
    · refine XS.ifNo X0.here hx rfl (hb hby d1_3) rfl ((if0 _ _).trans (teq (c3 : (p1 &&& (1 : Int32)) = (0 : Int32))).2) ?_
      show Steps p.tables e below (s₁.setTop (mkF m 6 #[.val (.int p1)] [])) _
      refine XS.iloadN X0.here hx rfl (hb hby d1_6) rfl ?_
      show Steps p.tables e below (s₁.setTop (mkF m 7 #[.val (.int p1)] [(.int p1)])) _
      refine XS.iconst X0.here hx rfl (hb hby d1_7) ?_
      show Steps p.tables e below (s₁.setTop (mkF m 8 #[.val (.int p1)] [(.int (1 : Int32)), (.int p1)])) _
      refine XS.iushr X0.here hx rfl (hb hby d1_8) rfl ?_
      show Steps p.tables e below (s₁.setTop (mkF m 9 #[.val (.int p1)] [(.int ((p1.toUInt32 >>> ((1 : Int32) &&& 31).toUInt32).toInt32))])) _
      refine XS.iconst X0.here hx rfl (hb hby d1_9) ?_
      show Steps p.tables e below (s₁.setTop (mkF m 10 #[.val (.int p1)] [(.int (1 : Int32)), (.int ((p1.toUInt32 >>> ((1 : Int32) &&& 31).toUInt32).toInt32))])) _
      refine XS.iand X0.here hx rfl (hb hby d1_10) rfl ?_
      exact fin 11 _ (hb hby d1_11) (if_pos c3).symm
    · refine XS.ifYes X0.here hx rfl (pc0 := 3) (pc' := 12) rfl (hb hby d1_3) rfl ((if0 _ _).trans (feq (c3 : ¬ ((p1 &&& (1 : Int32)) = (0 : Int32)))).2) (by decide) (by decide) ?_
      show Steps p.tables e below (s₁.setTop (mkF m 12 #[.val (.int p1)] [])) _
      refine XS.iloadN X0.here hx rfl (hb hby d1_12) rfl ?_
      show Steps p.tables e below (s₁.setTop (mkF m 13 #[.val (.int p1)] [(.int p1)])) _
      refine XS.iconst X0.here hx rfl (hb hby d1_13) ?_
      show Steps p.tables e below (s₁.setTop (mkF m 14 #[.val (.int p1)] [(.int (2 : Int32)), (.int p1)])) _
      refine XS.iushr X0.here hx rfl (hb hby d1_14) rfl ?_
      show Steps p.tables e below (s₁.setTop (mkF m 15 #[.val (.int p1)] [(.int ((p1.toUInt32 >>> ((2 : Int32) &&& 31).toUInt32).toInt32))])) _
      refine X0.ldcInt hx hown (mvT hZ (hw _ (List.mem_of_getElem? (i := 4) rfl))) (g := (mkF m 15 #[.val (.int p1)] [(.int ((p1.toUInt32 >>> ((2 : Int32) &&& 31).toUInt32).toInt32))])) rfl (hb hby d1_15) _ ?_
      show Steps p.tables e below (s₁.setTop (mkF m 17 #[.val (.int p1)] [(.int (268435455 : Int32)), (.int ((p1.toUInt32 >>> ((2 : Int32) &&& 31).toUInt32).toInt32))])) _
      refine XS.iand X0.here hx rfl (hb hby d1_17) rfl ?_
      exact fin 18 _ (hb hby d1_18) (if_neg c3).symm
  · show Q1 Z p1 h0 n0 _ s₁.heap _
    rw [e0]
    exact ⟨rfl, N0, rfl⟩
theorem d2_0 : decode prog_78_method_3_code 0 = .ok (.aload_n 0, 1) := by decide +kernel
theorem d2_1 : decode prog_78_method_3_code 1 = .ok (.arraylength, 1) := by decide +kernel
theorem d2_2 : decode prog_78_method_3_code 2 = .ok (.iconst 1, 1) := by decide +kernel
theorem d2_3 : decode prog_78_method_3_code 3 = .ok (.isub, 1) := by decide +kernel
theorem d2_4 : decode prog_78_method_3_code 4 = .ok (.istore_n 2, 1) := by decide +kernel
theorem d2_5 : decode prog_78_method_3_code 5 = .ok (.iload_n 2, 1) := by decide +kernel
theorem d2_6 : decode prog_78_method_3_code 6 = .ok (.ifCond .lt 21, 3) := by decide +kernel
theorem d2_9 : decode prog_78_method_3_code 9 = .ok (.aload_n 0, 1) := by decide +kernel
theorem d2_10 : decode prog_78_method_3_code 10 = .ok (.iload_n 2, 1) := by decide +kernel
theorem d2_11 : decode prog_78_method_3_code 11 = .ok (.iaload, 1) := by decide +kernel
theorem d2_12 : decode prog_78_method_3_code 12 = .ok (.iload_n 1, 1) := by decide +kernel
theorem d2_13 : decode prog_78_method_3_code 13 = .ok (.aload_n 0, 1) := by decide +kernel
theorem d2_14 : decode prog_78_method_3_code 14 = .ok (.arraylength, 1) := by decide +kernel
theorem d2_15 : decode prog_78_method_3_code 15 = .ok (.isub, 1) := by decide +kernel
theorem d2_16 : decode prog_78_method_3_code 16 = .ok (.iload_n 2, 1) := by decide +kernel
theorem d2_17 : decode prog_78_method_3_code 17 = .ok (.iadd, 1) := by decide +kernel
theorem d2_18 : decode prog_78_method_3_code 18 = .ok (.if_icmp .lt 9, 3) := by decide +kernel
theorem d2_21 : decode prog_78_method_3_code 21 = .ok (.iinc 2 (-1), 3) := by decide +kernel
theorem d2_24 : decode prog_78_method_3_code 24 = .ok (.goto (-19), 3) := by decide +kernel
theorem d2_27 : decode prog_78_method_3_code 27 = .ok (.iload_n 2, 1) := by decide +kernel
theorem d2_28 : decode prog_78_method_3_code 28 = .ok (.ifCond .ge 5, 3) := by decide +kernel
theorem d2_31 : decode prog_78_method_3_code 31 = .ok (.iconst 0, 1) := by decide +kernel
theorem d2_32 : decode prog_78_method_3_code 32 = .ok (.ireturn, 1) := by decide +kernel
theorem d2_33 : decode prog_78_method_3_code 33 = .ok (.aload_n 0, 1) := by decide +kernel
theorem d2_34 : decode prog_78_method_3_code 34 = .ok (.iload_n 2, 1) := by decide +kernel
theorem d2_35 : decode prog_78_method_3_code 35 = .ok (.dup2, 1) := by decide +kernel
theorem d2_36 : decode prog_78_method_3_code 36 = .ok (.iaload, 1) := by decide +kernel
theorem d2_37 : decode prog_78_method_3_code 37 = .ok (.iconst 1, 1) := by decide +kernel
theorem d2_38 : decode prog_78_method_3_code 38 = .ok (.iadd, 1) := by decide +kernel
theorem d2_39 : decode prog_78_method_3_code 39 = .ok (.iastore, 1) := by decide +kernel
theorem d2_40 : decode prog_78_method_3_code 40 = .ok (.iload_n 2, 1) := by decide +kernel
theorem d2_41 : decode prog_78_method_3_code 41 = .ok (.iconst 1, 1) := by decide +kernel
theorem d2_42 : decode prog_78_method_3_code 42 = .ok (.iadd, 1) := by decide +kernel
theorem d2_43 : decode prog_78_method_3_code 43 = .ok (.istore_n 3, 1) := by decide +kernel
theorem d2_44 : decode prog_78_method_3_code 44 = .ok (.iload_n 3, 1) := by decide +kernel
theorem d2_45 : decode prog_78_method_3_code 45 = .ok (.aload_n 0, 1) := by decide +kernel
theorem d2_46 : decode prog_78_method_3_code 46 = .ok (.arraylength, 1) := by decide +kernel
theorem d2_47 : decode prog_78_method_3_code 47 = .ok (.if_icmp .ge 19, 3) := by decide +kernel
theorem d2_50 : decode prog_78_method_3_code 50 = .ok (.aload_n 0, 1) := by decide +kernel
theorem d2_51 : decode prog_78_method_3_code 51 = .ok (.iload_n 3, 1) := by decide +kernel
theorem d2_52 : decode prog_78_method_3_code 52 = .ok (.aload_n 0, 1) := by decide +kernel
theorem d2_53 : decode prog_78_method_3_code 53 = .ok (.iload_n 3, 1) := by decide +kernel
theorem d2_54 : decode prog_78_method_3_code 54 = .ok (.iconst 1, 1) := by decide +kernel
theorem d2_55 : decode prog_78_method_3_code 55 = .ok (.isub, 1) := by decide +kernel
theorem d2_56 : decode prog_78_method_3_code 56 = .ok (.iaload, 1) := by decide +kernel
theorem d2_57 : decode prog_78_method_3_code 57 = .ok (.iconst 1, 1) := by decide +kernel
theorem d2_58 : decode prog_78_method_3_code 58 = .ok (.iadd, 1) := by decide +kernel
theorem d2_59 : decode prog_78_method_3_code 59 = .ok (.iastore, 1) := by decide +kernel
theorem d2_60 : decode prog_78_method_3_code 60 = .ok (.iinc 3 1, 3) := by decide +kernel
theorem d2_63 : decode prog_78_method_3_code 63 = .ok (.goto (-19), 3) := by decide +kernel
theorem d2_66 : decode prog_78_method_3_code 66 = .ok (.iconst 1, 1) := by decide +kernel
theorem d2_67 : decode prog_78_method_3_code 67 = .ok (.ireturn, 1) := by decide +kernel
theorem pn_2 : plainName "com/example/ashlar/ashlar/storage/Subsets" = true := by first | (simp [plainName, overriddenIn]; done) | decide +kernel
theorem ef_2 (m : MethodId) (x0 : Addr) (x1 : Int32) : entryFrame m #[(.ref x0), (.int x1)] 4 = mkF m 0 #[.val (.ref x0), .val (.int x1), .unset, .unset] [] := by first | (simp [entryFrame, mkF, argsToLocals, Value.category]; done) | rfl
def Q2 (Z : State) (a1 : Addr) (k : ClassId) (K : Int32) (r : Int32) (vs : List Value) (n0 : Nat) (v : Option Value) (h : Heap) (L : List Loc) : Prop := v = some (.int r) ∧ Fr n0 L ∧ Arv Z h a1 k .int K vs (.int 0)
set_option maxRecDepth 65536 in
set_option maxHeartbeats 4000000 in
theorem rm2_0_0 (l : Launch) (Z : State) (a0 : Array Value) (hw : ∀ d ∈ tables_1, d.before a0 Z = true) (ws : List Jvm.Cond) (a1 : Addr) (n : Int32) (k : ClassId)  (h0 : Heap) (n0 : Nat) (g_a1 : n0 ≤ a1) (V0 : Arv Z h0 a1 k .int (0 : Int32) [] (.int 0)) :
    MetFree l (⟨"com/example/ashlar/ashlar/storage/Subsets", "next", "([II)Z"⟩ : MethodName) (head1 (Jvm.Cond.code (⟨"com/example/ashlar/ashlar/storage/Subsets", "next", "([II)Z"⟩ : MethodName) prog_78_method_3_code 4 (some .boolean) :: ws) ({ frames := 0, cells := 0, slots := 0, locals := 0 } : Room)) (fun a U => a = #[(.ref a1), (.int n)] ∧ Z.Warmed39 U.vm ∧ U.heap = h0) (fun _ _ _ _ _ => True) (fun _ U o U' => ∃ v L, o = .returned v ∧ Q2 Z a1 k (0 : Int32) (0 : Int32) [] n0 v U'.heap L ∧ FrameEnd U o U' L ({ frames := 0, cells := 0, slots := 0, locals := 0 } : Room).cells ({ frames := 0, cells := 0, slots := 0, locals := 0 } : Room).slots) := by
  refine MetFree.of_bodySF (plainFor_of_name pn_2) hisR ?_
  intro p e s m args below meth c s₁ Bd hml0 hP hK
  obtain ⟨rfl, hZ, hh⟩ := hP
  have hx := Bd.exec
  have hby := Bd.bytes
  have X0 : Stand p l e ({ frames := 0, cells := 0, slots := 0, locals := 0 } : Room) s m #[(.ref a1), (.int n)] below meth c s₁ [] 0 0 := Stand.of_body Bd
  have e0 : s₁.heap = h0 := by rw [← hh, Bd.state]; rfl
  have N0 := Fr.nil n0
  have pre0 : ∀ t, Steps p.tables e below (s₁.setTop (mkF m 0 #[.val (.ref a1), .val (.int n), .unset, .unset] [])) t → Steps p.tables e below (s₁.setTop (entryFrame m #[(.ref a1), (.int n)] 4)) t := fun t k => castTop (ef_2 m a1 n) k
  obtain ⟨fs, hr, hrun, hended, hW, hsame⟩ := X0.leave (v := some (.int (0 : Int32))) (fun h => by rw [Bd.returns] at h; cases h)
  refine ⟨_, _, pre0 _ ?_, hrun, hended, _, _, rfl, ?_, ⟨_, rfl⟩, hW, hsame.mono (by decide) (by decide)⟩
  · show Steps p.tables e below (s₁.setTop (mkF m 0 #[.val (.ref a1), .val (.int n), .unset, .unset] [])) _
    refine XS.aloadN X0.here hx rfl (hb hby d2_0) rfl rfl ?_
    show Steps p.tables e below (s₁.setTop (mkF m 1 #[.val (.ref a1), .val (.int n), .unset, .unset] [(.ref a1)])) _
    refine own_len X0 hx hZ e0 V0 (g := (mkF m 1 #[.val (.ref a1), .val (.int n), .unset, .unset] [(.ref a1)])) rfl rfl (hb hby d2_1) _ ?_
    show Steps p.tables e below (s₁.setTop (mkF m 2 #[.val (.ref a1), .val (.int n), .unset, .unset] [(.int (0 : Int32))])) _
    refine XS.iconst X0.here hx rfl (hb hby d2_2) ?_
    show Steps p.tables e below (s₁.setTop (mkF m 3 #[.val (.ref a1), .val (.int n), .unset, .unset] [(.int (1 : Int32)), (.int (0 : Int32))])) _
    refine XS.isub X0.here hx rfl (hb hby d2_3) rfl ?_
    show Steps p.tables e below (s₁.setTop (mkF m 4 #[.val (.ref a1), .val (.int n), .unset, .unset] [(.int (-1 : Int32))])) _
    refine XS.istoreN X0.here hx rfl (hb hby d2_4) rfl (l' := #[.val (.ref a1), .val (.int n), .val (.int (-1 : Int32)), .unset]) rfl ?_
    show Steps p.tables e below (s₁.setTop (mkF m 5 #[.val (.ref a1), .val (.int n), .val (.int (-1 : Int32)), .unset] [])) _
    refine XS.iloadN X0.here hx rfl (hb hby d2_5) rfl ?_
    show Steps p.tables e below (s₁.setTop (mkF m 6 #[.val (.ref a1), .val (.int n), .val (.int (-1 : Int32)), .unset] [(.int (-1 : Int32))])) _
    refine XS.ifYes X0.here hx rfl (pc0 := 6) (pc' := 27) rfl (hb hby d2_6) rfl ((if0 _ _).trans (tlt (by decide : (-1 : Int32) < (0 : Int32))).1) (by decide) (by decide) ?_
    show Steps p.tables e below (s₁.setTop (mkF m 27 #[.val (.ref a1), .val (.int n), .val (.int (-1 : Int32)), .unset] [])) _
    refine XS.iloadN X0.here hx rfl (hb hby d2_27) rfl ?_
    show Steps p.tables e below (s₁.setTop (mkF m 28 #[.val (.ref a1), .val (.int n), .val (.int (-1 : Int32)), .unset] [(.int (-1 : Int32))])) _
    refine XS.ifNo X0.here hx rfl (hb hby d2_28) rfl ((if0 _ _).trans (tlt (by decide : (-1 : Int32) < (0 : Int32))).2.1) ?_
    show Steps p.tables e below (s₁.setTop (mkF m 31 #[.val (.ref a1), .val (.int n), .val (.int (-1 : Int32)), .unset] [])) _
    refine XS.iconst X0.here hx rfl (hb hby d2_31) ?_
    exact retN X0 hx (t := .boolean) Bd.returns (by simp) (hb hby d2_32) hr
  · show Q2 Z a1 k (0 : Int32) (0 : Int32) [] n0 _ s₁.heap _
    rw [e0]
    exact ⟨rfl, N0, V0⟩
set_option maxRecDepth 65536 in
set_option maxHeartbeats 4000000 in
theorem rm2_1_0 (l : Launch) (Z : State) (a0 : Array Value) (hw : ∀ d ∈ tables_1, d.before a0 Z = true) (ws : List Jvm.Cond) (a1 : Addr) (n : Int32) (k : ClassId) (x0 : Int32) (h0 : Heap) (n0 : Nat) (g_a1 : n0 ≤ a1) (V0 : Arv Z h0 a1 k .int (1 : Int32) [(.int x0)] (.int 0)) (hc0 : x0 < ((n - (1 : Int32)) + (0 : Int32))) :
    MetFree l (⟨"com/example/ashlar/ashlar/storage/Subsets", "next", "([II)Z"⟩ : MethodName) (head1 (Jvm.Cond.code (⟨"com/example/ashlar/ashlar/storage/Subsets", "next", "([II)Z"⟩ : MethodName) prog_78_method_3_code 4 (some .boolean) :: ws) ({ frames := 0, cells := 0, slots := 0, locals := 0 } : Room)) (fun a U => a = #[(.ref a1), (.int n)] ∧ Z.Warmed39 U.vm ∧ U.heap = h0) (fun _ _ _ _ _ => True) (fun _ U o U' => ∃ v L, o = .returned v ∧ Q2 Z a1 k (1 : Int32) (1 : Int32) [(.int (x0 + (1 : Int32)))] n0 v U'.heap L ∧ FrameEnd U o U' L ({ frames := 0, cells := 0, slots := 0, locals := 0 } : Room).cells ({ frames := 0, cells := 0, slots := 0, locals := 0 } : Room).slots) := by
  refine MetFree.of_bodySF (plainFor_of_name pn_2) hisR ?_
  intro p e s m args below meth c s₁ Bd hml0 hP hK
  obtain ⟨rfl, hZ, hh⟩ := hP
  have hx := Bd.exec
  have hby := Bd.bytes
  have X0 : Stand p l e ({ frames := 0, cells := 0, slots := 0, locals := 0 } : Room) s m #[(.ref a1), (.int n)] below meth c s₁ [] 0 0 := Stand.of_body Bd
  have e0 : s₁.heap = h0 := by rw [← hh, Bd.state]; rfl
  have N0 := Fr.nil n0
  have pre0 : ∀ t, Steps p.tables e below (s₁.setTop (mkF m 0 #[.val (.ref a1), .val (.int n), .unset, .unset] [])) t → Steps p.tables e below (s₁.setTop (entryFrame m #[(.ref a1), (.int n)] 4)) t := fun t k => castTop (ef_2 m a1 n) k
  obtain ⟨Ts1, hs1, Xs1, es1, Ws1, Vs1', sts1⟩ := own_ist X0 hx hZ e0 V0 0 (by decide) (by decide) (by decide) (Nat.le_of_ble_eq_true rfl) (g := (mkF m 39 #[.val (.ref a1), .val (.int n), .val (.int (0 : Int32)), .unset] [(.int (x0 + (1 : Int32))), (.int (0 : Int32)), (.ref a1)])) rfl rfl (hb hby d2_39)
  have Vs1 : Arv Z hs1 a1 k .int (1 : Int32) [(.int (x0 + (1 : Int32)))] (.int 0) := Vs1'
  have Ns1 := Fr.snoc Xs1 N0 g_a1
  obtain ⟨fs, hr, hrun, hended, hW, hsame⟩ := Xs1.leave (v := some (.int (1 : Int32))) (fun h => by rw [Bd.returns] at h; cases h)
  refine ⟨_, _, pre0 _ ?_, hrun, hended, _, _, rfl, ?_, ⟨_, rfl⟩, hW, hsame.mono (by decide) (by decide)⟩
  · show Steps p.tables e below (s₁.setTop (mkF m 0 #[.val (.ref a1), .val (.int n), .unset, .unset] [])) _
    refine XS.aloadN X0.here hx rfl (hb hby d2_0) rfl rfl ?_
    show Steps p.tables e below (s₁.setTop (mkF m 1 #[.val (.ref a1), .val (.int n), .unset, .unset] [(.ref a1)])) _
    refine own_len X0 hx hZ e0 V0 (g := (mkF m 1 #[.val (.ref a1), .val (.int n), .unset, .unset] [(.ref a1)])) rfl rfl (hb hby d2_1) _ ?_
    show Steps p.tables e below (s₁.setTop (mkF m 2 #[.val (.ref a1), .val (.int n), .unset, .unset] [(.int (1 : Int32))])) _
    refine XS.iconst X0.here hx rfl (hb hby d2_2) ?_
    show Steps p.tables e below (s₁.setTop (mkF m 3 #[.val (.ref a1), .val (.int n), .unset, .unset] [(.int (1 : Int32)), (.int (1 : Int32))])) _
    refine XS.isub X0.here hx rfl (hb hby d2_3) rfl ?_
    show Steps p.tables e below (s₁.setTop (mkF m 4 #[.val (.ref a1), .val (.int n), .unset, .unset] [(.int (0 : Int32))])) _
    refine XS.istoreN X0.here hx rfl (hb hby d2_4) rfl (l' := #[.val (.ref a1), .val (.int n), .val (.int (0 : Int32)), .unset]) rfl ?_
    show Steps p.tables e below (s₁.setTop (mkF m 5 #[.val (.ref a1), .val (.int n), .val (.int (0 : Int32)), .unset] [])) _
    refine XS.iloadN X0.here hx rfl (hb hby d2_5) rfl ?_
    show Steps p.tables e below (s₁.setTop (mkF m 6 #[.val (.ref a1), .val (.int n), .val (.int (0 : Int32)), .unset] [(.int (0 : Int32))])) _
    refine XS.ifNo X0.here hx rfl (hb hby d2_6) rfl ((if0 _ _).trans (flt (by decide : ¬ ((0 : Int32) < (0 : Int32)))).1) ?_
    show Steps p.tables e below (s₁.setTop (mkF m 9 #[.val (.ref a1), .val (.int n), .val (.int (0 : Int32)), .unset] [])) _
    refine XS.aloadN X0.here hx rfl (hb hby d2_9) rfl rfl ?_
    show Steps p.tables e below (s₁.setTop (mkF m 10 #[.val (.ref a1), .val (.int n), .val (.int (0 : Int32)), .unset] [(.ref a1)])) _
    refine XS.iloadN X0.here hx rfl (hb hby d2_10) rfl ?_
    show Steps p.tables e below (s₁.setTop (mkF m 11 #[.val (.ref a1), .val (.int n), .val (.int (0 : Int32)), .unset] [(.int (0 : Int32)), (.ref a1)])) _
    refine own_ild X0 hx hZ e0 V0 0 (by decide) (by decide) (by decide) rfl (g := (mkF m 11 #[.val (.ref a1), .val (.int n), .val (.int (0 : Int32)), .unset] [(.int (0 : Int32)), (.ref a1)])) rfl rfl (hb hby d2_11) _ ?_
    show Steps p.tables e below (s₁.setTop (mkF m 12 #[.val (.ref a1), .val (.int n), .val (.int (0 : Int32)), .unset] [(.int x0)])) _
    refine XS.iloadN X0.here hx rfl (hb hby d2_12) rfl ?_
    show Steps p.tables e below (s₁.setTop (mkF m 13 #[.val (.ref a1), .val (.int n), .val (.int (0 : Int32)), .unset] [(.int n), (.int x0)])) _
    refine XS.aloadN X0.here hx rfl (hb hby d2_13) rfl rfl ?_
    show Steps p.tables e below (s₁.setTop (mkF m 14 #[.val (.ref a1), .val (.int n), .val (.int (0 : Int32)), .unset] [(.ref a1), (.int n), (.int x0)])) _
    refine own_len X0 hx hZ e0 V0 (g := (mkF m 14 #[.val (.ref a1), .val (.int n), .val (.int (0 : Int32)), .unset] [(.ref a1), (.int n), (.int x0)])) rfl rfl (hb hby d2_14) _ ?_
    show Steps p.tables e below (s₁.setTop (mkF m 15 #[.val (.ref a1), .val (.int n), .val (.int (0 : Int32)), .unset] [(.int (1 : Int32)), (.int n), (.int x0)])) _
    refine XS.isub X0.here hx rfl (hb hby d2_15) rfl ?_
    show Steps p.tables e below (s₁.setTop (mkF m 16 #[.val (.ref a1), .val (.int n), .val (.int (0 : Int32)), .unset] [(.int (n - (1 : Int32))), (.int x0)])) _
    refine XS.iloadN X0.here hx rfl (hb hby d2_16) rfl ?_
    show Steps p.tables e below (s₁.setTop (mkF m 17 #[.val (.ref a1), .val (.int n), .val (.int (0 : Int32)), .unset] [(.int (0 : Int32)), (.int (n - (1 : Int32))), (.int x0)])) _
    refine XS.iadd X0.here hx rfl (hb hby d2_17) rfl ?_
    show Steps p.tables e below (s₁.setTop (mkF m 18 #[.val (.ref a1), .val (.int n), .val (.int (0 : Int32)), .unset] [(.int ((n - (1 : Int32)) + (0 : Int32))), (.int x0)])) _
    refine XS.icmpYes X0.here hx rfl (pc0 := 18) (pc' := 27) rfl (hb hby d2_18) rfl (tlt (hc0 : x0 < ((n - (1 : Int32)) + (0 : Int32)))).1 (by decide) (by decide) ?_
    show Steps p.tables e below (s₁.setTop (mkF m 27 #[.val (.ref a1), .val (.int n), .val (.int (0 : Int32)), .unset] [])) _
    refine XS.iloadN X0.here hx rfl (hb hby d2_27) rfl ?_
    show Steps p.tables e below (s₁.setTop (mkF m 28 #[.val (.ref a1), .val (.int n), .val (.int (0 : Int32)), .unset] [(.int (0 : Int32))])) _
    refine XS.ifYes X0.here hx rfl (pc0 := 28) (pc' := 33) rfl (hb hby d2_28) rfl ((if0 _ _).trans (flt (by decide : ¬ ((0 : Int32) < (0 : Int32)))).2.1) (by decide) (by decide) ?_
    show Steps p.tables e below (s₁.setTop (mkF m 33 #[.val (.ref a1), .val (.int n), .val (.int (0 : Int32)), .unset] [])) _
    refine XS.aloadN X0.here hx rfl (hb hby d2_33) rfl rfl ?_
    show Steps p.tables e below (s₁.setTop (mkF m 34 #[.val (.ref a1), .val (.int n), .val (.int (0 : Int32)), .unset] [(.ref a1)])) _
    refine XS.iloadN X0.here hx rfl (hb hby d2_34) rfl ?_
    show Steps p.tables e below (s₁.setTop (mkF m 35 #[.val (.ref a1), .val (.int n), .val (.int (0 : Int32)), .unset] [(.int (0 : Int32)), (.ref a1)])) _
    refine XT.dup2 X0.here hx rfl (hb hby d2_35) rfl rfl rfl ?_
    show Steps p.tables e below (s₁.setTop (mkF m 36 #[.val (.ref a1), .val (.int n), .val (.int (0 : Int32)), .unset] [(.int (0 : Int32)), (.ref a1), (.int (0 : Int32)), (.ref a1)])) _
    refine own_ild X0 hx hZ e0 V0 0 (by decide) (by decide) (by decide) rfl (g := (mkF m 36 #[.val (.ref a1), .val (.int n), .val (.int (0 : Int32)), .unset] [(.int (0 : Int32)), (.ref a1), (.int (0 : Int32)), (.ref a1)])) rfl rfl (hb hby d2_36) _ ?_
    show Steps p.tables e below (s₁.setTop (mkF m 37 #[.val (.ref a1), .val (.int n), .val (.int (0 : Int32)), .unset] [(.int x0), (.int (0 : Int32)), (.ref a1)])) _
    refine XS.iconst X0.here hx rfl (hb hby d2_37) ?_
    show Steps p.tables e below (s₁.setTop (mkF m 38 #[.val (.ref a1), .val (.int n), .val (.int (0 : Int32)), .unset] [(.int (1 : Int32)), (.int x0), (.int (0 : Int32)), (.ref a1)])) _
    refine XS.iadd X0.here hx rfl (hb hby d2_38) rfl ?_
    show Steps p.tables e below (s₁.setTop (mkF m 39 #[.val (.ref a1), .val (.int n), .val (.int (0 : Int32)), .unset] [(.int (x0 + (1 : Int32))), (.int (0 : Int32)), (.ref a1)])) _
    refine sts1 _ ?_
    show Steps p.tables e below (Ts1.setTop (mkF m 40 #[.val (.ref a1), .val (.int n), .val (.int (0 : Int32)), .unset] [])) _
    refine XS.iloadN Xs1.here hx rfl (hb hby d2_40) rfl ?_
    show Steps p.tables e below (Ts1.setTop (mkF m 41 #[.val (.ref a1), .val (.int n), .val (.int (0 : Int32)), .unset] [(.int (0 : Int32))])) _
    refine XS.iconst Xs1.here hx rfl (hb hby d2_41) ?_
    show Steps p.tables e below (Ts1.setTop (mkF m 42 #[.val (.ref a1), .val (.int n), .val (.int (0 : Int32)), .unset] [(.int (1 : Int32)), (.int (0 : Int32))])) _
    refine XS.iadd Xs1.here hx rfl (hb hby d2_42) rfl ?_
    show Steps p.tables e below (Ts1.setTop (mkF m 43 #[.val (.ref a1), .val (.int n), .val (.int (0 : Int32)), .unset] [(.int (1 : Int32))])) _
    refine XS.istoreN Xs1.here hx rfl (hb hby d2_43) rfl (l' := #[.val (.ref a1), .val (.int n), .val (.int (0 : Int32)), .val (.int (1 : Int32))]) rfl ?_
    show Steps p.tables e below (Ts1.setTop (mkF m 44 #[.val (.ref a1), .val (.int n), .val (.int (0 : Int32)), .val (.int (1 : Int32))] [])) _
    refine XS.iloadN Xs1.here hx rfl (hb hby d2_44) rfl ?_
    show Steps p.tables e below (Ts1.setTop (mkF m 45 #[.val (.ref a1), .val (.int n), .val (.int (0 : Int32)), .val (.int (1 : Int32))] [(.int (1 : Int32))])) _
    refine XS.aloadN Xs1.here hx rfl (hb hby d2_45) rfl rfl ?_
    show Steps p.tables e below (Ts1.setTop (mkF m 46 #[.val (.ref a1), .val (.int n), .val (.int (0 : Int32)), .val (.int (1 : Int32))] [(.ref a1), (.int (1 : Int32))])) _
    refine own_len Xs1 hx hZ es1 Vs1 (g := (mkF m 46 #[.val (.ref a1), .val (.int n), .val (.int (0 : Int32)), .val (.int (1 : Int32))] [(.ref a1), (.int (1 : Int32))])) rfl rfl (hb hby d2_46) _ ?_
    show Steps p.tables e below (Ts1.setTop (mkF m 47 #[.val (.ref a1), .val (.int n), .val (.int (0 : Int32)), .val (.int (1 : Int32))] [(.int (1 : Int32)), (.int (1 : Int32))])) _
    refine XS.icmpYes Xs1.here hx rfl (pc0 := 47) (pc' := 66) rfl (hb hby d2_47) rfl (flt (by decide : ¬ ((1 : Int32) < (1 : Int32)))).2.1 (by decide) (by decide) ?_
    show Steps p.tables e below (Ts1.setTop (mkF m 66 #[.val (.ref a1), .val (.int n), .val (.int (0 : Int32)), .val (.int (1 : Int32))] [])) _
    refine XS.iconst Xs1.here hx rfl (hb hby d2_66) ?_
    exact retN Xs1 hx (t := .boolean) Bd.returns (by simp) (hb hby d2_67) hr
  · show Q2 Z a1 k (1 : Int32) (1 : Int32) [(.int (x0 + (1 : Int32)))] n0 _ Ts1.heap _
    rw [es1]
    exact ⟨rfl, Ns1, Vs1⟩
set_option maxRecDepth 65536 in
set_option maxHeartbeats 4000000 in
theorem rm2_1_1 (l : Launch) (Z : State) (a0 : Array Value) (hw : ∀ d ∈ tables_1, d.before a0 Z = true) (ws : List Jvm.Cond) (a1 : Addr) (n : Int32) (k : ClassId) (x0 : Int32) (h0 : Heap) (n0 : Nat) (g_a1 : n0 ≤ a1) (V0 : Arv Z h0 a1 k .int (1 : Int32) [(.int x0)] (.int 0)) (hc0 : ¬ (x0 < ((n - (1 : Int32)) + (0 : Int32)))) :
    MetFree l (⟨"com/example/ashlar/ashlar/storage/Subsets", "next", "([II)Z"⟩ : MethodName) (head1 (Jvm.Cond.code (⟨"com/example/ashlar/ashlar/storage/Subsets", "next", "([II)Z"⟩ : MethodName) prog_78_method_3_code 4 (some .boolean) :: ws) ({ frames := 0, cells := 0, slots := 0, locals := 0 } : Room)) (fun a U => a = #[(.ref a1), (.int n)] ∧ Z.Warmed39 U.vm ∧ U.heap = h0) (fun _ _ _ _ _ => True) (fun _ U o U' => ∃ v L, o = .returned v ∧ Q2 Z a1 k (1 : Int32) (0 : Int32) [(.int x0)] n0 v U'.heap L ∧ FrameEnd U o U' L ({ frames := 0, cells := 0, slots := 0, locals := 0 } : Room).cells ({ frames := 0, cells := 0, slots := 0, locals := 0 } : Room).slots) := by
  refine MetFree.of_bodySF (plainFor_of_name pn_2) hisR ?_
  intro p e s m args below meth c s₁ Bd hml0 hP hK
  obtain ⟨rfl, hZ, hh⟩ := hP
  have hx := Bd.exec
  have hby := Bd.bytes
  have X0 : Stand p l e ({ frames := 0, cells := 0, slots := 0, locals := 0 } : Room) s m #[(.ref a1), (.int n)] below meth c s₁ [] 0 0 := Stand.of_body Bd
  have e0 : s₁.heap = h0 := by rw [← hh, Bd.state]; rfl
  have N0 := Fr.nil n0
  have pre0 : ∀ t, Steps p.tables e below (s₁.setTop (mkF m 0 #[.val (.ref a1), .val (.int n), .unset, .unset] [])) t → Steps p.tables e below (s₁.setTop (entryFrame m #[(.ref a1), (.int n)] 4)) t := fun t k => castTop (ef_2 m a1 n) k
  obtain ⟨fs, hr, hrun, hended, hW, hsame⟩ := X0.leave (v := some (.int (0 : Int32))) (fun h => by rw [Bd.returns] at h; cases h)
  refine ⟨_, _, pre0 _ ?_, hrun, hended, _, _, rfl, ?_, ⟨_, rfl⟩, hW, hsame.mono (by decide) (by decide)⟩
  · show Steps p.tables e below (s₁.setTop (mkF m 0 #[.val (.ref a1), .val (.int n), .unset, .unset] [])) _
    refine XS.aloadN X0.here hx rfl (hb hby d2_0) rfl rfl ?_
    show Steps p.tables e below (s₁.setTop (mkF m 1 #[.val (.ref a1), .val (.int n), .unset, .unset] [(.ref a1)])) _
    refine own_len X0 hx hZ e0 V0 (g := (mkF m 1 #[.val (.ref a1), .val (.int n), .unset, .unset] [(.ref a1)])) rfl rfl (hb hby d2_1) _ ?_
    show Steps p.tables e below (s₁.setTop (mkF m 2 #[.val (.ref a1), .val (.int n), .unset, .unset] [(.int (1 : Int32))])) _
    refine XS.iconst X0.here hx rfl (hb hby d2_2) ?_
    show Steps p.tables e below (s₁.setTop (mkF m 3 #[.val (.ref a1), .val (.int n), .unset, .unset] [(.int (1 : Int32)), (.int (1 : Int32))])) _
    refine XS.isub X0.here hx rfl (hb hby d2_3) rfl ?_
    show Steps p.tables e below (s₁.setTop (mkF m 4 #[.val (.ref a1), .val (.int n), .unset, .unset] [(.int (0 : Int32))])) _
    refine XS.istoreN X0.here hx rfl (hb hby d2_4) rfl (l' := #[.val (.ref a1), .val (.int n), .val (.int (0 : Int32)), .unset]) rfl ?_
    show Steps p.tables e below (s₁.setTop (mkF m 5 #[.val (.ref a1), .val (.int n), .val (.int (0 : Int32)), .unset] [])) _
    refine XS.iloadN X0.here hx rfl (hb hby d2_5) rfl ?_
    show Steps p.tables e below (s₁.setTop (mkF m 6 #[.val (.ref a1), .val (.int n), .val (.int (0 : Int32)), .unset] [(.int (0 : Int32))])) _
    refine XS.ifNo X0.here hx rfl (hb hby d2_6) rfl ((if0 _ _).trans (flt (by decide : ¬ ((0 : Int32) < (0 : Int32)))).1) ?_
    show Steps p.tables e below (s₁.setTop (mkF m 9 #[.val (.ref a1), .val (.int n), .val (.int (0 : Int32)), .unset] [])) _
    refine XS.aloadN X0.here hx rfl (hb hby d2_9) rfl rfl ?_
    show Steps p.tables e below (s₁.setTop (mkF m 10 #[.val (.ref a1), .val (.int n), .val (.int (0 : Int32)), .unset] [(.ref a1)])) _
    refine XS.iloadN X0.here hx rfl (hb hby d2_10) rfl ?_
    show Steps p.tables e below (s₁.setTop (mkF m 11 #[.val (.ref a1), .val (.int n), .val (.int (0 : Int32)), .unset] [(.int (0 : Int32)), (.ref a1)])) _
    refine own_ild X0 hx hZ e0 V0 0 (by decide) (by decide) (by decide) rfl (g := (mkF m 11 #[.val (.ref a1), .val (.int n), .val (.int (0 : Int32)), .unset] [(.int (0 : Int32)), (.ref a1)])) rfl rfl (hb hby d2_11) _ ?_
    show Steps p.tables e below (s₁.setTop (mkF m 12 #[.val (.ref a1), .val (.int n), .val (.int (0 : Int32)), .unset] [(.int x0)])) _
    refine XS.iloadN X0.here hx rfl (hb hby d2_12) rfl ?_
    show Steps p.tables e below (s₁.setTop (mkF m 13 #[.val (.ref a1), .val (.int n), .val (.int (0 : Int32)), .unset] [(.int n), (.int x0)])) _
    refine XS.aloadN X0.here hx rfl (hb hby d2_13) rfl rfl ?_
    show Steps p.tables e below (s₁.setTop (mkF m 14 #[.val (.ref a1), .val (.int n), .val (.int (0 : Int32)), .unset] [(.ref a1), (.int n), (.int x0)])) _
    refine own_len X0 hx hZ e0 V0 (g := (mkF m 14 #[.val (.ref a1), .val (.int n), .val (.int (0 : Int32)), .unset] [(.ref a1), (.int n), (.int x0)])) rfl rfl (hb hby d2_14) _ ?_
    show Steps p.tables e below (s₁.setTop (mkF m 15 #[.val (.ref a1), .val (.int n), .val (.int (0 : Int32)), .unset] [(.int (1 : Int32)), (.int n), (.int x0)])) _
    refine XS.isub X0.here hx rfl (hb hby d2_15) rfl ?_
    show Steps p.tables e below (s₁.setTop (mkF m 16 #[.val (.ref a1), .val (.int n), .val (.int (0 : Int32)), .unset] [(.int (n - (1 : Int32))), (.int x0)])) _
    refine XS.iloadN X0.here hx rfl (hb hby d2_16) rfl ?_
    show Steps p.tables e below (s₁.setTop (mkF m 17 #[.val (.ref a1), .val (.int n), .val (.int (0 : Int32)), .unset] [(.int (0 : Int32)), (.int (n - (1 : Int32))), (.int x0)])) _
    refine XS.iadd X0.here hx rfl (hb hby d2_17) rfl ?_
    show Steps p.tables e below (s₁.setTop (mkF m 18 #[.val (.ref a1), .val (.int n), .val (.int (0 : Int32)), .unset] [(.int ((n - (1 : Int32)) + (0 : Int32))), (.int x0)])) _
    refine XS.icmpNo X0.here hx rfl (hb hby d2_18) rfl (flt (hc0 : ¬ (x0 < ((n - (1 : Int32)) + (0 : Int32))))).1 ?_
    show Steps p.tables e below (s₁.setTop (mkF m 21 #[.val (.ref a1), .val (.int n), .val (.int (0 : Int32)), .unset] [])) _
    refine XS.iinc X0.here hx rfl (hb hby d2_21) rfl (l' := #[.val (.ref a1), .val (.int n), .val (.int (-1 : Int32)), .unset]) rfl ?_
    show Steps p.tables e below (s₁.setTop (mkF m 24 #[.val (.ref a1), .val (.int n), .val (.int (-1 : Int32)), .unset] [])) _
    refine XS.goto X0.here hx rfl (pc0 := 24) (pc' := 5) rfl (hb hby d2_24) (by decide) (by decide) ?_
    show Steps p.tables e below (s₁.setTop (mkF m 5 #[.val (.ref a1), .val (.int n), .val (.int (-1 : Int32)), .unset] [])) _
    refine XS.iloadN X0.here hx rfl (hb hby d2_5) rfl ?_
    show Steps p.tables e below (s₁.setTop (mkF m 6 #[.val (.ref a1), .val (.int n), .val (.int (-1 : Int32)), .unset] [(.int (-1 : Int32))])) _
    refine XS.ifYes X0.here hx rfl (pc0 := 6) (pc' := 27) rfl (hb hby d2_6) rfl ((if0 _ _).trans (tlt (by decide : (-1 : Int32) < (0 : Int32))).1) (by decide) (by decide) ?_
    show Steps p.tables e below (s₁.setTop (mkF m 27 #[.val (.ref a1), .val (.int n), .val (.int (-1 : Int32)), .unset] [])) _
    refine XS.iloadN X0.here hx rfl (hb hby d2_27) rfl ?_
    show Steps p.tables e below (s₁.setTop (mkF m 28 #[.val (.ref a1), .val (.int n), .val (.int (-1 : Int32)), .unset] [(.int (-1 : Int32))])) _
    refine XS.ifNo X0.here hx rfl (hb hby d2_28) rfl ((if0 _ _).trans (tlt (by decide : (-1 : Int32) < (0 : Int32))).2.1) ?_
    show Steps p.tables e below (s₁.setTop (mkF m 31 #[.val (.ref a1), .val (.int n), .val (.int (-1 : Int32)), .unset] [])) _
    refine XS.iconst X0.here hx rfl (hb hby d2_31) ?_
    exact retN X0 hx (t := .boolean) Bd.returns (by simp) (hb hby d2_32) hr
  · show Q2 Z a1 k (1 : Int32) (0 : Int32) [(.int x0)] n0 _ s₁.heap _
    rw [e0]
    exact ⟨rfl, N0, V0⟩
set_option maxRecDepth 65536 in
set_option maxHeartbeats 4000000 in
theorem rm2_2_0 (l : Launch) (Z : State) (a0 : Array Value) (hw : ∀ d ∈ tables_1, d.before a0 Z = true) (ws : List Jvm.Cond) (a1 : Addr) (n : Int32) (k : ClassId) (x0 : Int32) (x1 : Int32) (h0 : Heap) (n0 : Nat) (g_a1 : n0 ≤ a1) (V0 : Arv Z h0 a1 k .int (2 : Int32) [(.int x0), (.int x1)] (.int 0)) (hc1 : x1 < ((n - (2 : Int32)) + (1 : Int32))) :
    MetFree l (⟨"com/example/ashlar/ashlar/storage/Subsets", "next", "([II)Z"⟩ : MethodName) (head1 (Jvm.Cond.code (⟨"com/example/ashlar/ashlar/storage/Subsets", "next", "([II)Z"⟩ : MethodName) prog_78_method_3_code 4 (some .boolean) :: ws) ({ frames := 0, cells := 0, slots := 0, locals := 0 } : Room)) (fun a U => a = #[(.ref a1), (.int n)] ∧ Z.Warmed39 U.vm ∧ U.heap = h0) (fun _ _ _ _ _ => True) (fun _ U o U' => ∃ v L, o = .returned v ∧ Q2 Z a1 k (2 : Int32) (1 : Int32) [(.int x0), (.int (x1 + (1 : Int32)))] n0 v U'.heap L ∧ FrameEnd U o U' L ({ frames := 0, cells := 0, slots := 0, locals := 0 } : Room).cells ({ frames := 0, cells := 0, slots := 0, locals := 0 } : Room).slots) := by
  refine MetFree.of_bodySF (plainFor_of_name pn_2) hisR ?_
  intro p e s m args below meth c s₁ Bd hml0 hP hK
  obtain ⟨rfl, hZ, hh⟩ := hP
  have hx := Bd.exec
  have hby := Bd.bytes
  have X0 : Stand p l e ({ frames := 0, cells := 0, slots := 0, locals := 0 } : Room) s m #[(.ref a1), (.int n)] below meth c s₁ [] 0 0 := Stand.of_body Bd
  have e0 : s₁.heap = h0 := by rw [← hh, Bd.state]; rfl
  have N0 := Fr.nil n0
  have pre0 : ∀ t, Steps p.tables e below (s₁.setTop (mkF m 0 #[.val (.ref a1), .val (.int n), .unset, .unset] [])) t → Steps p.tables e below (s₁.setTop (entryFrame m #[(.ref a1), (.int n)] 4)) t := fun t k => castTop (ef_2 m a1 n) k
  obtain ⟨Ts1, hs1, Xs1, es1, Ws1, Vs1', sts1⟩ := own_ist X0 hx hZ e0 V0 1 (by decide) (by decide) (by decide) (Nat.le_of_ble_eq_true rfl) (g := (mkF m 39 #[.val (.ref a1), .val (.int n), .val (.int (1 : Int32)), .unset] [(.int (x1 + (1 : Int32))), (.int (1 : Int32)), (.ref a1)])) rfl rfl (hb hby d2_39)
  have Vs1 : Arv Z hs1 a1 k .int (2 : Int32) [(.int x0), (.int (x1 + (1 : Int32)))] (.int 0) := Vs1'
  have Ns1 := Fr.snoc Xs1 N0 g_a1
  obtain ⟨fs, hr, hrun, hended, hW, hsame⟩ := Xs1.leave (v := some (.int (1 : Int32))) (fun h => by rw [Bd.returns] at h; cases h)
  refine ⟨_, _, pre0 _ ?_, hrun, hended, _, _, rfl, ?_, ⟨_, rfl⟩, hW, hsame.mono (by decide) (by decide)⟩
  · show Steps p.tables e below (s₁.setTop (mkF m 0 #[.val (.ref a1), .val (.int n), .unset, .unset] [])) _
    refine XS.aloadN X0.here hx rfl (hb hby d2_0) rfl rfl ?_
    show Steps p.tables e below (s₁.setTop (mkF m 1 #[.val (.ref a1), .val (.int n), .unset, .unset] [(.ref a1)])) _
    refine own_len X0 hx hZ e0 V0 (g := (mkF m 1 #[.val (.ref a1), .val (.int n), .unset, .unset] [(.ref a1)])) rfl rfl (hb hby d2_1) _ ?_
    show Steps p.tables e below (s₁.setTop (mkF m 2 #[.val (.ref a1), .val (.int n), .unset, .unset] [(.int (2 : Int32))])) _
    refine XS.iconst X0.here hx rfl (hb hby d2_2) ?_
    show Steps p.tables e below (s₁.setTop (mkF m 3 #[.val (.ref a1), .val (.int n), .unset, .unset] [(.int (1 : Int32)), (.int (2 : Int32))])) _
    refine XS.isub X0.here hx rfl (hb hby d2_3) rfl ?_
    show Steps p.tables e below (s₁.setTop (mkF m 4 #[.val (.ref a1), .val (.int n), .unset, .unset] [(.int (1 : Int32))])) _
    refine XS.istoreN X0.here hx rfl (hb hby d2_4) rfl (l' := #[.val (.ref a1), .val (.int n), .val (.int (1 : Int32)), .unset]) rfl ?_
    show Steps p.tables e below (s₁.setTop (mkF m 5 #[.val (.ref a1), .val (.int n), .val (.int (1 : Int32)), .unset] [])) _
    refine XS.iloadN X0.here hx rfl (hb hby d2_5) rfl ?_
    show Steps p.tables e below (s₁.setTop (mkF m 6 #[.val (.ref a1), .val (.int n), .val (.int (1 : Int32)), .unset] [(.int (1 : Int32))])) _
    refine XS.ifNo X0.here hx rfl (hb hby d2_6) rfl ((if0 _ _).trans (flt (by decide : ¬ ((1 : Int32) < (0 : Int32)))).1) ?_
    show Steps p.tables e below (s₁.setTop (mkF m 9 #[.val (.ref a1), .val (.int n), .val (.int (1 : Int32)), .unset] [])) _
    refine XS.aloadN X0.here hx rfl (hb hby d2_9) rfl rfl ?_
    show Steps p.tables e below (s₁.setTop (mkF m 10 #[.val (.ref a1), .val (.int n), .val (.int (1 : Int32)), .unset] [(.ref a1)])) _
    refine XS.iloadN X0.here hx rfl (hb hby d2_10) rfl ?_
    show Steps p.tables e below (s₁.setTop (mkF m 11 #[.val (.ref a1), .val (.int n), .val (.int (1 : Int32)), .unset] [(.int (1 : Int32)), (.ref a1)])) _
    refine own_ild X0 hx hZ e0 V0 1 (by decide) (by decide) (by decide) rfl (g := (mkF m 11 #[.val (.ref a1), .val (.int n), .val (.int (1 : Int32)), .unset] [(.int (1 : Int32)), (.ref a1)])) rfl rfl (hb hby d2_11) _ ?_
    show Steps p.tables e below (s₁.setTop (mkF m 12 #[.val (.ref a1), .val (.int n), .val (.int (1 : Int32)), .unset] [(.int x1)])) _
    refine XS.iloadN X0.here hx rfl (hb hby d2_12) rfl ?_
    show Steps p.tables e below (s₁.setTop (mkF m 13 #[.val (.ref a1), .val (.int n), .val (.int (1 : Int32)), .unset] [(.int n), (.int x1)])) _
    refine XS.aloadN X0.here hx rfl (hb hby d2_13) rfl rfl ?_
    show Steps p.tables e below (s₁.setTop (mkF m 14 #[.val (.ref a1), .val (.int n), .val (.int (1 : Int32)), .unset] [(.ref a1), (.int n), (.int x1)])) _
    refine own_len X0 hx hZ e0 V0 (g := (mkF m 14 #[.val (.ref a1), .val (.int n), .val (.int (1 : Int32)), .unset] [(.ref a1), (.int n), (.int x1)])) rfl rfl (hb hby d2_14) _ ?_
    show Steps p.tables e below (s₁.setTop (mkF m 15 #[.val (.ref a1), .val (.int n), .val (.int (1 : Int32)), .unset] [(.int (2 : Int32)), (.int n), (.int x1)])) _
    refine XS.isub X0.here hx rfl (hb hby d2_15) rfl ?_
    show Steps p.tables e below (s₁.setTop (mkF m 16 #[.val (.ref a1), .val (.int n), .val (.int (1 : Int32)), .unset] [(.int (n - (2 : Int32))), (.int x1)])) _
    refine XS.iloadN X0.here hx rfl (hb hby d2_16) rfl ?_
    show Steps p.tables e below (s₁.setTop (mkF m 17 #[.val (.ref a1), .val (.int n), .val (.int (1 : Int32)), .unset] [(.int (1 : Int32)), (.int (n - (2 : Int32))), (.int x1)])) _
    refine XS.iadd X0.here hx rfl (hb hby d2_17) rfl ?_
    show Steps p.tables e below (s₁.setTop (mkF m 18 #[.val (.ref a1), .val (.int n), .val (.int (1 : Int32)), .unset] [(.int ((n - (2 : Int32)) + (1 : Int32))), (.int x1)])) _
    refine XS.icmpYes X0.here hx rfl (pc0 := 18) (pc' := 27) rfl (hb hby d2_18) rfl (tlt (hc1 : x1 < ((n - (2 : Int32)) + (1 : Int32)))).1 (by decide) (by decide) ?_
    show Steps p.tables e below (s₁.setTop (mkF m 27 #[.val (.ref a1), .val (.int n), .val (.int (1 : Int32)), .unset] [])) _
    refine XS.iloadN X0.here hx rfl (hb hby d2_27) rfl ?_
    show Steps p.tables e below (s₁.setTop (mkF m 28 #[.val (.ref a1), .val (.int n), .val (.int (1 : Int32)), .unset] [(.int (1 : Int32))])) _
    refine XS.ifYes X0.here hx rfl (pc0 := 28) (pc' := 33) rfl (hb hby d2_28) rfl ((if0 _ _).trans (flt (by decide : ¬ ((1 : Int32) < (0 : Int32)))).2.1) (by decide) (by decide) ?_
    show Steps p.tables e below (s₁.setTop (mkF m 33 #[.val (.ref a1), .val (.int n), .val (.int (1 : Int32)), .unset] [])) _
    refine XS.aloadN X0.here hx rfl (hb hby d2_33) rfl rfl ?_
    show Steps p.tables e below (s₁.setTop (mkF m 34 #[.val (.ref a1), .val (.int n), .val (.int (1 : Int32)), .unset] [(.ref a1)])) _
    refine XS.iloadN X0.here hx rfl (hb hby d2_34) rfl ?_
    show Steps p.tables e below (s₁.setTop (mkF m 35 #[.val (.ref a1), .val (.int n), .val (.int (1 : Int32)), .unset] [(.int (1 : Int32)), (.ref a1)])) _
    refine XT.dup2 X0.here hx rfl (hb hby d2_35) rfl rfl rfl ?_
    show Steps p.tables e below (s₁.setTop (mkF m 36 #[.val (.ref a1), .val (.int n), .val (.int (1 : Int32)), .unset] [(.int (1 : Int32)), (.ref a1), (.int (1 : Int32)), (.ref a1)])) _
    refine own_ild X0 hx hZ e0 V0 1 (by decide) (by decide) (by decide) rfl (g := (mkF m 36 #[.val (.ref a1), .val (.int n), .val (.int (1 : Int32)), .unset] [(.int (1 : Int32)), (.ref a1), (.int (1 : Int32)), (.ref a1)])) rfl rfl (hb hby d2_36) _ ?_
    show Steps p.tables e below (s₁.setTop (mkF m 37 #[.val (.ref a1), .val (.int n), .val (.int (1 : Int32)), .unset] [(.int x1), (.int (1 : Int32)), (.ref a1)])) _
    refine XS.iconst X0.here hx rfl (hb hby d2_37) ?_
    show Steps p.tables e below (s₁.setTop (mkF m 38 #[.val (.ref a1), .val (.int n), .val (.int (1 : Int32)), .unset] [(.int (1 : Int32)), (.int x1), (.int (1 : Int32)), (.ref a1)])) _
    refine XS.iadd X0.here hx rfl (hb hby d2_38) rfl ?_
    show Steps p.tables e below (s₁.setTop (mkF m 39 #[.val (.ref a1), .val (.int n), .val (.int (1 : Int32)), .unset] [(.int (x1 + (1 : Int32))), (.int (1 : Int32)), (.ref a1)])) _
    refine sts1 _ ?_
    show Steps p.tables e below (Ts1.setTop (mkF m 40 #[.val (.ref a1), .val (.int n), .val (.int (1 : Int32)), .unset] [])) _
    refine XS.iloadN Xs1.here hx rfl (hb hby d2_40) rfl ?_
    show Steps p.tables e below (Ts1.setTop (mkF m 41 #[.val (.ref a1), .val (.int n), .val (.int (1 : Int32)), .unset] [(.int (1 : Int32))])) _
    refine XS.iconst Xs1.here hx rfl (hb hby d2_41) ?_
    show Steps p.tables e below (Ts1.setTop (mkF m 42 #[.val (.ref a1), .val (.int n), .val (.int (1 : Int32)), .unset] [(.int (1 : Int32)), (.int (1 : Int32))])) _
    refine XS.iadd Xs1.here hx rfl (hb hby d2_42) rfl ?_
    show Steps p.tables e below (Ts1.setTop (mkF m 43 #[.val (.ref a1), .val (.int n), .val (.int (1 : Int32)), .unset] [(.int (2 : Int32))])) _
    refine XS.istoreN Xs1.here hx rfl (hb hby d2_43) rfl (l' := #[.val (.ref a1), .val (.int n), .val (.int (1 : Int32)), .val (.int (2 : Int32))]) rfl ?_
    show Steps p.tables e below (Ts1.setTop (mkF m 44 #[.val (.ref a1), .val (.int n), .val (.int (1 : Int32)), .val (.int (2 : Int32))] [])) _
    refine XS.iloadN Xs1.here hx rfl (hb hby d2_44) rfl ?_
    show Steps p.tables e below (Ts1.setTop (mkF m 45 #[.val (.ref a1), .val (.int n), .val (.int (1 : Int32)), .val (.int (2 : Int32))] [(.int (2 : Int32))])) _
    refine XS.aloadN Xs1.here hx rfl (hb hby d2_45) rfl rfl ?_
    show Steps p.tables e below (Ts1.setTop (mkF m 46 #[.val (.ref a1), .val (.int n), .val (.int (1 : Int32)), .val (.int (2 : Int32))] [(.ref a1), (.int (2 : Int32))])) _
    refine own_len Xs1 hx hZ es1 Vs1 (g := (mkF m 46 #[.val (.ref a1), .val (.int n), .val (.int (1 : Int32)), .val (.int (2 : Int32))] [(.ref a1), (.int (2 : Int32))])) rfl rfl (hb hby d2_46) _ ?_
    show Steps p.tables e below (Ts1.setTop (mkF m 47 #[.val (.ref a1), .val (.int n), .val (.int (1 : Int32)), .val (.int (2 : Int32))] [(.int (2 : Int32)), (.int (2 : Int32))])) _
    refine XS.icmpYes Xs1.here hx rfl (pc0 := 47) (pc' := 66) rfl (hb hby d2_47) rfl (flt (by decide : ¬ ((2 : Int32) < (2 : Int32)))).2.1 (by decide) (by decide) ?_
    show Steps p.tables e below (Ts1.setTop (mkF m 66 #[.val (.ref a1), .val (.int n), .val (.int (1 : Int32)), .val (.int (2 : Int32))] [])) _
    refine XS.iconst Xs1.here hx rfl (hb hby d2_66) ?_
    exact retN Xs1 hx (t := .boolean) Bd.returns (by simp) (hb hby d2_67) hr
  · show Q2 Z a1 k (2 : Int32) (1 : Int32) [(.int x0), (.int (x1 + (1 : Int32)))] n0 _ Ts1.heap _
    rw [es1]
    exact ⟨rfl, Ns1, Vs1⟩
set_option maxRecDepth 65536 in
set_option maxHeartbeats 4000000 in
theorem rm2_2_1 (l : Launch) (Z : State) (a0 : Array Value) (hw : ∀ d ∈ tables_1, d.before a0 Z = true) (ws : List Jvm.Cond) (a1 : Addr) (n : Int32) (k : ClassId) (x0 : Int32) (x1 : Int32) (h0 : Heap) (n0 : Nat) (g_a1 : n0 ≤ a1) (V0 : Arv Z h0 a1 k .int (2 : Int32) [(.int x0), (.int x1)] (.int 0)) (hc1 : ¬ (x1 < ((n - (2 : Int32)) + (1 : Int32)))) (hc0 : x0 < ((n - (2 : Int32)) + (0 : Int32))) :
    MetFree l (⟨"com/example/ashlar/ashlar/storage/Subsets", "next", "([II)Z"⟩ : MethodName) (head1 (Jvm.Cond.code (⟨"com/example/ashlar/ashlar/storage/Subsets", "next", "([II)Z"⟩ : MethodName) prog_78_method_3_code 4 (some .boolean) :: ws) ({ frames := 0, cells := 0, slots := 0, locals := 0 } : Room)) (fun a U => a = #[(.ref a1), (.int n)] ∧ Z.Warmed39 U.vm ∧ U.heap = h0) (fun _ _ _ _ _ => True) (fun _ U o U' => ∃ v L, o = .returned v ∧ Q2 Z a1 k (2 : Int32) (1 : Int32) [(.int (x0 + (1 : Int32))), (.int ((x0 + (1 : Int32)) + (1 : Int32)))] n0 v U'.heap L ∧ FrameEnd U o U' L ({ frames := 0, cells := 0, slots := 0, locals := 0 } : Room).cells ({ frames := 0, cells := 0, slots := 0, locals := 0 } : Room).slots) := by
  refine MetFree.of_bodySF (plainFor_of_name pn_2) hisR ?_
  intro p e s m args below meth c s₁ Bd hml0 hP hK
  obtain ⟨rfl, hZ, hh⟩ := hP
  have hx := Bd.exec
  have hby := Bd.bytes
  have X0 : Stand p l e ({ frames := 0, cells := 0, slots := 0, locals := 0 } : Room) s m #[(.ref a1), (.int n)] below meth c s₁ [] 0 0 := Stand.of_body Bd
  have e0 : s₁.heap = h0 := by rw [← hh, Bd.state]; rfl
  have N0 := Fr.nil n0
  have pre0 : ∀ t, Steps p.tables e below (s₁.setTop (mkF m 0 #[.val (.ref a1), .val (.int n), .unset, .unset] [])) t → Steps p.tables e below (s₁.setTop (entryFrame m #[(.ref a1), (.int n)] 4)) t := fun t k => castTop (ef_2 m a1 n) k
  obtain ⟨Ts1, hs1, Xs1, es1, Ws1, Vs1', sts1⟩ := own_ist X0 hx hZ e0 V0 0 (by decide) (by decide) (by decide) (Nat.le_of_ble_eq_true rfl) (g := (mkF m 39 #[.val (.ref a1), .val (.int n), .val (.int (0 : Int32)), .unset] [(.int (x0 + (1 : Int32))), (.int (0 : Int32)), (.ref a1)])) rfl rfl (hb hby d2_39)
  have Vs1 : Arv Z hs1 a1 k .int (2 : Int32) [(.int (x0 + (1 : Int32))), (.int x1)] (.int 0) := Vs1'
  have Ns1 := Fr.snoc Xs1 N0 g_a1
  obtain ⟨Ts2, hs2, Xs2, es2, Ws2, Vs2', sts2⟩ := own_ist Xs1 hx hZ es1 Vs1 1 (by decide) (by decide) (by decide) (Nat.le_of_ble_eq_true rfl) (g := (mkF m 59 #[.val (.ref a1), .val (.int n), .val (.int (0 : Int32)), .val (.int (1 : Int32))] [(.int ((x0 + (1 : Int32)) + (1 : Int32))), (.int (1 : Int32)), (.ref a1)])) rfl rfl (hb hby d2_59)
  have Vs2 : Arv Z hs2 a1 k .int (2 : Int32) [(.int (x0 + (1 : Int32))), (.int ((x0 + (1 : Int32)) + (1 : Int32)))] (.int 0) := Vs2'
  have Ns2 := Fr.snoc Xs2 Ns1 g_a1
  obtain ⟨fs, hr, hrun, hended, hW, hsame⟩ := Xs2.leave (v := some (.int (1 : Int32))) (fun h => by rw [Bd.returns] at h; cases h)
  refine ⟨_, _, pre0 _ ?_, hrun, hended, _, _, rfl, ?_, ⟨_, rfl⟩, hW, hsame.mono (by decide) (by decide)⟩
  · show Steps p.tables e below (s₁.setTop (mkF m 0 #[.val (.ref a1), .val (.int n), .unset, .unset] [])) _
    refine XS.aloadN X0.here hx rfl (hb hby d2_0) rfl rfl ?_
    show Steps p.tables e below (s₁.setTop (mkF m 1 #[.val (.ref a1), .val (.int n), .unset, .unset] [(.ref a1)])) _
    refine own_len X0 hx hZ e0 V0 (g := (mkF m 1 #[.val (.ref a1), .val (.int n), .unset, .unset] [(.ref a1)])) rfl rfl (hb hby d2_1) _ ?_
    show Steps p.tables e below (s₁.setTop (mkF m 2 #[.val (.ref a1), .val (.int n), .unset, .unset] [(.int (2 : Int32))])) _
    refine XS.iconst X0.here hx rfl (hb hby d2_2) ?_
    show Steps p.tables e below (s₁.setTop (mkF m 3 #[.val (.ref a1), .val (.int n), .unset, .unset] [(.int (1 : Int32)), (.int (2 : Int32))])) _
    refine XS.isub X0.here hx rfl (hb hby d2_3) rfl ?_
    show Steps p.tables e below (s₁.setTop (mkF m 4 #[.val (.ref a1), .val (.int n), .unset, .unset] [(.int (1 : Int32))])) _
    refine XS.istoreN X0.here hx rfl (hb hby d2_4) rfl (l' := #[.val (.ref a1), .val (.int n), .val (.int (1 : Int32)), .unset]) rfl ?_
    show Steps p.tables e below (s₁.setTop (mkF m 5 #[.val (.ref a1), .val (.int n), .val (.int (1 : Int32)), .unset] [])) _
    refine XS.iloadN X0.here hx rfl (hb hby d2_5) rfl ?_
    show Steps p.tables e below (s₁.setTop (mkF m 6 #[.val (.ref a1), .val (.int n), .val (.int (1 : Int32)), .unset] [(.int (1 : Int32))])) _
    refine XS.ifNo X0.here hx rfl (hb hby d2_6) rfl ((if0 _ _).trans (flt (by decide : ¬ ((1 : Int32) < (0 : Int32)))).1) ?_
    show Steps p.tables e below (s₁.setTop (mkF m 9 #[.val (.ref a1), .val (.int n), .val (.int (1 : Int32)), .unset] [])) _
    refine XS.aloadN X0.here hx rfl (hb hby d2_9) rfl rfl ?_
    show Steps p.tables e below (s₁.setTop (mkF m 10 #[.val (.ref a1), .val (.int n), .val (.int (1 : Int32)), .unset] [(.ref a1)])) _
    refine XS.iloadN X0.here hx rfl (hb hby d2_10) rfl ?_
    show Steps p.tables e below (s₁.setTop (mkF m 11 #[.val (.ref a1), .val (.int n), .val (.int (1 : Int32)), .unset] [(.int (1 : Int32)), (.ref a1)])) _
    refine own_ild X0 hx hZ e0 V0 1 (by decide) (by decide) (by decide) rfl (g := (mkF m 11 #[.val (.ref a1), .val (.int n), .val (.int (1 : Int32)), .unset] [(.int (1 : Int32)), (.ref a1)])) rfl rfl (hb hby d2_11) _ ?_
    show Steps p.tables e below (s₁.setTop (mkF m 12 #[.val (.ref a1), .val (.int n), .val (.int (1 : Int32)), .unset] [(.int x1)])) _
    refine XS.iloadN X0.here hx rfl (hb hby d2_12) rfl ?_
    show Steps p.tables e below (s₁.setTop (mkF m 13 #[.val (.ref a1), .val (.int n), .val (.int (1 : Int32)), .unset] [(.int n), (.int x1)])) _
    refine XS.aloadN X0.here hx rfl (hb hby d2_13) rfl rfl ?_
    show Steps p.tables e below (s₁.setTop (mkF m 14 #[.val (.ref a1), .val (.int n), .val (.int (1 : Int32)), .unset] [(.ref a1), (.int n), (.int x1)])) _
    refine own_len X0 hx hZ e0 V0 (g := (mkF m 14 #[.val (.ref a1), .val (.int n), .val (.int (1 : Int32)), .unset] [(.ref a1), (.int n), (.int x1)])) rfl rfl (hb hby d2_14) _ ?_
    show Steps p.tables e below (s₁.setTop (mkF m 15 #[.val (.ref a1), .val (.int n), .val (.int (1 : Int32)), .unset] [(.int (2 : Int32)), (.int n), (.int x1)])) _
    refine XS.isub X0.here hx rfl (hb hby d2_15) rfl ?_
    show Steps p.tables e below (s₁.setTop (mkF m 16 #[.val (.ref a1), .val (.int n), .val (.int (1 : Int32)), .unset] [(.int (n - (2 : Int32))), (.int x1)])) _
    refine XS.iloadN X0.here hx rfl (hb hby d2_16) rfl ?_
    show Steps p.tables e below (s₁.setTop (mkF m 17 #[.val (.ref a1), .val (.int n), .val (.int (1 : Int32)), .unset] [(.int (1 : Int32)), (.int (n - (2 : Int32))), (.int x1)])) _
    refine XS.iadd X0.here hx rfl (hb hby d2_17) rfl ?_
    show Steps p.tables e below (s₁.setTop (mkF m 18 #[.val (.ref a1), .val (.int n), .val (.int (1 : Int32)), .unset] [(.int ((n - (2 : Int32)) + (1 : Int32))), (.int x1)])) _
    refine XS.icmpNo X0.here hx rfl (hb hby d2_18) rfl (flt (hc1 : ¬ (x1 < ((n - (2 : Int32)) + (1 : Int32))))).1 ?_
    show Steps p.tables e below (s₁.setTop (mkF m 21 #[.val (.ref a1), .val (.int n), .val (.int (1 : Int32)), .unset] [])) _
    refine XS.iinc X0.here hx rfl (hb hby d2_21) rfl (l' := #[.val (.ref a1), .val (.int n), .val (.int (0 : Int32)), .unset]) rfl ?_
    show Steps p.tables e below (s₁.setTop (mkF m 24 #[.val (.ref a1), .val (.int n), .val (.int (0 : Int32)), .unset] [])) _
    refine XS.goto X0.here hx rfl (pc0 := 24) (pc' := 5) rfl (hb hby d2_24) (by decide) (by decide) ?_
    show Steps p.tables e below (s₁.setTop (mkF m 5 #[.val (.ref a1), .val (.int n), .val (.int (0 : Int32)), .unset] [])) _
    refine XS.iloadN X0.here hx rfl (hb hby d2_5) rfl ?_
    show Steps p.tables e below (s₁.setTop (mkF m 6 #[.val (.ref a1), .val (.int n), .val (.int (0 : Int32)), .unset] [(.int (0 : Int32))])) _
    refine XS.ifNo X0.here hx rfl (hb hby d2_6) rfl ((if0 _ _).trans (flt (by decide : ¬ ((0 : Int32) < (0 : Int32)))).1) ?_
    show Steps p.tables e below (s₁.setTop (mkF m 9 #[.val (.ref a1), .val (.int n), .val (.int (0 : Int32)), .unset] [])) _
    refine XS.aloadN X0.here hx rfl (hb hby d2_9) rfl rfl ?_
    show Steps p.tables e below (s₁.setTop (mkF m 10 #[.val (.ref a1), .val (.int n), .val (.int (0 : Int32)), .unset] [(.ref a1)])) _
    refine XS.iloadN X0.here hx rfl (hb hby d2_10) rfl ?_
    show Steps p.tables e below (s₁.setTop (mkF m 11 #[.val (.ref a1), .val (.int n), .val (.int (0 : Int32)), .unset] [(.int (0 : Int32)), (.ref a1)])) _
    refine own_ild X0 hx hZ e0 V0 0 (by decide) (by decide) (by decide) rfl (g := (mkF m 11 #[.val (.ref a1), .val (.int n), .val (.int (0 : Int32)), .unset] [(.int (0 : Int32)), (.ref a1)])) rfl rfl (hb hby d2_11) _ ?_
    show Steps p.tables e below (s₁.setTop (mkF m 12 #[.val (.ref a1), .val (.int n), .val (.int (0 : Int32)), .unset] [(.int x0)])) _
    refine XS.iloadN X0.here hx rfl (hb hby d2_12) rfl ?_
    show Steps p.tables e below (s₁.setTop (mkF m 13 #[.val (.ref a1), .val (.int n), .val (.int (0 : Int32)), .unset] [(.int n), (.int x0)])) _
    refine XS.aloadN X0.here hx rfl (hb hby d2_13) rfl rfl ?_
    show Steps p.tables e below (s₁.setTop (mkF m 14 #[.val (.ref a1), .val (.int n), .val (.int (0 : Int32)), .unset] [(.ref a1), (.int n), (.int x0)])) _
    refine own_len X0 hx hZ e0 V0 (g := (mkF m 14 #[.val (.ref a1), .val (.int n), .val (.int (0 : Int32)), .unset] [(.ref a1), (.int n), (.int x0)])) rfl rfl (hb hby d2_14) _ ?_
    show Steps p.tables e below (s₁.setTop (mkF m 15 #[.val (.ref a1), .val (.int n), .val (.int (0 : Int32)), .unset] [(.int (2 : Int32)), (.int n), (.int x0)])) _
    refine XS.isub X0.here hx rfl (hb hby d2_15) rfl ?_
    show Steps p.tables e below (s₁.setTop (mkF m 16 #[.val (.ref a1), .val (.int n), .val (.int (0 : Int32)), .unset] [(.int (n - (2 : Int32))), (.int x0)])) _
    refine XS.iloadN X0.here hx rfl (hb hby d2_16) rfl ?_
    show Steps p.tables e below (s₁.setTop (mkF m 17 #[.val (.ref a1), .val (.int n), .val (.int (0 : Int32)), .unset] [(.int (0 : Int32)), (.int (n - (2 : Int32))), (.int x0)])) _
    refine XS.iadd X0.here hx rfl (hb hby d2_17) rfl ?_
    show Steps p.tables e below (s₁.setTop (mkF m 18 #[.val (.ref a1), .val (.int n), .val (.int (0 : Int32)), .unset] [(.int ((n - (2 : Int32)) + (0 : Int32))), (.int x0)])) _
    refine XS.icmpYes X0.here hx rfl (pc0 := 18) (pc' := 27) rfl (hb hby d2_18) rfl (tlt (hc0 : x0 < ((n - (2 : Int32)) + (0 : Int32)))).1 (by decide) (by decide) ?_
    show Steps p.tables e below (s₁.setTop (mkF m 27 #[.val (.ref a1), .val (.int n), .val (.int (0 : Int32)), .unset] [])) _
    refine XS.iloadN X0.here hx rfl (hb hby d2_27) rfl ?_
    show Steps p.tables e below (s₁.setTop (mkF m 28 #[.val (.ref a1), .val (.int n), .val (.int (0 : Int32)), .unset] [(.int (0 : Int32))])) _
    refine XS.ifYes X0.here hx rfl (pc0 := 28) (pc' := 33) rfl (hb hby d2_28) rfl ((if0 _ _).trans (flt (by decide : ¬ ((0 : Int32) < (0 : Int32)))).2.1) (by decide) (by decide) ?_
    show Steps p.tables e below (s₁.setTop (mkF m 33 #[.val (.ref a1), .val (.int n), .val (.int (0 : Int32)), .unset] [])) _
    refine XS.aloadN X0.here hx rfl (hb hby d2_33) rfl rfl ?_
    show Steps p.tables e below (s₁.setTop (mkF m 34 #[.val (.ref a1), .val (.int n), .val (.int (0 : Int32)), .unset] [(.ref a1)])) _
    refine XS.iloadN X0.here hx rfl (hb hby d2_34) rfl ?_
    show Steps p.tables e below (s₁.setTop (mkF m 35 #[.val (.ref a1), .val (.int n), .val (.int (0 : Int32)), .unset] [(.int (0 : Int32)), (.ref a1)])) _
    refine XT.dup2 X0.here hx rfl (hb hby d2_35) rfl rfl rfl ?_
    show Steps p.tables e below (s₁.setTop (mkF m 36 #[.val (.ref a1), .val (.int n), .val (.int (0 : Int32)), .unset] [(.int (0 : Int32)), (.ref a1), (.int (0 : Int32)), (.ref a1)])) _
    refine own_ild X0 hx hZ e0 V0 0 (by decide) (by decide) (by decide) rfl (g := (mkF m 36 #[.val (.ref a1), .val (.int n), .val (.int (0 : Int32)), .unset] [(.int (0 : Int32)), (.ref a1), (.int (0 : Int32)), (.ref a1)])) rfl rfl (hb hby d2_36) _ ?_
    show Steps p.tables e below (s₁.setTop (mkF m 37 #[.val (.ref a1), .val (.int n), .val (.int (0 : Int32)), .unset] [(.int x0), (.int (0 : Int32)), (.ref a1)])) _
    refine XS.iconst X0.here hx rfl (hb hby d2_37) ?_
    show Steps p.tables e below (s₁.setTop (mkF m 38 #[.val (.ref a1), .val (.int n), .val (.int (0 : Int32)), .unset] [(.int (1 : Int32)), (.int x0), (.int (0 : Int32)), (.ref a1)])) _
    refine XS.iadd X0.here hx rfl (hb hby d2_38) rfl ?_
    show Steps p.tables e below (s₁.setTop (mkF m 39 #[.val (.ref a1), .val (.int n), .val (.int (0 : Int32)), .unset] [(.int (x0 + (1 : Int32))), (.int (0 : Int32)), (.ref a1)])) _
    refine sts1 _ ?_
    show Steps p.tables e below (Ts1.setTop (mkF m 40 #[.val (.ref a1), .val (.int n), .val (.int (0 : Int32)), .unset] [])) _
    refine XS.iloadN Xs1.here hx rfl (hb hby d2_40) rfl ?_
    show Steps p.tables e below (Ts1.setTop (mkF m 41 #[.val (.ref a1), .val (.int n), .val (.int (0 : Int32)), .unset] [(.int (0 : Int32))])) _
    refine XS.iconst Xs1.here hx rfl (hb hby d2_41) ?_
    show Steps p.tables e below (Ts1.setTop (mkF m 42 #[.val (.ref a1), .val (.int n), .val (.int (0 : Int32)), .unset] [(.int (1 : Int32)), (.int (0 : Int32))])) _
    refine XS.iadd Xs1.here hx rfl (hb hby d2_42) rfl ?_
    show Steps p.tables e below (Ts1.setTop (mkF m 43 #[.val (.ref a1), .val (.int n), .val (.int (0 : Int32)), .unset] [(.int (1 : Int32))])) _
    refine XS.istoreN Xs1.here hx rfl (hb hby d2_43) rfl (l' := #[.val (.ref a1), .val (.int n), .val (.int (0 : Int32)), .val (.int (1 : Int32))]) rfl ?_
    show Steps p.tables e below (Ts1.setTop (mkF m 44 #[.val (.ref a1), .val (.int n), .val (.int (0 : Int32)), .val (.int (1 : Int32))] [])) _
    refine XS.iloadN Xs1.here hx rfl (hb hby d2_44) rfl ?_
    show Steps p.tables e below (Ts1.setTop (mkF m 45 #[.val (.ref a1), .val (.int n), .val (.int (0 : Int32)), .val (.int (1 : Int32))] [(.int (1 : Int32))])) _
    refine XS.aloadN Xs1.here hx rfl (hb hby d2_45) rfl rfl ?_
    show Steps p.tables e below (Ts1.setTop (mkF m 46 #[.val (.ref a1), .val (.int n), .val (.int (0 : Int32)), .val (.int (1 : Int32))] [(.ref a1), (.int (1 : Int32))])) _
    refine own_len Xs1 hx hZ es1 Vs1 (g := (mkF m 46 #[.val (.ref a1), .val (.int n), .val (.int (0 : Int32)), .val (.int (1 : Int32))] [(.ref a1), (.int (1 : Int32))])) rfl rfl (hb hby d2_46) _ ?_
    show Steps p.tables e below (Ts1.setTop (mkF m 47 #[.val (.ref a1), .val (.int n), .val (.int (0 : Int32)), .val (.int (1 : Int32))] [(.int (2 : Int32)), (.int (1 : Int32))])) _
    refine XS.icmpNo Xs1.here hx rfl (hb hby d2_47) rfl (tlt (by decide : (1 : Int32) < (2 : Int32))).2.1 ?_
    show Steps p.tables e below (Ts1.setTop (mkF m 50 #[.val (.ref a1), .val (.int n), .val (.int (0 : Int32)), .val (.int (1 : Int32))] [])) _
    refine XS.aloadN Xs1.here hx rfl (hb hby d2_50) rfl rfl ?_
    show Steps p.tables e below (Ts1.setTop (mkF m 51 #[.val (.ref a1), .val (.int n), .val (.int (0 : Int32)), .val (.int (1 : Int32))] [(.ref a1)])) _
    refine XS.iloadN Xs1.here hx rfl (hb hby d2_51) rfl ?_
    show Steps p.tables e below (Ts1.setTop (mkF m 52 #[.val (.ref a1), .val (.int n), .val (.int (0 : Int32)), .val (.int (1 : Int32))] [(.int (1 : Int32)), (.ref a1)])) _
    refine XS.aloadN Xs1.here hx rfl (hb hby d2_52) rfl rfl ?_
    show Steps p.tables e below (Ts1.setTop (mkF m 53 #[.val (.ref a1), .val (.int n), .val (.int (0 : Int32)), .val (.int (1 : Int32))] [(.ref a1), (.int (1 : Int32)), (.ref a1)])) _
    refine XS.iloadN Xs1.here hx rfl (hb hby d2_53) rfl ?_
    show Steps p.tables e below (Ts1.setTop (mkF m 54 #[.val (.ref a1), .val (.int n), .val (.int (0 : Int32)), .val (.int (1 : Int32))] [(.int (1 : Int32)), (.ref a1), (.int (1 : Int32)), (.ref a1)])) _
    refine XS.iconst Xs1.here hx rfl (hb hby d2_54) ?_
    show Steps p.tables e below (Ts1.setTop (mkF m 55 #[.val (.ref a1), .val (.int n), .val (.int (0 : Int32)), .val (.int (1 : Int32))] [(.int (1 : Int32)), (.int (1 : Int32)), (.ref a1), (.int (1 : Int32)), (.ref a1)])) _
    refine XS.isub Xs1.here hx rfl (hb hby d2_55) rfl ?_
    show Steps p.tables e below (Ts1.setTop (mkF m 56 #[.val (.ref a1), .val (.int n), .val (.int (0 : Int32)), .val (.int (1 : Int32))] [(.int (0 : Int32)), (.ref a1), (.int (1 : Int32)), (.ref a1)])) _
    refine own_ild Xs1 hx hZ es1 Vs1 0 (by decide) (by decide) (by decide) rfl (g := (mkF m 56 #[.val (.ref a1), .val (.int n), .val (.int (0 : Int32)), .val (.int (1 : Int32))] [(.int (0 : Int32)), (.ref a1), (.int (1 : Int32)), (.ref a1)])) rfl rfl (hb hby d2_56) _ ?_
    show Steps p.tables e below (Ts1.setTop (mkF m 57 #[.val (.ref a1), .val (.int n), .val (.int (0 : Int32)), .val (.int (1 : Int32))] [(.int (x0 + (1 : Int32))), (.int (1 : Int32)), (.ref a1)])) _
    refine XS.iconst Xs1.here hx rfl (hb hby d2_57) ?_
    show Steps p.tables e below (Ts1.setTop (mkF m 58 #[.val (.ref a1), .val (.int n), .val (.int (0 : Int32)), .val (.int (1 : Int32))] [(.int (1 : Int32)), (.int (x0 + (1 : Int32))), (.int (1 : Int32)), (.ref a1)])) _
    refine XS.iadd Xs1.here hx rfl (hb hby d2_58) rfl ?_
    show Steps p.tables e below (Ts1.setTop (mkF m 59 #[.val (.ref a1), .val (.int n), .val (.int (0 : Int32)), .val (.int (1 : Int32))] [(.int ((x0 + (1 : Int32)) + (1 : Int32))), (.int (1 : Int32)), (.ref a1)])) _
    refine sts2 _ ?_
    show Steps p.tables e below (Ts2.setTop (mkF m 60 #[.val (.ref a1), .val (.int n), .val (.int (0 : Int32)), .val (.int (1 : Int32))] [])) _
    refine XS.iinc Xs2.here hx rfl (hb hby d2_60) rfl (l' := #[.val (.ref a1), .val (.int n), .val (.int (0 : Int32)), .val (.int (2 : Int32))]) rfl ?_
    show Steps p.tables e below (Ts2.setTop (mkF m 63 #[.val (.ref a1), .val (.int n), .val (.int (0 : Int32)), .val (.int (2 : Int32))] [])) _
    refine XS.goto Xs2.here hx rfl (pc0 := 63) (pc' := 44) rfl (hb hby d2_63) (by decide) (by decide) ?_
    show Steps p.tables e below (Ts2.setTop (mkF m 44 #[.val (.ref a1), .val (.int n), .val (.int (0 : Int32)), .val (.int (2 : Int32))] [])) _
    refine XS.iloadN Xs2.here hx rfl (hb hby d2_44) rfl ?_
    show Steps p.tables e below (Ts2.setTop (mkF m 45 #[.val (.ref a1), .val (.int n), .val (.int (0 : Int32)), .val (.int (2 : Int32))] [(.int (2 : Int32))])) _
    refine XS.aloadN Xs2.here hx rfl (hb hby d2_45) rfl rfl ?_
    show Steps p.tables e below (Ts2.setTop (mkF m 46 #[.val (.ref a1), .val (.int n), .val (.int (0 : Int32)), .val (.int (2 : Int32))] [(.ref a1), (.int (2 : Int32))])) _
    refine own_len Xs2 hx hZ es2 Vs2 (g := (mkF m 46 #[.val (.ref a1), .val (.int n), .val (.int (0 : Int32)), .val (.int (2 : Int32))] [(.ref a1), (.int (2 : Int32))])) rfl rfl (hb hby d2_46) _ ?_
    show Steps p.tables e below (Ts2.setTop (mkF m 47 #[.val (.ref a1), .val (.int n), .val (.int (0 : Int32)), .val (.int (2 : Int32))] [(.int (2 : Int32)), (.int (2 : Int32))])) _
    refine XS.icmpYes Xs2.here hx rfl (pc0 := 47) (pc' := 66) rfl (hb hby d2_47) rfl (flt (by decide : ¬ ((2 : Int32) < (2 : Int32)))).2.1 (by decide) (by decide) ?_
    show Steps p.tables e below (Ts2.setTop (mkF m 66 #[.val (.ref a1), .val (.int n), .val (.int (0 : Int32)), .val (.int (2 : Int32))] [])) _
    refine XS.iconst Xs2.here hx rfl (hb hby d2_66) ?_
    exact retN Xs2 hx (t := .boolean) Bd.returns (by simp) (hb hby d2_67) hr
  · show Q2 Z a1 k (2 : Int32) (1 : Int32) [(.int (x0 + (1 : Int32))), (.int ((x0 + (1 : Int32)) + (1 : Int32)))] n0 _ Ts2.heap _
    rw [es2]
    exact ⟨rfl, Ns2, Vs2⟩
set_option maxRecDepth 65536 in
set_option maxHeartbeats 4000000 in
theorem rm2_2_2 (l : Launch) (Z : State) (a0 : Array Value) (hw : ∀ d ∈ tables_1, d.before a0 Z = true) (ws : List Jvm.Cond) (a1 : Addr) (n : Int32) (k : ClassId) (x0 : Int32) (x1 : Int32) (h0 : Heap) (n0 : Nat) (g_a1 : n0 ≤ a1) (V0 : Arv Z h0 a1 k .int (2 : Int32) [(.int x0), (.int x1)] (.int 0)) (hc1 : ¬ (x1 < ((n - (2 : Int32)) + (1 : Int32)))) (hc0 : ¬ (x0 < ((n - (2 : Int32)) + (0 : Int32)))) :
    MetFree l (⟨"com/example/ashlar/ashlar/storage/Subsets", "next", "([II)Z"⟩ : MethodName) (head1 (Jvm.Cond.code (⟨"com/example/ashlar/ashlar/storage/Subsets", "next", "([II)Z"⟩ : MethodName) prog_78_method_3_code 4 (some .boolean) :: ws) ({ frames := 0, cells := 0, slots := 0, locals := 0 } : Room)) (fun a U => a = #[(.ref a1), (.int n)] ∧ Z.Warmed39 U.vm ∧ U.heap = h0) (fun _ _ _ _ _ => True) (fun _ U o U' => ∃ v L, o = .returned v ∧ Q2 Z a1 k (2 : Int32) (0 : Int32) [(.int x0), (.int x1)] n0 v U'.heap L ∧ FrameEnd U o U' L ({ frames := 0, cells := 0, slots := 0, locals := 0 } : Room).cells ({ frames := 0, cells := 0, slots := 0, locals := 0 } : Room).slots) := by
  refine MetFree.of_bodySF (plainFor_of_name pn_2) hisR ?_
  intro p e s m args below meth c s₁ Bd hml0 hP hK
  obtain ⟨rfl, hZ, hh⟩ := hP
  have hx := Bd.exec
  have hby := Bd.bytes
  have X0 : Stand p l e ({ frames := 0, cells := 0, slots := 0, locals := 0 } : Room) s m #[(.ref a1), (.int n)] below meth c s₁ [] 0 0 := Stand.of_body Bd
  have e0 : s₁.heap = h0 := by rw [← hh, Bd.state]; rfl
  have N0 := Fr.nil n0
  have pre0 : ∀ t, Steps p.tables e below (s₁.setTop (mkF m 0 #[.val (.ref a1), .val (.int n), .unset, .unset] [])) t → Steps p.tables e below (s₁.setTop (entryFrame m #[(.ref a1), (.int n)] 4)) t := fun t k => castTop (ef_2 m a1 n) k
  obtain ⟨fs, hr, hrun, hended, hW, hsame⟩ := X0.leave (v := some (.int (0 : Int32))) (fun h => by rw [Bd.returns] at h; cases h)
  refine ⟨_, _, pre0 _ ?_, hrun, hended, _, _, rfl, ?_, ⟨_, rfl⟩, hW, hsame.mono (by decide) (by decide)⟩
  · show Steps p.tables e below (s₁.setTop (mkF m 0 #[.val (.ref a1), .val (.int n), .unset, .unset] [])) _
    refine XS.aloadN X0.here hx rfl (hb hby d2_0) rfl rfl ?_
    show Steps p.tables e below (s₁.setTop (mkF m 1 #[.val (.ref a1), .val (.int n), .unset, .unset] [(.ref a1)])) _
    refine own_len X0 hx hZ e0 V0 (g := (mkF m 1 #[.val (.ref a1), .val (.int n), .unset, .unset] [(.ref a1)])) rfl rfl (hb hby d2_1) _ ?_
    show Steps p.tables e below (s₁.setTop (mkF m 2 #[.val (.ref a1), .val (.int n), .unset, .unset] [(.int (2 : Int32))])) _
    refine XS.iconst X0.here hx rfl (hb hby d2_2) ?_
    show Steps p.tables e below (s₁.setTop (mkF m 3 #[.val (.ref a1), .val (.int n), .unset, .unset] [(.int (1 : Int32)), (.int (2 : Int32))])) _
    refine XS.isub X0.here hx rfl (hb hby d2_3) rfl ?_
    show Steps p.tables e below (s₁.setTop (mkF m 4 #[.val (.ref a1), .val (.int n), .unset, .unset] [(.int (1 : Int32))])) _
    refine XS.istoreN X0.here hx rfl (hb hby d2_4) rfl (l' := #[.val (.ref a1), .val (.int n), .val (.int (1 : Int32)), .unset]) rfl ?_
    show Steps p.tables e below (s₁.setTop (mkF m 5 #[.val (.ref a1), .val (.int n), .val (.int (1 : Int32)), .unset] [])) _
    refine XS.iloadN X0.here hx rfl (hb hby d2_5) rfl ?_
    show Steps p.tables e below (s₁.setTop (mkF m 6 #[.val (.ref a1), .val (.int n), .val (.int (1 : Int32)), .unset] [(.int (1 : Int32))])) _
    refine XS.ifNo X0.here hx rfl (hb hby d2_6) rfl ((if0 _ _).trans (flt (by decide : ¬ ((1 : Int32) < (0 : Int32)))).1) ?_
    show Steps p.tables e below (s₁.setTop (mkF m 9 #[.val (.ref a1), .val (.int n), .val (.int (1 : Int32)), .unset] [])) _
    refine XS.aloadN X0.here hx rfl (hb hby d2_9) rfl rfl ?_
    show Steps p.tables e below (s₁.setTop (mkF m 10 #[.val (.ref a1), .val (.int n), .val (.int (1 : Int32)), .unset] [(.ref a1)])) _
    refine XS.iloadN X0.here hx rfl (hb hby d2_10) rfl ?_
    show Steps p.tables e below (s₁.setTop (mkF m 11 #[.val (.ref a1), .val (.int n), .val (.int (1 : Int32)), .unset] [(.int (1 : Int32)), (.ref a1)])) _
    refine own_ild X0 hx hZ e0 V0 1 (by decide) (by decide) (by decide) rfl (g := (mkF m 11 #[.val (.ref a1), .val (.int n), .val (.int (1 : Int32)), .unset] [(.int (1 : Int32)), (.ref a1)])) rfl rfl (hb hby d2_11) _ ?_
    show Steps p.tables e below (s₁.setTop (mkF m 12 #[.val (.ref a1), .val (.int n), .val (.int (1 : Int32)), .unset] [(.int x1)])) _
    refine XS.iloadN X0.here hx rfl (hb hby d2_12) rfl ?_
    show Steps p.tables e below (s₁.setTop (mkF m 13 #[.val (.ref a1), .val (.int n), .val (.int (1 : Int32)), .unset] [(.int n), (.int x1)])) _
    refine XS.aloadN X0.here hx rfl (hb hby d2_13) rfl rfl ?_
    show Steps p.tables e below (s₁.setTop (mkF m 14 #[.val (.ref a1), .val (.int n), .val (.int (1 : Int32)), .unset] [(.ref a1), (.int n), (.int x1)])) _
    refine own_len X0 hx hZ e0 V0 (g := (mkF m 14 #[.val (.ref a1), .val (.int n), .val (.int (1 : Int32)), .unset] [(.ref a1), (.int n), (.int x1)])) rfl rfl (hb hby d2_14) _ ?_
    show Steps p.tables e below (s₁.setTop (mkF m 15 #[.val (.ref a1), .val (.int n), .val (.int (1 : Int32)), .unset] [(.int (2 : Int32)), (.int n), (.int x1)])) _
    refine XS.isub X0.here hx rfl (hb hby d2_15) rfl ?_
    show Steps p.tables e below (s₁.setTop (mkF m 16 #[.val (.ref a1), .val (.int n), .val (.int (1 : Int32)), .unset] [(.int (n - (2 : Int32))), (.int x1)])) _
    refine XS.iloadN X0.here hx rfl (hb hby d2_16) rfl ?_
    show Steps p.tables e below (s₁.setTop (mkF m 17 #[.val (.ref a1), .val (.int n), .val (.int (1 : Int32)), .unset] [(.int (1 : Int32)), (.int (n - (2 : Int32))), (.int x1)])) _
    refine XS.iadd X0.here hx rfl (hb hby d2_17) rfl ?_
    show Steps p.tables e below (s₁.setTop (mkF m 18 #[.val (.ref a1), .val (.int n), .val (.int (1 : Int32)), .unset] [(.int ((n - (2 : Int32)) + (1 : Int32))), (.int x1)])) _
    refine XS.icmpNo X0.here hx rfl (hb hby d2_18) rfl (flt (hc1 : ¬ (x1 < ((n - (2 : Int32)) + (1 : Int32))))).1 ?_
    show Steps p.tables e below (s₁.setTop (mkF m 21 #[.val (.ref a1), .val (.int n), .val (.int (1 : Int32)), .unset] [])) _
    refine XS.iinc X0.here hx rfl (hb hby d2_21) rfl (l' := #[.val (.ref a1), .val (.int n), .val (.int (0 : Int32)), .unset]) rfl ?_
    show Steps p.tables e below (s₁.setTop (mkF m 24 #[.val (.ref a1), .val (.int n), .val (.int (0 : Int32)), .unset] [])) _
    refine XS.goto X0.here hx rfl (pc0 := 24) (pc' := 5) rfl (hb hby d2_24) (by decide) (by decide) ?_
    show Steps p.tables e below (s₁.setTop (mkF m 5 #[.val (.ref a1), .val (.int n), .val (.int (0 : Int32)), .unset] [])) _
    refine XS.iloadN X0.here hx rfl (hb hby d2_5) rfl ?_
    show Steps p.tables e below (s₁.setTop (mkF m 6 #[.val (.ref a1), .val (.int n), .val (.int (0 : Int32)), .unset] [(.int (0 : Int32))])) _
    refine XS.ifNo X0.here hx rfl (hb hby d2_6) rfl ((if0 _ _).trans (flt (by decide : ¬ ((0 : Int32) < (0 : Int32)))).1) ?_
    show Steps p.tables e below (s₁.setTop (mkF m 9 #[.val (.ref a1), .val (.int n), .val (.int (0 : Int32)), .unset] [])) _
    refine XS.aloadN X0.here hx rfl (hb hby d2_9) rfl rfl ?_
    show Steps p.tables e below (s₁.setTop (mkF m 10 #[.val (.ref a1), .val (.int n), .val (.int (0 : Int32)), .unset] [(.ref a1)])) _
    refine XS.iloadN X0.here hx rfl (hb hby d2_10) rfl ?_
    show Steps p.tables e below (s₁.setTop (mkF m 11 #[.val (.ref a1), .val (.int n), .val (.int (0 : Int32)), .unset] [(.int (0 : Int32)), (.ref a1)])) _
    refine own_ild X0 hx hZ e0 V0 0 (by decide) (by decide) (by decide) rfl (g := (mkF m 11 #[.val (.ref a1), .val (.int n), .val (.int (0 : Int32)), .unset] [(.int (0 : Int32)), (.ref a1)])) rfl rfl (hb hby d2_11) _ ?_
    show Steps p.tables e below (s₁.setTop (mkF m 12 #[.val (.ref a1), .val (.int n), .val (.int (0 : Int32)), .unset] [(.int x0)])) _
    refine XS.iloadN X0.here hx rfl (hb hby d2_12) rfl ?_
    show Steps p.tables e below (s₁.setTop (mkF m 13 #[.val (.ref a1), .val (.int n), .val (.int (0 : Int32)), .unset] [(.int n), (.int x0)])) _
    refine XS.aloadN X0.here hx rfl (hb hby d2_13) rfl rfl ?_
    show Steps p.tables e below (s₁.setTop (mkF m 14 #[.val (.ref a1), .val (.int n), .val (.int (0 : Int32)), .unset] [(.ref a1), (.int n), (.int x0)])) _
    refine own_len X0 hx hZ e0 V0 (g := (mkF m 14 #[.val (.ref a1), .val (.int n), .val (.int (0 : Int32)), .unset] [(.ref a1), (.int n), (.int x0)])) rfl rfl (hb hby d2_14) _ ?_
    show Steps p.tables e below (s₁.setTop (mkF m 15 #[.val (.ref a1), .val (.int n), .val (.int (0 : Int32)), .unset] [(.int (2 : Int32)), (.int n), (.int x0)])) _
    refine XS.isub X0.here hx rfl (hb hby d2_15) rfl ?_
    show Steps p.tables e below (s₁.setTop (mkF m 16 #[.val (.ref a1), .val (.int n), .val (.int (0 : Int32)), .unset] [(.int (n - (2 : Int32))), (.int x0)])) _
    refine XS.iloadN X0.here hx rfl (hb hby d2_16) rfl ?_
    show Steps p.tables e below (s₁.setTop (mkF m 17 #[.val (.ref a1), .val (.int n), .val (.int (0 : Int32)), .unset] [(.int (0 : Int32)), (.int (n - (2 : Int32))), (.int x0)])) _
    refine XS.iadd X0.here hx rfl (hb hby d2_17) rfl ?_
    show Steps p.tables e below (s₁.setTop (mkF m 18 #[.val (.ref a1), .val (.int n), .val (.int (0 : Int32)), .unset] [(.int ((n - (2 : Int32)) + (0 : Int32))), (.int x0)])) _
    refine XS.icmpNo X0.here hx rfl (hb hby d2_18) rfl (flt (hc0 : ¬ (x0 < ((n - (2 : Int32)) + (0 : Int32))))).1 ?_
    show Steps p.tables e below (s₁.setTop (mkF m 21 #[.val (.ref a1), .val (.int n), .val (.int (0 : Int32)), .unset] [])) _
    refine XS.iinc X0.here hx rfl (hb hby d2_21) rfl (l' := #[.val (.ref a1), .val (.int n), .val (.int (-1 : Int32)), .unset]) rfl ?_
    show Steps p.tables e below (s₁.setTop (mkF m 24 #[.val (.ref a1), .val (.int n), .val (.int (-1 : Int32)), .unset] [])) _
    refine XS.goto X0.here hx rfl (pc0 := 24) (pc' := 5) rfl (hb hby d2_24) (by decide) (by decide) ?_
    show Steps p.tables e below (s₁.setTop (mkF m 5 #[.val (.ref a1), .val (.int n), .val (.int (-1 : Int32)), .unset] [])) _
    refine XS.iloadN X0.here hx rfl (hb hby d2_5) rfl ?_
    show Steps p.tables e below (s₁.setTop (mkF m 6 #[.val (.ref a1), .val (.int n), .val (.int (-1 : Int32)), .unset] [(.int (-1 : Int32))])) _
    refine XS.ifYes X0.here hx rfl (pc0 := 6) (pc' := 27) rfl (hb hby d2_6) rfl ((if0 _ _).trans (tlt (by decide : (-1 : Int32) < (0 : Int32))).1) (by decide) (by decide) ?_
    show Steps p.tables e below (s₁.setTop (mkF m 27 #[.val (.ref a1), .val (.int n), .val (.int (-1 : Int32)), .unset] [])) _
    refine XS.iloadN X0.here hx rfl (hb hby d2_27) rfl ?_
    show Steps p.tables e below (s₁.setTop (mkF m 28 #[.val (.ref a1), .val (.int n), .val (.int (-1 : Int32)), .unset] [(.int (-1 : Int32))])) _
    refine XS.ifNo X0.here hx rfl (hb hby d2_28) rfl ((if0 _ _).trans (tlt (by decide : (-1 : Int32) < (0 : Int32))).2.1) ?_
    show Steps p.tables e below (s₁.setTop (mkF m 31 #[.val (.ref a1), .val (.int n), .val (.int (-1 : Int32)), .unset] [])) _
    refine XS.iconst X0.here hx rfl (hb hby d2_31) ?_
    exact retN X0 hx (t := .boolean) Bd.returns (by simp) (hb hby d2_32) hr
  · show Q2 Z a1 k (2 : Int32) (0 : Int32) [(.int x0), (.int x1)] n0 _ s₁.heap _
    rw [e0]
    exact ⟨rfl, N0, V0⟩
set_option maxRecDepth 65536 in
set_option maxHeartbeats 4000000 in
theorem rm2_3_0 (l : Launch) (Z : State) (a0 : Array Value) (hw : ∀ d ∈ tables_1, d.before a0 Z = true) (ws : List Jvm.Cond) (a1 : Addr) (n : Int32) (k : ClassId) (x0 : Int32) (x1 : Int32) (x2 : Int32) (h0 : Heap) (n0 : Nat) (g_a1 : n0 ≤ a1) (V0 : Arv Z h0 a1 k .int (3 : Int32) [(.int x0), (.int x1), (.int x2)] (.int 0)) (hc2 : x2 < ((n - (3 : Int32)) + (2 : Int32))) :
    MetFree l (⟨"com/example/ashlar/ashlar/storage/Subsets", "next", "([II)Z"⟩ : MethodName) (head1 (Jvm.Cond.code (⟨"com/example/ashlar/ashlar/storage/Subsets", "next", "([II)Z"⟩ : MethodName) prog_78_method_3_code 4 (some .boolean) :: ws) ({ frames := 0, cells := 0, slots := 0, locals := 0 } : Room)) (fun a U => a = #[(.ref a1), (.int n)] ∧ Z.Warmed39 U.vm ∧ U.heap = h0) (fun _ _ _ _ _ => True) (fun _ U o U' => ∃ v L, o = .returned v ∧ Q2 Z a1 k (3 : Int32) (1 : Int32) [(.int x0), (.int x1), (.int (x2 + (1 : Int32)))] n0 v U'.heap L ∧ FrameEnd U o U' L ({ frames := 0, cells := 0, slots := 0, locals := 0 } : Room).cells ({ frames := 0, cells := 0, slots := 0, locals := 0 } : Room).slots) := by
  refine MetFree.of_bodySF (plainFor_of_name pn_2) hisR ?_
  intro p e s m args below meth c s₁ Bd hml0 hP hK
  obtain ⟨rfl, hZ, hh⟩ := hP
  have hx := Bd.exec
  have hby := Bd.bytes
  have X0 : Stand p l e ({ frames := 0, cells := 0, slots := 0, locals := 0 } : Room) s m #[(.ref a1), (.int n)] below meth c s₁ [] 0 0 := Stand.of_body Bd
  have e0 : s₁.heap = h0 := by rw [← hh, Bd.state]; rfl
  have N0 := Fr.nil n0
  have pre0 : ∀ t, Steps p.tables e below (s₁.setTop (mkF m 0 #[.val (.ref a1), .val (.int n), .unset, .unset] [])) t → Steps p.tables e below (s₁.setTop (entryFrame m #[(.ref a1), (.int n)] 4)) t := fun t k => castTop (ef_2 m a1 n) k
  obtain ⟨Ts1, hs1, Xs1, es1, Ws1, Vs1', sts1⟩ := own_ist X0 hx hZ e0 V0 2 (by decide) (by decide) (by decide) (Nat.le_of_ble_eq_true rfl) (g := (mkF m 39 #[.val (.ref a1), .val (.int n), .val (.int (2 : Int32)), .unset] [(.int (x2 + (1 : Int32))), (.int (2 : Int32)), (.ref a1)])) rfl rfl (hb hby d2_39)
  have Vs1 : Arv Z hs1 a1 k .int (3 : Int32) [(.int x0), (.int x1), (.int (x2 + (1 : Int32)))] (.int 0) := Vs1'
  have Ns1 := Fr.snoc Xs1 N0 g_a1
  obtain ⟨fs, hr, hrun, hended, hW, hsame⟩ := Xs1.leave (v := some (.int (1 : Int32))) (fun h => by rw [Bd.returns] at h; cases h)
  refine ⟨_, _, pre0 _ ?_, hrun, hended, _, _, rfl, ?_, ⟨_, rfl⟩, hW, hsame.mono (by decide) (by decide)⟩
  · show Steps p.tables e below (s₁.setTop (mkF m 0 #[.val (.ref a1), .val (.int n), .unset, .unset] [])) _
    refine XS.aloadN X0.here hx rfl (hb hby d2_0) rfl rfl ?_
    show Steps p.tables e below (s₁.setTop (mkF m 1 #[.val (.ref a1), .val (.int n), .unset, .unset] [(.ref a1)])) _
    refine own_len X0 hx hZ e0 V0 (g := (mkF m 1 #[.val (.ref a1), .val (.int n), .unset, .unset] [(.ref a1)])) rfl rfl (hb hby d2_1) _ ?_
    show Steps p.tables e below (s₁.setTop (mkF m 2 #[.val (.ref a1), .val (.int n), .unset, .unset] [(.int (3 : Int32))])) _
    refine XS.iconst X0.here hx rfl (hb hby d2_2) ?_
    show Steps p.tables e below (s₁.setTop (mkF m 3 #[.val (.ref a1), .val (.int n), .unset, .unset] [(.int (1 : Int32)), (.int (3 : Int32))])) _
    refine XS.isub X0.here hx rfl (hb hby d2_3) rfl ?_
    show Steps p.tables e below (s₁.setTop (mkF m 4 #[.val (.ref a1), .val (.int n), .unset, .unset] [(.int (2 : Int32))])) _
    refine XS.istoreN X0.here hx rfl (hb hby d2_4) rfl (l' := #[.val (.ref a1), .val (.int n), .val (.int (2 : Int32)), .unset]) rfl ?_
    show Steps p.tables e below (s₁.setTop (mkF m 5 #[.val (.ref a1), .val (.int n), .val (.int (2 : Int32)), .unset] [])) _
    refine XS.iloadN X0.here hx rfl (hb hby d2_5) rfl ?_
    show Steps p.tables e below (s₁.setTop (mkF m 6 #[.val (.ref a1), .val (.int n), .val (.int (2 : Int32)), .unset] [(.int (2 : Int32))])) _
    refine XS.ifNo X0.here hx rfl (hb hby d2_6) rfl ((if0 _ _).trans (flt (by decide : ¬ ((2 : Int32) < (0 : Int32)))).1) ?_
    show Steps p.tables e below (s₁.setTop (mkF m 9 #[.val (.ref a1), .val (.int n), .val (.int (2 : Int32)), .unset] [])) _
    refine XS.aloadN X0.here hx rfl (hb hby d2_9) rfl rfl ?_
    show Steps p.tables e below (s₁.setTop (mkF m 10 #[.val (.ref a1), .val (.int n), .val (.int (2 : Int32)), .unset] [(.ref a1)])) _
    refine XS.iloadN X0.here hx rfl (hb hby d2_10) rfl ?_
    show Steps p.tables e below (s₁.setTop (mkF m 11 #[.val (.ref a1), .val (.int n), .val (.int (2 : Int32)), .unset] [(.int (2 : Int32)), (.ref a1)])) _
    refine own_ild X0 hx hZ e0 V0 2 (by decide) (by decide) (by decide) rfl (g := (mkF m 11 #[.val (.ref a1), .val (.int n), .val (.int (2 : Int32)), .unset] [(.int (2 : Int32)), (.ref a1)])) rfl rfl (hb hby d2_11) _ ?_
    show Steps p.tables e below (s₁.setTop (mkF m 12 #[.val (.ref a1), .val (.int n), .val (.int (2 : Int32)), .unset] [(.int x2)])) _
    refine XS.iloadN X0.here hx rfl (hb hby d2_12) rfl ?_
    show Steps p.tables e below (s₁.setTop (mkF m 13 #[.val (.ref a1), .val (.int n), .val (.int (2 : Int32)), .unset] [(.int n), (.int x2)])) _
    refine XS.aloadN X0.here hx rfl (hb hby d2_13) rfl rfl ?_
    show Steps p.tables e below (s₁.setTop (mkF m 14 #[.val (.ref a1), .val (.int n), .val (.int (2 : Int32)), .unset] [(.ref a1), (.int n), (.int x2)])) _
    refine own_len X0 hx hZ e0 V0 (g := (mkF m 14 #[.val (.ref a1), .val (.int n), .val (.int (2 : Int32)), .unset] [(.ref a1), (.int n), (.int x2)])) rfl rfl (hb hby d2_14) _ ?_
    show Steps p.tables e below (s₁.setTop (mkF m 15 #[.val (.ref a1), .val (.int n), .val (.int (2 : Int32)), .unset] [(.int (3 : Int32)), (.int n), (.int x2)])) _
    refine XS.isub X0.here hx rfl (hb hby d2_15) rfl ?_
    show Steps p.tables e below (s₁.setTop (mkF m 16 #[.val (.ref a1), .val (.int n), .val (.int (2 : Int32)), .unset] [(.int (n - (3 : Int32))), (.int x2)])) _
    refine XS.iloadN X0.here hx rfl (hb hby d2_16) rfl ?_
    show Steps p.tables e below (s₁.setTop (mkF m 17 #[.val (.ref a1), .val (.int n), .val (.int (2 : Int32)), .unset] [(.int (2 : Int32)), (.int (n - (3 : Int32))), (.int x2)])) _
    refine XS.iadd X0.here hx rfl (hb hby d2_17) rfl ?_
    show Steps p.tables e below (s₁.setTop (mkF m 18 #[.val (.ref a1), .val (.int n), .val (.int (2 : Int32)), .unset] [(.int ((n - (3 : Int32)) + (2 : Int32))), (.int x2)])) _
    refine XS.icmpYes X0.here hx rfl (pc0 := 18) (pc' := 27) rfl (hb hby d2_18) rfl (tlt (hc2 : x2 < ((n - (3 : Int32)) + (2 : Int32)))).1 (by decide) (by decide) ?_
    show Steps p.tables e below (s₁.setTop (mkF m 27 #[.val (.ref a1), .val (.int n), .val (.int (2 : Int32)), .unset] [])) _
    refine XS.iloadN X0.here hx rfl (hb hby d2_27) rfl ?_
    show Steps p.tables e below (s₁.setTop (mkF m 28 #[.val (.ref a1), .val (.int n), .val (.int (2 : Int32)), .unset] [(.int (2 : Int32))])) _
    refine XS.ifYes X0.here hx rfl (pc0 := 28) (pc' := 33) rfl (hb hby d2_28) rfl ((if0 _ _).trans (flt (by decide : ¬ ((2 : Int32) < (0 : Int32)))).2.1) (by decide) (by decide) ?_
    show Steps p.tables e below (s₁.setTop (mkF m 33 #[.val (.ref a1), .val (.int n), .val (.int (2 : Int32)), .unset] [])) _
    refine XS.aloadN X0.here hx rfl (hb hby d2_33) rfl rfl ?_
    show Steps p.tables e below (s₁.setTop (mkF m 34 #[.val (.ref a1), .val (.int n), .val (.int (2 : Int32)), .unset] [(.ref a1)])) _
    refine XS.iloadN X0.here hx rfl (hb hby d2_34) rfl ?_
    show Steps p.tables e below (s₁.setTop (mkF m 35 #[.val (.ref a1), .val (.int n), .val (.int (2 : Int32)), .unset] [(.int (2 : Int32)), (.ref a1)])) _
    refine XT.dup2 X0.here hx rfl (hb hby d2_35) rfl rfl rfl ?_
    show Steps p.tables e below (s₁.setTop (mkF m 36 #[.val (.ref a1), .val (.int n), .val (.int (2 : Int32)), .unset] [(.int (2 : Int32)), (.ref a1), (.int (2 : Int32)), (.ref a1)])) _
    refine own_ild X0 hx hZ e0 V0 2 (by decide) (by decide) (by decide) rfl (g := (mkF m 36 #[.val (.ref a1), .val (.int n), .val (.int (2 : Int32)), .unset] [(.int (2 : Int32)), (.ref a1), (.int (2 : Int32)), (.ref a1)])) rfl rfl (hb hby d2_36) _ ?_
    show Steps p.tables e below (s₁.setTop (mkF m 37 #[.val (.ref a1), .val (.int n), .val (.int (2 : Int32)), .unset] [(.int x2), (.int (2 : Int32)), (.ref a1)])) _
    refine XS.iconst X0.here hx rfl (hb hby d2_37) ?_
    show Steps p.tables e below (s₁.setTop (mkF m 38 #[.val (.ref a1), .val (.int n), .val (.int (2 : Int32)), .unset] [(.int (1 : Int32)), (.int x2), (.int (2 : Int32)), (.ref a1)])) _
    refine XS.iadd X0.here hx rfl (hb hby d2_38) rfl ?_
    show Steps p.tables e below (s₁.setTop (mkF m 39 #[.val (.ref a1), .val (.int n), .val (.int (2 : Int32)), .unset] [(.int (x2 + (1 : Int32))), (.int (2 : Int32)), (.ref a1)])) _
    refine sts1 _ ?_
    show Steps p.tables e below (Ts1.setTop (mkF m 40 #[.val (.ref a1), .val (.int n), .val (.int (2 : Int32)), .unset] [])) _
    refine XS.iloadN Xs1.here hx rfl (hb hby d2_40) rfl ?_
    show Steps p.tables e below (Ts1.setTop (mkF m 41 #[.val (.ref a1), .val (.int n), .val (.int (2 : Int32)), .unset] [(.int (2 : Int32))])) _
    refine XS.iconst Xs1.here hx rfl (hb hby d2_41) ?_
    show Steps p.tables e below (Ts1.setTop (mkF m 42 #[.val (.ref a1), .val (.int n), .val (.int (2 : Int32)), .unset] [(.int (1 : Int32)), (.int (2 : Int32))])) _
    refine XS.iadd Xs1.here hx rfl (hb hby d2_42) rfl ?_
    show Steps p.tables e below (Ts1.setTop (mkF m 43 #[.val (.ref a1), .val (.int n), .val (.int (2 : Int32)), .unset] [(.int (3 : Int32))])) _
    refine XS.istoreN Xs1.here hx rfl (hb hby d2_43) rfl (l' := #[.val (.ref a1), .val (.int n), .val (.int (2 : Int32)), .val (.int (3 : Int32))]) rfl ?_
    show Steps p.tables e below (Ts1.setTop (mkF m 44 #[.val (.ref a1), .val (.int n), .val (.int (2 : Int32)), .val (.int (3 : Int32))] [])) _
    refine XS.iloadN Xs1.here hx rfl (hb hby d2_44) rfl ?_
    show Steps p.tables e below (Ts1.setTop (mkF m 45 #[.val (.ref a1), .val (.int n), .val (.int (2 : Int32)), .val (.int (3 : Int32))] [(.int (3 : Int32))])) _
    refine XS.aloadN Xs1.here hx rfl (hb hby d2_45) rfl rfl ?_
    show Steps p.tables e below (Ts1.setTop (mkF m 46 #[.val (.ref a1), .val (.int n), .val (.int (2 : Int32)), .val (.int (3 : Int32))] [(.ref a1), (.int (3 : Int32))])) _
    refine own_len Xs1 hx hZ es1 Vs1 (g := (mkF m 46 #[.val (.ref a1), .val (.int n), .val (.int (2 : Int32)), .val (.int (3 : Int32))] [(.ref a1), (.int (3 : Int32))])) rfl rfl (hb hby d2_46) _ ?_
    show Steps p.tables e below (Ts1.setTop (mkF m 47 #[.val (.ref a1), .val (.int n), .val (.int (2 : Int32)), .val (.int (3 : Int32))] [(.int (3 : Int32)), (.int (3 : Int32))])) _
    refine XS.icmpYes Xs1.here hx rfl (pc0 := 47) (pc' := 66) rfl (hb hby d2_47) rfl (flt (by decide : ¬ ((3 : Int32) < (3 : Int32)))).2.1 (by decide) (by decide) ?_
    show Steps p.tables e below (Ts1.setTop (mkF m 66 #[.val (.ref a1), .val (.int n), .val (.int (2 : Int32)), .val (.int (3 : Int32))] [])) _
    refine XS.iconst Xs1.here hx rfl (hb hby d2_66) ?_
    exact retN Xs1 hx (t := .boolean) Bd.returns (by simp) (hb hby d2_67) hr
  · show Q2 Z a1 k (3 : Int32) (1 : Int32) [(.int x0), (.int x1), (.int (x2 + (1 : Int32)))] n0 _ Ts1.heap _
    rw [es1]
    exact ⟨rfl, Ns1, Vs1⟩
set_option maxRecDepth 65536 in
set_option maxHeartbeats 4000000 in
theorem rm2_3_1 (l : Launch) (Z : State) (a0 : Array Value) (hw : ∀ d ∈ tables_1, d.before a0 Z = true) (ws : List Jvm.Cond) (a1 : Addr) (n : Int32) (k : ClassId) (x0 : Int32) (x1 : Int32) (x2 : Int32) (h0 : Heap) (n0 : Nat) (g_a1 : n0 ≤ a1) (V0 : Arv Z h0 a1 k .int (3 : Int32) [(.int x0), (.int x1), (.int x2)] (.int 0)) (hc2 : ¬ (x2 < ((n - (3 : Int32)) + (2 : Int32)))) (hc1 : x1 < ((n - (3 : Int32)) + (1 : Int32))) :
    MetFree l (⟨"com/example/ashlar/ashlar/storage/Subsets", "next", "([II)Z"⟩ : MethodName) (head1 (Jvm.Cond.code (⟨"com/example/ashlar/ashlar/storage/Subsets", "next", "([II)Z"⟩ : MethodName) prog_78_method_3_code 4 (some .boolean) :: ws) ({ frames := 0, cells := 0, slots := 0, locals := 0 } : Room)) (fun a U => a = #[(.ref a1), (.int n)] ∧ Z.Warmed39 U.vm ∧ U.heap = h0) (fun _ _ _ _ _ => True) (fun _ U o U' => ∃ v L, o = .returned v ∧ Q2 Z a1 k (3 : Int32) (1 : Int32) [(.int x0), (.int (x1 + (1 : Int32))), (.int ((x1 + (1 : Int32)) + (1 : Int32)))] n0 v U'.heap L ∧ FrameEnd U o U' L ({ frames := 0, cells := 0, slots := 0, locals := 0 } : Room).cells ({ frames := 0, cells := 0, slots := 0, locals := 0 } : Room).slots) := by
  refine MetFree.of_bodySF (plainFor_of_name pn_2) hisR ?_
  intro p e s m args below meth c s₁ Bd hml0 hP hK
  obtain ⟨rfl, hZ, hh⟩ := hP
  have hx := Bd.exec
  have hby := Bd.bytes
  have X0 : Stand p l e ({ frames := 0, cells := 0, slots := 0, locals := 0 } : Room) s m #[(.ref a1), (.int n)] below meth c s₁ [] 0 0 := Stand.of_body Bd
  have e0 : s₁.heap = h0 := by rw [← hh, Bd.state]; rfl
  have N0 := Fr.nil n0
  have pre0 : ∀ t, Steps p.tables e below (s₁.setTop (mkF m 0 #[.val (.ref a1), .val (.int n), .unset, .unset] [])) t → Steps p.tables e below (s₁.setTop (entryFrame m #[(.ref a1), (.int n)] 4)) t := fun t k => castTop (ef_2 m a1 n) k
  obtain ⟨Ts1, hs1, Xs1, es1, Ws1, Vs1', sts1⟩ := own_ist X0 hx hZ e0 V0 1 (by decide) (by decide) (by decide) (Nat.le_of_ble_eq_true rfl) (g := (mkF m 39 #[.val (.ref a1), .val (.int n), .val (.int (1 : Int32)), .unset] [(.int (x1 + (1 : Int32))), (.int (1 : Int32)), (.ref a1)])) rfl rfl (hb hby d2_39)
  have Vs1 : Arv Z hs1 a1 k .int (3 : Int32) [(.int x0), (.int (x1 + (1 : Int32))), (.int x2)] (.int 0) := Vs1'
  have Ns1 := Fr.snoc Xs1 N0 g_a1
  obtain ⟨Ts2, hs2, Xs2, es2, Ws2, Vs2', sts2⟩ := own_ist Xs1 hx hZ es1 Vs1 2 (by decide) (by decide) (by decide) (Nat.le_of_ble_eq_true rfl) (g := (mkF m 59 #[.val (.ref a1), .val (.int n), .val (.int (1 : Int32)), .val (.int (2 : Int32))] [(.int ((x1 + (1 : Int32)) + (1 : Int32))), (.int (2 : Int32)), (.ref a1)])) rfl rfl (hb hby d2_59)
  have Vs2 : Arv Z hs2 a1 k .int (3 : Int32) [(.int x0), (.int (x1 + (1 : Int32))), (.int ((x1 + (1 : Int32)) + (1 : Int32)))] (.int 0) := Vs2'
  have Ns2 := Fr.snoc Xs2 Ns1 g_a1
  obtain ⟨fs, hr, hrun, hended, hW, hsame⟩ := Xs2.leave (v := some (.int (1 : Int32))) (fun h => by rw [Bd.returns] at h; cases h)
  refine ⟨_, _, pre0 _ ?_, hrun, hended, _, _, rfl, ?_, ⟨_, rfl⟩, hW, hsame.mono (by decide) (by decide)⟩
  · show Steps p.tables e below (s₁.setTop (mkF m 0 #[.val (.ref a1), .val (.int n), .unset, .unset] [])) _
    refine XS.aloadN X0.here hx rfl (hb hby d2_0) rfl rfl ?_
    show Steps p.tables e below (s₁.setTop (mkF m 1 #[.val (.ref a1), .val (.int n), .unset, .unset] [(.ref a1)])) _
    refine own_len X0 hx hZ e0 V0 (g := (mkF m 1 #[.val (.ref a1), .val (.int n), .unset, .unset] [(.ref a1)])) rfl rfl (hb hby d2_1) _ ?_
    show Steps p.tables e below (s₁.setTop (mkF m 2 #[.val (.ref a1), .val (.int n), .unset, .unset] [(.int (3 : Int32))])) _
    refine XS.iconst X0.here hx rfl (hb hby d2_2) ?_
    show Steps p.tables e below (s₁.setTop (mkF m 3 #[.val (.ref a1), .val (.int n), .unset, .unset] [(.int (1 : Int32)), (.int (3 : Int32))])) _
    refine XS.isub X0.here hx rfl (hb hby d2_3) rfl ?_
    show Steps p.tables e below (s₁.setTop (mkF m 4 #[.val (.ref a1), .val (.int n), .unset, .unset] [(.int (2 : Int32))])) _
    refine XS.istoreN X0.here hx rfl (hb hby d2_4) rfl (l' := #[.val (.ref a1), .val (.int n), .val (.int (2 : Int32)), .unset]) rfl ?_
    show Steps p.tables e below (s₁.setTop (mkF m 5 #[.val (.ref a1), .val (.int n), .val (.int (2 : Int32)), .unset] [])) _
    refine XS.iloadN X0.here hx rfl (hb hby d2_5) rfl ?_
    show Steps p.tables e below (s₁.setTop (mkF m 6 #[.val (.ref a1), .val (.int n), .val (.int (2 : Int32)), .unset] [(.int (2 : Int32))])) _
    refine XS.ifNo X0.here hx rfl (hb hby d2_6) rfl ((if0 _ _).trans (flt (by decide : ¬ ((2 : Int32) < (0 : Int32)))).1) ?_
    show Steps p.tables e below (s₁.setTop (mkF m 9 #[.val (.ref a1), .val (.int n), .val (.int (2 : Int32)), .unset] [])) _
    refine XS.aloadN X0.here hx rfl (hb hby d2_9) rfl rfl ?_
    show Steps p.tables e below (s₁.setTop (mkF m 10 #[.val (.ref a1), .val (.int n), .val (.int (2 : Int32)), .unset] [(.ref a1)])) _
    refine XS.iloadN X0.here hx rfl (hb hby d2_10) rfl ?_
    show Steps p.tables e below (s₁.setTop (mkF m 11 #[.val (.ref a1), .val (.int n), .val (.int (2 : Int32)), .unset] [(.int (2 : Int32)), (.ref a1)])) _
    refine own_ild X0 hx hZ e0 V0 2 (by decide) (by decide) (by decide) rfl (g := (mkF m 11 #[.val (.ref a1), .val (.int n), .val (.int (2 : Int32)), .unset] [(.int (2 : Int32)), (.ref a1)])) rfl rfl (hb hby d2_11) _ ?_
    show Steps p.tables e below (s₁.setTop (mkF m 12 #[.val (.ref a1), .val (.int n), .val (.int (2 : Int32)), .unset] [(.int x2)])) _
    refine XS.iloadN X0.here hx rfl (hb hby d2_12) rfl ?_
    show Steps p.tables e below (s₁.setTop (mkF m 13 #[.val (.ref a1), .val (.int n), .val (.int (2 : Int32)), .unset] [(.int n), (.int x2)])) _
    refine XS.aloadN X0.here hx rfl (hb hby d2_13) rfl rfl ?_
    show Steps p.tables e below (s₁.setTop (mkF m 14 #[.val (.ref a1), .val (.int n), .val (.int (2 : Int32)), .unset] [(.ref a1), (.int n), (.int x2)])) _
    refine own_len X0 hx hZ e0 V0 (g := (mkF m 14 #[.val (.ref a1), .val (.int n), .val (.int (2 : Int32)), .unset] [(.ref a1), (.int n), (.int x2)])) rfl rfl (hb hby d2_14) _ ?_
    show Steps p.tables e below (s₁.setTop (mkF m 15 #[.val (.ref a1), .val (.int n), .val (.int (2 : Int32)), .unset] [(.int (3 : Int32)), (.int n), (.int x2)])) _
    refine XS.isub X0.here hx rfl (hb hby d2_15) rfl ?_
    show Steps p.tables e below (s₁.setTop (mkF m 16 #[.val (.ref a1), .val (.int n), .val (.int (2 : Int32)), .unset] [(.int (n - (3 : Int32))), (.int x2)])) _
    refine XS.iloadN X0.here hx rfl (hb hby d2_16) rfl ?_
    show Steps p.tables e below (s₁.setTop (mkF m 17 #[.val (.ref a1), .val (.int n), .val (.int (2 : Int32)), .unset] [(.int (2 : Int32)), (.int (n - (3 : Int32))), (.int x2)])) _
    refine XS.iadd X0.here hx rfl (hb hby d2_17) rfl ?_
    show Steps p.tables e below (s₁.setTop (mkF m 18 #[.val (.ref a1), .val (.int n), .val (.int (2 : Int32)), .unset] [(.int ((n - (3 : Int32)) + (2 : Int32))), (.int x2)])) _
    refine XS.icmpNo X0.here hx rfl (hb hby d2_18) rfl (flt (hc2 : ¬ (x2 < ((n - (3 : Int32)) + (2 : Int32))))).1 ?_
    show Steps p.tables e below (s₁.setTop (mkF m 21 #[.val (.ref a1), .val (.int n), .val (.int (2 : Int32)), .unset] [])) _
    refine XS.iinc X0.here hx rfl (hb hby d2_21) rfl (l' := #[.val (.ref a1), .val (.int n), .val (.int (1 : Int32)), .unset]) rfl ?_
    show Steps p.tables e below (s₁.setTop (mkF m 24 #[.val (.ref a1), .val (.int n), .val (.int (1 : Int32)), .unset] [])) _
    refine XS.goto X0.here hx rfl (pc0 := 24) (pc' := 5) rfl (hb hby d2_24) (by decide) (by decide) ?_
    show Steps p.tables e below (s₁.setTop (mkF m 5 #[.val (.ref a1), .val (.int n), .val (.int (1 : Int32)), .unset] [])) _
    refine XS.iloadN X0.here hx rfl (hb hby d2_5) rfl ?_
    show Steps p.tables e below (s₁.setTop (mkF m 6 #[.val (.ref a1), .val (.int n), .val (.int (1 : Int32)), .unset] [(.int (1 : Int32))])) _
    refine XS.ifNo X0.here hx rfl (hb hby d2_6) rfl ((if0 _ _).trans (flt (by decide : ¬ ((1 : Int32) < (0 : Int32)))).1) ?_
    show Steps p.tables e below (s₁.setTop (mkF m 9 #[.val (.ref a1), .val (.int n), .val (.int (1 : Int32)), .unset] [])) _
    refine XS.aloadN X0.here hx rfl (hb hby d2_9) rfl rfl ?_
    show Steps p.tables e below (s₁.setTop (mkF m 10 #[.val (.ref a1), .val (.int n), .val (.int (1 : Int32)), .unset] [(.ref a1)])) _
    refine XS.iloadN X0.here hx rfl (hb hby d2_10) rfl ?_
    show Steps p.tables e below (s₁.setTop (mkF m 11 #[.val (.ref a1), .val (.int n), .val (.int (1 : Int32)), .unset] [(.int (1 : Int32)), (.ref a1)])) _
    refine own_ild X0 hx hZ e0 V0 1 (by decide) (by decide) (by decide) rfl (g := (mkF m 11 #[.val (.ref a1), .val (.int n), .val (.int (1 : Int32)), .unset] [(.int (1 : Int32)), (.ref a1)])) rfl rfl (hb hby d2_11) _ ?_
    show Steps p.tables e below (s₁.setTop (mkF m 12 #[.val (.ref a1), .val (.int n), .val (.int (1 : Int32)), .unset] [(.int x1)])) _
    refine XS.iloadN X0.here hx rfl (hb hby d2_12) rfl ?_
    show Steps p.tables e below (s₁.setTop (mkF m 13 #[.val (.ref a1), .val (.int n), .val (.int (1 : Int32)), .unset] [(.int n), (.int x1)])) _
    refine XS.aloadN X0.here hx rfl (hb hby d2_13) rfl rfl ?_
    show Steps p.tables e below (s₁.setTop (mkF m 14 #[.val (.ref a1), .val (.int n), .val (.int (1 : Int32)), .unset] [(.ref a1), (.int n), (.int x1)])) _
    refine own_len X0 hx hZ e0 V0 (g := (mkF m 14 #[.val (.ref a1), .val (.int n), .val (.int (1 : Int32)), .unset] [(.ref a1), (.int n), (.int x1)])) rfl rfl (hb hby d2_14) _ ?_
    show Steps p.tables e below (s₁.setTop (mkF m 15 #[.val (.ref a1), .val (.int n), .val (.int (1 : Int32)), .unset] [(.int (3 : Int32)), (.int n), (.int x1)])) _
    refine XS.isub X0.here hx rfl (hb hby d2_15) rfl ?_
    show Steps p.tables e below (s₁.setTop (mkF m 16 #[.val (.ref a1), .val (.int n), .val (.int (1 : Int32)), .unset] [(.int (n - (3 : Int32))), (.int x1)])) _
    refine XS.iloadN X0.here hx rfl (hb hby d2_16) rfl ?_
    show Steps p.tables e below (s₁.setTop (mkF m 17 #[.val (.ref a1), .val (.int n), .val (.int (1 : Int32)), .unset] [(.int (1 : Int32)), (.int (n - (3 : Int32))), (.int x1)])) _
    refine XS.iadd X0.here hx rfl (hb hby d2_17) rfl ?_
    show Steps p.tables e below (s₁.setTop (mkF m 18 #[.val (.ref a1), .val (.int n), .val (.int (1 : Int32)), .unset] [(.int ((n - (3 : Int32)) + (1 : Int32))), (.int x1)])) _
    refine XS.icmpYes X0.here hx rfl (pc0 := 18) (pc' := 27) rfl (hb hby d2_18) rfl (tlt (hc1 : x1 < ((n - (3 : Int32)) + (1 : Int32)))).1 (by decide) (by decide) ?_
    show Steps p.tables e below (s₁.setTop (mkF m 27 #[.val (.ref a1), .val (.int n), .val (.int (1 : Int32)), .unset] [])) _
    refine XS.iloadN X0.here hx rfl (hb hby d2_27) rfl ?_
    show Steps p.tables e below (s₁.setTop (mkF m 28 #[.val (.ref a1), .val (.int n), .val (.int (1 : Int32)), .unset] [(.int (1 : Int32))])) _
    refine XS.ifYes X0.here hx rfl (pc0 := 28) (pc' := 33) rfl (hb hby d2_28) rfl ((if0 _ _).trans (flt (by decide : ¬ ((1 : Int32) < (0 : Int32)))).2.1) (by decide) (by decide) ?_
    show Steps p.tables e below (s₁.setTop (mkF m 33 #[.val (.ref a1), .val (.int n), .val (.int (1 : Int32)), .unset] [])) _
    refine XS.aloadN X0.here hx rfl (hb hby d2_33) rfl rfl ?_
    show Steps p.tables e below (s₁.setTop (mkF m 34 #[.val (.ref a1), .val (.int n), .val (.int (1 : Int32)), .unset] [(.ref a1)])) _
    refine XS.iloadN X0.here hx rfl (hb hby d2_34) rfl ?_
    show Steps p.tables e below (s₁.setTop (mkF m 35 #[.val (.ref a1), .val (.int n), .val (.int (1 : Int32)), .unset] [(.int (1 : Int32)), (.ref a1)])) _
    refine XT.dup2 X0.here hx rfl (hb hby d2_35) rfl rfl rfl ?_
    show Steps p.tables e below (s₁.setTop (mkF m 36 #[.val (.ref a1), .val (.int n), .val (.int (1 : Int32)), .unset] [(.int (1 : Int32)), (.ref a1), (.int (1 : Int32)), (.ref a1)])) _
    refine own_ild X0 hx hZ e0 V0 1 (by decide) (by decide) (by decide) rfl (g := (mkF m 36 #[.val (.ref a1), .val (.int n), .val (.int (1 : Int32)), .unset] [(.int (1 : Int32)), (.ref a1), (.int (1 : Int32)), (.ref a1)])) rfl rfl (hb hby d2_36) _ ?_
    show Steps p.tables e below (s₁.setTop (mkF m 37 #[.val (.ref a1), .val (.int n), .val (.int (1 : Int32)), .unset] [(.int x1), (.int (1 : Int32)), (.ref a1)])) _
    refine XS.iconst X0.here hx rfl (hb hby d2_37) ?_
    show Steps p.tables e below (s₁.setTop (mkF m 38 #[.val (.ref a1), .val (.int n), .val (.int (1 : Int32)), .unset] [(.int (1 : Int32)), (.int x1), (.int (1 : Int32)), (.ref a1)])) _
    refine XS.iadd X0.here hx rfl (hb hby d2_38) rfl ?_
    show Steps p.tables e below (s₁.setTop (mkF m 39 #[.val (.ref a1), .val (.int n), .val (.int (1 : Int32)), .unset] [(.int (x1 + (1 : Int32))), (.int (1 : Int32)), (.ref a1)])) _
    refine sts1 _ ?_
    show Steps p.tables e below (Ts1.setTop (mkF m 40 #[.val (.ref a1), .val (.int n), .val (.int (1 : Int32)), .unset] [])) _
    refine XS.iloadN Xs1.here hx rfl (hb hby d2_40) rfl ?_
    show Steps p.tables e below (Ts1.setTop (mkF m 41 #[.val (.ref a1), .val (.int n), .val (.int (1 : Int32)), .unset] [(.int (1 : Int32))])) _
    refine XS.iconst Xs1.here hx rfl (hb hby d2_41) ?_
    show Steps p.tables e below (Ts1.setTop (mkF m 42 #[.val (.ref a1), .val (.int n), .val (.int (1 : Int32)), .unset] [(.int (1 : Int32)), (.int (1 : Int32))])) _
    refine XS.iadd Xs1.here hx rfl (hb hby d2_42) rfl ?_
    show Steps p.tables e below (Ts1.setTop (mkF m 43 #[.val (.ref a1), .val (.int n), .val (.int (1 : Int32)), .unset] [(.int (2 : Int32))])) _
    refine XS.istoreN Xs1.here hx rfl (hb hby d2_43) rfl (l' := #[.val (.ref a1), .val (.int n), .val (.int (1 : Int32)), .val (.int (2 : Int32))]) rfl ?_
    show Steps p.tables e below (Ts1.setTop (mkF m 44 #[.val (.ref a1), .val (.int n), .val (.int (1 : Int32)), .val (.int (2 : Int32))] [])) _
    refine XS.iloadN Xs1.here hx rfl (hb hby d2_44) rfl ?_
    show Steps p.tables e below (Ts1.setTop (mkF m 45 #[.val (.ref a1), .val (.int n), .val (.int (1 : Int32)), .val (.int (2 : Int32))] [(.int (2 : Int32))])) _
    refine XS.aloadN Xs1.here hx rfl (hb hby d2_45) rfl rfl ?_
    show Steps p.tables e below (Ts1.setTop (mkF m 46 #[.val (.ref a1), .val (.int n), .val (.int (1 : Int32)), .val (.int (2 : Int32))] [(.ref a1), (.int (2 : Int32))])) _
    refine own_len Xs1 hx hZ es1 Vs1 (g := (mkF m 46 #[.val (.ref a1), .val (.int n), .val (.int (1 : Int32)), .val (.int (2 : Int32))] [(.ref a1), (.int (2 : Int32))])) rfl rfl (hb hby d2_46) _ ?_
    show Steps p.tables e below (Ts1.setTop (mkF m 47 #[.val (.ref a1), .val (.int n), .val (.int (1 : Int32)), .val (.int (2 : Int32))] [(.int (3 : Int32)), (.int (2 : Int32))])) _
    refine XS.icmpNo Xs1.here hx rfl (hb hby d2_47) rfl (tlt (by decide : (2 : Int32) < (3 : Int32))).2.1 ?_
    show Steps p.tables e below (Ts1.setTop (mkF m 50 #[.val (.ref a1), .val (.int n), .val (.int (1 : Int32)), .val (.int (2 : Int32))] [])) _
    refine XS.aloadN Xs1.here hx rfl (hb hby d2_50) rfl rfl ?_
    show Steps p.tables e below (Ts1.setTop (mkF m 51 #[.val (.ref a1), .val (.int n), .val (.int (1 : Int32)), .val (.int (2 : Int32))] [(.ref a1)])) _
    refine XS.iloadN Xs1.here hx rfl (hb hby d2_51) rfl ?_
    show Steps p.tables e below (Ts1.setTop (mkF m 52 #[.val (.ref a1), .val (.int n), .val (.int (1 : Int32)), .val (.int (2 : Int32))] [(.int (2 : Int32)), (.ref a1)])) _
    refine XS.aloadN Xs1.here hx rfl (hb hby d2_52) rfl rfl ?_
    show Steps p.tables e below (Ts1.setTop (mkF m 53 #[.val (.ref a1), .val (.int n), .val (.int (1 : Int32)), .val (.int (2 : Int32))] [(.ref a1), (.int (2 : Int32)), (.ref a1)])) _
    refine XS.iloadN Xs1.here hx rfl (hb hby d2_53) rfl ?_
    show Steps p.tables e below (Ts1.setTop (mkF m 54 #[.val (.ref a1), .val (.int n), .val (.int (1 : Int32)), .val (.int (2 : Int32))] [(.int (2 : Int32)), (.ref a1), (.int (2 : Int32)), (.ref a1)])) _
    refine XS.iconst Xs1.here hx rfl (hb hby d2_54) ?_
    show Steps p.tables e below (Ts1.setTop (mkF m 55 #[.val (.ref a1), .val (.int n), .val (.int (1 : Int32)), .val (.int (2 : Int32))] [(.int (1 : Int32)), (.int (2 : Int32)), (.ref a1), (.int (2 : Int32)), (.ref a1)])) _
    refine XS.isub Xs1.here hx rfl (hb hby d2_55) rfl ?_
    show Steps p.tables e below (Ts1.setTop (mkF m 56 #[.val (.ref a1), .val (.int n), .val (.int (1 : Int32)), .val (.int (2 : Int32))] [(.int (1 : Int32)), (.ref a1), (.int (2 : Int32)), (.ref a1)])) _
    refine own_ild Xs1 hx hZ es1 Vs1 1 (by decide) (by decide) (by decide) rfl (g := (mkF m 56 #[.val (.ref a1), .val (.int n), .val (.int (1 : Int32)), .val (.int (2 : Int32))] [(.int (1 : Int32)), (.ref a1), (.int (2 : Int32)), (.ref a1)])) rfl rfl (hb hby d2_56) _ ?_
    show Steps p.tables e below (Ts1.setTop (mkF m 57 #[.val (.ref a1), .val (.int n), .val (.int (1 : Int32)), .val (.int (2 : Int32))] [(.int (x1 + (1 : Int32))), (.int (2 : Int32)), (.ref a1)])) _
    refine XS.iconst Xs1.here hx rfl (hb hby d2_57) ?_
    show Steps p.tables e below (Ts1.setTop (mkF m 58 #[.val (.ref a1), .val (.int n), .val (.int (1 : Int32)), .val (.int (2 : Int32))] [(.int (1 : Int32)), (.int (x1 + (1 : Int32))), (.int (2 : Int32)), (.ref a1)])) _
    refine XS.iadd Xs1.here hx rfl (hb hby d2_58) rfl ?_
    show Steps p.tables e below (Ts1.setTop (mkF m 59 #[.val (.ref a1), .val (.int n), .val (.int (1 : Int32)), .val (.int (2 : Int32))] [(.int ((x1 + (1 : Int32)) + (1 : Int32))), (.int (2 : Int32)), (.ref a1)])) _
    refine sts2 _ ?_
    show Steps p.tables e below (Ts2.setTop (mkF m 60 #[.val (.ref a1), .val (.int n), .val (.int (1 : Int32)), .val (.int (2 : Int32))] [])) _
    refine XS.iinc Xs2.here hx rfl (hb hby d2_60) rfl (l' := #[.val (.ref a1), .val (.int n), .val (.int (1 : Int32)), .val (.int (3 : Int32))]) rfl ?_
    show Steps p.tables e below (Ts2.setTop (mkF m 63 #[.val (.ref a1), .val (.int n), .val (.int (1 : Int32)), .val (.int (3 : Int32))] [])) _
    refine XS.goto Xs2.here hx rfl (pc0 := 63) (pc' := 44) rfl (hb hby d2_63) (by decide) (by decide) ?_
    show Steps p.tables e below (Ts2.setTop (mkF m 44 #[.val (.ref a1), .val (.int n), .val (.int (1 : Int32)), .val (.int (3 : Int32))] [])) _
    refine XS.iloadN Xs2.here hx rfl (hb hby d2_44) rfl ?_
    show Steps p.tables e below (Ts2.setTop (mkF m 45 #[.val (.ref a1), .val (.int n), .val (.int (1 : Int32)), .val (.int (3 : Int32))] [(.int (3 : Int32))])) _
    refine XS.aloadN Xs2.here hx rfl (hb hby d2_45) rfl rfl ?_
    show Steps p.tables e below (Ts2.setTop (mkF m 46 #[.val (.ref a1), .val (.int n), .val (.int (1 : Int32)), .val (.int (3 : Int32))] [(.ref a1), (.int (3 : Int32))])) _
    refine own_len Xs2 hx hZ es2 Vs2 (g := (mkF m 46 #[.val (.ref a1), .val (.int n), .val (.int (1 : Int32)), .val (.int (3 : Int32))] [(.ref a1), (.int (3 : Int32))])) rfl rfl (hb hby d2_46) _ ?_
    show Steps p.tables e below (Ts2.setTop (mkF m 47 #[.val (.ref a1), .val (.int n), .val (.int (1 : Int32)), .val (.int (3 : Int32))] [(.int (3 : Int32)), (.int (3 : Int32))])) _
    refine XS.icmpYes Xs2.here hx rfl (pc0 := 47) (pc' := 66) rfl (hb hby d2_47) rfl (flt (by decide : ¬ ((3 : Int32) < (3 : Int32)))).2.1 (by decide) (by decide) ?_
    show Steps p.tables e below (Ts2.setTop (mkF m 66 #[.val (.ref a1), .val (.int n), .val (.int (1 : Int32)), .val (.int (3 : Int32))] [])) _
    refine XS.iconst Xs2.here hx rfl (hb hby d2_66) ?_
    exact retN Xs2 hx (t := .boolean) Bd.returns (by simp) (hb hby d2_67) hr
  · show Q2 Z a1 k (3 : Int32) (1 : Int32) [(.int x0), (.int (x1 + (1 : Int32))), (.int ((x1 + (1 : Int32)) + (1 : Int32)))] n0 _ Ts2.heap _
    rw [es2]
    exact ⟨rfl, Ns2, Vs2⟩
set_option maxRecDepth 65536 in
set_option maxHeartbeats 4000000 in
theorem rm2_3_2 (l : Launch) (Z : State) (a0 : Array Value) (hw : ∀ d ∈ tables_1, d.before a0 Z = true) (ws : List Jvm.Cond) (a1 : Addr) (n : Int32) (k : ClassId) (x0 : Int32) (x1 : Int32) (x2 : Int32) (h0 : Heap) (n0 : Nat) (g_a1 : n0 ≤ a1) (V0 : Arv Z h0 a1 k .int (3 : Int32) [(.int x0), (.int x1), (.int x2)] (.int 0)) (hc2 : ¬ (x2 < ((n - (3 : Int32)) + (2 : Int32)))) (hc1 : ¬ (x1 < ((n - (3 : Int32)) + (1 : Int32)))) (hc0 : x0 < ((n - (3 : Int32)) + (0 : Int32))) :
    MetFree l (⟨"com/example/ashlar/ashlar/storage/Subsets", "next", "([II)Z"⟩ : MethodName) (head1 (Jvm.Cond.code (⟨"com/example/ashlar/ashlar/storage/Subsets", "next", "([II)Z"⟩ : MethodName) prog_78_method_3_code 4 (some .boolean) :: ws) ({ frames := 0, cells := 0, slots := 0, locals := 0 } : Room)) (fun a U => a = #[(.ref a1), (.int n)] ∧ Z.Warmed39 U.vm ∧ U.heap = h0) (fun _ _ _ _ _ => True) (fun _ U o U' => ∃ v L, o = .returned v ∧ Q2 Z a1 k (3 : Int32) (1 : Int32) [(.int (x0 + (1 : Int32))), (.int ((x0 + (1 : Int32)) + (1 : Int32))), (.int (((x0 + (1 : Int32)) + (1 : Int32)) + (1 : Int32)))] n0 v U'.heap L ∧ FrameEnd U o U' L ({ frames := 0, cells := 0, slots := 0, locals := 0 } : Room).cells ({ frames := 0, cells := 0, slots := 0, locals := 0 } : Room).slots) := by
  refine MetFree.of_bodySF (plainFor_of_name pn_2) hisR ?_
  intro p e s m args below meth c s₁ Bd hml0 hP hK
  obtain ⟨rfl, hZ, hh⟩ := hP
  have hx := Bd.exec
  have hby := Bd.bytes
  have X0 : Stand p l e ({ frames := 0, cells := 0, slots := 0, locals := 0 } : Room) s m #[(.ref a1), (.int n)] below meth c s₁ [] 0 0 := Stand.of_body Bd
  have e0 : s₁.heap = h0 := by rw [← hh, Bd.state]; rfl
  have N0 := Fr.nil n0
  have pre0 : ∀ t, Steps p.tables e below (s₁.setTop (mkF m 0 #[.val (.ref a1), .val (.int n), .unset, .unset] [])) t → Steps p.tables e below (s₁.setTop (entryFrame m #[(.ref a1), (.int n)] 4)) t := fun t k => castTop (ef_2 m a1 n) k
  obtain ⟨Ts1, hs1, Xs1, es1, Ws1, Vs1', sts1⟩ := own_ist X0 hx hZ e0 V0 0 (by decide) (by decide) (by decide) (Nat.le_of_ble_eq_true rfl) (g := (mkF m 39 #[.val (.ref a1), .val (.int n), .val (.int (0 : Int32)), .unset] [(.int (x0 + (1 : Int32))), (.int (0 : Int32)), (.ref a1)])) rfl rfl (hb hby d2_39)
  have Vs1 : Arv Z hs1 a1 k .int (3 : Int32) [(.int (x0 + (1 : Int32))), (.int x1), (.int x2)] (.int 0) := Vs1'
  have Ns1 := Fr.snoc Xs1 N0 g_a1
  obtain ⟨Ts2, hs2, Xs2, es2, Ws2, Vs2', sts2⟩ := own_ist Xs1 hx hZ es1 Vs1 1 (by decide) (by decide) (by decide) (Nat.le_of_ble_eq_true rfl) (g := (mkF m 59 #[.val (.ref a1), .val (.int n), .val (.int (0 : Int32)), .val (.int (1 : Int32))] [(.int ((x0 + (1 : Int32)) + (1 : Int32))), (.int (1 : Int32)), (.ref a1)])) rfl rfl (hb hby d2_59)
  have Vs2 : Arv Z hs2 a1 k .int (3 : Int32) [(.int (x0 + (1 : Int32))), (.int ((x0 + (1 : Int32)) + (1 : Int32))), (.int x2)] (.int 0) := Vs2'
  have Ns2 := Fr.snoc Xs2 Ns1 g_a1
  obtain ⟨Ts3, hs3, Xs3, es3, Ws3, Vs3', sts3⟩ := own_ist Xs2 hx hZ es2 Vs2 2 (by decide) (by decide) (by decide) (Nat.le_of_ble_eq_true rfl) (g := (mkF m 59 #[.val (.ref a1), .val (.int n), .val (.int (0 : Int32)), .val (.int (2 : Int32))] [(.int (((x0 + (1 : Int32)) + (1 : Int32)) + (1 : Int32))), (.int (2 : Int32)), (.ref a1)])) rfl rfl (hb hby d2_59)
  have Vs3 : Arv Z hs3 a1 k .int (3 : Int32) [(.int (x0 + (1 : Int32))), (.int ((x0 + (1 : Int32)) + (1 : Int32))), (.int (((x0 + (1 : Int32)) + (1 : Int32)) + (1 : Int32)))] (.int 0) := Vs3'
  have Ns3 := Fr.snoc Xs3 Ns2 g_a1
  obtain ⟨fs, hr, hrun, hended, hW, hsame⟩ := Xs3.leave (v := some (.int (1 : Int32))) (fun h => by rw [Bd.returns] at h; cases h)
  refine ⟨_, _, pre0 _ ?_, hrun, hended, _, _, rfl, ?_, ⟨_, rfl⟩, hW, hsame.mono (by decide) (by decide)⟩
  · show Steps p.tables e below (s₁.setTop (mkF m 0 #[.val (.ref a1), .val (.int n), .unset, .unset] [])) _
    refine XS.aloadN X0.here hx rfl (hb hby d2_0) rfl rfl ?_
    show Steps p.tables e below (s₁.setTop (mkF m 1 #[.val (.ref a1), .val (.int n), .unset, .unset] [(.ref a1)])) _
    refine own_len X0 hx hZ e0 V0 (g := (mkF m 1 #[.val (.ref a1), .val (.int n), .unset, .unset] [(.ref a1)])) rfl rfl (hb hby d2_1) _ ?_
    show Steps p.tables e below (s₁.setTop (mkF m 2 #[.val (.ref a1), .val (.int n), .unset, .unset] [(.int (3 : Int32))])) _
    refine XS.iconst X0.here hx rfl (hb hby d2_2) ?_
    show Steps p.tables e below (s₁.setTop (mkF m 3 #[.val (.ref a1), .val (.int n), .unset, .unset] [(.int (1 : Int32)), (.int (3 : Int32))])) _
    refine XS.isub X0.here hx rfl (hb hby d2_3) rfl ?_
    show Steps p.tables e below (s₁.setTop (mkF m 4 #[.val (.ref a1), .val (.int n), .unset, .unset] [(.int (2 : Int32))])) _
    refine XS.istoreN X0.here hx rfl (hb hby d2_4) rfl (l' := #[.val (.ref a1), .val (.int n), .val (.int (2 : Int32)), .unset]) rfl ?_
    show Steps p.tables e below (s₁.setTop (mkF m 5 #[.val (.ref a1), .val (.int n), .val (.int (2 : Int32)), .unset] [])) _
    refine XS.iloadN X0.here hx rfl (hb hby d2_5) rfl ?_
    show Steps p.tables e below (s₁.setTop (mkF m 6 #[.val (.ref a1), .val (.int n), .val (.int (2 : Int32)), .unset] [(.int (2 : Int32))])) _
    refine XS.ifNo X0.here hx rfl (hb hby d2_6) rfl ((if0 _ _).trans (flt (by decide : ¬ ((2 : Int32) < (0 : Int32)))).1) ?_
    show Steps p.tables e below (s₁.setTop (mkF m 9 #[.val (.ref a1), .val (.int n), .val (.int (2 : Int32)), .unset] [])) _
    refine XS.aloadN X0.here hx rfl (hb hby d2_9) rfl rfl ?_
    show Steps p.tables e below (s₁.setTop (mkF m 10 #[.val (.ref a1), .val (.int n), .val (.int (2 : Int32)), .unset] [(.ref a1)])) _
    refine XS.iloadN X0.here hx rfl (hb hby d2_10) rfl ?_
    show Steps p.tables e below (s₁.setTop (mkF m 11 #[.val (.ref a1), .val (.int n), .val (.int (2 : Int32)), .unset] [(.int (2 : Int32)), (.ref a1)])) _
    refine own_ild X0 hx hZ e0 V0 2 (by decide) (by decide) (by decide) rfl (g := (mkF m 11 #[.val (.ref a1), .val (.int n), .val (.int (2 : Int32)), .unset] [(.int (2 : Int32)), (.ref a1)])) rfl rfl (hb hby d2_11) _ ?_
    show Steps p.tables e below (s₁.setTop (mkF m 12 #[.val (.ref a1), .val (.int n), .val (.int (2 : Int32)), .unset] [(.int x2)])) _
    refine XS.iloadN X0.here hx rfl (hb hby d2_12) rfl ?_
    show Steps p.tables e below (s₁.setTop (mkF m 13 #[.val (.ref a1), .val (.int n), .val (.int (2 : Int32)), .unset] [(.int n), (.int x2)])) _
    refine XS.aloadN X0.here hx rfl (hb hby d2_13) rfl rfl ?_
    show Steps p.tables e below (s₁.setTop (mkF m 14 #[.val (.ref a1), .val (.int n), .val (.int (2 : Int32)), .unset] [(.ref a1), (.int n), (.int x2)])) _
    refine own_len X0 hx hZ e0 V0 (g := (mkF m 14 #[.val (.ref a1), .val (.int n), .val (.int (2 : Int32)), .unset] [(.ref a1), (.int n), (.int x2)])) rfl rfl (hb hby d2_14) _ ?_
    show Steps p.tables e below (s₁.setTop (mkF m 15 #[.val (.ref a1), .val (.int n), .val (.int (2 : Int32)), .unset] [(.int (3 : Int32)), (.int n), (.int x2)])) _
    refine XS.isub X0.here hx rfl (hb hby d2_15) rfl ?_
    show Steps p.tables e below (s₁.setTop (mkF m 16 #[.val (.ref a1), .val (.int n), .val (.int (2 : Int32)), .unset] [(.int (n - (3 : Int32))), (.int x2)])) _
    refine XS.iloadN X0.here hx rfl (hb hby d2_16) rfl ?_
    show Steps p.tables e below (s₁.setTop (mkF m 17 #[.val (.ref a1), .val (.int n), .val (.int (2 : Int32)), .unset] [(.int (2 : Int32)), (.int (n - (3 : Int32))), (.int x2)])) _
    refine XS.iadd X0.here hx rfl (hb hby d2_17) rfl ?_
    show Steps p.tables e below (s₁.setTop (mkF m 18 #[.val (.ref a1), .val (.int n), .val (.int (2 : Int32)), .unset] [(.int ((n - (3 : Int32)) + (2 : Int32))), (.int x2)])) _
    refine XS.icmpNo X0.here hx rfl (hb hby d2_18) rfl (flt (hc2 : ¬ (x2 < ((n - (3 : Int32)) + (2 : Int32))))).1 ?_
    show Steps p.tables e below (s₁.setTop (mkF m 21 #[.val (.ref a1), .val (.int n), .val (.int (2 : Int32)), .unset] [])) _
    refine XS.iinc X0.here hx rfl (hb hby d2_21) rfl (l' := #[.val (.ref a1), .val (.int n), .val (.int (1 : Int32)), .unset]) rfl ?_
    show Steps p.tables e below (s₁.setTop (mkF m 24 #[.val (.ref a1), .val (.int n), .val (.int (1 : Int32)), .unset] [])) _
    refine XS.goto X0.here hx rfl (pc0 := 24) (pc' := 5) rfl (hb hby d2_24) (by decide) (by decide) ?_
    show Steps p.tables e below (s₁.setTop (mkF m 5 #[.val (.ref a1), .val (.int n), .val (.int (1 : Int32)), .unset] [])) _
    refine XS.iloadN X0.here hx rfl (hb hby d2_5) rfl ?_
    show Steps p.tables e below (s₁.setTop (mkF m 6 #[.val (.ref a1), .val (.int n), .val (.int (1 : Int32)), .unset] [(.int (1 : Int32))])) _
    refine XS.ifNo X0.here hx rfl (hb hby d2_6) rfl ((if0 _ _).trans (flt (by decide : ¬ ((1 : Int32) < (0 : Int32)))).1) ?_
    show Steps p.tables e below (s₁.setTop (mkF m 9 #[.val (.ref a1), .val (.int n), .val (.int (1 : Int32)), .unset] [])) _
    refine XS.aloadN X0.here hx rfl (hb hby d2_9) rfl rfl ?_
    show Steps p.tables e below (s₁.setTop (mkF m 10 #[.val (.ref a1), .val (.int n), .val (.int (1 : Int32)), .unset] [(.ref a1)])) _
    refine XS.iloadN X0.here hx rfl (hb hby d2_10) rfl ?_
    show Steps p.tables e below (s₁.setTop (mkF m 11 #[.val (.ref a1), .val (.int n), .val (.int (1 : Int32)), .unset] [(.int (1 : Int32)), (.ref a1)])) _
    refine own_ild X0 hx hZ e0 V0 1 (by decide) (by decide) (by decide) rfl (g := (mkF m 11 #[.val (.ref a1), .val (.int n), .val (.int (1 : Int32)), .unset] [(.int (1 : Int32)), (.ref a1)])) rfl rfl (hb hby d2_11) _ ?_
    show Steps p.tables e below (s₁.setTop (mkF m 12 #[.val (.ref a1), .val (.int n), .val (.int (1 : Int32)), .unset] [(.int x1)])) _
    refine XS.iloadN X0.here hx rfl (hb hby d2_12) rfl ?_
    show Steps p.tables e below (s₁.setTop (mkF m 13 #[.val (.ref a1), .val (.int n), .val (.int (1 : Int32)), .unset] [(.int n), (.int x1)])) _
    refine XS.aloadN X0.here hx rfl (hb hby d2_13) rfl rfl ?_
    show Steps p.tables e below (s₁.setTop (mkF m 14 #[.val (.ref a1), .val (.int n), .val (.int (1 : Int32)), .unset] [(.ref a1), (.int n), (.int x1)])) _
    refine own_len X0 hx hZ e0 V0 (g := (mkF m 14 #[.val (.ref a1), .val (.int n), .val (.int (1 : Int32)), .unset] [(.ref a1), (.int n), (.int x1)])) rfl rfl (hb hby d2_14) _ ?_
    show Steps p.tables e below (s₁.setTop (mkF m 15 #[.val (.ref a1), .val (.int n), .val (.int (1 : Int32)), .unset] [(.int (3 : Int32)), (.int n), (.int x1)])) _
    refine XS.isub X0.here hx rfl (hb hby d2_15) rfl ?_
    show Steps p.tables e below (s₁.setTop (mkF m 16 #[.val (.ref a1), .val (.int n), .val (.int (1 : Int32)), .unset] [(.int (n - (3 : Int32))), (.int x1)])) _
    refine XS.iloadN X0.here hx rfl (hb hby d2_16) rfl ?_
    show Steps p.tables e below (s₁.setTop (mkF m 17 #[.val (.ref a1), .val (.int n), .val (.int (1 : Int32)), .unset] [(.int (1 : Int32)), (.int (n - (3 : Int32))), (.int x1)])) _
    refine XS.iadd X0.here hx rfl (hb hby d2_17) rfl ?_
    show Steps p.tables e below (s₁.setTop (mkF m 18 #[.val (.ref a1), .val (.int n), .val (.int (1 : Int32)), .unset] [(.int ((n - (3 : Int32)) + (1 : Int32))), (.int x1)])) _
    refine XS.icmpNo X0.here hx rfl (hb hby d2_18) rfl (flt (hc1 : ¬ (x1 < ((n - (3 : Int32)) + (1 : Int32))))).1 ?_
    show Steps p.tables e below (s₁.setTop (mkF m 21 #[.val (.ref a1), .val (.int n), .val (.int (1 : Int32)), .unset] [])) _
    refine XS.iinc X0.here hx rfl (hb hby d2_21) rfl (l' := #[.val (.ref a1), .val (.int n), .val (.int (0 : Int32)), .unset]) rfl ?_
    show Steps p.tables e below (s₁.setTop (mkF m 24 #[.val (.ref a1), .val (.int n), .val (.int (0 : Int32)), .unset] [])) _
    refine XS.goto X0.here hx rfl (pc0 := 24) (pc' := 5) rfl (hb hby d2_24) (by decide) (by decide) ?_
    show Steps p.tables e below (s₁.setTop (mkF m 5 #[.val (.ref a1), .val (.int n), .val (.int (0 : Int32)), .unset] [])) _
    refine XS.iloadN X0.here hx rfl (hb hby d2_5) rfl ?_
    show Steps p.tables e below (s₁.setTop (mkF m 6 #[.val (.ref a1), .val (.int n), .val (.int (0 : Int32)), .unset] [(.int (0 : Int32))])) _
    refine XS.ifNo X0.here hx rfl (hb hby d2_6) rfl ((if0 _ _).trans (flt (by decide : ¬ ((0 : Int32) < (0 : Int32)))).1) ?_
    show Steps p.tables e below (s₁.setTop (mkF m 9 #[.val (.ref a1), .val (.int n), .val (.int (0 : Int32)), .unset] [])) _
    refine XS.aloadN X0.here hx rfl (hb hby d2_9) rfl rfl ?_
    show Steps p.tables e below (s₁.setTop (mkF m 10 #[.val (.ref a1), .val (.int n), .val (.int (0 : Int32)), .unset] [(.ref a1)])) _
    refine XS.iloadN X0.here hx rfl (hb hby d2_10) rfl ?_
    show Steps p.tables e below (s₁.setTop (mkF m 11 #[.val (.ref a1), .val (.int n), .val (.int (0 : Int32)), .unset] [(.int (0 : Int32)), (.ref a1)])) _
    refine own_ild X0 hx hZ e0 V0 0 (by decide) (by decide) (by decide) rfl (g := (mkF m 11 #[.val (.ref a1), .val (.int n), .val (.int (0 : Int32)), .unset] [(.int (0 : Int32)), (.ref a1)])) rfl rfl (hb hby d2_11) _ ?_
    show Steps p.tables e below (s₁.setTop (mkF m 12 #[.val (.ref a1), .val (.int n), .val (.int (0 : Int32)), .unset] [(.int x0)])) _
    refine XS.iloadN X0.here hx rfl (hb hby d2_12) rfl ?_
    show Steps p.tables e below (s₁.setTop (mkF m 13 #[.val (.ref a1), .val (.int n), .val (.int (0 : Int32)), .unset] [(.int n), (.int x0)])) _
    refine XS.aloadN X0.here hx rfl (hb hby d2_13) rfl rfl ?_
    show Steps p.tables e below (s₁.setTop (mkF m 14 #[.val (.ref a1), .val (.int n), .val (.int (0 : Int32)), .unset] [(.ref a1), (.int n), (.int x0)])) _
    refine own_len X0 hx hZ e0 V0 (g := (mkF m 14 #[.val (.ref a1), .val (.int n), .val (.int (0 : Int32)), .unset] [(.ref a1), (.int n), (.int x0)])) rfl rfl (hb hby d2_14) _ ?_
    show Steps p.tables e below (s₁.setTop (mkF m 15 #[.val (.ref a1), .val (.int n), .val (.int (0 : Int32)), .unset] [(.int (3 : Int32)), (.int n), (.int x0)])) _
    refine XS.isub X0.here hx rfl (hb hby d2_15) rfl ?_
    show Steps p.tables e below (s₁.setTop (mkF m 16 #[.val (.ref a1), .val (.int n), .val (.int (0 : Int32)), .unset] [(.int (n - (3 : Int32))), (.int x0)])) _
    refine XS.iloadN X0.here hx rfl (hb hby d2_16) rfl ?_
    show Steps p.tables e below (s₁.setTop (mkF m 17 #[.val (.ref a1), .val (.int n), .val (.int (0 : Int32)), .unset] [(.int (0 : Int32)), (.int (n - (3 : Int32))), (.int x0)])) _
    refine XS.iadd X0.here hx rfl (hb hby d2_17) rfl ?_
    show Steps p.tables e below (s₁.setTop (mkF m 18 #[.val (.ref a1), .val (.int n), .val (.int (0 : Int32)), .unset] [(.int ((n - (3 : Int32)) + (0 : Int32))), (.int x0)])) _
    refine XS.icmpYes X0.here hx rfl (pc0 := 18) (pc' := 27) rfl (hb hby d2_18) rfl (tlt (hc0 : x0 < ((n - (3 : Int32)) + (0 : Int32)))).1 (by decide) (by decide) ?_
    show Steps p.tables e below (s₁.setTop (mkF m 27 #[.val (.ref a1), .val (.int n), .val (.int (0 : Int32)), .unset] [])) _
    refine XS.iloadN X0.here hx rfl (hb hby d2_27) rfl ?_
    show Steps p.tables e below (s₁.setTop (mkF m 28 #[.val (.ref a1), .val (.int n), .val (.int (0 : Int32)), .unset] [(.int (0 : Int32))])) _
    refine XS.ifYes X0.here hx rfl (pc0 := 28) (pc' := 33) rfl (hb hby d2_28) rfl ((if0 _ _).trans (flt (by decide : ¬ ((0 : Int32) < (0 : Int32)))).2.1) (by decide) (by decide) ?_
    show Steps p.tables e below (s₁.setTop (mkF m 33 #[.val (.ref a1), .val (.int n), .val (.int (0 : Int32)), .unset] [])) _
    refine XS.aloadN X0.here hx rfl (hb hby d2_33) rfl rfl ?_
    show Steps p.tables e below (s₁.setTop (mkF m 34 #[.val (.ref a1), .val (.int n), .val (.int (0 : Int32)), .unset] [(.ref a1)])) _
    refine XS.iloadN X0.here hx rfl (hb hby d2_34) rfl ?_
    show Steps p.tables e below (s₁.setTop (mkF m 35 #[.val (.ref a1), .val (.int n), .val (.int (0 : Int32)), .unset] [(.int (0 : Int32)), (.ref a1)])) _
    refine XT.dup2 X0.here hx rfl (hb hby d2_35) rfl rfl rfl ?_
    show Steps p.tables e below (s₁.setTop (mkF m 36 #[.val (.ref a1), .val (.int n), .val (.int (0 : Int32)), .unset] [(.int (0 : Int32)), (.ref a1), (.int (0 : Int32)), (.ref a1)])) _
    refine own_ild X0 hx hZ e0 V0 0 (by decide) (by decide) (by decide) rfl (g := (mkF m 36 #[.val (.ref a1), .val (.int n), .val (.int (0 : Int32)), .unset] [(.int (0 : Int32)), (.ref a1), (.int (0 : Int32)), (.ref a1)])) rfl rfl (hb hby d2_36) _ ?_
    show Steps p.tables e below (s₁.setTop (mkF m 37 #[.val (.ref a1), .val (.int n), .val (.int (0 : Int32)), .unset] [(.int x0), (.int (0 : Int32)), (.ref a1)])) _
    refine XS.iconst X0.here hx rfl (hb hby d2_37) ?_
    show Steps p.tables e below (s₁.setTop (mkF m 38 #[.val (.ref a1), .val (.int n), .val (.int (0 : Int32)), .unset] [(.int (1 : Int32)), (.int x0), (.int (0 : Int32)), (.ref a1)])) _
    refine XS.iadd X0.here hx rfl (hb hby d2_38) rfl ?_
    show Steps p.tables e below (s₁.setTop (mkF m 39 #[.val (.ref a1), .val (.int n), .val (.int (0 : Int32)), .unset] [(.int (x0 + (1 : Int32))), (.int (0 : Int32)), (.ref a1)])) _
    refine sts1 _ ?_
    show Steps p.tables e below (Ts1.setTop (mkF m 40 #[.val (.ref a1), .val (.int n), .val (.int (0 : Int32)), .unset] [])) _
    refine XS.iloadN Xs1.here hx rfl (hb hby d2_40) rfl ?_
    show Steps p.tables e below (Ts1.setTop (mkF m 41 #[.val (.ref a1), .val (.int n), .val (.int (0 : Int32)), .unset] [(.int (0 : Int32))])) _
    refine XS.iconst Xs1.here hx rfl (hb hby d2_41) ?_
    show Steps p.tables e below (Ts1.setTop (mkF m 42 #[.val (.ref a1), .val (.int n), .val (.int (0 : Int32)), .unset] [(.int (1 : Int32)), (.int (0 : Int32))])) _
    refine XS.iadd Xs1.here hx rfl (hb hby d2_42) rfl ?_
    show Steps p.tables e below (Ts1.setTop (mkF m 43 #[.val (.ref a1), .val (.int n), .val (.int (0 : Int32)), .unset] [(.int (1 : Int32))])) _
    refine XS.istoreN Xs1.here hx rfl (hb hby d2_43) rfl (l' := #[.val (.ref a1), .val (.int n), .val (.int (0 : Int32)), .val (.int (1 : Int32))]) rfl ?_
    show Steps p.tables e below (Ts1.setTop (mkF m 44 #[.val (.ref a1), .val (.int n), .val (.int (0 : Int32)), .val (.int (1 : Int32))] [])) _
    refine XS.iloadN Xs1.here hx rfl (hb hby d2_44) rfl ?_
    show Steps p.tables e below (Ts1.setTop (mkF m 45 #[.val (.ref a1), .val (.int n), .val (.int (0 : Int32)), .val (.int (1 : Int32))] [(.int (1 : Int32))])) _
    refine XS.aloadN Xs1.here hx rfl (hb hby d2_45) rfl rfl ?_
    show Steps p.tables e below (Ts1.setTop (mkF m 46 #[.val (.ref a1), .val (.int n), .val (.int (0 : Int32)), .val (.int (1 : Int32))] [(.ref a1), (.int (1 : Int32))])) _
    refine own_len Xs1 hx hZ es1 Vs1 (g := (mkF m 46 #[.val (.ref a1), .val (.int n), .val (.int (0 : Int32)), .val (.int (1 : Int32))] [(.ref a1), (.int (1 : Int32))])) rfl rfl (hb hby d2_46) _ ?_
    show Steps p.tables e below (Ts1.setTop (mkF m 47 #[.val (.ref a1), .val (.int n), .val (.int (0 : Int32)), .val (.int (1 : Int32))] [(.int (3 : Int32)), (.int (1 : Int32))])) _
    refine XS.icmpNo Xs1.here hx rfl (hb hby d2_47) rfl (tlt (by decide : (1 : Int32) < (3 : Int32))).2.1 ?_
    show Steps p.tables e below (Ts1.setTop (mkF m 50 #[.val (.ref a1), .val (.int n), .val (.int (0 : Int32)), .val (.int (1 : Int32))] [])) _
    refine XS.aloadN Xs1.here hx rfl (hb hby d2_50) rfl rfl ?_
    show Steps p.tables e below (Ts1.setTop (mkF m 51 #[.val (.ref a1), .val (.int n), .val (.int (0 : Int32)), .val (.int (1 : Int32))] [(.ref a1)])) _
    refine XS.iloadN Xs1.here hx rfl (hb hby d2_51) rfl ?_
    show Steps p.tables e below (Ts1.setTop (mkF m 52 #[.val (.ref a1), .val (.int n), .val (.int (0 : Int32)), .val (.int (1 : Int32))] [(.int (1 : Int32)), (.ref a1)])) _
    refine XS.aloadN Xs1.here hx rfl (hb hby d2_52) rfl rfl ?_
    show Steps p.tables e below (Ts1.setTop (mkF m 53 #[.val (.ref a1), .val (.int n), .val (.int (0 : Int32)), .val (.int (1 : Int32))] [(.ref a1), (.int (1 : Int32)), (.ref a1)])) _
    refine XS.iloadN Xs1.here hx rfl (hb hby d2_53) rfl ?_
    show Steps p.tables e below (Ts1.setTop (mkF m 54 #[.val (.ref a1), .val (.int n), .val (.int (0 : Int32)), .val (.int (1 : Int32))] [(.int (1 : Int32)), (.ref a1), (.int (1 : Int32)), (.ref a1)])) _
    refine XS.iconst Xs1.here hx rfl (hb hby d2_54) ?_
    show Steps p.tables e below (Ts1.setTop (mkF m 55 #[.val (.ref a1), .val (.int n), .val (.int (0 : Int32)), .val (.int (1 : Int32))] [(.int (1 : Int32)), (.int (1 : Int32)), (.ref a1), (.int (1 : Int32)), (.ref a1)])) _
    refine XS.isub Xs1.here hx rfl (hb hby d2_55) rfl ?_
    show Steps p.tables e below (Ts1.setTop (mkF m 56 #[.val (.ref a1), .val (.int n), .val (.int (0 : Int32)), .val (.int (1 : Int32))] [(.int (0 : Int32)), (.ref a1), (.int (1 : Int32)), (.ref a1)])) _
    refine own_ild Xs1 hx hZ es1 Vs1 0 (by decide) (by decide) (by decide) rfl (g := (mkF m 56 #[.val (.ref a1), .val (.int n), .val (.int (0 : Int32)), .val (.int (1 : Int32))] [(.int (0 : Int32)), (.ref a1), (.int (1 : Int32)), (.ref a1)])) rfl rfl (hb hby d2_56) _ ?_
    show Steps p.tables e below (Ts1.setTop (mkF m 57 #[.val (.ref a1), .val (.int n), .val (.int (0 : Int32)), .val (.int (1 : Int32))] [(.int (x0 + (1 : Int32))), (.int (1 : Int32)), (.ref a1)])) _
    refine XS.iconst Xs1.here hx rfl (hb hby d2_57) ?_
    show Steps p.tables e below (Ts1.setTop (mkF m 58 #[.val (.ref a1), .val (.int n), .val (.int (0 : Int32)), .val (.int (1 : Int32))] [(.int (1 : Int32)), (.int (x0 + (1 : Int32))), (.int (1 : Int32)), (.ref a1)])) _
    refine XS.iadd Xs1.here hx rfl (hb hby d2_58) rfl ?_
    show Steps p.tables e below (Ts1.setTop (mkF m 59 #[.val (.ref a1), .val (.int n), .val (.int (0 : Int32)), .val (.int (1 : Int32))] [(.int ((x0 + (1 : Int32)) + (1 : Int32))), (.int (1 : Int32)), (.ref a1)])) _
    refine sts2 _ ?_
    show Steps p.tables e below (Ts2.setTop (mkF m 60 #[.val (.ref a1), .val (.int n), .val (.int (0 : Int32)), .val (.int (1 : Int32))] [])) _
    refine XS.iinc Xs2.here hx rfl (hb hby d2_60) rfl (l' := #[.val (.ref a1), .val (.int n), .val (.int (0 : Int32)), .val (.int (2 : Int32))]) rfl ?_
    show Steps p.tables e below (Ts2.setTop (mkF m 63 #[.val (.ref a1), .val (.int n), .val (.int (0 : Int32)), .val (.int (2 : Int32))] [])) _
    refine XS.goto Xs2.here hx rfl (pc0 := 63) (pc' := 44) rfl (hb hby d2_63) (by decide) (by decide) ?_
    show Steps p.tables e below (Ts2.setTop (mkF m 44 #[.val (.ref a1), .val (.int n), .val (.int (0 : Int32)), .val (.int (2 : Int32))] [])) _
    refine XS.iloadN Xs2.here hx rfl (hb hby d2_44) rfl ?_
    show Steps p.tables e below (Ts2.setTop (mkF m 45 #[.val (.ref a1), .val (.int n), .val (.int (0 : Int32)), .val (.int (2 : Int32))] [(.int (2 : Int32))])) _
    refine XS.aloadN Xs2.here hx rfl (hb hby d2_45) rfl rfl ?_
    show Steps p.tables e below (Ts2.setTop (mkF m 46 #[.val (.ref a1), .val (.int n), .val (.int (0 : Int32)), .val (.int (2 : Int32))] [(.ref a1), (.int (2 : Int32))])) _
    refine own_len Xs2 hx hZ es2 Vs2 (g := (mkF m 46 #[.val (.ref a1), .val (.int n), .val (.int (0 : Int32)), .val (.int (2 : Int32))] [(.ref a1), (.int (2 : Int32))])) rfl rfl (hb hby d2_46) _ ?_
    show Steps p.tables e below (Ts2.setTop (mkF m 47 #[.val (.ref a1), .val (.int n), .val (.int (0 : Int32)), .val (.int (2 : Int32))] [(.int (3 : Int32)), (.int (2 : Int32))])) _
    refine XS.icmpNo Xs2.here hx rfl (hb hby d2_47) rfl (tlt (by decide : (2 : Int32) < (3 : Int32))).2.1 ?_
    show Steps p.tables e below (Ts2.setTop (mkF m 50 #[.val (.ref a1), .val (.int n), .val (.int (0 : Int32)), .val (.int (2 : Int32))] [])) _
    refine XS.aloadN Xs2.here hx rfl (hb hby d2_50) rfl rfl ?_
    show Steps p.tables e below (Ts2.setTop (mkF m 51 #[.val (.ref a1), .val (.int n), .val (.int (0 : Int32)), .val (.int (2 : Int32))] [(.ref a1)])) _
    refine XS.iloadN Xs2.here hx rfl (hb hby d2_51) rfl ?_
    show Steps p.tables e below (Ts2.setTop (mkF m 52 #[.val (.ref a1), .val (.int n), .val (.int (0 : Int32)), .val (.int (2 : Int32))] [(.int (2 : Int32)), (.ref a1)])) _
    refine XS.aloadN Xs2.here hx rfl (hb hby d2_52) rfl rfl ?_
    show Steps p.tables e below (Ts2.setTop (mkF m 53 #[.val (.ref a1), .val (.int n), .val (.int (0 : Int32)), .val (.int (2 : Int32))] [(.ref a1), (.int (2 : Int32)), (.ref a1)])) _
    refine XS.iloadN Xs2.here hx rfl (hb hby d2_53) rfl ?_
    show Steps p.tables e below (Ts2.setTop (mkF m 54 #[.val (.ref a1), .val (.int n), .val (.int (0 : Int32)), .val (.int (2 : Int32))] [(.int (2 : Int32)), (.ref a1), (.int (2 : Int32)), (.ref a1)])) _
    refine XS.iconst Xs2.here hx rfl (hb hby d2_54) ?_
    show Steps p.tables e below (Ts2.setTop (mkF m 55 #[.val (.ref a1), .val (.int n), .val (.int (0 : Int32)), .val (.int (2 : Int32))] [(.int (1 : Int32)), (.int (2 : Int32)), (.ref a1), (.int (2 : Int32)), (.ref a1)])) _
    refine XS.isub Xs2.here hx rfl (hb hby d2_55) rfl ?_
    show Steps p.tables e below (Ts2.setTop (mkF m 56 #[.val (.ref a1), .val (.int n), .val (.int (0 : Int32)), .val (.int (2 : Int32))] [(.int (1 : Int32)), (.ref a1), (.int (2 : Int32)), (.ref a1)])) _
    refine own_ild Xs2 hx hZ es2 Vs2 1 (by decide) (by decide) (by decide) rfl (g := (mkF m 56 #[.val (.ref a1), .val (.int n), .val (.int (0 : Int32)), .val (.int (2 : Int32))] [(.int (1 : Int32)), (.ref a1), (.int (2 : Int32)), (.ref a1)])) rfl rfl (hb hby d2_56) _ ?_
    show Steps p.tables e below (Ts2.setTop (mkF m 57 #[.val (.ref a1), .val (.int n), .val (.int (0 : Int32)), .val (.int (2 : Int32))] [(.int ((x0 + (1 : Int32)) + (1 : Int32))), (.int (2 : Int32)), (.ref a1)])) _
    refine XS.iconst Xs2.here hx rfl (hb hby d2_57) ?_
    show Steps p.tables e below (Ts2.setTop (mkF m 58 #[.val (.ref a1), .val (.int n), .val (.int (0 : Int32)), .val (.int (2 : Int32))] [(.int (1 : Int32)), (.int ((x0 + (1 : Int32)) + (1 : Int32))), (.int (2 : Int32)), (.ref a1)])) _
    refine XS.iadd Xs2.here hx rfl (hb hby d2_58) rfl ?_
    show Steps p.tables e below (Ts2.setTop (mkF m 59 #[.val (.ref a1), .val (.int n), .val (.int (0 : Int32)), .val (.int (2 : Int32))] [(.int (((x0 + (1 : Int32)) + (1 : Int32)) + (1 : Int32))), (.int (2 : Int32)), (.ref a1)])) _
    refine sts3 _ ?_
    show Steps p.tables e below (Ts3.setTop (mkF m 60 #[.val (.ref a1), .val (.int n), .val (.int (0 : Int32)), .val (.int (2 : Int32))] [])) _
    refine XS.iinc Xs3.here hx rfl (hb hby d2_60) rfl (l' := #[.val (.ref a1), .val (.int n), .val (.int (0 : Int32)), .val (.int (3 : Int32))]) rfl ?_
    show Steps p.tables e below (Ts3.setTop (mkF m 63 #[.val (.ref a1), .val (.int n), .val (.int (0 : Int32)), .val (.int (3 : Int32))] [])) _
    refine XS.goto Xs3.here hx rfl (pc0 := 63) (pc' := 44) rfl (hb hby d2_63) (by decide) (by decide) ?_
    show Steps p.tables e below (Ts3.setTop (mkF m 44 #[.val (.ref a1), .val (.int n), .val (.int (0 : Int32)), .val (.int (3 : Int32))] [])) _
    refine XS.iloadN Xs3.here hx rfl (hb hby d2_44) rfl ?_
    show Steps p.tables e below (Ts3.setTop (mkF m 45 #[.val (.ref a1), .val (.int n), .val (.int (0 : Int32)), .val (.int (3 : Int32))] [(.int (3 : Int32))])) _
    refine XS.aloadN Xs3.here hx rfl (hb hby d2_45) rfl rfl ?_
    show Steps p.tables e below (Ts3.setTop (mkF m 46 #[.val (.ref a1), .val (.int n), .val (.int (0 : Int32)), .val (.int (3 : Int32))] [(.ref a1), (.int (3 : Int32))])) _
    refine own_len Xs3 hx hZ es3 Vs3 (g := (mkF m 46 #[.val (.ref a1), .val (.int n), .val (.int (0 : Int32)), .val (.int (3 : Int32))] [(.ref a1), (.int (3 : Int32))])) rfl rfl (hb hby d2_46) _ ?_
    show Steps p.tables e below (Ts3.setTop (mkF m 47 #[.val (.ref a1), .val (.int n), .val (.int (0 : Int32)), .val (.int (3 : Int32))] [(.int (3 : Int32)), (.int (3 : Int32))])) _
    refine XS.icmpYes Xs3.here hx rfl (pc0 := 47) (pc' := 66) rfl (hb hby d2_47) rfl (flt (by decide : ¬ ((3 : Int32) < (3 : Int32)))).2.1 (by decide) (by decide) ?_
    show Steps p.tables e below (Ts3.setTop (mkF m 66 #[.val (.ref a1), .val (.int n), .val (.int (0 : Int32)), .val (.int (3 : Int32))] [])) _
    refine XS.iconst Xs3.here hx rfl (hb hby d2_66) ?_
    exact retN Xs3 hx (t := .boolean) Bd.returns (by simp) (hb hby d2_67) hr
  · show Q2 Z a1 k (3 : Int32) (1 : Int32) [(.int (x0 + (1 : Int32))), (.int ((x0 + (1 : Int32)) + (1 : Int32))), (.int (((x0 + (1 : Int32)) + (1 : Int32)) + (1 : Int32)))] n0 _ Ts3.heap _
    rw [es3]
    exact ⟨rfl, Ns3, Vs3⟩
set_option maxRecDepth 65536 in
set_option maxHeartbeats 4000000 in
theorem rm2_3_3 (l : Launch) (Z : State) (a0 : Array Value) (hw : ∀ d ∈ tables_1, d.before a0 Z = true) (ws : List Jvm.Cond) (a1 : Addr) (n : Int32) (k : ClassId) (x0 : Int32) (x1 : Int32) (x2 : Int32) (h0 : Heap) (n0 : Nat) (g_a1 : n0 ≤ a1) (V0 : Arv Z h0 a1 k .int (3 : Int32) [(.int x0), (.int x1), (.int x2)] (.int 0)) (hc2 : ¬ (x2 < ((n - (3 : Int32)) + (2 : Int32)))) (hc1 : ¬ (x1 < ((n - (3 : Int32)) + (1 : Int32)))) (hc0 : ¬ (x0 < ((n - (3 : Int32)) + (0 : Int32)))) :
    MetFree l (⟨"com/example/ashlar/ashlar/storage/Subsets", "next", "([II)Z"⟩ : MethodName) (head1 (Jvm.Cond.code (⟨"com/example/ashlar/ashlar/storage/Subsets", "next", "([II)Z"⟩ : MethodName) prog_78_method_3_code 4 (some .boolean) :: ws) ({ frames := 0, cells := 0, slots := 0, locals := 0 } : Room)) (fun a U => a = #[(.ref a1), (.int n)] ∧ Z.Warmed39 U.vm ∧ U.heap = h0) (fun _ _ _ _ _ => True) (fun _ U o U' => ∃ v L, o = .returned v ∧ Q2 Z a1 k (3 : Int32) (0 : Int32) [(.int x0), (.int x1), (.int x2)] n0 v U'.heap L ∧ FrameEnd U o U' L ({ frames := 0, cells := 0, slots := 0, locals := 0 } : Room).cells ({ frames := 0, cells := 0, slots := 0, locals := 0 } : Room).slots) := by
  refine MetFree.of_bodySF (plainFor_of_name pn_2) hisR ?_
  intro p e s m args below meth c s₁ Bd hml0 hP hK
  obtain ⟨rfl, hZ, hh⟩ := hP
  have hx := Bd.exec
  have hby := Bd.bytes
  have X0 : Stand p l e ({ frames := 0, cells := 0, slots := 0, locals := 0 } : Room) s m #[(.ref a1), (.int n)] below meth c s₁ [] 0 0 := Stand.of_body Bd
  have e0 : s₁.heap = h0 := by rw [← hh, Bd.state]; rfl
  have N0 := Fr.nil n0
  have pre0 : ∀ t, Steps p.tables e below (s₁.setTop (mkF m 0 #[.val (.ref a1), .val (.int n), .unset, .unset] [])) t → Steps p.tables e below (s₁.setTop (entryFrame m #[(.ref a1), (.int n)] 4)) t := fun t k => castTop (ef_2 m a1 n) k
  obtain ⟨fs, hr, hrun, hended, hW, hsame⟩ := X0.leave (v := some (.int (0 : Int32))) (fun h => by rw [Bd.returns] at h; cases h)
  refine ⟨_, _, pre0 _ ?_, hrun, hended, _, _, rfl, ?_, ⟨_, rfl⟩, hW, hsame.mono (by decide) (by decide)⟩
  · show Steps p.tables e below (s₁.setTop (mkF m 0 #[.val (.ref a1), .val (.int n), .unset, .unset] [])) _
    refine XS.aloadN X0.here hx rfl (hb hby d2_0) rfl rfl ?_
    show Steps p.tables e below (s₁.setTop (mkF m 1 #[.val (.ref a1), .val (.int n), .unset, .unset] [(.ref a1)])) _
    refine own_len X0 hx hZ e0 V0 (g := (mkF m 1 #[.val (.ref a1), .val (.int n), .unset, .unset] [(.ref a1)])) rfl rfl (hb hby d2_1) _ ?_
    show Steps p.tables e below (s₁.setTop (mkF m 2 #[.val (.ref a1), .val (.int n), .unset, .unset] [(.int (3 : Int32))])) _
    refine XS.iconst X0.here hx rfl (hb hby d2_2) ?_
    show Steps p.tables e below (s₁.setTop (mkF m 3 #[.val (.ref a1), .val (.int n), .unset, .unset] [(.int (1 : Int32)), (.int (3 : Int32))])) _
    refine XS.isub X0.here hx rfl (hb hby d2_3) rfl ?_
    show Steps p.tables e below (s₁.setTop (mkF m 4 #[.val (.ref a1), .val (.int n), .unset, .unset] [(.int (2 : Int32))])) _
    refine XS.istoreN X0.here hx rfl (hb hby d2_4) rfl (l' := #[.val (.ref a1), .val (.int n), .val (.int (2 : Int32)), .unset]) rfl ?_
    show Steps p.tables e below (s₁.setTop (mkF m 5 #[.val (.ref a1), .val (.int n), .val (.int (2 : Int32)), .unset] [])) _
    refine XS.iloadN X0.here hx rfl (hb hby d2_5) rfl ?_
    show Steps p.tables e below (s₁.setTop (mkF m 6 #[.val (.ref a1), .val (.int n), .val (.int (2 : Int32)), .unset] [(.int (2 : Int32))])) _
    refine XS.ifNo X0.here hx rfl (hb hby d2_6) rfl ((if0 _ _).trans (flt (by decide : ¬ ((2 : Int32) < (0 : Int32)))).1) ?_
    show Steps p.tables e below (s₁.setTop (mkF m 9 #[.val (.ref a1), .val (.int n), .val (.int (2 : Int32)), .unset] [])) _
    refine XS.aloadN X0.here hx rfl (hb hby d2_9) rfl rfl ?_
    show Steps p.tables e below (s₁.setTop (mkF m 10 #[.val (.ref a1), .val (.int n), .val (.int (2 : Int32)), .unset] [(.ref a1)])) _
    refine XS.iloadN X0.here hx rfl (hb hby d2_10) rfl ?_
    show Steps p.tables e below (s₁.setTop (mkF m 11 #[.val (.ref a1), .val (.int n), .val (.int (2 : Int32)), .unset] [(.int (2 : Int32)), (.ref a1)])) _
    refine own_ild X0 hx hZ e0 V0 2 (by decide) (by decide) (by decide) rfl (g := (mkF m 11 #[.val (.ref a1), .val (.int n), .val (.int (2 : Int32)), .unset] [(.int (2 : Int32)), (.ref a1)])) rfl rfl (hb hby d2_11) _ ?_
    show Steps p.tables e below (s₁.setTop (mkF m 12 #[.val (.ref a1), .val (.int n), .val (.int (2 : Int32)), .unset] [(.int x2)])) _
    refine XS.iloadN X0.here hx rfl (hb hby d2_12) rfl ?_
    show Steps p.tables e below (s₁.setTop (mkF m 13 #[.val (.ref a1), .val (.int n), .val (.int (2 : Int32)), .unset] [(.int n), (.int x2)])) _
    refine XS.aloadN X0.here hx rfl (hb hby d2_13) rfl rfl ?_
    show Steps p.tables e below (s₁.setTop (mkF m 14 #[.val (.ref a1), .val (.int n), .val (.int (2 : Int32)), .unset] [(.ref a1), (.int n), (.int x2)])) _
    refine own_len X0 hx hZ e0 V0 (g := (mkF m 14 #[.val (.ref a1), .val (.int n), .val (.int (2 : Int32)), .unset] [(.ref a1), (.int n), (.int x2)])) rfl rfl (hb hby d2_14) _ ?_
    show Steps p.tables e below (s₁.setTop (mkF m 15 #[.val (.ref a1), .val (.int n), .val (.int (2 : Int32)), .unset] [(.int (3 : Int32)), (.int n), (.int x2)])) _
    refine XS.isub X0.here hx rfl (hb hby d2_15) rfl ?_
    show Steps p.tables e below (s₁.setTop (mkF m 16 #[.val (.ref a1), .val (.int n), .val (.int (2 : Int32)), .unset] [(.int (n - (3 : Int32))), (.int x2)])) _
    refine XS.iloadN X0.here hx rfl (hb hby d2_16) rfl ?_
    show Steps p.tables e below (s₁.setTop (mkF m 17 #[.val (.ref a1), .val (.int n), .val (.int (2 : Int32)), .unset] [(.int (2 : Int32)), (.int (n - (3 : Int32))), (.int x2)])) _
    refine XS.iadd X0.here hx rfl (hb hby d2_17) rfl ?_
    show Steps p.tables e below (s₁.setTop (mkF m 18 #[.val (.ref a1), .val (.int n), .val (.int (2 : Int32)), .unset] [(.int ((n - (3 : Int32)) + (2 : Int32))), (.int x2)])) _
    refine XS.icmpNo X0.here hx rfl (hb hby d2_18) rfl (flt (hc2 : ¬ (x2 < ((n - (3 : Int32)) + (2 : Int32))))).1 ?_
    show Steps p.tables e below (s₁.setTop (mkF m 21 #[.val (.ref a1), .val (.int n), .val (.int (2 : Int32)), .unset] [])) _
    refine XS.iinc X0.here hx rfl (hb hby d2_21) rfl (l' := #[.val (.ref a1), .val (.int n), .val (.int (1 : Int32)), .unset]) rfl ?_
    show Steps p.tables e below (s₁.setTop (mkF m 24 #[.val (.ref a1), .val (.int n), .val (.int (1 : Int32)), .unset] [])) _
    refine XS.goto X0.here hx rfl (pc0 := 24) (pc' := 5) rfl (hb hby d2_24) (by decide) (by decide) ?_
    show Steps p.tables e below (s₁.setTop (mkF m 5 #[.val (.ref a1), .val (.int n), .val (.int (1 : Int32)), .unset] [])) _
    refine XS.iloadN X0.here hx rfl (hb hby d2_5) rfl ?_
    show Steps p.tables e below (s₁.setTop (mkF m 6 #[.val (.ref a1), .val (.int n), .val (.int (1 : Int32)), .unset] [(.int (1 : Int32))])) _
    refine XS.ifNo X0.here hx rfl (hb hby d2_6) rfl ((if0 _ _).trans (flt (by decide : ¬ ((1 : Int32) < (0 : Int32)))).1) ?_
    show Steps p.tables e below (s₁.setTop (mkF m 9 #[.val (.ref a1), .val (.int n), .val (.int (1 : Int32)), .unset] [])) _
    refine XS.aloadN X0.here hx rfl (hb hby d2_9) rfl rfl ?_
    show Steps p.tables e below (s₁.setTop (mkF m 10 #[.val (.ref a1), .val (.int n), .val (.int (1 : Int32)), .unset] [(.ref a1)])) _
    refine XS.iloadN X0.here hx rfl (hb hby d2_10) rfl ?_
    show Steps p.tables e below (s₁.setTop (mkF m 11 #[.val (.ref a1), .val (.int n), .val (.int (1 : Int32)), .unset] [(.int (1 : Int32)), (.ref a1)])) _
    refine own_ild X0 hx hZ e0 V0 1 (by decide) (by decide) (by decide) rfl (g := (mkF m 11 #[.val (.ref a1), .val (.int n), .val (.int (1 : Int32)), .unset] [(.int (1 : Int32)), (.ref a1)])) rfl rfl (hb hby d2_11) _ ?_
    show Steps p.tables e below (s₁.setTop (mkF m 12 #[.val (.ref a1), .val (.int n), .val (.int (1 : Int32)), .unset] [(.int x1)])) _
    refine XS.iloadN X0.here hx rfl (hb hby d2_12) rfl ?_
    show Steps p.tables e below (s₁.setTop (mkF m 13 #[.val (.ref a1), .val (.int n), .val (.int (1 : Int32)), .unset] [(.int n), (.int x1)])) _
    refine XS.aloadN X0.here hx rfl (hb hby d2_13) rfl rfl ?_
    show Steps p.tables e below (s₁.setTop (mkF m 14 #[.val (.ref a1), .val (.int n), .val (.int (1 : Int32)), .unset] [(.ref a1), (.int n), (.int x1)])) _
    refine own_len X0 hx hZ e0 V0 (g := (mkF m 14 #[.val (.ref a1), .val (.int n), .val (.int (1 : Int32)), .unset] [(.ref a1), (.int n), (.int x1)])) rfl rfl (hb hby d2_14) _ ?_
    show Steps p.tables e below (s₁.setTop (mkF m 15 #[.val (.ref a1), .val (.int n), .val (.int (1 : Int32)), .unset] [(.int (3 : Int32)), (.int n), (.int x1)])) _
    refine XS.isub X0.here hx rfl (hb hby d2_15) rfl ?_
    show Steps p.tables e below (s₁.setTop (mkF m 16 #[.val (.ref a1), .val (.int n), .val (.int (1 : Int32)), .unset] [(.int (n - (3 : Int32))), (.int x1)])) _
    refine XS.iloadN X0.here hx rfl (hb hby d2_16) rfl ?_
    show Steps p.tables e below (s₁.setTop (mkF m 17 #[.val (.ref a1), .val (.int n), .val (.int (1 : Int32)), .unset] [(.int (1 : Int32)), (.int (n - (3 : Int32))), (.int x1)])) _
    refine XS.iadd X0.here hx rfl (hb hby d2_17) rfl ?_
    show Steps p.tables e below (s₁.setTop (mkF m 18 #[.val (.ref a1), .val (.int n), .val (.int (1 : Int32)), .unset] [(.int ((n - (3 : Int32)) + (1 : Int32))), (.int x1)])) _
    refine XS.icmpNo X0.here hx rfl (hb hby d2_18) rfl (flt (hc1 : ¬ (x1 < ((n - (3 : Int32)) + (1 : Int32))))).1 ?_
    show Steps p.tables e below (s₁.setTop (mkF m 21 #[.val (.ref a1), .val (.int n), .val (.int (1 : Int32)), .unset] [])) _
    refine XS.iinc X0.here hx rfl (hb hby d2_21) rfl (l' := #[.val (.ref a1), .val (.int n), .val (.int (0 : Int32)), .unset]) rfl ?_
    show Steps p.tables e below (s₁.setTop (mkF m 24 #[.val (.ref a1), .val (.int n), .val (.int (0 : Int32)), .unset] [])) _
    refine XS.goto X0.here hx rfl (pc0 := 24) (pc' := 5) rfl (hb hby d2_24) (by decide) (by decide) ?_
    show Steps p.tables e below (s₁.setTop (mkF m 5 #[.val (.ref a1), .val (.int n), .val (.int (0 : Int32)), .unset] [])) _
    refine XS.iloadN X0.here hx rfl (hb hby d2_5) rfl ?_
    show Steps p.tables e below (s₁.setTop (mkF m 6 #[.val (.ref a1), .val (.int n), .val (.int (0 : Int32)), .unset] [(.int (0 : Int32))])) _
    refine XS.ifNo X0.here hx rfl (hb hby d2_6) rfl ((if0 _ _).trans (flt (by decide : ¬ ((0 : Int32) < (0 : Int32)))).1) ?_
    show Steps p.tables e below (s₁.setTop (mkF m 9 #[.val (.ref a1), .val (.int n), .val (.int (0 : Int32)), .unset] [])) _
    refine XS.aloadN X0.here hx rfl (hb hby d2_9) rfl rfl ?_
    show Steps p.tables e below (s₁.setTop (mkF m 10 #[.val (.ref a1), .val (.int n), .val (.int (0 : Int32)), .unset] [(.ref a1)])) _
    refine XS.iloadN X0.here hx rfl (hb hby d2_10) rfl ?_
    show Steps p.tables e below (s₁.setTop (mkF m 11 #[.val (.ref a1), .val (.int n), .val (.int (0 : Int32)), .unset] [(.int (0 : Int32)), (.ref a1)])) _
    refine own_ild X0 hx hZ e0 V0 0 (by decide) (by decide) (by decide) rfl (g := (mkF m 11 #[.val (.ref a1), .val (.int n), .val (.int (0 : Int32)), .unset] [(.int (0 : Int32)), (.ref a1)])) rfl rfl (hb hby d2_11) _ ?_
    show Steps p.tables e below (s₁.setTop (mkF m 12 #[.val (.ref a1), .val (.int n), .val (.int (0 : Int32)), .unset] [(.int x0)])) _
    refine XS.iloadN X0.here hx rfl (hb hby d2_12) rfl ?_
    show Steps p.tables e below (s₁.setTop (mkF m 13 #[.val (.ref a1), .val (.int n), .val (.int (0 : Int32)), .unset] [(.int n), (.int x0)])) _
    refine XS.aloadN X0.here hx rfl (hb hby d2_13) rfl rfl ?_
    show Steps p.tables e below (s₁.setTop (mkF m 14 #[.val (.ref a1), .val (.int n), .val (.int (0 : Int32)), .unset] [(.ref a1), (.int n), (.int x0)])) _
    refine own_len X0 hx hZ e0 V0 (g := (mkF m 14 #[.val (.ref a1), .val (.int n), .val (.int (0 : Int32)), .unset] [(.ref a1), (.int n), (.int x0)])) rfl rfl (hb hby d2_14) _ ?_
    show Steps p.tables e below (s₁.setTop (mkF m 15 #[.val (.ref a1), .val (.int n), .val (.int (0 : Int32)), .unset] [(.int (3 : Int32)), (.int n), (.int x0)])) _
    refine XS.isub X0.here hx rfl (hb hby d2_15) rfl ?_
    show Steps p.tables e below (s₁.setTop (mkF m 16 #[.val (.ref a1), .val (.int n), .val (.int (0 : Int32)), .unset] [(.int (n - (3 : Int32))), (.int x0)])) _
    refine XS.iloadN X0.here hx rfl (hb hby d2_16) rfl ?_
    show Steps p.tables e below (s₁.setTop (mkF m 17 #[.val (.ref a1), .val (.int n), .val (.int (0 : Int32)), .unset] [(.int (0 : Int32)), (.int (n - (3 : Int32))), (.int x0)])) _
    refine XS.iadd X0.here hx rfl (hb hby d2_17) rfl ?_
    show Steps p.tables e below (s₁.setTop (mkF m 18 #[.val (.ref a1), .val (.int n), .val (.int (0 : Int32)), .unset] [(.int ((n - (3 : Int32)) + (0 : Int32))), (.int x0)])) _
    refine XS.icmpNo X0.here hx rfl (hb hby d2_18) rfl (flt (hc0 : ¬ (x0 < ((n - (3 : Int32)) + (0 : Int32))))).1 ?_
    show Steps p.tables e below (s₁.setTop (mkF m 21 #[.val (.ref a1), .val (.int n), .val (.int (0 : Int32)), .unset] [])) _
    refine XS.iinc X0.here hx rfl (hb hby d2_21) rfl (l' := #[.val (.ref a1), .val (.int n), .val (.int (-1 : Int32)), .unset]) rfl ?_
    show Steps p.tables e below (s₁.setTop (mkF m 24 #[.val (.ref a1), .val (.int n), .val (.int (-1 : Int32)), .unset] [])) _
    refine XS.goto X0.here hx rfl (pc0 := 24) (pc' := 5) rfl (hb hby d2_24) (by decide) (by decide) ?_
    show Steps p.tables e below (s₁.setTop (mkF m 5 #[.val (.ref a1), .val (.int n), .val (.int (-1 : Int32)), .unset] [])) _
    refine XS.iloadN X0.here hx rfl (hb hby d2_5) rfl ?_
    show Steps p.tables e below (s₁.setTop (mkF m 6 #[.val (.ref a1), .val (.int n), .val (.int (-1 : Int32)), .unset] [(.int (-1 : Int32))])) _
    refine XS.ifYes X0.here hx rfl (pc0 := 6) (pc' := 27) rfl (hb hby d2_6) rfl ((if0 _ _).trans (tlt (by decide : (-1 : Int32) < (0 : Int32))).1) (by decide) (by decide) ?_
    show Steps p.tables e below (s₁.setTop (mkF m 27 #[.val (.ref a1), .val (.int n), .val (.int (-1 : Int32)), .unset] [])) _
    refine XS.iloadN X0.here hx rfl (hb hby d2_27) rfl ?_
    show Steps p.tables e below (s₁.setTop (mkF m 28 #[.val (.ref a1), .val (.int n), .val (.int (-1 : Int32)), .unset] [(.int (-1 : Int32))])) _
    refine XS.ifNo X0.here hx rfl (hb hby d2_28) rfl ((if0 _ _).trans (tlt (by decide : (-1 : Int32) < (0 : Int32))).2.1) ?_
    show Steps p.tables e below (s₁.setTop (mkF m 31 #[.val (.ref a1), .val (.int n), .val (.int (-1 : Int32)), .unset] [])) _
    refine XS.iconst X0.here hx rfl (hb hby d2_31) ?_
    exact retN X0 hx (t := .boolean) Bd.returns (by simp) (hb hby d2_32) hr
  · show Q2 Z a1 k (3 : Int32) (0 : Int32) [(.int x0), (.int x1), (.int x2)] n0 _ s₁.heap _
    rw [e0]
    exact ⟨rfl, N0, V0⟩
theorem pd_0_n : parseMethodDescriptor "([II)Z" = some ⟨[.array .int, .int], some .boolean⟩ := by decide +kernel
theorem pd_0_g : parseMethodDescriptor "(I)I" = some ⟨[.int], some .int⟩ := by decide +kernel
theorem pn_0 : plainName "com/example/ashlar/ashlar/storage/SubsetsNextPinLaw" = true := by first | (simp [plainName, overriddenIn]; done) | decide +kernel
set_option maxRecDepth 65536 in
set_option maxHeartbeats 4000000 in
theorem own_law_0_0 {p : Program} {l : Launch} {e : Env} {s : State} {m : MethodId} {args : Array Value} {below : List Frame} {meth : Method} {c : Code} {T : State} {locs : List Loc} {Z : State} {a0 : Array Value} (q0 q1 q2 q3 q4 kk x0 x1 x2 dd : Int32) (hw : ∀ d ∈ tables_1, d.before a0 Z = true) (X0 : Stand p l e room_1 s m args below meth c T locs 0 0) (hx : p.tables.exec = Jvm.exec) (hZ : Z.Warmed39 s.vm) (hby : c.code = code) (hml : c.maxLocals = 13) (hown : s.vm.findClass "com/example/ashlar/ashlar/storage/SubsetsNextPinLaw" = some m.cls) {h0 : Heap} (e0 : T.heap = h0) {n0 : Nat} (Z0 : n0 ≤ h0.size) (N0 : Fr n0 locs) :
    ∃ (T' : State) (l' : List Loc) (pcr : Nat) (Lr : Array Slot) (sl : Nat), sl ≤ 128 ∧ Stand p l e room_1 s m args below meth c T' l' 1 sl ∧ Fr n0 l' ∧ decode c.code pcr = .ok (.ireturn, 1) ∧ ∀ t, Steps p.tables e below (T'.setTop (mkF m pcr Lr [(.int (1 : Int32))])) t → Steps p.tables e below (T.setTop (mkF m 45 #[.val (.int q0), .val (.int q1), .val (.int q2), .val (.int q3), .val (.int q4), .val (.int kk), .val (.int x0), .val (.int x1), .val (.int x2), .val (.int dd), .unset, .unset, .unset] [])) t := by
  obtain ⟨Ta, ha, ka, Xa, ea, Ea, Aa, sta⟩ := newP X0 hx hZ (hw _ (List.mem_of_getElem? (i := 5) rfl)) e0 (g := (mkF m 46 #[.val (.int q0), .val (.int q1), .val (.int q2), .val (.int q3), .val (.int q4), .val (.int kk), .val (.int x0), .val (.int x1), .val (.int x2), .val (.int dd), .unset, .unset, .unset] [(.int (0 : Int32))])) rfl (hb hby at_46) rfl (by decide) (cap := 0) (by decide) (by decide) (by decide) (by decide)
  obtain ⟨a, ga⟩ : ∃ z, z = h0.size := ⟨_, rfl⟩
  rw [← ga] at Aa sta
  have Va : Arv Z ha a ka .int (0 : Int32) [] (.int (0 : Int32)) := (Arv.new Aa (by decide)).pad (pad_rep [] (.int (0 : Int32)) 0)
  have g_a : n0 ≤ a := Nat.le_trans Z0 (Nat.le_of_eq ga.symm)
  obtain ⟨_, _, ⟨Tc, Lc, kc, nc⟩, -, Xc, ⟨Lcc, hQc, lc, yc, zc⟩, stc⟩ := Jvm.LawKit.callS Xa hx (y := (⟨"com/example/ashlar/ashlar/storage/Subsets", "next", "([II)Z"⟩ : MethodName)) hown (mvT hZ (hw _ (List.mem_of_getElem? (i := 6) rfl))) (mvT hZ (hw _ (List.mem_of_getElem? (i := 7) rfl))) (mvT hZ (hw _ (List.mem_of_getElem? (i := 8) rfl))) (mvT hZ (hw _ (List.mem_of_getElem? (i := 9) rfl))) (by decide) (backOf (W := 0) (rm2_0_0 l Z a0 hw [] a q4 ka  ha n0 g_a Va) hZ (hw _ (List.mem_of_getElem? (i := 9) rfl)) (hw _ (List.mem_of_getElem? (i := 8) rfl)) (by decide) (by decide)) (g := (mkF m 54 #[.val (.int q0), .val (.int q1), .val (.int q2), .val (.int q3), .val (.int q4), .val (.int kk), .val (.int x0), .val (.int x1), .val (.int x2), .val (.int dd), .val (.ref a), .unset, .unset] [(.int q4), (.ref a)])) rfl (by rw [hml]; rfl) (argsL := [(.ref a), (.int q4)]) (rest := []) (lenOf pd_0_n rfl) rfl (by show 2 * 0 + _ ≤ _; exact Nat.le_of_eq rfl) (hb hby at_54) (fun _ _ => ⟨rfl, ea, (by decide : 1 + 0 ≤ _), (by decide : 0 + 0 ≤ _)⟩)
  dsimp only [Pt.U, Pt.locs, Pt.cells, Pt.slots] at Xc lc yc zc stc hQc
  subst lc yc zc
  obtain ⟨rfl, Ncq, Vc⟩ := hQc
  have Nc := Fr.app N0 Ncq
  refine ⟨Tc, _, 75, #[.val (.int q0), .val (.int q1), .val (.int q2), .val (.int q3), .val (.int q4), .val (.int kk), .val (.int x0), .val (.int x1), .val (.int x2), .val (.int dd), .val (.ref a), .val (.int (0 : Int32)), .unset], 0, by decide, Xc, Nc, hb hby at_75, fun t kt => ?_⟩
  show Steps p.tables e below (T.setTop (mkF m 45 #[.val (.int q0), .val (.int q1), .val (.int q2), .val (.int q3), .val (.int q4), .val (.int kk), .val (.int x0), .val (.int x1), .val (.int x2), .val (.int dd), .unset, .unset, .unset] [])) _
  refine XS.iconst X0.here hx rfl (hb hby at_45) ?_
  show Steps p.tables e below (T.setTop (mkF m 46 #[.val (.int q0), .val (.int q1), .val (.int q2), .val (.int q3), .val (.int q4), .val (.int kk), .val (.int x0), .val (.int x1), .val (.int x2), .val (.int dd), .unset, .unset, .unset] [(.int (0 : Int32))])) _
  refine sta _ ?_
  show Steps p.tables e below (Ta.setTop (mkF m 48 #[.val (.int q0), .val (.int q1), .val (.int q2), .val (.int q3), .val (.int q4), .val (.int kk), .val (.int x0), .val (.int x1), .val (.int x2), .val (.int dd), .unset, .unset, .unset] [(.ref a)])) _
  refine XS.astore Xa.here hx rfl (hb hby at_48) rfl rfl (l' := #[.val (.int q0), .val (.int q1), .val (.int q2), .val (.int q3), .val (.int q4), .val (.int kk), .val (.int x0), .val (.int x1), .val (.int x2), .val (.int dd), .val (.ref a), .unset, .unset]) rfl ?_
  show Steps p.tables e below (Ta.setTop (mkF m 50 #[.val (.int q0), .val (.int q1), .val (.int q2), .val (.int q3), .val (.int q4), .val (.int kk), .val (.int x0), .val (.int x1), .val (.int x2), .val (.int dd), .val (.ref a), .unset, .unset] [])) _
  refine XS.aload Xa.here hx rfl (hb hby at_50) rfl rfl ?_
  show Steps p.tables e below (Ta.setTop (mkF m 52 #[.val (.int q0), .val (.int q1), .val (.int q2), .val (.int q3), .val (.int q4), .val (.int kk), .val (.int x0), .val (.int x1), .val (.int x2), .val (.int dd), .val (.ref a), .unset, .unset] [(.ref a)])) _
  refine XS.iload Xa.here hx rfl (hb hby at_52) rfl ?_
  show Steps p.tables e below (Ta.setTop (mkF m 54 #[.val (.int q0), .val (.int q1), .val (.int q2), .val (.int q3), .val (.int q4), .val (.int kk), .val (.int x0), .val (.int x1), .val (.int x2), .val (.int dd), .val (.ref a), .unset, .unset] [(.int q4), (.ref a)])) _
  refine stc _ ?_
  show Steps p.tables e below (Tc.setTop (mkF m 57 #[.val (.int q0), .val (.int q1), .val (.int q2), .val (.int q3), .val (.int q4), .val (.int kk), .val (.int x0), .val (.int x1), .val (.int x2), .val (.int dd), .val (.ref a), .unset, .unset] [(.int (0 : Int32))])) _
  refine XS.istore Xc.here hx rfl (hb hby at_57) rfl (l' := #[.val (.int q0), .val (.int q1), .val (.int q2), .val (.int q3), .val (.int q4), .val (.int kk), .val (.int x0), .val (.int x1), .val (.int x2), .val (.int dd), .val (.ref a), .val (.int (0 : Int32)), .unset]) rfl ?_
  show Steps p.tables e below (Tc.setTop (mkF m 59 #[.val (.int q0), .val (.int q1), .val (.int q2), .val (.int q3), .val (.int q4), .val (.int kk), .val (.int x0), .val (.int x1), .val (.int x2), .val (.int dd), .val (.ref a), .val (.int (0 : Int32)), .unset] [])) _
  refine XS.iload Xc.here hx rfl (hb hby at_59) rfl ?_
  show Steps p.tables e below (Tc.setTop (mkF m 61 #[.val (.int q0), .val (.int q1), .val (.int q2), .val (.int q3), .val (.int q4), .val (.int kk), .val (.int x0), .val (.int x1), .val (.int x2), .val (.int dd), .val (.ref a), .val (.int (0 : Int32)), .unset] [(.int (0 : Int32))])) _
  refine XS.ifNo Xc.here hx rfl (hb hby at_61) rfl ((if0 _ _).trans (teq (by decide : (0 : Int32) = (0 : Int32))).2) ?_
  show Steps p.tables e below (Tc.setTop (mkF m 64 #[.val (.int q0), .val (.int q1), .val (.int q2), .val (.int q3), .val (.int q4), .val (.int kk), .val (.int x0), .val (.int x1), .val (.int x2), .val (.int dd), .val (.ref a), .val (.int (0 : Int32)), .unset] [])) _
  refine XS.aload Xc.here hx rfl (hb hby at_64) rfl rfl ?_
  show Steps p.tables e below (Tc.setTop (mkF m 66 #[.val (.int q0), .val (.int q1), .val (.int q2), .val (.int q3), .val (.int q4), .val (.int kk), .val (.int x0), .val (.int x1), .val (.int x2), .val (.int dd), .val (.ref a), .val (.int (0 : Int32)), .unset] [(.ref a)])) _
  refine own_len Xc hx hZ rfl Vc (g := (mkF m 66 #[.val (.int q0), .val (.int q1), .val (.int q2), .val (.int q3), .val (.int q4), .val (.int kk), .val (.int x0), .val (.int x1), .val (.int x2), .val (.int dd), .val (.ref a), .val (.int (0 : Int32)), .unset] [(.ref a)])) rfl rfl (hb hby at_66) _ ?_
  show Steps p.tables e below (Tc.setTop (mkF m 67 #[.val (.int q0), .val (.int q1), .val (.int q2), .val (.int q3), .val (.int q4), .val (.int kk), .val (.int x0), .val (.int x1), .val (.int x2), .val (.int dd), .val (.ref a), .val (.int (0 : Int32)), .unset] [(.int (0 : Int32))])) _
  refine XS.ifNo Xc.here hx rfl (hb hby at_67) rfl ((if0 _ _).trans (teq (by decide : (0 : Int32) = (0 : Int32))).2) ?_
  show Steps p.tables e below (Tc.setTop (mkF m 70 #[.val (.int q0), .val (.int q1), .val (.int q2), .val (.int q3), .val (.int q4), .val (.int kk), .val (.int x0), .val (.int x1), .val (.int x2), .val (.int dd), .val (.ref a), .val (.int (0 : Int32)), .unset] [])) _
  refine XS.iconst Xc.here hx rfl (hb hby at_70) ?_
  show Steps p.tables e below (Tc.setTop (mkF m 71 #[.val (.int q0), .val (.int q1), .val (.int q2), .val (.int q3), .val (.int q4), .val (.int kk), .val (.int x0), .val (.int x1), .val (.int x2), .val (.int dd), .val (.ref a), .val (.int (0 : Int32)), .unset] [(.int (1 : Int32))])) _
  refine XS.goto Xc.here hx rfl (pc0 := 71) (pc' := 75) rfl (hb hby at_71) (by decide) (by decide) ?_
  exact kt
set_option maxRecDepth 65536 in
set_option maxHeartbeats 4000000 in
theorem own_law_1_0 {p : Program} {l : Launch} {e : Env} {s : State} {m : MethodId} {args : Array Value} {below : List Frame} {meth : Method} {c : Code} {T : State} {locs : List Loc} {Z : State} {a0 : Array Value} (q0 q1 q2 q3 q4 kk x0 x1 x2 dd : Int32) (hw : ∀ d ∈ tables_1, d.before a0 Z = true) (X0 : Stand p l e room_1 s m args below meth c T locs 0 0) (hx : p.tables.exec = Jvm.exec) (hZ : Z.Warmed39 s.vm) (hby : c.code = code) (hml : c.maxLocals = 13) (hown : s.vm.findClass "com/example/ashlar/ashlar/storage/SubsetsNextPinLaw" = some m.cls) {h0 : Heap} (e0 : T.heap = h0) {n0 : Nat} (Z0 : n0 ≤ h0.size) (N0 : Fr n0 locs) (hc0 : x0 < (((x0 + (1 : Int32)) + dd) - (1 : Int32))) :
    ∃ (T' : State) (l' : List Loc) (pcr : Nat) (Lr : Array Slot) (sl : Nat), sl ≤ 128 ∧ Stand p l e room_1 s m args below meth c T' l' 1 sl ∧ Fr n0 l' ∧ decode c.code pcr = .ok (.ireturn, 1) ∧ ∀ t, Steps p.tables e below (T'.setTop (mkF m pcr Lr [(.int (1 : Int32))])) t → Steps p.tables e below (T.setTop (mkF m 82 #[.val (.int q0), .val (.int q1), .val (.int q2), .val (.int q3), .val (.int q4), .val (.int kk), .val (.int x0), .val (.int x1), .val (.int x2), .val (.int dd), .unset, .unset, .unset] [])) t := by
  obtain ⟨Ta, ha, ka, Xa, ea, Ea, Aa, sta⟩ := newP X0 hx hZ (hw _ (List.mem_of_getElem? (i := 5) rfl)) e0 (g := (mkF m 92 #[.val (.int q0), .val (.int q1), .val (.int q2), .val (.int q3), .val (.int q4), .val (.int kk), .val (.int x0), .val (.int x1), .val (.int x2), .val (.int dd), .val (.int ((x0 + (1 : Int32)) + dd)), .unset, .unset] [(.int (1 : Int32))])) rfl (hb hby at_92) rfl (by decide) (cap := 1) (by decide) (by decide) (by decide) (by decide)
  obtain ⟨a, ga⟩ : ∃ z, z = h0.size := ⟨_, rfl⟩
  rw [← ga] at Aa sta
  have Va : Arv Z ha a ka .int (1 : Int32) [(.int (0 : Int32))] (.int (0 : Int32)) := (Arv.new Aa (by decide)).pad (pad_rep [] (.int (0 : Int32)) 1)
  have g_a : n0 ≤ a := Nat.le_trans Z0 (Nat.le_of_eq ga.symm)
  obtain ⟨Ts0, hs0, Xs0, es0, Ws0, Vs0', sts0⟩ := own_ist Xa hx hZ ea Va 0 (by decide) (by decide) (by decide) (Nat.le_of_ble_eq_true rfl) (g := (mkF m 98 #[.val (.int q0), .val (.int q1), .val (.int q2), .val (.int q3), .val (.int q4), .val (.int kk), .val (.int x0), .val (.int x1), .val (.int x2), .val (.int dd), .val (.int ((x0 + (1 : Int32)) + dd)), .unset, .unset] [(.int x0), (.int (0 : Int32)), (.ref a), (.ref a)])) rfl rfl (hb hby at_98)
  have Vs0 : Arv Z hs0 a ka .int (1 : Int32) [(.int x0)] (.int 0) := Vs0'
  have Ns0 := Fr.snoc Xs0 N0 g_a
  obtain ⟨_, _, ⟨Tc, Lc, kc, nc⟩, -, Xc, ⟨Lcc, hQc, lc, yc, zc⟩, stc⟩ := Jvm.LawKit.callS Xs0 hx (y := (⟨"com/example/ashlar/ashlar/storage/Subsets", "next", "([II)Z"⟩ : MethodName)) hown (mvT hZ (hw _ (List.mem_of_getElem? (i := 6) rfl))) (mvT hZ (hw _ (List.mem_of_getElem? (i := 7) rfl))) (mvT hZ (hw _ (List.mem_of_getElem? (i := 8) rfl))) (mvT hZ (hw _ (List.mem_of_getElem? (i := 9) rfl))) (by decide) (backOf (W := 0) (rm2_1_0 l Z a0 hw [] a ((x0 + (1 : Int32)) + dd) ka x0 hs0 n0 g_a Vs0 (by rw [own_s10]; exact hc0)) hZ (hw _ (List.mem_of_getElem? (i := 9) rfl)) (hw _ (List.mem_of_getElem? (i := 8) rfl)) (by decide) (by decide)) (g := (mkF m 105 #[.val (.int q0), .val (.int q1), .val (.int q2), .val (.int q3), .val (.int q4), .val (.int kk), .val (.int x0), .val (.int x1), .val (.int x2), .val (.int dd), .val (.int ((x0 + (1 : Int32)) + dd)), .val (.ref a), .unset] [(.int ((x0 + (1 : Int32)) + dd)), (.ref a)])) rfl (by rw [hml]; rfl) (argsL := [(.ref a), (.int ((x0 + (1 : Int32)) + dd))]) (rest := []) (lenOf pd_0_n rfl) rfl (by show 2 * 0 + _ ≤ _; exact Nat.le_of_eq rfl) (hb hby at_105) (fun _ _ => ⟨rfl, es0, (by decide : 1 + 0 ≤ _), (by decide : 1 + 0 ≤ _)⟩)
  dsimp only [Pt.U, Pt.locs, Pt.cells, Pt.slots] at Xc lc yc zc stc hQc
  subst lc yc zc
  obtain ⟨rfl, Ncq, Vc⟩ := hQc
  have Nc := Fr.app Ns0 Ncq
  refine ⟨Tc, _, 140, #[.val (.int q0), .val (.int q1), .val (.int q2), .val (.int q3), .val (.int q4), .val (.int kk), .val (.int x0), .val (.int x1), .val (.int x2), .val (.int dd), .val (.int ((x0 + (1 : Int32)) + dd)), .val (.ref a), .val (.int (1 : Int32))], 1, by decide, Xc, Nc, hb hby at_140, fun t kt => ?_⟩
  show Steps p.tables e below (T.setTop (mkF m 82 #[.val (.int q0), .val (.int q1), .val (.int q2), .val (.int q3), .val (.int q4), .val (.int kk), .val (.int x0), .val (.int x1), .val (.int x2), .val (.int dd), .unset, .unset, .unset] [])) _
  refine XS.iload X0.here hx rfl (hb hby at_82) rfl ?_
  show Steps p.tables e below (T.setTop (mkF m 84 #[.val (.int q0), .val (.int q1), .val (.int q2), .val (.int q3), .val (.int q4), .val (.int kk), .val (.int x0), .val (.int x1), .val (.int x2), .val (.int dd), .unset, .unset, .unset] [(.int x0)])) _
  refine XS.iconst X0.here hx rfl (hb hby at_84) ?_
  show Steps p.tables e below (T.setTop (mkF m 85 #[.val (.int q0), .val (.int q1), .val (.int q2), .val (.int q3), .val (.int q4), .val (.int kk), .val (.int x0), .val (.int x1), .val (.int x2), .val (.int dd), .unset, .unset, .unset] [(.int (1 : Int32)), (.int x0)])) _
  refine XS.iadd X0.here hx rfl (hb hby at_85) rfl ?_
  show Steps p.tables e below (T.setTop (mkF m 86 #[.val (.int q0), .val (.int q1), .val (.int q2), .val (.int q3), .val (.int q4), .val (.int kk), .val (.int x0), .val (.int x1), .val (.int x2), .val (.int dd), .unset, .unset, .unset] [(.int (x0 + (1 : Int32)))])) _
  refine XS.iload X0.here hx rfl (hb hby at_86) rfl ?_
  show Steps p.tables e below (T.setTop (mkF m 88 #[.val (.int q0), .val (.int q1), .val (.int q2), .val (.int q3), .val (.int q4), .val (.int kk), .val (.int x0), .val (.int x1), .val (.int x2), .val (.int dd), .unset, .unset, .unset] [(.int dd), (.int (x0 + (1 : Int32)))])) _
  refine XS.iadd X0.here hx rfl (hb hby at_88) rfl ?_
  show Steps p.tables e below (T.setTop (mkF m 89 #[.val (.int q0), .val (.int q1), .val (.int q2), .val (.int q3), .val (.int q4), .val (.int kk), .val (.int x0), .val (.int x1), .val (.int x2), .val (.int dd), .unset, .unset, .unset] [(.int ((x0 + (1 : Int32)) + dd))])) _
  refine XS.istore X0.here hx rfl (hb hby at_89) rfl (l' := #[.val (.int q0), .val (.int q1), .val (.int q2), .val (.int q3), .val (.int q4), .val (.int kk), .val (.int x0), .val (.int x1), .val (.int x2), .val (.int dd), .val (.int ((x0 + (1 : Int32)) + dd)), .unset, .unset]) rfl ?_
  show Steps p.tables e below (T.setTop (mkF m 91 #[.val (.int q0), .val (.int q1), .val (.int q2), .val (.int q3), .val (.int q4), .val (.int kk), .val (.int x0), .val (.int x1), .val (.int x2), .val (.int dd), .val (.int ((x0 + (1 : Int32)) + dd)), .unset, .unset] [])) _
  refine XS.iconst X0.here hx rfl (hb hby at_91) ?_
  show Steps p.tables e below (T.setTop (mkF m 92 #[.val (.int q0), .val (.int q1), .val (.int q2), .val (.int q3), .val (.int q4), .val (.int kk), .val (.int x0), .val (.int x1), .val (.int x2), .val (.int dd), .val (.int ((x0 + (1 : Int32)) + dd)), .unset, .unset] [(.int (1 : Int32))])) _
  refine sta _ ?_
  show Steps p.tables e below (Ta.setTop (mkF m 94 #[.val (.int q0), .val (.int q1), .val (.int q2), .val (.int q3), .val (.int q4), .val (.int kk), .val (.int x0), .val (.int x1), .val (.int x2), .val (.int dd), .val (.int ((x0 + (1 : Int32)) + dd)), .unset, .unset] [(.ref a)])) _
  refine XS.dup Xa.here hx rfl (hb hby at_94) rfl rfl ?_
  show Steps p.tables e below (Ta.setTop (mkF m 95 #[.val (.int q0), .val (.int q1), .val (.int q2), .val (.int q3), .val (.int q4), .val (.int kk), .val (.int x0), .val (.int x1), .val (.int x2), .val (.int dd), .val (.int ((x0 + (1 : Int32)) + dd)), .unset, .unset] [(.ref a), (.ref a)])) _
  refine XS.iconst Xa.here hx rfl (hb hby at_95) ?_
  show Steps p.tables e below (Ta.setTop (mkF m 96 #[.val (.int q0), .val (.int q1), .val (.int q2), .val (.int q3), .val (.int q4), .val (.int kk), .val (.int x0), .val (.int x1), .val (.int x2), .val (.int dd), .val (.int ((x0 + (1 : Int32)) + dd)), .unset, .unset] [(.int (0 : Int32)), (.ref a), (.ref a)])) _
  refine XS.iload Xa.here hx rfl (hb hby at_96) rfl ?_
  show Steps p.tables e below (Ta.setTop (mkF m 98 #[.val (.int q0), .val (.int q1), .val (.int q2), .val (.int q3), .val (.int q4), .val (.int kk), .val (.int x0), .val (.int x1), .val (.int x2), .val (.int dd), .val (.int ((x0 + (1 : Int32)) + dd)), .unset, .unset] [(.int x0), (.int (0 : Int32)), (.ref a), (.ref a)])) _
  refine sts0 _ ?_
  show Steps p.tables e below (Ts0.setTop (mkF m 99 #[.val (.int q0), .val (.int q1), .val (.int q2), .val (.int q3), .val (.int q4), .val (.int kk), .val (.int x0), .val (.int x1), .val (.int x2), .val (.int dd), .val (.int ((x0 + (1 : Int32)) + dd)), .unset, .unset] [(.ref a)])) _
  refine XS.astore Xs0.here hx rfl (hb hby at_99) rfl rfl (l' := #[.val (.int q0), .val (.int q1), .val (.int q2), .val (.int q3), .val (.int q4), .val (.int kk), .val (.int x0), .val (.int x1), .val (.int x2), .val (.int dd), .val (.int ((x0 + (1 : Int32)) + dd)), .val (.ref a), .unset]) rfl ?_
  show Steps p.tables e below (Ts0.setTop (mkF m 101 #[.val (.int q0), .val (.int q1), .val (.int q2), .val (.int q3), .val (.int q4), .val (.int kk), .val (.int x0), .val (.int x1), .val (.int x2), .val (.int dd), .val (.int ((x0 + (1 : Int32)) + dd)), .val (.ref a), .unset] [])) _
  refine XS.aload Xs0.here hx rfl (hb hby at_101) rfl rfl ?_
  show Steps p.tables e below (Ts0.setTop (mkF m 103 #[.val (.int q0), .val (.int q1), .val (.int q2), .val (.int q3), .val (.int q4), .val (.int kk), .val (.int x0), .val (.int x1), .val (.int x2), .val (.int dd), .val (.int ((x0 + (1 : Int32)) + dd)), .val (.ref a), .unset] [(.ref a)])) _
  refine XS.iload Xs0.here hx rfl (hb hby at_103) rfl ?_
  show Steps p.tables e below (Ts0.setTop (mkF m 105 #[.val (.int q0), .val (.int q1), .val (.int q2), .val (.int q3), .val (.int q4), .val (.int kk), .val (.int x0), .val (.int x1), .val (.int x2), .val (.int dd), .val (.int ((x0 + (1 : Int32)) + dd)), .val (.ref a), .unset] [(.int ((x0 + (1 : Int32)) + dd)), (.ref a)])) _
  refine stc _ ?_
  show Steps p.tables e below (Tc.setTop (mkF m 108 #[.val (.int q0), .val (.int q1), .val (.int q2), .val (.int q3), .val (.int q4), .val (.int kk), .val (.int x0), .val (.int x1), .val (.int x2), .val (.int dd), .val (.int ((x0 + (1 : Int32)) + dd)), .val (.ref a), .unset] [(.int (1 : Int32))])) _
  refine XS.istore Xc.here hx rfl (hb hby at_108) rfl (l' := #[.val (.int q0), .val (.int q1), .val (.int q2), .val (.int q3), .val (.int q4), .val (.int kk), .val (.int x0), .val (.int x1), .val (.int x2), .val (.int dd), .val (.int ((x0 + (1 : Int32)) + dd)), .val (.ref a), .val (.int (1 : Int32))]) rfl ?_
  show Steps p.tables e below (Tc.setTop (mkF m 110 #[.val (.int q0), .val (.int q1), .val (.int q2), .val (.int q3), .val (.int q4), .val (.int kk), .val (.int x0), .val (.int x1), .val (.int x2), .val (.int dd), .val (.int ((x0 + (1 : Int32)) + dd)), .val (.ref a), .val (.int (1 : Int32))] [])) _
  refine XS.iload Xc.here hx rfl (hb hby at_110) rfl ?_
  show Steps p.tables e below (Tc.setTop (mkF m 112 #[.val (.int q0), .val (.int q1), .val (.int q2), .val (.int q3), .val (.int q4), .val (.int kk), .val (.int x0), .val (.int x1), .val (.int x2), .val (.int dd), .val (.int ((x0 + (1 : Int32)) + dd)), .val (.ref a), .val (.int (1 : Int32))] [(.int x0)])) _
  refine XS.iload Xc.here hx rfl (hb hby at_112) rfl ?_
  show Steps p.tables e below (Tc.setTop (mkF m 114 #[.val (.int q0), .val (.int q1), .val (.int q2), .val (.int q3), .val (.int q4), .val (.int kk), .val (.int x0), .val (.int x1), .val (.int x2), .val (.int dd), .val (.int ((x0 + (1 : Int32)) + dd)), .val (.ref a), .val (.int (1 : Int32))] [(.int ((x0 + (1 : Int32)) + dd)), (.int x0)])) _
  refine XS.iconst Xc.here hx rfl (hb hby at_114) ?_
  show Steps p.tables e below (Tc.setTop (mkF m 115 #[.val (.int q0), .val (.int q1), .val (.int q2), .val (.int q3), .val (.int q4), .val (.int kk), .val (.int x0), .val (.int x1), .val (.int x2), .val (.int dd), .val (.int ((x0 + (1 : Int32)) + dd)), .val (.ref a), .val (.int (1 : Int32))] [(.int (1 : Int32)), (.int ((x0 + (1 : Int32)) + dd)), (.int x0)])) _
  refine XS.isub Xc.here hx rfl (hb hby at_115) rfl ?_
  show Steps p.tables e below (Tc.setTop (mkF m 116 #[.val (.int q0), .val (.int q1), .val (.int q2), .val (.int q3), .val (.int q4), .val (.int kk), .val (.int x0), .val (.int x1), .val (.int x2), .val (.int dd), .val (.int ((x0 + (1 : Int32)) + dd)), .val (.ref a), .val (.int (1 : Int32))] [(.int (((x0 + (1 : Int32)) + dd) - (1 : Int32))), (.int x0)])) _
  refine XS.icmpNo Xc.here hx rfl (hb hby at_116) rfl (tlt (hc0 : x0 < (((x0 + (1 : Int32)) + dd) - (1 : Int32)))).2.1 ?_
  show Steps p.tables e below (Tc.setTop (mkF m 119 #[.val (.int q0), .val (.int q1), .val (.int q2), .val (.int q3), .val (.int q4), .val (.int kk), .val (.int x0), .val (.int x1), .val (.int x2), .val (.int dd), .val (.int ((x0 + (1 : Int32)) + dd)), .val (.ref a), .val (.int (1 : Int32))] [])) _
  refine XS.iload Xc.here hx rfl (hb hby at_119) rfl ?_
  show Steps p.tables e below (Tc.setTop (mkF m 121 #[.val (.int q0), .val (.int q1), .val (.int q2), .val (.int q3), .val (.int q4), .val (.int kk), .val (.int x0), .val (.int x1), .val (.int x2), .val (.int dd), .val (.int ((x0 + (1 : Int32)) + dd)), .val (.ref a), .val (.int (1 : Int32))] [(.int (1 : Int32))])) _
  refine XS.ifNo Xc.here hx rfl (hb hby at_121) rfl ((if0 _ _).trans (feq (by decide : ¬ ((1 : Int32) = (0 : Int32)))).1) ?_
  show Steps p.tables e below (Tc.setTop (mkF m 124 #[.val (.int q0), .val (.int q1), .val (.int q2), .val (.int q3), .val (.int q4), .val (.int kk), .val (.int x0), .val (.int x1), .val (.int x2), .val (.int dd), .val (.int ((x0 + (1 : Int32)) + dd)), .val (.ref a), .val (.int (1 : Int32))] [])) _
  refine XS.aload Xc.here hx rfl (hb hby at_124) rfl rfl ?_
  show Steps p.tables e below (Tc.setTop (mkF m 126 #[.val (.int q0), .val (.int q1), .val (.int q2), .val (.int q3), .val (.int q4), .val (.int kk), .val (.int x0), .val (.int x1), .val (.int x2), .val (.int dd), .val (.int ((x0 + (1 : Int32)) + dd)), .val (.ref a), .val (.int (1 : Int32))] [(.ref a)])) _
  refine XS.iconst Xc.here hx rfl (hb hby at_126) ?_
  show Steps p.tables e below (Tc.setTop (mkF m 127 #[.val (.int q0), .val (.int q1), .val (.int q2), .val (.int q3), .val (.int q4), .val (.int kk), .val (.int x0), .val (.int x1), .val (.int x2), .val (.int dd), .val (.int ((x0 + (1 : Int32)) + dd)), .val (.ref a), .val (.int (1 : Int32))] [(.int (0 : Int32)), (.ref a)])) _
  refine own_ild Xc hx hZ rfl Vc 0 (by decide) (by decide) (by decide) rfl (g := (mkF m 127 #[.val (.int q0), .val (.int q1), .val (.int q2), .val (.int q3), .val (.int q4), .val (.int kk), .val (.int x0), .val (.int x1), .val (.int x2), .val (.int dd), .val (.int ((x0 + (1 : Int32)) + dd)), .val (.ref a), .val (.int (1 : Int32))] [(.int (0 : Int32)), (.ref a)])) rfl rfl (hb hby at_127) _ ?_
  show Steps p.tables e below (Tc.setTop (mkF m 128 #[.val (.int q0), .val (.int q1), .val (.int q2), .val (.int q3), .val (.int q4), .val (.int kk), .val (.int x0), .val (.int x1), .val (.int x2), .val (.int dd), .val (.int ((x0 + (1 : Int32)) + dd)), .val (.ref a), .val (.int (1 : Int32))] [(.int (x0 + (1 : Int32)))])) _
  refine XS.iload Xc.here hx rfl (hb hby at_128) rfl ?_
  show Steps p.tables e below (Tc.setTop (mkF m 130 #[.val (.int q0), .val (.int q1), .val (.int q2), .val (.int q3), .val (.int q4), .val (.int kk), .val (.int x0), .val (.int x1), .val (.int x2), .val (.int dd), .val (.int ((x0 + (1 : Int32)) + dd)), .val (.ref a), .val (.int (1 : Int32))] [(.int x0), (.int (x0 + (1 : Int32)))])) _
  refine XS.iconst Xc.here hx rfl (hb hby at_130) ?_
  show Steps p.tables e below (Tc.setTop (mkF m 131 #[.val (.int q0), .val (.int q1), .val (.int q2), .val (.int q3), .val (.int q4), .val (.int kk), .val (.int x0), .val (.int x1), .val (.int x2), .val (.int dd), .val (.int ((x0 + (1 : Int32)) + dd)), .val (.ref a), .val (.int (1 : Int32))] [(.int (1 : Int32)), (.int x0), (.int (x0 + (1 : Int32)))])) _
  refine XS.iadd Xc.here hx rfl (hb hby at_131) rfl ?_
  show Steps p.tables e below (Tc.setTop (mkF m 132 #[.val (.int q0), .val (.int q1), .val (.int q2), .val (.int q3), .val (.int q4), .val (.int kk), .val (.int x0), .val (.int x1), .val (.int x2), .val (.int dd), .val (.int ((x0 + (1 : Int32)) + dd)), .val (.ref a), .val (.int (1 : Int32))] [(.int (x0 + (1 : Int32))), (.int (x0 + (1 : Int32)))])) _
  refine XS.icmpNo Xc.here hx rfl (hb hby at_132) rfl (teq (rfl : (x0 + (1 : Int32)) = (x0 + (1 : Int32)))).2 ?_
  show Steps p.tables e below (Tc.setTop (mkF m 135 #[.val (.int q0), .val (.int q1), .val (.int q2), .val (.int q3), .val (.int q4), .val (.int kk), .val (.int x0), .val (.int x1), .val (.int x2), .val (.int dd), .val (.int ((x0 + (1 : Int32)) + dd)), .val (.ref a), .val (.int (1 : Int32))] [])) _
  refine XS.iconst Xc.here hx rfl (hb hby at_135) ?_
  show Steps p.tables e below (Tc.setTop (mkF m 136 #[.val (.int q0), .val (.int q1), .val (.int q2), .val (.int q3), .val (.int q4), .val (.int kk), .val (.int x0), .val (.int x1), .val (.int x2), .val (.int dd), .val (.int ((x0 + (1 : Int32)) + dd)), .val (.ref a), .val (.int (1 : Int32))] [(.int (1 : Int32))])) _
  refine XS.goto Xc.here hx rfl (pc0 := 136) (pc' := 140) rfl (hb hby at_136) (by decide) (by decide) ?_
  exact kt
set_option maxRecDepth 65536 in
set_option maxHeartbeats 4000000 in
theorem own_law_1_1 {p : Program} {l : Launch} {e : Env} {s : State} {m : MethodId} {args : Array Value} {below : List Frame} {meth : Method} {c : Code} {T : State} {locs : List Loc} {Z : State} {a0 : Array Value} (q0 q1 q2 q3 q4 kk x0 x1 x2 dd : Int32) (hw : ∀ d ∈ tables_1, d.before a0 Z = true) (X0 : Stand p l e room_1 s m args below meth c T locs 0 0) (hx : p.tables.exec = Jvm.exec) (hZ : Z.Warmed39 s.vm) (hby : c.code = code) (hml : c.maxLocals = 13) (hown : s.vm.findClass "com/example/ashlar/ashlar/storage/SubsetsNextPinLaw" = some m.cls) {h0 : Heap} (e0 : T.heap = h0) {n0 : Nat} (Z0 : n0 ≤ h0.size) (N0 : Fr n0 locs) (hc0 : ¬ (x0 < (((x0 + (1 : Int32)) + dd) - (1 : Int32)))) :
    ∃ (T' : State) (l' : List Loc) (pcr : Nat) (Lr : Array Slot) (sl : Nat), sl ≤ 128 ∧ Stand p l e room_1 s m args below meth c T' l' 1 sl ∧ Fr n0 l' ∧ decode c.code pcr = .ok (.ireturn, 1) ∧ ∀ t, Steps p.tables e below (T'.setTop (mkF m pcr Lr [(.int (1 : Int32))])) t → Steps p.tables e below (T.setTop (mkF m 82 #[.val (.int q0), .val (.int q1), .val (.int q2), .val (.int q3), .val (.int q4), .val (.int kk), .val (.int x0), .val (.int x1), .val (.int x2), .val (.int dd), .unset, .unset, .unset] [])) t := by
  obtain ⟨Ta, ha, ka, Xa, ea, Ea, Aa, sta⟩ := newP X0 hx hZ (hw _ (List.mem_of_getElem? (i := 5) rfl)) e0 (g := (mkF m 92 #[.val (.int q0), .val (.int q1), .val (.int q2), .val (.int q3), .val (.int q4), .val (.int kk), .val (.int x0), .val (.int x1), .val (.int x2), .val (.int dd), .val (.int ((x0 + (1 : Int32)) + dd)), .unset, .unset] [(.int (1 : Int32))])) rfl (hb hby at_92) rfl (by decide) (cap := 1) (by decide) (by decide) (by decide) (by decide)
  obtain ⟨a, ga⟩ : ∃ z, z = h0.size := ⟨_, rfl⟩
  rw [← ga] at Aa sta
  have Va : Arv Z ha a ka .int (1 : Int32) [(.int (0 : Int32))] (.int (0 : Int32)) := (Arv.new Aa (by decide)).pad (pad_rep [] (.int (0 : Int32)) 1)
  have g_a : n0 ≤ a := Nat.le_trans Z0 (Nat.le_of_eq ga.symm)
  obtain ⟨Ts0, hs0, Xs0, es0, Ws0, Vs0', sts0⟩ := own_ist Xa hx hZ ea Va 0 (by decide) (by decide) (by decide) (Nat.le_of_ble_eq_true rfl) (g := (mkF m 98 #[.val (.int q0), .val (.int q1), .val (.int q2), .val (.int q3), .val (.int q4), .val (.int kk), .val (.int x0), .val (.int x1), .val (.int x2), .val (.int dd), .val (.int ((x0 + (1 : Int32)) + dd)), .unset, .unset] [(.int x0), (.int (0 : Int32)), (.ref a), (.ref a)])) rfl rfl (hb hby at_98)
  have Vs0 : Arv Z hs0 a ka .int (1 : Int32) [(.int x0)] (.int 0) := Vs0'
  have Ns0 := Fr.snoc Xs0 N0 g_a
  obtain ⟨_, _, ⟨Tc, Lc, kc, nc⟩, -, Xc, ⟨Lcc, hQc, lc, yc, zc⟩, stc⟩ := Jvm.LawKit.callS Xs0 hx (y := (⟨"com/example/ashlar/ashlar/storage/Subsets", "next", "([II)Z"⟩ : MethodName)) hown (mvT hZ (hw _ (List.mem_of_getElem? (i := 6) rfl))) (mvT hZ (hw _ (List.mem_of_getElem? (i := 7) rfl))) (mvT hZ (hw _ (List.mem_of_getElem? (i := 8) rfl))) (mvT hZ (hw _ (List.mem_of_getElem? (i := 9) rfl))) (by decide) (backOf (W := 0) (rm2_1_1 l Z a0 hw [] a ((x0 + (1 : Int32)) + dd) ka x0 hs0 n0 g_a Vs0 (by rw [own_s10]; exact hc0)) hZ (hw _ (List.mem_of_getElem? (i := 9) rfl)) (hw _ (List.mem_of_getElem? (i := 8) rfl)) (by decide) (by decide)) (g := (mkF m 105 #[.val (.int q0), .val (.int q1), .val (.int q2), .val (.int q3), .val (.int q4), .val (.int kk), .val (.int x0), .val (.int x1), .val (.int x2), .val (.int dd), .val (.int ((x0 + (1 : Int32)) + dd)), .val (.ref a), .unset] [(.int ((x0 + (1 : Int32)) + dd)), (.ref a)])) rfl (by rw [hml]; rfl) (argsL := [(.ref a), (.int ((x0 + (1 : Int32)) + dd))]) (rest := []) (lenOf pd_0_n rfl) rfl (by show 2 * 0 + _ ≤ _; exact Nat.le_of_eq rfl) (hb hby at_105) (fun _ _ => ⟨rfl, es0, (by decide : 1 + 0 ≤ _), (by decide : 1 + 0 ≤ _)⟩)
  dsimp only [Pt.U, Pt.locs, Pt.cells, Pt.slots] at Xc lc yc zc stc hQc
  subst lc yc zc
  obtain ⟨rfl, Ncq, Vc⟩ := hQc
  have Nc := Fr.app Ns0 Ncq
  refine ⟨Tc, _, 160, #[.val (.int q0), .val (.int q1), .val (.int q2), .val (.int q3), .val (.int q4), .val (.int kk), .val (.int x0), .val (.int x1), .val (.int x2), .val (.int dd), .val (.int ((x0 + (1 : Int32)) + dd)), .val (.ref a), .val (.int (0 : Int32))], 1, by decide, Xc, Nc, hb hby at_160, fun t kt => ?_⟩
  show Steps p.tables e below (T.setTop (mkF m 82 #[.val (.int q0), .val (.int q1), .val (.int q2), .val (.int q3), .val (.int q4), .val (.int kk), .val (.int x0), .val (.int x1), .val (.int x2), .val (.int dd), .unset, .unset, .unset] [])) _
  refine XS.iload X0.here hx rfl (hb hby at_82) rfl ?_
  show Steps p.tables e below (T.setTop (mkF m 84 #[.val (.int q0), .val (.int q1), .val (.int q2), .val (.int q3), .val (.int q4), .val (.int kk), .val (.int x0), .val (.int x1), .val (.int x2), .val (.int dd), .unset, .unset, .unset] [(.int x0)])) _
  refine XS.iconst X0.here hx rfl (hb hby at_84) ?_
  show Steps p.tables e below (T.setTop (mkF m 85 #[.val (.int q0), .val (.int q1), .val (.int q2), .val (.int q3), .val (.int q4), .val (.int kk), .val (.int x0), .val (.int x1), .val (.int x2), .val (.int dd), .unset, .unset, .unset] [(.int (1 : Int32)), (.int x0)])) _
  refine XS.iadd X0.here hx rfl (hb hby at_85) rfl ?_
  show Steps p.tables e below (T.setTop (mkF m 86 #[.val (.int q0), .val (.int q1), .val (.int q2), .val (.int q3), .val (.int q4), .val (.int kk), .val (.int x0), .val (.int x1), .val (.int x2), .val (.int dd), .unset, .unset, .unset] [(.int (x0 + (1 : Int32)))])) _
  refine XS.iload X0.here hx rfl (hb hby at_86) rfl ?_
  show Steps p.tables e below (T.setTop (mkF m 88 #[.val (.int q0), .val (.int q1), .val (.int q2), .val (.int q3), .val (.int q4), .val (.int kk), .val (.int x0), .val (.int x1), .val (.int x2), .val (.int dd), .unset, .unset, .unset] [(.int dd), (.int (x0 + (1 : Int32)))])) _
  refine XS.iadd X0.here hx rfl (hb hby at_88) rfl ?_
  show Steps p.tables e below (T.setTop (mkF m 89 #[.val (.int q0), .val (.int q1), .val (.int q2), .val (.int q3), .val (.int q4), .val (.int kk), .val (.int x0), .val (.int x1), .val (.int x2), .val (.int dd), .unset, .unset, .unset] [(.int ((x0 + (1 : Int32)) + dd))])) _
  refine XS.istore X0.here hx rfl (hb hby at_89) rfl (l' := #[.val (.int q0), .val (.int q1), .val (.int q2), .val (.int q3), .val (.int q4), .val (.int kk), .val (.int x0), .val (.int x1), .val (.int x2), .val (.int dd), .val (.int ((x0 + (1 : Int32)) + dd)), .unset, .unset]) rfl ?_
  show Steps p.tables e below (T.setTop (mkF m 91 #[.val (.int q0), .val (.int q1), .val (.int q2), .val (.int q3), .val (.int q4), .val (.int kk), .val (.int x0), .val (.int x1), .val (.int x2), .val (.int dd), .val (.int ((x0 + (1 : Int32)) + dd)), .unset, .unset] [])) _
  refine XS.iconst X0.here hx rfl (hb hby at_91) ?_
  show Steps p.tables e below (T.setTop (mkF m 92 #[.val (.int q0), .val (.int q1), .val (.int q2), .val (.int q3), .val (.int q4), .val (.int kk), .val (.int x0), .val (.int x1), .val (.int x2), .val (.int dd), .val (.int ((x0 + (1 : Int32)) + dd)), .unset, .unset] [(.int (1 : Int32))])) _
  refine sta _ ?_
  show Steps p.tables e below (Ta.setTop (mkF m 94 #[.val (.int q0), .val (.int q1), .val (.int q2), .val (.int q3), .val (.int q4), .val (.int kk), .val (.int x0), .val (.int x1), .val (.int x2), .val (.int dd), .val (.int ((x0 + (1 : Int32)) + dd)), .unset, .unset] [(.ref a)])) _
  refine XS.dup Xa.here hx rfl (hb hby at_94) rfl rfl ?_
  show Steps p.tables e below (Ta.setTop (mkF m 95 #[.val (.int q0), .val (.int q1), .val (.int q2), .val (.int q3), .val (.int q4), .val (.int kk), .val (.int x0), .val (.int x1), .val (.int x2), .val (.int dd), .val (.int ((x0 + (1 : Int32)) + dd)), .unset, .unset] [(.ref a), (.ref a)])) _
  refine XS.iconst Xa.here hx rfl (hb hby at_95) ?_
  show Steps p.tables e below (Ta.setTop (mkF m 96 #[.val (.int q0), .val (.int q1), .val (.int q2), .val (.int q3), .val (.int q4), .val (.int kk), .val (.int x0), .val (.int x1), .val (.int x2), .val (.int dd), .val (.int ((x0 + (1 : Int32)) + dd)), .unset, .unset] [(.int (0 : Int32)), (.ref a), (.ref a)])) _
  refine XS.iload Xa.here hx rfl (hb hby at_96) rfl ?_
  show Steps p.tables e below (Ta.setTop (mkF m 98 #[.val (.int q0), .val (.int q1), .val (.int q2), .val (.int q3), .val (.int q4), .val (.int kk), .val (.int x0), .val (.int x1), .val (.int x2), .val (.int dd), .val (.int ((x0 + (1 : Int32)) + dd)), .unset, .unset] [(.int x0), (.int (0 : Int32)), (.ref a), (.ref a)])) _
  refine sts0 _ ?_
  show Steps p.tables e below (Ts0.setTop (mkF m 99 #[.val (.int q0), .val (.int q1), .val (.int q2), .val (.int q3), .val (.int q4), .val (.int kk), .val (.int x0), .val (.int x1), .val (.int x2), .val (.int dd), .val (.int ((x0 + (1 : Int32)) + dd)), .unset, .unset] [(.ref a)])) _
  refine XS.astore Xs0.here hx rfl (hb hby at_99) rfl rfl (l' := #[.val (.int q0), .val (.int q1), .val (.int q2), .val (.int q3), .val (.int q4), .val (.int kk), .val (.int x0), .val (.int x1), .val (.int x2), .val (.int dd), .val (.int ((x0 + (1 : Int32)) + dd)), .val (.ref a), .unset]) rfl ?_
  show Steps p.tables e below (Ts0.setTop (mkF m 101 #[.val (.int q0), .val (.int q1), .val (.int q2), .val (.int q3), .val (.int q4), .val (.int kk), .val (.int x0), .val (.int x1), .val (.int x2), .val (.int dd), .val (.int ((x0 + (1 : Int32)) + dd)), .val (.ref a), .unset] [])) _
  refine XS.aload Xs0.here hx rfl (hb hby at_101) rfl rfl ?_
  show Steps p.tables e below (Ts0.setTop (mkF m 103 #[.val (.int q0), .val (.int q1), .val (.int q2), .val (.int q3), .val (.int q4), .val (.int kk), .val (.int x0), .val (.int x1), .val (.int x2), .val (.int dd), .val (.int ((x0 + (1 : Int32)) + dd)), .val (.ref a), .unset] [(.ref a)])) _
  refine XS.iload Xs0.here hx rfl (hb hby at_103) rfl ?_
  show Steps p.tables e below (Ts0.setTop (mkF m 105 #[.val (.int q0), .val (.int q1), .val (.int q2), .val (.int q3), .val (.int q4), .val (.int kk), .val (.int x0), .val (.int x1), .val (.int x2), .val (.int dd), .val (.int ((x0 + (1 : Int32)) + dd)), .val (.ref a), .unset] [(.int ((x0 + (1 : Int32)) + dd)), (.ref a)])) _
  refine stc _ ?_
  show Steps p.tables e below (Tc.setTop (mkF m 108 #[.val (.int q0), .val (.int q1), .val (.int q2), .val (.int q3), .val (.int q4), .val (.int kk), .val (.int x0), .val (.int x1), .val (.int x2), .val (.int dd), .val (.int ((x0 + (1 : Int32)) + dd)), .val (.ref a), .unset] [(.int (0 : Int32))])) _
  refine XS.istore Xc.here hx rfl (hb hby at_108) rfl (l' := #[.val (.int q0), .val (.int q1), .val (.int q2), .val (.int q3), .val (.int q4), .val (.int kk), .val (.int x0), .val (.int x1), .val (.int x2), .val (.int dd), .val (.int ((x0 + (1 : Int32)) + dd)), .val (.ref a), .val (.int (0 : Int32))]) rfl ?_
  show Steps p.tables e below (Tc.setTop (mkF m 110 #[.val (.int q0), .val (.int q1), .val (.int q2), .val (.int q3), .val (.int q4), .val (.int kk), .val (.int x0), .val (.int x1), .val (.int x2), .val (.int dd), .val (.int ((x0 + (1 : Int32)) + dd)), .val (.ref a), .val (.int (0 : Int32))] [])) _
  refine XS.iload Xc.here hx rfl (hb hby at_110) rfl ?_
  show Steps p.tables e below (Tc.setTop (mkF m 112 #[.val (.int q0), .val (.int q1), .val (.int q2), .val (.int q3), .val (.int q4), .val (.int kk), .val (.int x0), .val (.int x1), .val (.int x2), .val (.int dd), .val (.int ((x0 + (1 : Int32)) + dd)), .val (.ref a), .val (.int (0 : Int32))] [(.int x0)])) _
  refine XS.iload Xc.here hx rfl (hb hby at_112) rfl ?_
  show Steps p.tables e below (Tc.setTop (mkF m 114 #[.val (.int q0), .val (.int q1), .val (.int q2), .val (.int q3), .val (.int q4), .val (.int kk), .val (.int x0), .val (.int x1), .val (.int x2), .val (.int dd), .val (.int ((x0 + (1 : Int32)) + dd)), .val (.ref a), .val (.int (0 : Int32))] [(.int ((x0 + (1 : Int32)) + dd)), (.int x0)])) _
  refine XS.iconst Xc.here hx rfl (hb hby at_114) ?_
  show Steps p.tables e below (Tc.setTop (mkF m 115 #[.val (.int q0), .val (.int q1), .val (.int q2), .val (.int q3), .val (.int q4), .val (.int kk), .val (.int x0), .val (.int x1), .val (.int x2), .val (.int dd), .val (.int ((x0 + (1 : Int32)) + dd)), .val (.ref a), .val (.int (0 : Int32))] [(.int (1 : Int32)), (.int ((x0 + (1 : Int32)) + dd)), (.int x0)])) _
  refine XS.isub Xc.here hx rfl (hb hby at_115) rfl ?_
  show Steps p.tables e below (Tc.setTop (mkF m 116 #[.val (.int q0), .val (.int q1), .val (.int q2), .val (.int q3), .val (.int q4), .val (.int kk), .val (.int x0), .val (.int x1), .val (.int x2), .val (.int dd), .val (.int ((x0 + (1 : Int32)) + dd)), .val (.ref a), .val (.int (0 : Int32))] [(.int (((x0 + (1 : Int32)) + dd) - (1 : Int32))), (.int x0)])) _
  refine XS.icmpYes Xc.here hx rfl (pc0 := 116) (pc' := 141) rfl (hb hby at_116) rfl (flt (hc0 : ¬ (x0 < (((x0 + (1 : Int32)) + dd) - (1 : Int32))))).2.1 (by decide) (by decide) ?_
  show Steps p.tables e below (Tc.setTop (mkF m 141 #[.val (.int q0), .val (.int q1), .val (.int q2), .val (.int q3), .val (.int q4), .val (.int kk), .val (.int x0), .val (.int x1), .val (.int x2), .val (.int dd), .val (.int ((x0 + (1 : Int32)) + dd)), .val (.ref a), .val (.int (0 : Int32))] [])) _
  refine XS.iload Xc.here hx rfl (hb hby at_141) rfl ?_
  show Steps p.tables e below (Tc.setTop (mkF m 143 #[.val (.int q0), .val (.int q1), .val (.int q2), .val (.int q3), .val (.int q4), .val (.int kk), .val (.int x0), .val (.int x1), .val (.int x2), .val (.int dd), .val (.int ((x0 + (1 : Int32)) + dd)), .val (.ref a), .val (.int (0 : Int32))] [(.int (0 : Int32))])) _
  refine XS.ifNo Xc.here hx rfl (hb hby at_143) rfl ((if0 _ _).trans (teq (by decide : (0 : Int32) = (0 : Int32))).2) ?_
  show Steps p.tables e below (Tc.setTop (mkF m 146 #[.val (.int q0), .val (.int q1), .val (.int q2), .val (.int q3), .val (.int q4), .val (.int kk), .val (.int x0), .val (.int x1), .val (.int x2), .val (.int dd), .val (.int ((x0 + (1 : Int32)) + dd)), .val (.ref a), .val (.int (0 : Int32))] [])) _
  refine XS.aload Xc.here hx rfl (hb hby at_146) rfl rfl ?_
  show Steps p.tables e below (Tc.setTop (mkF m 148 #[.val (.int q0), .val (.int q1), .val (.int q2), .val (.int q3), .val (.int q4), .val (.int kk), .val (.int x0), .val (.int x1), .val (.int x2), .val (.int dd), .val (.int ((x0 + (1 : Int32)) + dd)), .val (.ref a), .val (.int (0 : Int32))] [(.ref a)])) _
  refine XS.iconst Xc.here hx rfl (hb hby at_148) ?_
  show Steps p.tables e below (Tc.setTop (mkF m 149 #[.val (.int q0), .val (.int q1), .val (.int q2), .val (.int q3), .val (.int q4), .val (.int kk), .val (.int x0), .val (.int x1), .val (.int x2), .val (.int dd), .val (.int ((x0 + (1 : Int32)) + dd)), .val (.ref a), .val (.int (0 : Int32))] [(.int (0 : Int32)), (.ref a)])) _
  refine own_ild Xc hx hZ rfl Vc 0 (by decide) (by decide) (by decide) rfl (g := (mkF m 149 #[.val (.int q0), .val (.int q1), .val (.int q2), .val (.int q3), .val (.int q4), .val (.int kk), .val (.int x0), .val (.int x1), .val (.int x2), .val (.int dd), .val (.int ((x0 + (1 : Int32)) + dd)), .val (.ref a), .val (.int (0 : Int32))] [(.int (0 : Int32)), (.ref a)])) rfl rfl (hb hby at_149) _ ?_
  show Steps p.tables e below (Tc.setTop (mkF m 150 #[.val (.int q0), .val (.int q1), .val (.int q2), .val (.int q3), .val (.int q4), .val (.int kk), .val (.int x0), .val (.int x1), .val (.int x2), .val (.int dd), .val (.int ((x0 + (1 : Int32)) + dd)), .val (.ref a), .val (.int (0 : Int32))] [(.int x0)])) _
  refine XS.iload Xc.here hx rfl (hb hby at_150) rfl ?_
  show Steps p.tables e below (Tc.setTop (mkF m 152 #[.val (.int q0), .val (.int q1), .val (.int q2), .val (.int q3), .val (.int q4), .val (.int kk), .val (.int x0), .val (.int x1), .val (.int x2), .val (.int dd), .val (.int ((x0 + (1 : Int32)) + dd)), .val (.ref a), .val (.int (0 : Int32))] [(.int x0), (.int x0)])) _
  refine XS.icmpNo Xc.here hx rfl (hb hby at_152) rfl (teq (rfl : x0 = x0)).2 ?_
  show Steps p.tables e below (Tc.setTop (mkF m 155 #[.val (.int q0), .val (.int q1), .val (.int q2), .val (.int q3), .val (.int q4), .val (.int kk), .val (.int x0), .val (.int x1), .val (.int x2), .val (.int dd), .val (.int ((x0 + (1 : Int32)) + dd)), .val (.ref a), .val (.int (0 : Int32))] [])) _
  refine XS.iconst Xc.here hx rfl (hb hby at_155) ?_
  show Steps p.tables e below (Tc.setTop (mkF m 156 #[.val (.int q0), .val (.int q1), .val (.int q2), .val (.int q3), .val (.int q4), .val (.int kk), .val (.int x0), .val (.int x1), .val (.int x2), .val (.int dd), .val (.int ((x0 + (1 : Int32)) + dd)), .val (.ref a), .val (.int (0 : Int32))] [(.int (1 : Int32))])) _
  refine XS.goto Xc.here hx rfl (pc0 := 156) (pc' := 160) rfl (hb hby at_156) (by decide) (by decide) ?_
  exact kt
set_option maxRecDepth 65536 in
set_option maxHeartbeats 4000000 in
theorem own_law_2_0 {p : Program} {l : Launch} {e : Env} {s : State} {m : MethodId} {args : Array Value} {below : List Frame} {meth : Method} {c : Code} {T : State} {locs : List Loc} {Z : State} {a0 : Array Value} (q0 q1 q2 q3 q4 kk x0 x1 x2 dd : Int32) (hw : ∀ d ∈ tables_1, d.before a0 Z = true) (X0 : Stand p l e room_1 s m args below meth c T locs 0 0) (hx : p.tables.exec = Jvm.exec) (hZ : Z.Warmed39 s.vm) (hby : c.code = code) (hml : c.maxLocals = 13) (hown : s.vm.findClass "com/example/ashlar/ashlar/storage/SubsetsNextPinLaw" = some m.cls) {h0 : Heap} (e0 : T.heap = h0) {n0 : Nat} (Z0 : n0 ≤ h0.size) (N0 : Fr n0 locs) (hc1 : x1 < (((x1 + (1 : Int32)) + dd) - (1 : Int32))) :
    ∃ (T' : State) (l' : List Loc) (pcr : Nat) (Lr : Array Slot) (sl : Nat), sl ≤ 128 ∧ Stand p l e room_1 s m args below meth c T' l' 1 sl ∧ Fr n0 l' ∧ decode c.code pcr = .ok (.ireturn, 1) ∧ ∀ t, Steps p.tables e below (T'.setTop (mkF m pcr Lr [(.int (1 : Int32))])) t → Steps p.tables e below (T.setTop (mkF m 167 #[.val (.int q0), .val (.int q1), .val (.int q2), .val (.int q3), .val (.int q4), .val (.int kk), .val (.int x0), .val (.int x1), .val (.int x2), .val (.int dd), .unset, .unset, .unset] [])) t := by
  obtain ⟨Ta, ha, ka, Xa, ea, Ea, Aa, sta⟩ := newP X0 hx hZ (hw _ (List.mem_of_getElem? (i := 5) rfl)) e0 (g := (mkF m 177 #[.val (.int q0), .val (.int q1), .val (.int q2), .val (.int q3), .val (.int q4), .val (.int kk), .val (.int x0), .val (.int x1), .val (.int x2), .val (.int dd), .val (.int ((x1 + (1 : Int32)) + dd)), .unset, .unset] [(.int (2 : Int32))])) rfl (hb hby at_177) rfl (by decide) (cap := 2) (by decide) (by decide) (by decide) (by decide)
  obtain ⟨a, ga⟩ : ∃ z, z = h0.size := ⟨_, rfl⟩
  rw [← ga] at Aa sta
  have Va : Arv Z ha a ka .int (2 : Int32) [(.int (0 : Int32)), (.int (0 : Int32))] (.int (0 : Int32)) := (Arv.new Aa (by decide)).pad (pad_rep [] (.int (0 : Int32)) 2)
  have g_a : n0 ≤ a := Nat.le_trans Z0 (Nat.le_of_eq ga.symm)
  obtain ⟨Ts0, hs0, Xs0, es0, Ws0, Vs0', sts0⟩ := own_ist Xa hx hZ ea Va 0 (by decide) (by decide) (by decide) (Nat.le_of_ble_eq_true rfl) (g := (mkF m 183 #[.val (.int q0), .val (.int q1), .val (.int q2), .val (.int q3), .val (.int q4), .val (.int kk), .val (.int x0), .val (.int x1), .val (.int x2), .val (.int dd), .val (.int ((x1 + (1 : Int32)) + dd)), .unset, .unset] [(.int x0), (.int (0 : Int32)), (.ref a), (.ref a)])) rfl rfl (hb hby at_183)
  have Vs0 : Arv Z hs0 a ka .int (2 : Int32) [(.int x0), (.int (0 : Int32))] (.int 0) := Vs0'
  have Ns0 := Fr.snoc Xs0 N0 g_a
  obtain ⟨Ts1, hs1, Xs1, es1, Ws1, Vs1', sts1⟩ := own_ist Xs0 hx hZ es0 Vs0 1 (by decide) (by decide) (by decide) (Nat.le_of_ble_eq_true rfl) (g := (mkF m 188 #[.val (.int q0), .val (.int q1), .val (.int q2), .val (.int q3), .val (.int q4), .val (.int kk), .val (.int x0), .val (.int x1), .val (.int x2), .val (.int dd), .val (.int ((x1 + (1 : Int32)) + dd)), .unset, .unset] [(.int x1), (.int (1 : Int32)), (.ref a), (.ref a)])) rfl rfl (hb hby at_188)
  have Vs1 : Arv Z hs1 a ka .int (2 : Int32) [(.int x0), (.int x1)] (.int 0) := Vs1'
  have Ns1 := Fr.snoc Xs1 Ns0 g_a
  obtain ⟨_, _, ⟨Tc, Lc, kc, nc⟩, -, Xc, ⟨Lcc, hQc, lc, yc, zc⟩, stc⟩ := Jvm.LawKit.callS Xs1 hx (y := (⟨"com/example/ashlar/ashlar/storage/Subsets", "next", "([II)Z"⟩ : MethodName)) hown (mvT hZ (hw _ (List.mem_of_getElem? (i := 6) rfl))) (mvT hZ (hw _ (List.mem_of_getElem? (i := 7) rfl))) (mvT hZ (hw _ (List.mem_of_getElem? (i := 8) rfl))) (mvT hZ (hw _ (List.mem_of_getElem? (i := 9) rfl))) (by decide) (backOf (W := 0) (rm2_2_0 l Z a0 hw [] a ((x1 + (1 : Int32)) + dd) ka x0 x1 hs1 n0 g_a Vs1 (by rw [own_s21]; exact hc1)) hZ (hw _ (List.mem_of_getElem? (i := 9) rfl)) (hw _ (List.mem_of_getElem? (i := 8) rfl)) (by decide) (by decide)) (g := (mkF m 195 #[.val (.int q0), .val (.int q1), .val (.int q2), .val (.int q3), .val (.int q4), .val (.int kk), .val (.int x0), .val (.int x1), .val (.int x2), .val (.int dd), .val (.int ((x1 + (1 : Int32)) + dd)), .val (.ref a), .unset] [(.int ((x1 + (1 : Int32)) + dd)), (.ref a)])) rfl (by rw [hml]; rfl) (argsL := [(.ref a), (.int ((x1 + (1 : Int32)) + dd))]) (rest := []) (lenOf pd_0_n rfl) rfl (by show 2 * 0 + _ ≤ _; exact Nat.le_of_eq rfl) (hb hby at_195) (fun _ _ => ⟨rfl, es1, (by decide : 1 + 0 ≤ _), (by decide : 2 + 0 ≤ _)⟩)
  dsimp only [Pt.U, Pt.locs, Pt.cells, Pt.slots] at Xc lc yc zc stc hQc
  subst lc yc zc
  obtain ⟨rfl, Ncq, Vc⟩ := hQc
  have Nc := Fr.app Ns1 Ncq
  refine ⟨Tc, _, 239, #[.val (.int q0), .val (.int q1), .val (.int q2), .val (.int q3), .val (.int q4), .val (.int kk), .val (.int x0), .val (.int x1), .val (.int x2), .val (.int dd), .val (.int ((x1 + (1 : Int32)) + dd)), .val (.ref a), .val (.int (1 : Int32))], 2, by decide, Xc, Nc, hb hby at_239, fun t kt => ?_⟩
  show Steps p.tables e below (T.setTop (mkF m 167 #[.val (.int q0), .val (.int q1), .val (.int q2), .val (.int q3), .val (.int q4), .val (.int kk), .val (.int x0), .val (.int x1), .val (.int x2), .val (.int dd), .unset, .unset, .unset] [])) _
  refine XS.iload X0.here hx rfl (hb hby at_167) rfl ?_
  show Steps p.tables e below (T.setTop (mkF m 169 #[.val (.int q0), .val (.int q1), .val (.int q2), .val (.int q3), .val (.int q4), .val (.int kk), .val (.int x0), .val (.int x1), .val (.int x2), .val (.int dd), .unset, .unset, .unset] [(.int x1)])) _
  refine XS.iconst X0.here hx rfl (hb hby at_169) ?_
  show Steps p.tables e below (T.setTop (mkF m 170 #[.val (.int q0), .val (.int q1), .val (.int q2), .val (.int q3), .val (.int q4), .val (.int kk), .val (.int x0), .val (.int x1), .val (.int x2), .val (.int dd), .unset, .unset, .unset] [(.int (1 : Int32)), (.int x1)])) _
  refine XS.iadd X0.here hx rfl (hb hby at_170) rfl ?_
  show Steps p.tables e below (T.setTop (mkF m 171 #[.val (.int q0), .val (.int q1), .val (.int q2), .val (.int q3), .val (.int q4), .val (.int kk), .val (.int x0), .val (.int x1), .val (.int x2), .val (.int dd), .unset, .unset, .unset] [(.int (x1 + (1 : Int32)))])) _
  refine XS.iload X0.here hx rfl (hb hby at_171) rfl ?_
  show Steps p.tables e below (T.setTop (mkF m 173 #[.val (.int q0), .val (.int q1), .val (.int q2), .val (.int q3), .val (.int q4), .val (.int kk), .val (.int x0), .val (.int x1), .val (.int x2), .val (.int dd), .unset, .unset, .unset] [(.int dd), (.int (x1 + (1 : Int32)))])) _
  refine XS.iadd X0.here hx rfl (hb hby at_173) rfl ?_
  show Steps p.tables e below (T.setTop (mkF m 174 #[.val (.int q0), .val (.int q1), .val (.int q2), .val (.int q3), .val (.int q4), .val (.int kk), .val (.int x0), .val (.int x1), .val (.int x2), .val (.int dd), .unset, .unset, .unset] [(.int ((x1 + (1 : Int32)) + dd))])) _
  refine XS.istore X0.here hx rfl (hb hby at_174) rfl (l' := #[.val (.int q0), .val (.int q1), .val (.int q2), .val (.int q3), .val (.int q4), .val (.int kk), .val (.int x0), .val (.int x1), .val (.int x2), .val (.int dd), .val (.int ((x1 + (1 : Int32)) + dd)), .unset, .unset]) rfl ?_
  show Steps p.tables e below (T.setTop (mkF m 176 #[.val (.int q0), .val (.int q1), .val (.int q2), .val (.int q3), .val (.int q4), .val (.int kk), .val (.int x0), .val (.int x1), .val (.int x2), .val (.int dd), .val (.int ((x1 + (1 : Int32)) + dd)), .unset, .unset] [])) _
  refine XS.iconst X0.here hx rfl (hb hby at_176) ?_
  show Steps p.tables e below (T.setTop (mkF m 177 #[.val (.int q0), .val (.int q1), .val (.int q2), .val (.int q3), .val (.int q4), .val (.int kk), .val (.int x0), .val (.int x1), .val (.int x2), .val (.int dd), .val (.int ((x1 + (1 : Int32)) + dd)), .unset, .unset] [(.int (2 : Int32))])) _
  refine sta _ ?_
  show Steps p.tables e below (Ta.setTop (mkF m 179 #[.val (.int q0), .val (.int q1), .val (.int q2), .val (.int q3), .val (.int q4), .val (.int kk), .val (.int x0), .val (.int x1), .val (.int x2), .val (.int dd), .val (.int ((x1 + (1 : Int32)) + dd)), .unset, .unset] [(.ref a)])) _
  refine XS.dup Xa.here hx rfl (hb hby at_179) rfl rfl ?_
  show Steps p.tables e below (Ta.setTop (mkF m 180 #[.val (.int q0), .val (.int q1), .val (.int q2), .val (.int q3), .val (.int q4), .val (.int kk), .val (.int x0), .val (.int x1), .val (.int x2), .val (.int dd), .val (.int ((x1 + (1 : Int32)) + dd)), .unset, .unset] [(.ref a), (.ref a)])) _
  refine XS.iconst Xa.here hx rfl (hb hby at_180) ?_
  show Steps p.tables e below (Ta.setTop (mkF m 181 #[.val (.int q0), .val (.int q1), .val (.int q2), .val (.int q3), .val (.int q4), .val (.int kk), .val (.int x0), .val (.int x1), .val (.int x2), .val (.int dd), .val (.int ((x1 + (1 : Int32)) + dd)), .unset, .unset] [(.int (0 : Int32)), (.ref a), (.ref a)])) _
  refine XS.iload Xa.here hx rfl (hb hby at_181) rfl ?_
  show Steps p.tables e below (Ta.setTop (mkF m 183 #[.val (.int q0), .val (.int q1), .val (.int q2), .val (.int q3), .val (.int q4), .val (.int kk), .val (.int x0), .val (.int x1), .val (.int x2), .val (.int dd), .val (.int ((x1 + (1 : Int32)) + dd)), .unset, .unset] [(.int x0), (.int (0 : Int32)), (.ref a), (.ref a)])) _
  refine sts0 _ ?_
  show Steps p.tables e below (Ts0.setTop (mkF m 184 #[.val (.int q0), .val (.int q1), .val (.int q2), .val (.int q3), .val (.int q4), .val (.int kk), .val (.int x0), .val (.int x1), .val (.int x2), .val (.int dd), .val (.int ((x1 + (1 : Int32)) + dd)), .unset, .unset] [(.ref a)])) _
  refine XS.dup Xs0.here hx rfl (hb hby at_184) rfl rfl ?_
  show Steps p.tables e below (Ts0.setTop (mkF m 185 #[.val (.int q0), .val (.int q1), .val (.int q2), .val (.int q3), .val (.int q4), .val (.int kk), .val (.int x0), .val (.int x1), .val (.int x2), .val (.int dd), .val (.int ((x1 + (1 : Int32)) + dd)), .unset, .unset] [(.ref a), (.ref a)])) _
  refine XS.iconst Xs0.here hx rfl (hb hby at_185) ?_
  show Steps p.tables e below (Ts0.setTop (mkF m 186 #[.val (.int q0), .val (.int q1), .val (.int q2), .val (.int q3), .val (.int q4), .val (.int kk), .val (.int x0), .val (.int x1), .val (.int x2), .val (.int dd), .val (.int ((x1 + (1 : Int32)) + dd)), .unset, .unset] [(.int (1 : Int32)), (.ref a), (.ref a)])) _
  refine XS.iload Xs0.here hx rfl (hb hby at_186) rfl ?_
  show Steps p.tables e below (Ts0.setTop (mkF m 188 #[.val (.int q0), .val (.int q1), .val (.int q2), .val (.int q3), .val (.int q4), .val (.int kk), .val (.int x0), .val (.int x1), .val (.int x2), .val (.int dd), .val (.int ((x1 + (1 : Int32)) + dd)), .unset, .unset] [(.int x1), (.int (1 : Int32)), (.ref a), (.ref a)])) _
  refine sts1 _ ?_
  show Steps p.tables e below (Ts1.setTop (mkF m 189 #[.val (.int q0), .val (.int q1), .val (.int q2), .val (.int q3), .val (.int q4), .val (.int kk), .val (.int x0), .val (.int x1), .val (.int x2), .val (.int dd), .val (.int ((x1 + (1 : Int32)) + dd)), .unset, .unset] [(.ref a)])) _
  refine XS.astore Xs1.here hx rfl (hb hby at_189) rfl rfl (l' := #[.val (.int q0), .val (.int q1), .val (.int q2), .val (.int q3), .val (.int q4), .val (.int kk), .val (.int x0), .val (.int x1), .val (.int x2), .val (.int dd), .val (.int ((x1 + (1 : Int32)) + dd)), .val (.ref a), .unset]) rfl ?_
  show Steps p.tables e below (Ts1.setTop (mkF m 191 #[.val (.int q0), .val (.int q1), .val (.int q2), .val (.int q3), .val (.int q4), .val (.int kk), .val (.int x0), .val (.int x1), .val (.int x2), .val (.int dd), .val (.int ((x1 + (1 : Int32)) + dd)), .val (.ref a), .unset] [])) _
  refine XS.aload Xs1.here hx rfl (hb hby at_191) rfl rfl ?_
  show Steps p.tables e below (Ts1.setTop (mkF m 193 #[.val (.int q0), .val (.int q1), .val (.int q2), .val (.int q3), .val (.int q4), .val (.int kk), .val (.int x0), .val (.int x1), .val (.int x2), .val (.int dd), .val (.int ((x1 + (1 : Int32)) + dd)), .val (.ref a), .unset] [(.ref a)])) _
  refine XS.iload Xs1.here hx rfl (hb hby at_193) rfl ?_
  show Steps p.tables e below (Ts1.setTop (mkF m 195 #[.val (.int q0), .val (.int q1), .val (.int q2), .val (.int q3), .val (.int q4), .val (.int kk), .val (.int x0), .val (.int x1), .val (.int x2), .val (.int dd), .val (.int ((x1 + (1 : Int32)) + dd)), .val (.ref a), .unset] [(.int ((x1 + (1 : Int32)) + dd)), (.ref a)])) _
  refine stc _ ?_
  show Steps p.tables e below (Tc.setTop (mkF m 198 #[.val (.int q0), .val (.int q1), .val (.int q2), .val (.int q3), .val (.int q4), .val (.int kk), .val (.int x0), .val (.int x1), .val (.int x2), .val (.int dd), .val (.int ((x1 + (1 : Int32)) + dd)), .val (.ref a), .unset] [(.int (1 : Int32))])) _
  refine XS.istore Xc.here hx rfl (hb hby at_198) rfl (l' := #[.val (.int q0), .val (.int q1), .val (.int q2), .val (.int q3), .val (.int q4), .val (.int kk), .val (.int x0), .val (.int x1), .val (.int x2), .val (.int dd), .val (.int ((x1 + (1 : Int32)) + dd)), .val (.ref a), .val (.int (1 : Int32))]) rfl ?_
  show Steps p.tables e below (Tc.setTop (mkF m 200 #[.val (.int q0), .val (.int q1), .val (.int q2), .val (.int q3), .val (.int q4), .val (.int kk), .val (.int x0), .val (.int x1), .val (.int x2), .val (.int dd), .val (.int ((x1 + (1 : Int32)) + dd)), .val (.ref a), .val (.int (1 : Int32))] [])) _
  refine XS.iload Xc.here hx rfl (hb hby at_200) rfl ?_
  show Steps p.tables e below (Tc.setTop (mkF m 202 #[.val (.int q0), .val (.int q1), .val (.int q2), .val (.int q3), .val (.int q4), .val (.int kk), .val (.int x0), .val (.int x1), .val (.int x2), .val (.int dd), .val (.int ((x1 + (1 : Int32)) + dd)), .val (.ref a), .val (.int (1 : Int32))] [(.int x1)])) _
  refine XS.iload Xc.here hx rfl (hb hby at_202) rfl ?_
  show Steps p.tables e below (Tc.setTop (mkF m 204 #[.val (.int q0), .val (.int q1), .val (.int q2), .val (.int q3), .val (.int q4), .val (.int kk), .val (.int x0), .val (.int x1), .val (.int x2), .val (.int dd), .val (.int ((x1 + (1 : Int32)) + dd)), .val (.ref a), .val (.int (1 : Int32))] [(.int ((x1 + (1 : Int32)) + dd)), (.int x1)])) _
  refine XS.iconst Xc.here hx rfl (hb hby at_204) ?_
  show Steps p.tables e below (Tc.setTop (mkF m 205 #[.val (.int q0), .val (.int q1), .val (.int q2), .val (.int q3), .val (.int q4), .val (.int kk), .val (.int x0), .val (.int x1), .val (.int x2), .val (.int dd), .val (.int ((x1 + (1 : Int32)) + dd)), .val (.ref a), .val (.int (1 : Int32))] [(.int (1 : Int32)), (.int ((x1 + (1 : Int32)) + dd)), (.int x1)])) _
  refine XS.isub Xc.here hx rfl (hb hby at_205) rfl ?_
  show Steps p.tables e below (Tc.setTop (mkF m 206 #[.val (.int q0), .val (.int q1), .val (.int q2), .val (.int q3), .val (.int q4), .val (.int kk), .val (.int x0), .val (.int x1), .val (.int x2), .val (.int dd), .val (.int ((x1 + (1 : Int32)) + dd)), .val (.ref a), .val (.int (1 : Int32))] [(.int (((x1 + (1 : Int32)) + dd) - (1 : Int32))), (.int x1)])) _
  refine XS.icmpNo Xc.here hx rfl (hb hby at_206) rfl (tlt (hc1 : x1 < (((x1 + (1 : Int32)) + dd) - (1 : Int32)))).2.1 ?_
  show Steps p.tables e below (Tc.setTop (mkF m 209 #[.val (.int q0), .val (.int q1), .val (.int q2), .val (.int q3), .val (.int q4), .val (.int kk), .val (.int x0), .val (.int x1), .val (.int x2), .val (.int dd), .val (.int ((x1 + (1 : Int32)) + dd)), .val (.ref a), .val (.int (1 : Int32))] [])) _
  refine XS.iload Xc.here hx rfl (hb hby at_209) rfl ?_
  show Steps p.tables e below (Tc.setTop (mkF m 211 #[.val (.int q0), .val (.int q1), .val (.int q2), .val (.int q3), .val (.int q4), .val (.int kk), .val (.int x0), .val (.int x1), .val (.int x2), .val (.int dd), .val (.int ((x1 + (1 : Int32)) + dd)), .val (.ref a), .val (.int (1 : Int32))] [(.int (1 : Int32))])) _
  refine XS.ifNo Xc.here hx rfl (hb hby at_211) rfl ((if0 _ _).trans (feq (by decide : ¬ ((1 : Int32) = (0 : Int32)))).1) ?_
  show Steps p.tables e below (Tc.setTop (mkF m 214 #[.val (.int q0), .val (.int q1), .val (.int q2), .val (.int q3), .val (.int q4), .val (.int kk), .val (.int x0), .val (.int x1), .val (.int x2), .val (.int dd), .val (.int ((x1 + (1 : Int32)) + dd)), .val (.ref a), .val (.int (1 : Int32))] [])) _
  refine XS.aload Xc.here hx rfl (hb hby at_214) rfl rfl ?_
  show Steps p.tables e below (Tc.setTop (mkF m 216 #[.val (.int q0), .val (.int q1), .val (.int q2), .val (.int q3), .val (.int q4), .val (.int kk), .val (.int x0), .val (.int x1), .val (.int x2), .val (.int dd), .val (.int ((x1 + (1 : Int32)) + dd)), .val (.ref a), .val (.int (1 : Int32))] [(.ref a)])) _
  refine XS.iconst Xc.here hx rfl (hb hby at_216) ?_
  show Steps p.tables e below (Tc.setTop (mkF m 217 #[.val (.int q0), .val (.int q1), .val (.int q2), .val (.int q3), .val (.int q4), .val (.int kk), .val (.int x0), .val (.int x1), .val (.int x2), .val (.int dd), .val (.int ((x1 + (1 : Int32)) + dd)), .val (.ref a), .val (.int (1 : Int32))] [(.int (0 : Int32)), (.ref a)])) _
  refine own_ild Xc hx hZ rfl Vc 0 (by decide) (by decide) (by decide) rfl (g := (mkF m 217 #[.val (.int q0), .val (.int q1), .val (.int q2), .val (.int q3), .val (.int q4), .val (.int kk), .val (.int x0), .val (.int x1), .val (.int x2), .val (.int dd), .val (.int ((x1 + (1 : Int32)) + dd)), .val (.ref a), .val (.int (1 : Int32))] [(.int (0 : Int32)), (.ref a)])) rfl rfl (hb hby at_217) _ ?_
  show Steps p.tables e below (Tc.setTop (mkF m 218 #[.val (.int q0), .val (.int q1), .val (.int q2), .val (.int q3), .val (.int q4), .val (.int kk), .val (.int x0), .val (.int x1), .val (.int x2), .val (.int dd), .val (.int ((x1 + (1 : Int32)) + dd)), .val (.ref a), .val (.int (1 : Int32))] [(.int x0)])) _
  refine XS.iload Xc.here hx rfl (hb hby at_218) rfl ?_
  show Steps p.tables e below (Tc.setTop (mkF m 220 #[.val (.int q0), .val (.int q1), .val (.int q2), .val (.int q3), .val (.int q4), .val (.int kk), .val (.int x0), .val (.int x1), .val (.int x2), .val (.int dd), .val (.int ((x1 + (1 : Int32)) + dd)), .val (.ref a), .val (.int (1 : Int32))] [(.int x0), (.int x0)])) _
  refine XS.icmpNo Xc.here hx rfl (hb hby at_220) rfl (teq (rfl : x0 = x0)).2 ?_
  show Steps p.tables e below (Tc.setTop (mkF m 223 #[.val (.int q0), .val (.int q1), .val (.int q2), .val (.int q3), .val (.int q4), .val (.int kk), .val (.int x0), .val (.int x1), .val (.int x2), .val (.int dd), .val (.int ((x1 + (1 : Int32)) + dd)), .val (.ref a), .val (.int (1 : Int32))] [])) _
  refine XS.aload Xc.here hx rfl (hb hby at_223) rfl rfl ?_
  show Steps p.tables e below (Tc.setTop (mkF m 225 #[.val (.int q0), .val (.int q1), .val (.int q2), .val (.int q3), .val (.int q4), .val (.int kk), .val (.int x0), .val (.int x1), .val (.int x2), .val (.int dd), .val (.int ((x1 + (1 : Int32)) + dd)), .val (.ref a), .val (.int (1 : Int32))] [(.ref a)])) _
  refine XS.iconst Xc.here hx rfl (hb hby at_225) ?_
  show Steps p.tables e below (Tc.setTop (mkF m 226 #[.val (.int q0), .val (.int q1), .val (.int q2), .val (.int q3), .val (.int q4), .val (.int kk), .val (.int x0), .val (.int x1), .val (.int x2), .val (.int dd), .val (.int ((x1 + (1 : Int32)) + dd)), .val (.ref a), .val (.int (1 : Int32))] [(.int (1 : Int32)), (.ref a)])) _
  refine own_ild Xc hx hZ rfl Vc 1 (by decide) (by decide) (by decide) rfl (g := (mkF m 226 #[.val (.int q0), .val (.int q1), .val (.int q2), .val (.int q3), .val (.int q4), .val (.int kk), .val (.int x0), .val (.int x1), .val (.int x2), .val (.int dd), .val (.int ((x1 + (1 : Int32)) + dd)), .val (.ref a), .val (.int (1 : Int32))] [(.int (1 : Int32)), (.ref a)])) rfl rfl (hb hby at_226) _ ?_
  show Steps p.tables e below (Tc.setTop (mkF m 227 #[.val (.int q0), .val (.int q1), .val (.int q2), .val (.int q3), .val (.int q4), .val (.int kk), .val (.int x0), .val (.int x1), .val (.int x2), .val (.int dd), .val (.int ((x1 + (1 : Int32)) + dd)), .val (.ref a), .val (.int (1 : Int32))] [(.int (x1 + (1 : Int32)))])) _
  refine XS.iload Xc.here hx rfl (hb hby at_227) rfl ?_
  show Steps p.tables e below (Tc.setTop (mkF m 229 #[.val (.int q0), .val (.int q1), .val (.int q2), .val (.int q3), .val (.int q4), .val (.int kk), .val (.int x0), .val (.int x1), .val (.int x2), .val (.int dd), .val (.int ((x1 + (1 : Int32)) + dd)), .val (.ref a), .val (.int (1 : Int32))] [(.int x1), (.int (x1 + (1 : Int32)))])) _
  refine XS.iconst Xc.here hx rfl (hb hby at_229) ?_
  show Steps p.tables e below (Tc.setTop (mkF m 230 #[.val (.int q0), .val (.int q1), .val (.int q2), .val (.int q3), .val (.int q4), .val (.int kk), .val (.int x0), .val (.int x1), .val (.int x2), .val (.int dd), .val (.int ((x1 + (1 : Int32)) + dd)), .val (.ref a), .val (.int (1 : Int32))] [(.int (1 : Int32)), (.int x1), (.int (x1 + (1 : Int32)))])) _
  refine XS.iadd Xc.here hx rfl (hb hby at_230) rfl ?_
  show Steps p.tables e below (Tc.setTop (mkF m 231 #[.val (.int q0), .val (.int q1), .val (.int q2), .val (.int q3), .val (.int q4), .val (.int kk), .val (.int x0), .val (.int x1), .val (.int x2), .val (.int dd), .val (.int ((x1 + (1 : Int32)) + dd)), .val (.ref a), .val (.int (1 : Int32))] [(.int (x1 + (1 : Int32))), (.int (x1 + (1 : Int32)))])) _
  refine XS.icmpNo Xc.here hx rfl (hb hby at_231) rfl (teq (rfl : (x1 + (1 : Int32)) = (x1 + (1 : Int32)))).2 ?_
  show Steps p.tables e below (Tc.setTop (mkF m 234 #[.val (.int q0), .val (.int q1), .val (.int q2), .val (.int q3), .val (.int q4), .val (.int kk), .val (.int x0), .val (.int x1), .val (.int x2), .val (.int dd), .val (.int ((x1 + (1 : Int32)) + dd)), .val (.ref a), .val (.int (1 : Int32))] [])) _
  refine XS.iconst Xc.here hx rfl (hb hby at_234) ?_
  show Steps p.tables e below (Tc.setTop (mkF m 235 #[.val (.int q0), .val (.int q1), .val (.int q2), .val (.int q3), .val (.int q4), .val (.int kk), .val (.int x0), .val (.int x1), .val (.int x2), .val (.int dd), .val (.int ((x1 + (1 : Int32)) + dd)), .val (.ref a), .val (.int (1 : Int32))] [(.int (1 : Int32))])) _
  refine XS.goto Xc.here hx rfl (pc0 := 235) (pc' := 239) rfl (hb hby at_235) (by decide) (by decide) ?_
  exact kt
set_option maxRecDepth 65536 in
set_option maxHeartbeats 4000000 in
theorem own_law_2_1 {p : Program} {l : Launch} {e : Env} {s : State} {m : MethodId} {args : Array Value} {below : List Frame} {meth : Method} {c : Code} {T : State} {locs : List Loc} {Z : State} {a0 : Array Value} (q0 q1 q2 q3 q4 kk x0 x1 x2 dd : Int32) (hw : ∀ d ∈ tables_1, d.before a0 Z = true) (X0 : Stand p l e room_1 s m args below meth c T locs 0 0) (hx : p.tables.exec = Jvm.exec) (hZ : Z.Warmed39 s.vm) (hby : c.code = code) (hml : c.maxLocals = 13) (hown : s.vm.findClass "com/example/ashlar/ashlar/storage/SubsetsNextPinLaw" = some m.cls) {h0 : Heap} (e0 : T.heap = h0) {n0 : Nat} (Z0 : n0 ≤ h0.size) (N0 : Fr n0 locs) (hc1 : ¬ (x1 < (((x1 + (1 : Int32)) + dd) - (1 : Int32)))) (hc0 : x0 < (((x1 + (1 : Int32)) + dd) - (2 : Int32))) :
    ∃ (T' : State) (l' : List Loc) (pcr : Nat) (Lr : Array Slot) (sl : Nat), sl ≤ 128 ∧ Stand p l e room_1 s m args below meth c T' l' 1 sl ∧ Fr n0 l' ∧ decode c.code pcr = .ok (.ireturn, 1) ∧ ∀ t, Steps p.tables e below (T'.setTop (mkF m pcr Lr [(.int (1 : Int32))])) t → Steps p.tables e below (T.setTop (mkF m 167 #[.val (.int q0), .val (.int q1), .val (.int q2), .val (.int q3), .val (.int q4), .val (.int kk), .val (.int x0), .val (.int x1), .val (.int x2), .val (.int dd), .unset, .unset, .unset] [])) t := by
  obtain ⟨Ta, ha, ka, Xa, ea, Ea, Aa, sta⟩ := newP X0 hx hZ (hw _ (List.mem_of_getElem? (i := 5) rfl)) e0 (g := (mkF m 177 #[.val (.int q0), .val (.int q1), .val (.int q2), .val (.int q3), .val (.int q4), .val (.int kk), .val (.int x0), .val (.int x1), .val (.int x2), .val (.int dd), .val (.int ((x1 + (1 : Int32)) + dd)), .unset, .unset] [(.int (2 : Int32))])) rfl (hb hby at_177) rfl (by decide) (cap := 2) (by decide) (by decide) (by decide) (by decide)
  obtain ⟨a, ga⟩ : ∃ z, z = h0.size := ⟨_, rfl⟩
  rw [← ga] at Aa sta
  have Va : Arv Z ha a ka .int (2 : Int32) [(.int (0 : Int32)), (.int (0 : Int32))] (.int (0 : Int32)) := (Arv.new Aa (by decide)).pad (pad_rep [] (.int (0 : Int32)) 2)
  have g_a : n0 ≤ a := Nat.le_trans Z0 (Nat.le_of_eq ga.symm)
  obtain ⟨Ts0, hs0, Xs0, es0, Ws0, Vs0', sts0⟩ := own_ist Xa hx hZ ea Va 0 (by decide) (by decide) (by decide) (Nat.le_of_ble_eq_true rfl) (g := (mkF m 183 #[.val (.int q0), .val (.int q1), .val (.int q2), .val (.int q3), .val (.int q4), .val (.int kk), .val (.int x0), .val (.int x1), .val (.int x2), .val (.int dd), .val (.int ((x1 + (1 : Int32)) + dd)), .unset, .unset] [(.int x0), (.int (0 : Int32)), (.ref a), (.ref a)])) rfl rfl (hb hby at_183)
  have Vs0 : Arv Z hs0 a ka .int (2 : Int32) [(.int x0), (.int (0 : Int32))] (.int 0) := Vs0'
  have Ns0 := Fr.snoc Xs0 N0 g_a
  obtain ⟨Ts1, hs1, Xs1, es1, Ws1, Vs1', sts1⟩ := own_ist Xs0 hx hZ es0 Vs0 1 (by decide) (by decide) (by decide) (Nat.le_of_ble_eq_true rfl) (g := (mkF m 188 #[.val (.int q0), .val (.int q1), .val (.int q2), .val (.int q3), .val (.int q4), .val (.int kk), .val (.int x0), .val (.int x1), .val (.int x2), .val (.int dd), .val (.int ((x1 + (1 : Int32)) + dd)), .unset, .unset] [(.int x1), (.int (1 : Int32)), (.ref a), (.ref a)])) rfl rfl (hb hby at_188)
  have Vs1 : Arv Z hs1 a ka .int (2 : Int32) [(.int x0), (.int x1)] (.int 0) := Vs1'
  have Ns1 := Fr.snoc Xs1 Ns0 g_a
  obtain ⟨_, _, ⟨Tc, Lc, kc, nc⟩, -, Xc, ⟨Lcc, hQc, lc, yc, zc⟩, stc⟩ := Jvm.LawKit.callS Xs1 hx (y := (⟨"com/example/ashlar/ashlar/storage/Subsets", "next", "([II)Z"⟩ : MethodName)) hown (mvT hZ (hw _ (List.mem_of_getElem? (i := 6) rfl))) (mvT hZ (hw _ (List.mem_of_getElem? (i := 7) rfl))) (mvT hZ (hw _ (List.mem_of_getElem? (i := 8) rfl))) (mvT hZ (hw _ (List.mem_of_getElem? (i := 9) rfl))) (by decide) (backOf (W := 0) (rm2_2_1 l Z a0 hw [] a ((x1 + (1 : Int32)) + dd) ka x0 x1 hs1 n0 g_a Vs1 (by rw [own_s21]; exact hc1) (by rw [own_s20]; exact hc0)) hZ (hw _ (List.mem_of_getElem? (i := 9) rfl)) (hw _ (List.mem_of_getElem? (i := 8) rfl)) (by decide) (by decide)) (g := (mkF m 195 #[.val (.int q0), .val (.int q1), .val (.int q2), .val (.int q3), .val (.int q4), .val (.int kk), .val (.int x0), .val (.int x1), .val (.int x2), .val (.int dd), .val (.int ((x1 + (1 : Int32)) + dd)), .val (.ref a), .unset] [(.int ((x1 + (1 : Int32)) + dd)), (.ref a)])) rfl (by rw [hml]; rfl) (argsL := [(.ref a), (.int ((x1 + (1 : Int32)) + dd))]) (rest := []) (lenOf pd_0_n rfl) rfl (by show 2 * 0 + _ ≤ _; exact Nat.le_of_eq rfl) (hb hby at_195) (fun _ _ => ⟨rfl, es1, (by decide : 1 + 0 ≤ _), (by decide : 2 + 0 ≤ _)⟩)
  dsimp only [Pt.U, Pt.locs, Pt.cells, Pt.slots] at Xc lc yc zc stc hQc
  subst lc yc zc
  obtain ⟨rfl, Ncq, Vc⟩ := hQc
  have Nc := Fr.app Ns1 Ncq
  refine ⟨Tc, _, 281, #[.val (.int q0), .val (.int q1), .val (.int q2), .val (.int q3), .val (.int q4), .val (.int kk), .val (.int x0), .val (.int x1), .val (.int x2), .val (.int dd), .val (.int ((x1 + (1 : Int32)) + dd)), .val (.ref a), .val (.int (1 : Int32))], 2, by decide, Xc, Nc, hb hby at_281, fun t kt => ?_⟩
  show Steps p.tables e below (T.setTop (mkF m 167 #[.val (.int q0), .val (.int q1), .val (.int q2), .val (.int q3), .val (.int q4), .val (.int kk), .val (.int x0), .val (.int x1), .val (.int x2), .val (.int dd), .unset, .unset, .unset] [])) _
  refine XS.iload X0.here hx rfl (hb hby at_167) rfl ?_
  show Steps p.tables e below (T.setTop (mkF m 169 #[.val (.int q0), .val (.int q1), .val (.int q2), .val (.int q3), .val (.int q4), .val (.int kk), .val (.int x0), .val (.int x1), .val (.int x2), .val (.int dd), .unset, .unset, .unset] [(.int x1)])) _
  refine XS.iconst X0.here hx rfl (hb hby at_169) ?_
  show Steps p.tables e below (T.setTop (mkF m 170 #[.val (.int q0), .val (.int q1), .val (.int q2), .val (.int q3), .val (.int q4), .val (.int kk), .val (.int x0), .val (.int x1), .val (.int x2), .val (.int dd), .unset, .unset, .unset] [(.int (1 : Int32)), (.int x1)])) _
  refine XS.iadd X0.here hx rfl (hb hby at_170) rfl ?_
  show Steps p.tables e below (T.setTop (mkF m 171 #[.val (.int q0), .val (.int q1), .val (.int q2), .val (.int q3), .val (.int q4), .val (.int kk), .val (.int x0), .val (.int x1), .val (.int x2), .val (.int dd), .unset, .unset, .unset] [(.int (x1 + (1 : Int32)))])) _
  refine XS.iload X0.here hx rfl (hb hby at_171) rfl ?_
  show Steps p.tables e below (T.setTop (mkF m 173 #[.val (.int q0), .val (.int q1), .val (.int q2), .val (.int q3), .val (.int q4), .val (.int kk), .val (.int x0), .val (.int x1), .val (.int x2), .val (.int dd), .unset, .unset, .unset] [(.int dd), (.int (x1 + (1 : Int32)))])) _
  refine XS.iadd X0.here hx rfl (hb hby at_173) rfl ?_
  show Steps p.tables e below (T.setTop (mkF m 174 #[.val (.int q0), .val (.int q1), .val (.int q2), .val (.int q3), .val (.int q4), .val (.int kk), .val (.int x0), .val (.int x1), .val (.int x2), .val (.int dd), .unset, .unset, .unset] [(.int ((x1 + (1 : Int32)) + dd))])) _
  refine XS.istore X0.here hx rfl (hb hby at_174) rfl (l' := #[.val (.int q0), .val (.int q1), .val (.int q2), .val (.int q3), .val (.int q4), .val (.int kk), .val (.int x0), .val (.int x1), .val (.int x2), .val (.int dd), .val (.int ((x1 + (1 : Int32)) + dd)), .unset, .unset]) rfl ?_
  show Steps p.tables e below (T.setTop (mkF m 176 #[.val (.int q0), .val (.int q1), .val (.int q2), .val (.int q3), .val (.int q4), .val (.int kk), .val (.int x0), .val (.int x1), .val (.int x2), .val (.int dd), .val (.int ((x1 + (1 : Int32)) + dd)), .unset, .unset] [])) _
  refine XS.iconst X0.here hx rfl (hb hby at_176) ?_
  show Steps p.tables e below (T.setTop (mkF m 177 #[.val (.int q0), .val (.int q1), .val (.int q2), .val (.int q3), .val (.int q4), .val (.int kk), .val (.int x0), .val (.int x1), .val (.int x2), .val (.int dd), .val (.int ((x1 + (1 : Int32)) + dd)), .unset, .unset] [(.int (2 : Int32))])) _
  refine sta _ ?_
  show Steps p.tables e below (Ta.setTop (mkF m 179 #[.val (.int q0), .val (.int q1), .val (.int q2), .val (.int q3), .val (.int q4), .val (.int kk), .val (.int x0), .val (.int x1), .val (.int x2), .val (.int dd), .val (.int ((x1 + (1 : Int32)) + dd)), .unset, .unset] [(.ref a)])) _
  refine XS.dup Xa.here hx rfl (hb hby at_179) rfl rfl ?_
  show Steps p.tables e below (Ta.setTop (mkF m 180 #[.val (.int q0), .val (.int q1), .val (.int q2), .val (.int q3), .val (.int q4), .val (.int kk), .val (.int x0), .val (.int x1), .val (.int x2), .val (.int dd), .val (.int ((x1 + (1 : Int32)) + dd)), .unset, .unset] [(.ref a), (.ref a)])) _
  refine XS.iconst Xa.here hx rfl (hb hby at_180) ?_
  show Steps p.tables e below (Ta.setTop (mkF m 181 #[.val (.int q0), .val (.int q1), .val (.int q2), .val (.int q3), .val (.int q4), .val (.int kk), .val (.int x0), .val (.int x1), .val (.int x2), .val (.int dd), .val (.int ((x1 + (1 : Int32)) + dd)), .unset, .unset] [(.int (0 : Int32)), (.ref a), (.ref a)])) _
  refine XS.iload Xa.here hx rfl (hb hby at_181) rfl ?_
  show Steps p.tables e below (Ta.setTop (mkF m 183 #[.val (.int q0), .val (.int q1), .val (.int q2), .val (.int q3), .val (.int q4), .val (.int kk), .val (.int x0), .val (.int x1), .val (.int x2), .val (.int dd), .val (.int ((x1 + (1 : Int32)) + dd)), .unset, .unset] [(.int x0), (.int (0 : Int32)), (.ref a), (.ref a)])) _
  refine sts0 _ ?_
  show Steps p.tables e below (Ts0.setTop (mkF m 184 #[.val (.int q0), .val (.int q1), .val (.int q2), .val (.int q3), .val (.int q4), .val (.int kk), .val (.int x0), .val (.int x1), .val (.int x2), .val (.int dd), .val (.int ((x1 + (1 : Int32)) + dd)), .unset, .unset] [(.ref a)])) _
  refine XS.dup Xs0.here hx rfl (hb hby at_184) rfl rfl ?_
  show Steps p.tables e below (Ts0.setTop (mkF m 185 #[.val (.int q0), .val (.int q1), .val (.int q2), .val (.int q3), .val (.int q4), .val (.int kk), .val (.int x0), .val (.int x1), .val (.int x2), .val (.int dd), .val (.int ((x1 + (1 : Int32)) + dd)), .unset, .unset] [(.ref a), (.ref a)])) _
  refine XS.iconst Xs0.here hx rfl (hb hby at_185) ?_
  show Steps p.tables e below (Ts0.setTop (mkF m 186 #[.val (.int q0), .val (.int q1), .val (.int q2), .val (.int q3), .val (.int q4), .val (.int kk), .val (.int x0), .val (.int x1), .val (.int x2), .val (.int dd), .val (.int ((x1 + (1 : Int32)) + dd)), .unset, .unset] [(.int (1 : Int32)), (.ref a), (.ref a)])) _
  refine XS.iload Xs0.here hx rfl (hb hby at_186) rfl ?_
  show Steps p.tables e below (Ts0.setTop (mkF m 188 #[.val (.int q0), .val (.int q1), .val (.int q2), .val (.int q3), .val (.int q4), .val (.int kk), .val (.int x0), .val (.int x1), .val (.int x2), .val (.int dd), .val (.int ((x1 + (1 : Int32)) + dd)), .unset, .unset] [(.int x1), (.int (1 : Int32)), (.ref a), (.ref a)])) _
  refine sts1 _ ?_
  show Steps p.tables e below (Ts1.setTop (mkF m 189 #[.val (.int q0), .val (.int q1), .val (.int q2), .val (.int q3), .val (.int q4), .val (.int kk), .val (.int x0), .val (.int x1), .val (.int x2), .val (.int dd), .val (.int ((x1 + (1 : Int32)) + dd)), .unset, .unset] [(.ref a)])) _
  refine XS.astore Xs1.here hx rfl (hb hby at_189) rfl rfl (l' := #[.val (.int q0), .val (.int q1), .val (.int q2), .val (.int q3), .val (.int q4), .val (.int kk), .val (.int x0), .val (.int x1), .val (.int x2), .val (.int dd), .val (.int ((x1 + (1 : Int32)) + dd)), .val (.ref a), .unset]) rfl ?_
  show Steps p.tables e below (Ts1.setTop (mkF m 191 #[.val (.int q0), .val (.int q1), .val (.int q2), .val (.int q3), .val (.int q4), .val (.int kk), .val (.int x0), .val (.int x1), .val (.int x2), .val (.int dd), .val (.int ((x1 + (1 : Int32)) + dd)), .val (.ref a), .unset] [])) _
  refine XS.aload Xs1.here hx rfl (hb hby at_191) rfl rfl ?_
  show Steps p.tables e below (Ts1.setTop (mkF m 193 #[.val (.int q0), .val (.int q1), .val (.int q2), .val (.int q3), .val (.int q4), .val (.int kk), .val (.int x0), .val (.int x1), .val (.int x2), .val (.int dd), .val (.int ((x1 + (1 : Int32)) + dd)), .val (.ref a), .unset] [(.ref a)])) _
  refine XS.iload Xs1.here hx rfl (hb hby at_193) rfl ?_
  show Steps p.tables e below (Ts1.setTop (mkF m 195 #[.val (.int q0), .val (.int q1), .val (.int q2), .val (.int q3), .val (.int q4), .val (.int kk), .val (.int x0), .val (.int x1), .val (.int x2), .val (.int dd), .val (.int ((x1 + (1 : Int32)) + dd)), .val (.ref a), .unset] [(.int ((x1 + (1 : Int32)) + dd)), (.ref a)])) _
  refine stc _ ?_
  show Steps p.tables e below (Tc.setTop (mkF m 198 #[.val (.int q0), .val (.int q1), .val (.int q2), .val (.int q3), .val (.int q4), .val (.int kk), .val (.int x0), .val (.int x1), .val (.int x2), .val (.int dd), .val (.int ((x1 + (1 : Int32)) + dd)), .val (.ref a), .unset] [(.int (1 : Int32))])) _
  refine XS.istore Xc.here hx rfl (hb hby at_198) rfl (l' := #[.val (.int q0), .val (.int q1), .val (.int q2), .val (.int q3), .val (.int q4), .val (.int kk), .val (.int x0), .val (.int x1), .val (.int x2), .val (.int dd), .val (.int ((x1 + (1 : Int32)) + dd)), .val (.ref a), .val (.int (1 : Int32))]) rfl ?_
  show Steps p.tables e below (Tc.setTop (mkF m 200 #[.val (.int q0), .val (.int q1), .val (.int q2), .val (.int q3), .val (.int q4), .val (.int kk), .val (.int x0), .val (.int x1), .val (.int x2), .val (.int dd), .val (.int ((x1 + (1 : Int32)) + dd)), .val (.ref a), .val (.int (1 : Int32))] [])) _
  refine XS.iload Xc.here hx rfl (hb hby at_200) rfl ?_
  show Steps p.tables e below (Tc.setTop (mkF m 202 #[.val (.int q0), .val (.int q1), .val (.int q2), .val (.int q3), .val (.int q4), .val (.int kk), .val (.int x0), .val (.int x1), .val (.int x2), .val (.int dd), .val (.int ((x1 + (1 : Int32)) + dd)), .val (.ref a), .val (.int (1 : Int32))] [(.int x1)])) _
  refine XS.iload Xc.here hx rfl (hb hby at_202) rfl ?_
  show Steps p.tables e below (Tc.setTop (mkF m 204 #[.val (.int q0), .val (.int q1), .val (.int q2), .val (.int q3), .val (.int q4), .val (.int kk), .val (.int x0), .val (.int x1), .val (.int x2), .val (.int dd), .val (.int ((x1 + (1 : Int32)) + dd)), .val (.ref a), .val (.int (1 : Int32))] [(.int ((x1 + (1 : Int32)) + dd)), (.int x1)])) _
  refine XS.iconst Xc.here hx rfl (hb hby at_204) ?_
  show Steps p.tables e below (Tc.setTop (mkF m 205 #[.val (.int q0), .val (.int q1), .val (.int q2), .val (.int q3), .val (.int q4), .val (.int kk), .val (.int x0), .val (.int x1), .val (.int x2), .val (.int dd), .val (.int ((x1 + (1 : Int32)) + dd)), .val (.ref a), .val (.int (1 : Int32))] [(.int (1 : Int32)), (.int ((x1 + (1 : Int32)) + dd)), (.int x1)])) _
  refine XS.isub Xc.here hx rfl (hb hby at_205) rfl ?_
  show Steps p.tables e below (Tc.setTop (mkF m 206 #[.val (.int q0), .val (.int q1), .val (.int q2), .val (.int q3), .val (.int q4), .val (.int kk), .val (.int x0), .val (.int x1), .val (.int x2), .val (.int dd), .val (.int ((x1 + (1 : Int32)) + dd)), .val (.ref a), .val (.int (1 : Int32))] [(.int (((x1 + (1 : Int32)) + dd) - (1 : Int32))), (.int x1)])) _
  refine XS.icmpYes Xc.here hx rfl (pc0 := 206) (pc' := 240) rfl (hb hby at_206) rfl (flt (hc1 : ¬ (x1 < (((x1 + (1 : Int32)) + dd) - (1 : Int32))))).2.1 (by decide) (by decide) ?_
  show Steps p.tables e below (Tc.setTop (mkF m 240 #[.val (.int q0), .val (.int q1), .val (.int q2), .val (.int q3), .val (.int q4), .val (.int kk), .val (.int x0), .val (.int x1), .val (.int x2), .val (.int dd), .val (.int ((x1 + (1 : Int32)) + dd)), .val (.ref a), .val (.int (1 : Int32))] [])) _
  refine XS.iload Xc.here hx rfl (hb hby at_240) rfl ?_
  show Steps p.tables e below (Tc.setTop (mkF m 242 #[.val (.int q0), .val (.int q1), .val (.int q2), .val (.int q3), .val (.int q4), .val (.int kk), .val (.int x0), .val (.int x1), .val (.int x2), .val (.int dd), .val (.int ((x1 + (1 : Int32)) + dd)), .val (.ref a), .val (.int (1 : Int32))] [(.int x0)])) _
  refine XS.iload Xc.here hx rfl (hb hby at_242) rfl ?_
  show Steps p.tables e below (Tc.setTop (mkF m 244 #[.val (.int q0), .val (.int q1), .val (.int q2), .val (.int q3), .val (.int q4), .val (.int kk), .val (.int x0), .val (.int x1), .val (.int x2), .val (.int dd), .val (.int ((x1 + (1 : Int32)) + dd)), .val (.ref a), .val (.int (1 : Int32))] [(.int ((x1 + (1 : Int32)) + dd)), (.int x0)])) _
  refine XS.iconst Xc.here hx rfl (hb hby at_244) ?_
  show Steps p.tables e below (Tc.setTop (mkF m 245 #[.val (.int q0), .val (.int q1), .val (.int q2), .val (.int q3), .val (.int q4), .val (.int kk), .val (.int x0), .val (.int x1), .val (.int x2), .val (.int dd), .val (.int ((x1 + (1 : Int32)) + dd)), .val (.ref a), .val (.int (1 : Int32))] [(.int (2 : Int32)), (.int ((x1 + (1 : Int32)) + dd)), (.int x0)])) _
  refine XS.isub Xc.here hx rfl (hb hby at_245) rfl ?_
  show Steps p.tables e below (Tc.setTop (mkF m 246 #[.val (.int q0), .val (.int q1), .val (.int q2), .val (.int q3), .val (.int q4), .val (.int kk), .val (.int x0), .val (.int x1), .val (.int x2), .val (.int dd), .val (.int ((x1 + (1 : Int32)) + dd)), .val (.ref a), .val (.int (1 : Int32))] [(.int (((x1 + (1 : Int32)) + dd) - (2 : Int32))), (.int x0)])) _
  refine XS.icmpNo Xc.here hx rfl (hb hby at_246) rfl (tlt (hc0 : x0 < (((x1 + (1 : Int32)) + dd) - (2 : Int32)))).2.1 ?_
  show Steps p.tables e below (Tc.setTop (mkF m 249 #[.val (.int q0), .val (.int q1), .val (.int q2), .val (.int q3), .val (.int q4), .val (.int kk), .val (.int x0), .val (.int x1), .val (.int x2), .val (.int dd), .val (.int ((x1 + (1 : Int32)) + dd)), .val (.ref a), .val (.int (1 : Int32))] [])) _
  refine XS.iload Xc.here hx rfl (hb hby at_249) rfl ?_
  show Steps p.tables e below (Tc.setTop (mkF m 251 #[.val (.int q0), .val (.int q1), .val (.int q2), .val (.int q3), .val (.int q4), .val (.int kk), .val (.int x0), .val (.int x1), .val (.int x2), .val (.int dd), .val (.int ((x1 + (1 : Int32)) + dd)), .val (.ref a), .val (.int (1 : Int32))] [(.int (1 : Int32))])) _
  refine XS.ifNo Xc.here hx rfl (hb hby at_251) rfl ((if0 _ _).trans (feq (by decide : ¬ ((1 : Int32) = (0 : Int32)))).1) ?_
  show Steps p.tables e below (Tc.setTop (mkF m 254 #[.val (.int q0), .val (.int q1), .val (.int q2), .val (.int q3), .val (.int q4), .val (.int kk), .val (.int x0), .val (.int x1), .val (.int x2), .val (.int dd), .val (.int ((x1 + (1 : Int32)) + dd)), .val (.ref a), .val (.int (1 : Int32))] [])) _
  refine XS.aload Xc.here hx rfl (hb hby at_254) rfl rfl ?_
  show Steps p.tables e below (Tc.setTop (mkF m 256 #[.val (.int q0), .val (.int q1), .val (.int q2), .val (.int q3), .val (.int q4), .val (.int kk), .val (.int x0), .val (.int x1), .val (.int x2), .val (.int dd), .val (.int ((x1 + (1 : Int32)) + dd)), .val (.ref a), .val (.int (1 : Int32))] [(.ref a)])) _
  refine XS.iconst Xc.here hx rfl (hb hby at_256) ?_
  show Steps p.tables e below (Tc.setTop (mkF m 257 #[.val (.int q0), .val (.int q1), .val (.int q2), .val (.int q3), .val (.int q4), .val (.int kk), .val (.int x0), .val (.int x1), .val (.int x2), .val (.int dd), .val (.int ((x1 + (1 : Int32)) + dd)), .val (.ref a), .val (.int (1 : Int32))] [(.int (0 : Int32)), (.ref a)])) _
  refine own_ild Xc hx hZ rfl Vc 0 (by decide) (by decide) (by decide) rfl (g := (mkF m 257 #[.val (.int q0), .val (.int q1), .val (.int q2), .val (.int q3), .val (.int q4), .val (.int kk), .val (.int x0), .val (.int x1), .val (.int x2), .val (.int dd), .val (.int ((x1 + (1 : Int32)) + dd)), .val (.ref a), .val (.int (1 : Int32))] [(.int (0 : Int32)), (.ref a)])) rfl rfl (hb hby at_257) _ ?_
  show Steps p.tables e below (Tc.setTop (mkF m 258 #[.val (.int q0), .val (.int q1), .val (.int q2), .val (.int q3), .val (.int q4), .val (.int kk), .val (.int x0), .val (.int x1), .val (.int x2), .val (.int dd), .val (.int ((x1 + (1 : Int32)) + dd)), .val (.ref a), .val (.int (1 : Int32))] [(.int (x0 + (1 : Int32)))])) _
  refine XS.iload Xc.here hx rfl (hb hby at_258) rfl ?_
  show Steps p.tables e below (Tc.setTop (mkF m 260 #[.val (.int q0), .val (.int q1), .val (.int q2), .val (.int q3), .val (.int q4), .val (.int kk), .val (.int x0), .val (.int x1), .val (.int x2), .val (.int dd), .val (.int ((x1 + (1 : Int32)) + dd)), .val (.ref a), .val (.int (1 : Int32))] [(.int x0), (.int (x0 + (1 : Int32)))])) _
  refine XS.iconst Xc.here hx rfl (hb hby at_260) ?_
  show Steps p.tables e below (Tc.setTop (mkF m 261 #[.val (.int q0), .val (.int q1), .val (.int q2), .val (.int q3), .val (.int q4), .val (.int kk), .val (.int x0), .val (.int x1), .val (.int x2), .val (.int dd), .val (.int ((x1 + (1 : Int32)) + dd)), .val (.ref a), .val (.int (1 : Int32))] [(.int (1 : Int32)), (.int x0), (.int (x0 + (1 : Int32)))])) _
  refine XS.iadd Xc.here hx rfl (hb hby at_261) rfl ?_
  show Steps p.tables e below (Tc.setTop (mkF m 262 #[.val (.int q0), .val (.int q1), .val (.int q2), .val (.int q3), .val (.int q4), .val (.int kk), .val (.int x0), .val (.int x1), .val (.int x2), .val (.int dd), .val (.int ((x1 + (1 : Int32)) + dd)), .val (.ref a), .val (.int (1 : Int32))] [(.int (x0 + (1 : Int32))), (.int (x0 + (1 : Int32)))])) _
  refine XS.icmpNo Xc.here hx rfl (hb hby at_262) rfl (teq (rfl : (x0 + (1 : Int32)) = (x0 + (1 : Int32)))).2 ?_
  show Steps p.tables e below (Tc.setTop (mkF m 265 #[.val (.int q0), .val (.int q1), .val (.int q2), .val (.int q3), .val (.int q4), .val (.int kk), .val (.int x0), .val (.int x1), .val (.int x2), .val (.int dd), .val (.int ((x1 + (1 : Int32)) + dd)), .val (.ref a), .val (.int (1 : Int32))] [])) _
  refine XS.aload Xc.here hx rfl (hb hby at_265) rfl rfl ?_
  show Steps p.tables e below (Tc.setTop (mkF m 267 #[.val (.int q0), .val (.int q1), .val (.int q2), .val (.int q3), .val (.int q4), .val (.int kk), .val (.int x0), .val (.int x1), .val (.int x2), .val (.int dd), .val (.int ((x1 + (1 : Int32)) + dd)), .val (.ref a), .val (.int (1 : Int32))] [(.ref a)])) _
  refine XS.iconst Xc.here hx rfl (hb hby at_267) ?_
  show Steps p.tables e below (Tc.setTop (mkF m 268 #[.val (.int q0), .val (.int q1), .val (.int q2), .val (.int q3), .val (.int q4), .val (.int kk), .val (.int x0), .val (.int x1), .val (.int x2), .val (.int dd), .val (.int ((x1 + (1 : Int32)) + dd)), .val (.ref a), .val (.int (1 : Int32))] [(.int (1 : Int32)), (.ref a)])) _
  refine own_ild Xc hx hZ rfl Vc 1 (by decide) (by decide) (by decide) rfl (g := (mkF m 268 #[.val (.int q0), .val (.int q1), .val (.int q2), .val (.int q3), .val (.int q4), .val (.int kk), .val (.int x0), .val (.int x1), .val (.int x2), .val (.int dd), .val (.int ((x1 + (1 : Int32)) + dd)), .val (.ref a), .val (.int (1 : Int32))] [(.int (1 : Int32)), (.ref a)])) rfl rfl (hb hby at_268) _ ?_
  show Steps p.tables e below (Tc.setTop (mkF m 269 #[.val (.int q0), .val (.int q1), .val (.int q2), .val (.int q3), .val (.int q4), .val (.int kk), .val (.int x0), .val (.int x1), .val (.int x2), .val (.int dd), .val (.int ((x1 + (1 : Int32)) + dd)), .val (.ref a), .val (.int (1 : Int32))] [(.int ((x0 + (1 : Int32)) + (1 : Int32)))])) _
  refine XS.iload Xc.here hx rfl (hb hby at_269) rfl ?_
  show Steps p.tables e below (Tc.setTop (mkF m 271 #[.val (.int q0), .val (.int q1), .val (.int q2), .val (.int q3), .val (.int q4), .val (.int kk), .val (.int x0), .val (.int x1), .val (.int x2), .val (.int dd), .val (.int ((x1 + (1 : Int32)) + dd)), .val (.ref a), .val (.int (1 : Int32))] [(.int x0), (.int ((x0 + (1 : Int32)) + (1 : Int32)))])) _
  refine XS.iconst Xc.here hx rfl (hb hby at_271) ?_
  show Steps p.tables e below (Tc.setTop (mkF m 272 #[.val (.int q0), .val (.int q1), .val (.int q2), .val (.int q3), .val (.int q4), .val (.int kk), .val (.int x0), .val (.int x1), .val (.int x2), .val (.int dd), .val (.int ((x1 + (1 : Int32)) + dd)), .val (.ref a), .val (.int (1 : Int32))] [(.int (2 : Int32)), (.int x0), (.int ((x0 + (1 : Int32)) + (1 : Int32)))])) _
  refine XS.iadd Xc.here hx rfl (hb hby at_272) rfl ?_
  show Steps p.tables e below (Tc.setTop (mkF m 273 #[.val (.int q0), .val (.int q1), .val (.int q2), .val (.int q3), .val (.int q4), .val (.int kk), .val (.int x0), .val (.int x1), .val (.int x2), .val (.int dd), .val (.int ((x1 + (1 : Int32)) + dd)), .val (.ref a), .val (.int (1 : Int32))] [(.int (x0 + (2 : Int32))), (.int ((x0 + (1 : Int32)) + (1 : Int32)))])) _
  refine XS.icmpNo Xc.here hx rfl (hb hby at_273) rfl (teq (own_a2 x0 : ((x0 + (1 : Int32)) + (1 : Int32)) = (x0 + (2 : Int32)))).2 ?_
  show Steps p.tables e below (Tc.setTop (mkF m 276 #[.val (.int q0), .val (.int q1), .val (.int q2), .val (.int q3), .val (.int q4), .val (.int kk), .val (.int x0), .val (.int x1), .val (.int x2), .val (.int dd), .val (.int ((x1 + (1 : Int32)) + dd)), .val (.ref a), .val (.int (1 : Int32))] [])) _
  refine XS.iconst Xc.here hx rfl (hb hby at_276) ?_
  show Steps p.tables e below (Tc.setTop (mkF m 277 #[.val (.int q0), .val (.int q1), .val (.int q2), .val (.int q3), .val (.int q4), .val (.int kk), .val (.int x0), .val (.int x1), .val (.int x2), .val (.int dd), .val (.int ((x1 + (1 : Int32)) + dd)), .val (.ref a), .val (.int (1 : Int32))] [(.int (1 : Int32))])) _
  refine XS.goto Xc.here hx rfl (pc0 := 277) (pc' := 281) rfl (hb hby at_277) (by decide) (by decide) ?_
  exact kt
set_option maxRecDepth 65536 in
set_option maxHeartbeats 4000000 in
theorem own_law_2_2 {p : Program} {l : Launch} {e : Env} {s : State} {m : MethodId} {args : Array Value} {below : List Frame} {meth : Method} {c : Code} {T : State} {locs : List Loc} {Z : State} {a0 : Array Value} (q0 q1 q2 q3 q4 kk x0 x1 x2 dd : Int32) (hw : ∀ d ∈ tables_1, d.before a0 Z = true) (X0 : Stand p l e room_1 s m args below meth c T locs 0 0) (hx : p.tables.exec = Jvm.exec) (hZ : Z.Warmed39 s.vm) (hby : c.code = code) (hml : c.maxLocals = 13) (hown : s.vm.findClass "com/example/ashlar/ashlar/storage/SubsetsNextPinLaw" = some m.cls) {h0 : Heap} (e0 : T.heap = h0) {n0 : Nat} (Z0 : n0 ≤ h0.size) (N0 : Fr n0 locs) (hc1 : ¬ (x1 < (((x1 + (1 : Int32)) + dd) - (1 : Int32)))) (hc0 : ¬ (x0 < (((x1 + (1 : Int32)) + dd) - (2 : Int32)))) :
    ∃ (T' : State) (l' : List Loc) (pcr : Nat) (Lr : Array Slot) (sl : Nat), sl ≤ 128 ∧ Stand p l e room_1 s m args below meth c T' l' 1 sl ∧ Fr n0 l' ∧ decode c.code pcr = .ok (.ireturn, 1) ∧ ∀ t, Steps p.tables e below (T'.setTop (mkF m pcr Lr [(.int (1 : Int32))])) t → Steps p.tables e below (T.setTop (mkF m 167 #[.val (.int q0), .val (.int q1), .val (.int q2), .val (.int q3), .val (.int q4), .val (.int kk), .val (.int x0), .val (.int x1), .val (.int x2), .val (.int dd), .unset, .unset, .unset] [])) t := by
  obtain ⟨Ta, ha, ka, Xa, ea, Ea, Aa, sta⟩ := newP X0 hx hZ (hw _ (List.mem_of_getElem? (i := 5) rfl)) e0 (g := (mkF m 177 #[.val (.int q0), .val (.int q1), .val (.int q2), .val (.int q3), .val (.int q4), .val (.int kk), .val (.int x0), .val (.int x1), .val (.int x2), .val (.int dd), .val (.int ((x1 + (1 : Int32)) + dd)), .unset, .unset] [(.int (2 : Int32))])) rfl (hb hby at_177) rfl (by decide) (cap := 2) (by decide) (by decide) (by decide) (by decide)
  obtain ⟨a, ga⟩ : ∃ z, z = h0.size := ⟨_, rfl⟩
  rw [← ga] at Aa sta
  have Va : Arv Z ha a ka .int (2 : Int32) [(.int (0 : Int32)), (.int (0 : Int32))] (.int (0 : Int32)) := (Arv.new Aa (by decide)).pad (pad_rep [] (.int (0 : Int32)) 2)
  have g_a : n0 ≤ a := Nat.le_trans Z0 (Nat.le_of_eq ga.symm)
  obtain ⟨Ts0, hs0, Xs0, es0, Ws0, Vs0', sts0⟩ := own_ist Xa hx hZ ea Va 0 (by decide) (by decide) (by decide) (Nat.le_of_ble_eq_true rfl) (g := (mkF m 183 #[.val (.int q0), .val (.int q1), .val (.int q2), .val (.int q3), .val (.int q4), .val (.int kk), .val (.int x0), .val (.int x1), .val (.int x2), .val (.int dd), .val (.int ((x1 + (1 : Int32)) + dd)), .unset, .unset] [(.int x0), (.int (0 : Int32)), (.ref a), (.ref a)])) rfl rfl (hb hby at_183)
  have Vs0 : Arv Z hs0 a ka .int (2 : Int32) [(.int x0), (.int (0 : Int32))] (.int 0) := Vs0'
  have Ns0 := Fr.snoc Xs0 N0 g_a
  obtain ⟨Ts1, hs1, Xs1, es1, Ws1, Vs1', sts1⟩ := own_ist Xs0 hx hZ es0 Vs0 1 (by decide) (by decide) (by decide) (Nat.le_of_ble_eq_true rfl) (g := (mkF m 188 #[.val (.int q0), .val (.int q1), .val (.int q2), .val (.int q3), .val (.int q4), .val (.int kk), .val (.int x0), .val (.int x1), .val (.int x2), .val (.int dd), .val (.int ((x1 + (1 : Int32)) + dd)), .unset, .unset] [(.int x1), (.int (1 : Int32)), (.ref a), (.ref a)])) rfl rfl (hb hby at_188)
  have Vs1 : Arv Z hs1 a ka .int (2 : Int32) [(.int x0), (.int x1)] (.int 0) := Vs1'
  have Ns1 := Fr.snoc Xs1 Ns0 g_a
  obtain ⟨_, _, ⟨Tc, Lc, kc, nc⟩, -, Xc, ⟨Lcc, hQc, lc, yc, zc⟩, stc⟩ := Jvm.LawKit.callS Xs1 hx (y := (⟨"com/example/ashlar/ashlar/storage/Subsets", "next", "([II)Z"⟩ : MethodName)) hown (mvT hZ (hw _ (List.mem_of_getElem? (i := 6) rfl))) (mvT hZ (hw _ (List.mem_of_getElem? (i := 7) rfl))) (mvT hZ (hw _ (List.mem_of_getElem? (i := 8) rfl))) (mvT hZ (hw _ (List.mem_of_getElem? (i := 9) rfl))) (by decide) (backOf (W := 0) (rm2_2_2 l Z a0 hw [] a ((x1 + (1 : Int32)) + dd) ka x0 x1 hs1 n0 g_a Vs1 (by rw [own_s21]; exact hc1) (by rw [own_s20]; exact hc0)) hZ (hw _ (List.mem_of_getElem? (i := 9) rfl)) (hw _ (List.mem_of_getElem? (i := 8) rfl)) (by decide) (by decide)) (g := (mkF m 195 #[.val (.int q0), .val (.int q1), .val (.int q2), .val (.int q3), .val (.int q4), .val (.int kk), .val (.int x0), .val (.int x1), .val (.int x2), .val (.int dd), .val (.int ((x1 + (1 : Int32)) + dd)), .val (.ref a), .unset] [(.int ((x1 + (1 : Int32)) + dd)), (.ref a)])) rfl (by rw [hml]; rfl) (argsL := [(.ref a), (.int ((x1 + (1 : Int32)) + dd))]) (rest := []) (lenOf pd_0_n rfl) rfl (by show 2 * 0 + _ ≤ _; exact Nat.le_of_eq rfl) (hb hby at_195) (fun _ _ => ⟨rfl, es1, (by decide : 1 + 0 ≤ _), (by decide : 2 + 0 ≤ _)⟩)
  dsimp only [Pt.U, Pt.locs, Pt.cells, Pt.slots] at Xc lc yc zc stc hQc
  subst lc yc zc
  obtain ⟨rfl, Ncq, Vc⟩ := hQc
  have Nc := Fr.app Ns1 Ncq
  refine ⟨Tc, _, 310, #[.val (.int q0), .val (.int q1), .val (.int q2), .val (.int q3), .val (.int q4), .val (.int kk), .val (.int x0), .val (.int x1), .val (.int x2), .val (.int dd), .val (.int ((x1 + (1 : Int32)) + dd)), .val (.ref a), .val (.int (0 : Int32))], 2, by decide, Xc, Nc, hb hby at_310, fun t kt => ?_⟩
  show Steps p.tables e below (T.setTop (mkF m 167 #[.val (.int q0), .val (.int q1), .val (.int q2), .val (.int q3), .val (.int q4), .val (.int kk), .val (.int x0), .val (.int x1), .val (.int x2), .val (.int dd), .unset, .unset, .unset] [])) _
  refine XS.iload X0.here hx rfl (hb hby at_167) rfl ?_
  show Steps p.tables e below (T.setTop (mkF m 169 #[.val (.int q0), .val (.int q1), .val (.int q2), .val (.int q3), .val (.int q4), .val (.int kk), .val (.int x0), .val (.int x1), .val (.int x2), .val (.int dd), .unset, .unset, .unset] [(.int x1)])) _
  refine XS.iconst X0.here hx rfl (hb hby at_169) ?_
  show Steps p.tables e below (T.setTop (mkF m 170 #[.val (.int q0), .val (.int q1), .val (.int q2), .val (.int q3), .val (.int q4), .val (.int kk), .val (.int x0), .val (.int x1), .val (.int x2), .val (.int dd), .unset, .unset, .unset] [(.int (1 : Int32)), (.int x1)])) _
  refine XS.iadd X0.here hx rfl (hb hby at_170) rfl ?_
  show Steps p.tables e below (T.setTop (mkF m 171 #[.val (.int q0), .val (.int q1), .val (.int q2), .val (.int q3), .val (.int q4), .val (.int kk), .val (.int x0), .val (.int x1), .val (.int x2), .val (.int dd), .unset, .unset, .unset] [(.int (x1 + (1 : Int32)))])) _
  refine XS.iload X0.here hx rfl (hb hby at_171) rfl ?_
  show Steps p.tables e below (T.setTop (mkF m 173 #[.val (.int q0), .val (.int q1), .val (.int q2), .val (.int q3), .val (.int q4), .val (.int kk), .val (.int x0), .val (.int x1), .val (.int x2), .val (.int dd), .unset, .unset, .unset] [(.int dd), (.int (x1 + (1 : Int32)))])) _
  refine XS.iadd X0.here hx rfl (hb hby at_173) rfl ?_
  show Steps p.tables e below (T.setTop (mkF m 174 #[.val (.int q0), .val (.int q1), .val (.int q2), .val (.int q3), .val (.int q4), .val (.int kk), .val (.int x0), .val (.int x1), .val (.int x2), .val (.int dd), .unset, .unset, .unset] [(.int ((x1 + (1 : Int32)) + dd))])) _
  refine XS.istore X0.here hx rfl (hb hby at_174) rfl (l' := #[.val (.int q0), .val (.int q1), .val (.int q2), .val (.int q3), .val (.int q4), .val (.int kk), .val (.int x0), .val (.int x1), .val (.int x2), .val (.int dd), .val (.int ((x1 + (1 : Int32)) + dd)), .unset, .unset]) rfl ?_
  show Steps p.tables e below (T.setTop (mkF m 176 #[.val (.int q0), .val (.int q1), .val (.int q2), .val (.int q3), .val (.int q4), .val (.int kk), .val (.int x0), .val (.int x1), .val (.int x2), .val (.int dd), .val (.int ((x1 + (1 : Int32)) + dd)), .unset, .unset] [])) _
  refine XS.iconst X0.here hx rfl (hb hby at_176) ?_
  show Steps p.tables e below (T.setTop (mkF m 177 #[.val (.int q0), .val (.int q1), .val (.int q2), .val (.int q3), .val (.int q4), .val (.int kk), .val (.int x0), .val (.int x1), .val (.int x2), .val (.int dd), .val (.int ((x1 + (1 : Int32)) + dd)), .unset, .unset] [(.int (2 : Int32))])) _
  refine sta _ ?_
  show Steps p.tables e below (Ta.setTop (mkF m 179 #[.val (.int q0), .val (.int q1), .val (.int q2), .val (.int q3), .val (.int q4), .val (.int kk), .val (.int x0), .val (.int x1), .val (.int x2), .val (.int dd), .val (.int ((x1 + (1 : Int32)) + dd)), .unset, .unset] [(.ref a)])) _
  refine XS.dup Xa.here hx rfl (hb hby at_179) rfl rfl ?_
  show Steps p.tables e below (Ta.setTop (mkF m 180 #[.val (.int q0), .val (.int q1), .val (.int q2), .val (.int q3), .val (.int q4), .val (.int kk), .val (.int x0), .val (.int x1), .val (.int x2), .val (.int dd), .val (.int ((x1 + (1 : Int32)) + dd)), .unset, .unset] [(.ref a), (.ref a)])) _
  refine XS.iconst Xa.here hx rfl (hb hby at_180) ?_
  show Steps p.tables e below (Ta.setTop (mkF m 181 #[.val (.int q0), .val (.int q1), .val (.int q2), .val (.int q3), .val (.int q4), .val (.int kk), .val (.int x0), .val (.int x1), .val (.int x2), .val (.int dd), .val (.int ((x1 + (1 : Int32)) + dd)), .unset, .unset] [(.int (0 : Int32)), (.ref a), (.ref a)])) _
  refine XS.iload Xa.here hx rfl (hb hby at_181) rfl ?_
  show Steps p.tables e below (Ta.setTop (mkF m 183 #[.val (.int q0), .val (.int q1), .val (.int q2), .val (.int q3), .val (.int q4), .val (.int kk), .val (.int x0), .val (.int x1), .val (.int x2), .val (.int dd), .val (.int ((x1 + (1 : Int32)) + dd)), .unset, .unset] [(.int x0), (.int (0 : Int32)), (.ref a), (.ref a)])) _
  refine sts0 _ ?_
  show Steps p.tables e below (Ts0.setTop (mkF m 184 #[.val (.int q0), .val (.int q1), .val (.int q2), .val (.int q3), .val (.int q4), .val (.int kk), .val (.int x0), .val (.int x1), .val (.int x2), .val (.int dd), .val (.int ((x1 + (1 : Int32)) + dd)), .unset, .unset] [(.ref a)])) _
  refine XS.dup Xs0.here hx rfl (hb hby at_184) rfl rfl ?_
  show Steps p.tables e below (Ts0.setTop (mkF m 185 #[.val (.int q0), .val (.int q1), .val (.int q2), .val (.int q3), .val (.int q4), .val (.int kk), .val (.int x0), .val (.int x1), .val (.int x2), .val (.int dd), .val (.int ((x1 + (1 : Int32)) + dd)), .unset, .unset] [(.ref a), (.ref a)])) _
  refine XS.iconst Xs0.here hx rfl (hb hby at_185) ?_
  show Steps p.tables e below (Ts0.setTop (mkF m 186 #[.val (.int q0), .val (.int q1), .val (.int q2), .val (.int q3), .val (.int q4), .val (.int kk), .val (.int x0), .val (.int x1), .val (.int x2), .val (.int dd), .val (.int ((x1 + (1 : Int32)) + dd)), .unset, .unset] [(.int (1 : Int32)), (.ref a), (.ref a)])) _
  refine XS.iload Xs0.here hx rfl (hb hby at_186) rfl ?_
  show Steps p.tables e below (Ts0.setTop (mkF m 188 #[.val (.int q0), .val (.int q1), .val (.int q2), .val (.int q3), .val (.int q4), .val (.int kk), .val (.int x0), .val (.int x1), .val (.int x2), .val (.int dd), .val (.int ((x1 + (1 : Int32)) + dd)), .unset, .unset] [(.int x1), (.int (1 : Int32)), (.ref a), (.ref a)])) _
  refine sts1 _ ?_
  show Steps p.tables e below (Ts1.setTop (mkF m 189 #[.val (.int q0), .val (.int q1), .val (.int q2), .val (.int q3), .val (.int q4), .val (.int kk), .val (.int x0), .val (.int x1), .val (.int x2), .val (.int dd), .val (.int ((x1 + (1 : Int32)) + dd)), .unset, .unset] [(.ref a)])) _
  refine XS.astore Xs1.here hx rfl (hb hby at_189) rfl rfl (l' := #[.val (.int q0), .val (.int q1), .val (.int q2), .val (.int q3), .val (.int q4), .val (.int kk), .val (.int x0), .val (.int x1), .val (.int x2), .val (.int dd), .val (.int ((x1 + (1 : Int32)) + dd)), .val (.ref a), .unset]) rfl ?_
  show Steps p.tables e below (Ts1.setTop (mkF m 191 #[.val (.int q0), .val (.int q1), .val (.int q2), .val (.int q3), .val (.int q4), .val (.int kk), .val (.int x0), .val (.int x1), .val (.int x2), .val (.int dd), .val (.int ((x1 + (1 : Int32)) + dd)), .val (.ref a), .unset] [])) _
  refine XS.aload Xs1.here hx rfl (hb hby at_191) rfl rfl ?_
  show Steps p.tables e below (Ts1.setTop (mkF m 193 #[.val (.int q0), .val (.int q1), .val (.int q2), .val (.int q3), .val (.int q4), .val (.int kk), .val (.int x0), .val (.int x1), .val (.int x2), .val (.int dd), .val (.int ((x1 + (1 : Int32)) + dd)), .val (.ref a), .unset] [(.ref a)])) _
  refine XS.iload Xs1.here hx rfl (hb hby at_193) rfl ?_
  show Steps p.tables e below (Ts1.setTop (mkF m 195 #[.val (.int q0), .val (.int q1), .val (.int q2), .val (.int q3), .val (.int q4), .val (.int kk), .val (.int x0), .val (.int x1), .val (.int x2), .val (.int dd), .val (.int ((x1 + (1 : Int32)) + dd)), .val (.ref a), .unset] [(.int ((x1 + (1 : Int32)) + dd)), (.ref a)])) _
  refine stc _ ?_
  show Steps p.tables e below (Tc.setTop (mkF m 198 #[.val (.int q0), .val (.int q1), .val (.int q2), .val (.int q3), .val (.int q4), .val (.int kk), .val (.int x0), .val (.int x1), .val (.int x2), .val (.int dd), .val (.int ((x1 + (1 : Int32)) + dd)), .val (.ref a), .unset] [(.int (0 : Int32))])) _
  refine XS.istore Xc.here hx rfl (hb hby at_198) rfl (l' := #[.val (.int q0), .val (.int q1), .val (.int q2), .val (.int q3), .val (.int q4), .val (.int kk), .val (.int x0), .val (.int x1), .val (.int x2), .val (.int dd), .val (.int ((x1 + (1 : Int32)) + dd)), .val (.ref a), .val (.int (0 : Int32))]) rfl ?_
  show Steps p.tables e below (Tc.setTop (mkF m 200 #[.val (.int q0), .val (.int q1), .val (.int q2), .val (.int q3), .val (.int q4), .val (.int kk), .val (.int x0), .val (.int x1), .val (.int x2), .val (.int dd), .val (.int ((x1 + (1 : Int32)) + dd)), .val (.ref a), .val (.int (0 : Int32))] [])) _
  refine XS.iload Xc.here hx rfl (hb hby at_200) rfl ?_
  show Steps p.tables e below (Tc.setTop (mkF m 202 #[.val (.int q0), .val (.int q1), .val (.int q2), .val (.int q3), .val (.int q4), .val (.int kk), .val (.int x0), .val (.int x1), .val (.int x2), .val (.int dd), .val (.int ((x1 + (1 : Int32)) + dd)), .val (.ref a), .val (.int (0 : Int32))] [(.int x1)])) _
  refine XS.iload Xc.here hx rfl (hb hby at_202) rfl ?_
  show Steps p.tables e below (Tc.setTop (mkF m 204 #[.val (.int q0), .val (.int q1), .val (.int q2), .val (.int q3), .val (.int q4), .val (.int kk), .val (.int x0), .val (.int x1), .val (.int x2), .val (.int dd), .val (.int ((x1 + (1 : Int32)) + dd)), .val (.ref a), .val (.int (0 : Int32))] [(.int ((x1 + (1 : Int32)) + dd)), (.int x1)])) _
  refine XS.iconst Xc.here hx rfl (hb hby at_204) ?_
  show Steps p.tables e below (Tc.setTop (mkF m 205 #[.val (.int q0), .val (.int q1), .val (.int q2), .val (.int q3), .val (.int q4), .val (.int kk), .val (.int x0), .val (.int x1), .val (.int x2), .val (.int dd), .val (.int ((x1 + (1 : Int32)) + dd)), .val (.ref a), .val (.int (0 : Int32))] [(.int (1 : Int32)), (.int ((x1 + (1 : Int32)) + dd)), (.int x1)])) _
  refine XS.isub Xc.here hx rfl (hb hby at_205) rfl ?_
  show Steps p.tables e below (Tc.setTop (mkF m 206 #[.val (.int q0), .val (.int q1), .val (.int q2), .val (.int q3), .val (.int q4), .val (.int kk), .val (.int x0), .val (.int x1), .val (.int x2), .val (.int dd), .val (.int ((x1 + (1 : Int32)) + dd)), .val (.ref a), .val (.int (0 : Int32))] [(.int (((x1 + (1 : Int32)) + dd) - (1 : Int32))), (.int x1)])) _
  refine XS.icmpYes Xc.here hx rfl (pc0 := 206) (pc' := 240) rfl (hb hby at_206) rfl (flt (hc1 : ¬ (x1 < (((x1 + (1 : Int32)) + dd) - (1 : Int32))))).2.1 (by decide) (by decide) ?_
  show Steps p.tables e below (Tc.setTop (mkF m 240 #[.val (.int q0), .val (.int q1), .val (.int q2), .val (.int q3), .val (.int q4), .val (.int kk), .val (.int x0), .val (.int x1), .val (.int x2), .val (.int dd), .val (.int ((x1 + (1 : Int32)) + dd)), .val (.ref a), .val (.int (0 : Int32))] [])) _
  refine XS.iload Xc.here hx rfl (hb hby at_240) rfl ?_
  show Steps p.tables e below (Tc.setTop (mkF m 242 #[.val (.int q0), .val (.int q1), .val (.int q2), .val (.int q3), .val (.int q4), .val (.int kk), .val (.int x0), .val (.int x1), .val (.int x2), .val (.int dd), .val (.int ((x1 + (1 : Int32)) + dd)), .val (.ref a), .val (.int (0 : Int32))] [(.int x0)])) _
  refine XS.iload Xc.here hx rfl (hb hby at_242) rfl ?_
  show Steps p.tables e below (Tc.setTop (mkF m 244 #[.val (.int q0), .val (.int q1), .val (.int q2), .val (.int q3), .val (.int q4), .val (.int kk), .val (.int x0), .val (.int x1), .val (.int x2), .val (.int dd), .val (.int ((x1 + (1 : Int32)) + dd)), .val (.ref a), .val (.int (0 : Int32))] [(.int ((x1 + (1 : Int32)) + dd)), (.int x0)])) _
  refine XS.iconst Xc.here hx rfl (hb hby at_244) ?_
  show Steps p.tables e below (Tc.setTop (mkF m 245 #[.val (.int q0), .val (.int q1), .val (.int q2), .val (.int q3), .val (.int q4), .val (.int kk), .val (.int x0), .val (.int x1), .val (.int x2), .val (.int dd), .val (.int ((x1 + (1 : Int32)) + dd)), .val (.ref a), .val (.int (0 : Int32))] [(.int (2 : Int32)), (.int ((x1 + (1 : Int32)) + dd)), (.int x0)])) _
  refine XS.isub Xc.here hx rfl (hb hby at_245) rfl ?_
  show Steps p.tables e below (Tc.setTop (mkF m 246 #[.val (.int q0), .val (.int q1), .val (.int q2), .val (.int q3), .val (.int q4), .val (.int kk), .val (.int x0), .val (.int x1), .val (.int x2), .val (.int dd), .val (.int ((x1 + (1 : Int32)) + dd)), .val (.ref a), .val (.int (0 : Int32))] [(.int (((x1 + (1 : Int32)) + dd) - (2 : Int32))), (.int x0)])) _
  refine XS.icmpYes Xc.here hx rfl (pc0 := 246) (pc' := 282) rfl (hb hby at_246) rfl (flt (hc0 : ¬ (x0 < (((x1 + (1 : Int32)) + dd) - (2 : Int32))))).2.1 (by decide) (by decide) ?_
  show Steps p.tables e below (Tc.setTop (mkF m 282 #[.val (.int q0), .val (.int q1), .val (.int q2), .val (.int q3), .val (.int q4), .val (.int kk), .val (.int x0), .val (.int x1), .val (.int x2), .val (.int dd), .val (.int ((x1 + (1 : Int32)) + dd)), .val (.ref a), .val (.int (0 : Int32))] [])) _
  refine XS.iload Xc.here hx rfl (hb hby at_282) rfl ?_
  show Steps p.tables e below (Tc.setTop (mkF m 284 #[.val (.int q0), .val (.int q1), .val (.int q2), .val (.int q3), .val (.int q4), .val (.int kk), .val (.int x0), .val (.int x1), .val (.int x2), .val (.int dd), .val (.int ((x1 + (1 : Int32)) + dd)), .val (.ref a), .val (.int (0 : Int32))] [(.int (0 : Int32))])) _
  refine XS.ifNo Xc.here hx rfl (hb hby at_284) rfl ((if0 _ _).trans (teq (by decide : (0 : Int32) = (0 : Int32))).2) ?_
  show Steps p.tables e below (Tc.setTop (mkF m 287 #[.val (.int q0), .val (.int q1), .val (.int q2), .val (.int q3), .val (.int q4), .val (.int kk), .val (.int x0), .val (.int x1), .val (.int x2), .val (.int dd), .val (.int ((x1 + (1 : Int32)) + dd)), .val (.ref a), .val (.int (0 : Int32))] [])) _
  refine XS.aload Xc.here hx rfl (hb hby at_287) rfl rfl ?_
  show Steps p.tables e below (Tc.setTop (mkF m 289 #[.val (.int q0), .val (.int q1), .val (.int q2), .val (.int q3), .val (.int q4), .val (.int kk), .val (.int x0), .val (.int x1), .val (.int x2), .val (.int dd), .val (.int ((x1 + (1 : Int32)) + dd)), .val (.ref a), .val (.int (0 : Int32))] [(.ref a)])) _
  refine XS.iconst Xc.here hx rfl (hb hby at_289) ?_
  show Steps p.tables e below (Tc.setTop (mkF m 290 #[.val (.int q0), .val (.int q1), .val (.int q2), .val (.int q3), .val (.int q4), .val (.int kk), .val (.int x0), .val (.int x1), .val (.int x2), .val (.int dd), .val (.int ((x1 + (1 : Int32)) + dd)), .val (.ref a), .val (.int (0 : Int32))] [(.int (0 : Int32)), (.ref a)])) _
  refine own_ild Xc hx hZ rfl Vc 0 (by decide) (by decide) (by decide) rfl (g := (mkF m 290 #[.val (.int q0), .val (.int q1), .val (.int q2), .val (.int q3), .val (.int q4), .val (.int kk), .val (.int x0), .val (.int x1), .val (.int x2), .val (.int dd), .val (.int ((x1 + (1 : Int32)) + dd)), .val (.ref a), .val (.int (0 : Int32))] [(.int (0 : Int32)), (.ref a)])) rfl rfl (hb hby at_290) _ ?_
  show Steps p.tables e below (Tc.setTop (mkF m 291 #[.val (.int q0), .val (.int q1), .val (.int q2), .val (.int q3), .val (.int q4), .val (.int kk), .val (.int x0), .val (.int x1), .val (.int x2), .val (.int dd), .val (.int ((x1 + (1 : Int32)) + dd)), .val (.ref a), .val (.int (0 : Int32))] [(.int x0)])) _
  refine XS.iload Xc.here hx rfl (hb hby at_291) rfl ?_
  show Steps p.tables e below (Tc.setTop (mkF m 293 #[.val (.int q0), .val (.int q1), .val (.int q2), .val (.int q3), .val (.int q4), .val (.int kk), .val (.int x0), .val (.int x1), .val (.int x2), .val (.int dd), .val (.int ((x1 + (1 : Int32)) + dd)), .val (.ref a), .val (.int (0 : Int32))] [(.int x0), (.int x0)])) _
  refine XS.icmpNo Xc.here hx rfl (hb hby at_293) rfl (teq (rfl : x0 = x0)).2 ?_
  show Steps p.tables e below (Tc.setTop (mkF m 296 #[.val (.int q0), .val (.int q1), .val (.int q2), .val (.int q3), .val (.int q4), .val (.int kk), .val (.int x0), .val (.int x1), .val (.int x2), .val (.int dd), .val (.int ((x1 + (1 : Int32)) + dd)), .val (.ref a), .val (.int (0 : Int32))] [])) _
  refine XS.aload Xc.here hx rfl (hb hby at_296) rfl rfl ?_
  show Steps p.tables e below (Tc.setTop (mkF m 298 #[.val (.int q0), .val (.int q1), .val (.int q2), .val (.int q3), .val (.int q4), .val (.int kk), .val (.int x0), .val (.int x1), .val (.int x2), .val (.int dd), .val (.int ((x1 + (1 : Int32)) + dd)), .val (.ref a), .val (.int (0 : Int32))] [(.ref a)])) _
  refine XS.iconst Xc.here hx rfl (hb hby at_298) ?_
  show Steps p.tables e below (Tc.setTop (mkF m 299 #[.val (.int q0), .val (.int q1), .val (.int q2), .val (.int q3), .val (.int q4), .val (.int kk), .val (.int x0), .val (.int x1), .val (.int x2), .val (.int dd), .val (.int ((x1 + (1 : Int32)) + dd)), .val (.ref a), .val (.int (0 : Int32))] [(.int (1 : Int32)), (.ref a)])) _
  refine own_ild Xc hx hZ rfl Vc 1 (by decide) (by decide) (by decide) rfl (g := (mkF m 299 #[.val (.int q0), .val (.int q1), .val (.int q2), .val (.int q3), .val (.int q4), .val (.int kk), .val (.int x0), .val (.int x1), .val (.int x2), .val (.int dd), .val (.int ((x1 + (1 : Int32)) + dd)), .val (.ref a), .val (.int (0 : Int32))] [(.int (1 : Int32)), (.ref a)])) rfl rfl (hb hby at_299) _ ?_
  show Steps p.tables e below (Tc.setTop (mkF m 300 #[.val (.int q0), .val (.int q1), .val (.int q2), .val (.int q3), .val (.int q4), .val (.int kk), .val (.int x0), .val (.int x1), .val (.int x2), .val (.int dd), .val (.int ((x1 + (1 : Int32)) + dd)), .val (.ref a), .val (.int (0 : Int32))] [(.int x1)])) _
  refine XS.iload Xc.here hx rfl (hb hby at_300) rfl ?_
  show Steps p.tables e below (Tc.setTop (mkF m 302 #[.val (.int q0), .val (.int q1), .val (.int q2), .val (.int q3), .val (.int q4), .val (.int kk), .val (.int x0), .val (.int x1), .val (.int x2), .val (.int dd), .val (.int ((x1 + (1 : Int32)) + dd)), .val (.ref a), .val (.int (0 : Int32))] [(.int x1), (.int x1)])) _
  refine XS.icmpNo Xc.here hx rfl (hb hby at_302) rfl (teq (rfl : x1 = x1)).2 ?_
  show Steps p.tables e below (Tc.setTop (mkF m 305 #[.val (.int q0), .val (.int q1), .val (.int q2), .val (.int q3), .val (.int q4), .val (.int kk), .val (.int x0), .val (.int x1), .val (.int x2), .val (.int dd), .val (.int ((x1 + (1 : Int32)) + dd)), .val (.ref a), .val (.int (0 : Int32))] [])) _
  refine XS.iconst Xc.here hx rfl (hb hby at_305) ?_
  show Steps p.tables e below (Tc.setTop (mkF m 306 #[.val (.int q0), .val (.int q1), .val (.int q2), .val (.int q3), .val (.int q4), .val (.int kk), .val (.int x0), .val (.int x1), .val (.int x2), .val (.int dd), .val (.int ((x1 + (1 : Int32)) + dd)), .val (.ref a), .val (.int (0 : Int32))] [(.int (1 : Int32))])) _
  refine XS.goto Xc.here hx rfl (pc0 := 306) (pc' := 310) rfl (hb hby at_306) (by decide) (by decide) ?_
  exact kt
set_option maxRecDepth 65536 in
set_option maxHeartbeats 4000000 in
theorem own_law_3_0 {p : Program} {l : Launch} {e : Env} {s : State} {m : MethodId} {args : Array Value} {below : List Frame} {meth : Method} {c : Code} {T : State} {locs : List Loc} {Z : State} {a0 : Array Value} (q0 q1 q2 q3 q4 kk x0 x1 x2 dd : Int32) (hw : ∀ d ∈ tables_1, d.before a0 Z = true) (X0 : Stand p l e room_1 s m args below meth c T locs 0 0) (hx : p.tables.exec = Jvm.exec) (hZ : Z.Warmed39 s.vm) (hby : c.code = code) (hml : c.maxLocals = 13) (hown : s.vm.findClass "com/example/ashlar/ashlar/storage/SubsetsNextPinLaw" = some m.cls) {h0 : Heap} (e0 : T.heap = h0) {n0 : Nat} (Z0 : n0 ≤ h0.size) (N0 : Fr n0 locs) (hc2 : x2 < (((x2 + (1 : Int32)) + dd) - (1 : Int32))) :
    ∃ (T' : State) (l' : List Loc) (pcr : Nat) (Lr : Array Slot) (sl : Nat), sl ≤ 128 ∧ Stand p l e room_1 s m args below meth c T' l' 1 sl ∧ Fr n0 l' ∧ decode c.code pcr = .ok (.ireturn, 1) ∧ ∀ t, Steps p.tables e below (T'.setTop (mkF m pcr Lr [(.int (1 : Int32))])) t → Steps p.tables e below (T.setTop (mkF m 311 #[.val (.int q0), .val (.int q1), .val (.int q2), .val (.int q3), .val (.int q4), .val (.int kk), .val (.int x0), .val (.int x1), .val (.int x2), .val (.int dd), .unset, .unset, .unset] [])) t := by
  obtain ⟨Ta, ha, ka, Xa, ea, Ea, Aa, sta⟩ := newP X0 hx hZ (hw _ (List.mem_of_getElem? (i := 5) rfl)) e0 (g := (mkF m 321 #[.val (.int q0), .val (.int q1), .val (.int q2), .val (.int q3), .val (.int q4), .val (.int kk), .val (.int x0), .val (.int x1), .val (.int x2), .val (.int dd), .val (.int ((x2 + (1 : Int32)) + dd)), .unset, .unset] [(.int (3 : Int32))])) rfl (hb hby at_321) rfl (by decide) (cap := 3) (by decide) (by decide) (by decide) (by decide)
  obtain ⟨a, ga⟩ : ∃ z, z = h0.size := ⟨_, rfl⟩
  rw [← ga] at Aa sta
  have Va : Arv Z ha a ka .int (3 : Int32) [(.int (0 : Int32)), (.int (0 : Int32)), (.int (0 : Int32))] (.int (0 : Int32)) := (Arv.new Aa (by decide)).pad (pad_rep [] (.int (0 : Int32)) 3)
  have g_a : n0 ≤ a := Nat.le_trans Z0 (Nat.le_of_eq ga.symm)
  obtain ⟨Ts0, hs0, Xs0, es0, Ws0, Vs0', sts0⟩ := own_ist Xa hx hZ ea Va 0 (by decide) (by decide) (by decide) (Nat.le_of_ble_eq_true rfl) (g := (mkF m 327 #[.val (.int q0), .val (.int q1), .val (.int q2), .val (.int q3), .val (.int q4), .val (.int kk), .val (.int x0), .val (.int x1), .val (.int x2), .val (.int dd), .val (.int ((x2 + (1 : Int32)) + dd)), .unset, .unset] [(.int x0), (.int (0 : Int32)), (.ref a), (.ref a)])) rfl rfl (hb hby at_327)
  have Vs0 : Arv Z hs0 a ka .int (3 : Int32) [(.int x0), (.int (0 : Int32)), (.int (0 : Int32))] (.int 0) := Vs0'
  have Ns0 := Fr.snoc Xs0 N0 g_a
  obtain ⟨Ts1, hs1, Xs1, es1, Ws1, Vs1', sts1⟩ := own_ist Xs0 hx hZ es0 Vs0 1 (by decide) (by decide) (by decide) (Nat.le_of_ble_eq_true rfl) (g := (mkF m 332 #[.val (.int q0), .val (.int q1), .val (.int q2), .val (.int q3), .val (.int q4), .val (.int kk), .val (.int x0), .val (.int x1), .val (.int x2), .val (.int dd), .val (.int ((x2 + (1 : Int32)) + dd)), .unset, .unset] [(.int x1), (.int (1 : Int32)), (.ref a), (.ref a)])) rfl rfl (hb hby at_332)
  have Vs1 : Arv Z hs1 a ka .int (3 : Int32) [(.int x0), (.int x1), (.int (0 : Int32))] (.int 0) := Vs1'
  have Ns1 := Fr.snoc Xs1 Ns0 g_a
  obtain ⟨Ts2, hs2, Xs2, es2, Ws2, Vs2', sts2⟩ := own_ist Xs1 hx hZ es1 Vs1 2 (by decide) (by decide) (by decide) (Nat.le_of_ble_eq_true rfl) (g := (mkF m 337 #[.val (.int q0), .val (.int q1), .val (.int q2), .val (.int q3), .val (.int q4), .val (.int kk), .val (.int x0), .val (.int x1), .val (.int x2), .val (.int dd), .val (.int ((x2 + (1 : Int32)) + dd)), .unset, .unset] [(.int x2), (.int (2 : Int32)), (.ref a), (.ref a)])) rfl rfl (hb hby at_337)
  have Vs2 : Arv Z hs2 a ka .int (3 : Int32) [(.int x0), (.int x1), (.int x2)] (.int 0) := Vs2'
  have Ns2 := Fr.snoc Xs2 Ns1 g_a
  obtain ⟨_, _, ⟨Tc, Lc, kc, nc⟩, -, Xc, ⟨Lcc, hQc, lc, yc, zc⟩, stc⟩ := Jvm.LawKit.callS Xs2 hx (y := (⟨"com/example/ashlar/ashlar/storage/Subsets", "next", "([II)Z"⟩ : MethodName)) hown (mvT hZ (hw _ (List.mem_of_getElem? (i := 6) rfl))) (mvT hZ (hw _ (List.mem_of_getElem? (i := 7) rfl))) (mvT hZ (hw _ (List.mem_of_getElem? (i := 8) rfl))) (mvT hZ (hw _ (List.mem_of_getElem? (i := 9) rfl))) (by decide) (backOf (W := 0) (rm2_3_0 l Z a0 hw [] a ((x2 + (1 : Int32)) + dd) ka x0 x1 x2 hs2 n0 g_a Vs2 (by rw [own_s32]; exact hc2)) hZ (hw _ (List.mem_of_getElem? (i := 9) rfl)) (hw _ (List.mem_of_getElem? (i := 8) rfl)) (by decide) (by decide)) (g := (mkF m 344 #[.val (.int q0), .val (.int q1), .val (.int q2), .val (.int q3), .val (.int q4), .val (.int kk), .val (.int x0), .val (.int x1), .val (.int x2), .val (.int dd), .val (.int ((x2 + (1 : Int32)) + dd)), .val (.ref a), .unset] [(.int ((x2 + (1 : Int32)) + dd)), (.ref a)])) rfl (by rw [hml]; rfl) (argsL := [(.ref a), (.int ((x2 + (1 : Int32)) + dd))]) (rest := []) (lenOf pd_0_n rfl) rfl (by show 2 * 0 + _ ≤ _; exact Nat.le_of_eq rfl) (hb hby at_344) (fun _ _ => ⟨rfl, es2, (by decide : 1 + 0 ≤ _), (by decide : 3 + 0 ≤ _)⟩)
  dsimp only [Pt.U, Pt.locs, Pt.cells, Pt.slots] at Xc lc yc zc stc hQc
  subst lc yc zc
  obtain ⟨rfl, Ncq, Vc⟩ := hQc
  have Nc := Fr.app Ns2 Ncq
  refine ⟨Tc, _, 397, #[.val (.int q0), .val (.int q1), .val (.int q2), .val (.int q3), .val (.int q4), .val (.int kk), .val (.int x0), .val (.int x1), .val (.int x2), .val (.int dd), .val (.int ((x2 + (1 : Int32)) + dd)), .val (.ref a), .val (.int (1 : Int32))], 3, by decide, Xc, Nc, hb hby at_397, fun t kt => ?_⟩
  show Steps p.tables e below (T.setTop (mkF m 311 #[.val (.int q0), .val (.int q1), .val (.int q2), .val (.int q3), .val (.int q4), .val (.int kk), .val (.int x0), .val (.int x1), .val (.int x2), .val (.int dd), .unset, .unset, .unset] [])) _
  refine XS.iload X0.here hx rfl (hb hby at_311) rfl ?_
  show Steps p.tables e below (T.setTop (mkF m 313 #[.val (.int q0), .val (.int q1), .val (.int q2), .val (.int q3), .val (.int q4), .val (.int kk), .val (.int x0), .val (.int x1), .val (.int x2), .val (.int dd), .unset, .unset, .unset] [(.int x2)])) _
  refine XS.iconst X0.here hx rfl (hb hby at_313) ?_
  show Steps p.tables e below (T.setTop (mkF m 314 #[.val (.int q0), .val (.int q1), .val (.int q2), .val (.int q3), .val (.int q4), .val (.int kk), .val (.int x0), .val (.int x1), .val (.int x2), .val (.int dd), .unset, .unset, .unset] [(.int (1 : Int32)), (.int x2)])) _
  refine XS.iadd X0.here hx rfl (hb hby at_314) rfl ?_
  show Steps p.tables e below (T.setTop (mkF m 315 #[.val (.int q0), .val (.int q1), .val (.int q2), .val (.int q3), .val (.int q4), .val (.int kk), .val (.int x0), .val (.int x1), .val (.int x2), .val (.int dd), .unset, .unset, .unset] [(.int (x2 + (1 : Int32)))])) _
  refine XS.iload X0.here hx rfl (hb hby at_315) rfl ?_
  show Steps p.tables e below (T.setTop (mkF m 317 #[.val (.int q0), .val (.int q1), .val (.int q2), .val (.int q3), .val (.int q4), .val (.int kk), .val (.int x0), .val (.int x1), .val (.int x2), .val (.int dd), .unset, .unset, .unset] [(.int dd), (.int (x2 + (1 : Int32)))])) _
  refine XS.iadd X0.here hx rfl (hb hby at_317) rfl ?_
  show Steps p.tables e below (T.setTop (mkF m 318 #[.val (.int q0), .val (.int q1), .val (.int q2), .val (.int q3), .val (.int q4), .val (.int kk), .val (.int x0), .val (.int x1), .val (.int x2), .val (.int dd), .unset, .unset, .unset] [(.int ((x2 + (1 : Int32)) + dd))])) _
  refine XS.istore X0.here hx rfl (hb hby at_318) rfl (l' := #[.val (.int q0), .val (.int q1), .val (.int q2), .val (.int q3), .val (.int q4), .val (.int kk), .val (.int x0), .val (.int x1), .val (.int x2), .val (.int dd), .val (.int ((x2 + (1 : Int32)) + dd)), .unset, .unset]) rfl ?_
  show Steps p.tables e below (T.setTop (mkF m 320 #[.val (.int q0), .val (.int q1), .val (.int q2), .val (.int q3), .val (.int q4), .val (.int kk), .val (.int x0), .val (.int x1), .val (.int x2), .val (.int dd), .val (.int ((x2 + (1 : Int32)) + dd)), .unset, .unset] [])) _
  refine XS.iconst X0.here hx rfl (hb hby at_320) ?_
  show Steps p.tables e below (T.setTop (mkF m 321 #[.val (.int q0), .val (.int q1), .val (.int q2), .val (.int q3), .val (.int q4), .val (.int kk), .val (.int x0), .val (.int x1), .val (.int x2), .val (.int dd), .val (.int ((x2 + (1 : Int32)) + dd)), .unset, .unset] [(.int (3 : Int32))])) _
  refine sta _ ?_
  show Steps p.tables e below (Ta.setTop (mkF m 323 #[.val (.int q0), .val (.int q1), .val (.int q2), .val (.int q3), .val (.int q4), .val (.int kk), .val (.int x0), .val (.int x1), .val (.int x2), .val (.int dd), .val (.int ((x2 + (1 : Int32)) + dd)), .unset, .unset] [(.ref a)])) _
  refine XS.dup Xa.here hx rfl (hb hby at_323) rfl rfl ?_
  show Steps p.tables e below (Ta.setTop (mkF m 324 #[.val (.int q0), .val (.int q1), .val (.int q2), .val (.int q3), .val (.int q4), .val (.int kk), .val (.int x0), .val (.int x1), .val (.int x2), .val (.int dd), .val (.int ((x2 + (1 : Int32)) + dd)), .unset, .unset] [(.ref a), (.ref a)])) _
  refine XS.iconst Xa.here hx rfl (hb hby at_324) ?_
  show Steps p.tables e below (Ta.setTop (mkF m 325 #[.val (.int q0), .val (.int q1), .val (.int q2), .val (.int q3), .val (.int q4), .val (.int kk), .val (.int x0), .val (.int x1), .val (.int x2), .val (.int dd), .val (.int ((x2 + (1 : Int32)) + dd)), .unset, .unset] [(.int (0 : Int32)), (.ref a), (.ref a)])) _
  refine XS.iload Xa.here hx rfl (hb hby at_325) rfl ?_
  show Steps p.tables e below (Ta.setTop (mkF m 327 #[.val (.int q0), .val (.int q1), .val (.int q2), .val (.int q3), .val (.int q4), .val (.int kk), .val (.int x0), .val (.int x1), .val (.int x2), .val (.int dd), .val (.int ((x2 + (1 : Int32)) + dd)), .unset, .unset] [(.int x0), (.int (0 : Int32)), (.ref a), (.ref a)])) _
  refine sts0 _ ?_
  show Steps p.tables e below (Ts0.setTop (mkF m 328 #[.val (.int q0), .val (.int q1), .val (.int q2), .val (.int q3), .val (.int q4), .val (.int kk), .val (.int x0), .val (.int x1), .val (.int x2), .val (.int dd), .val (.int ((x2 + (1 : Int32)) + dd)), .unset, .unset] [(.ref a)])) _
  refine XS.dup Xs0.here hx rfl (hb hby at_328) rfl rfl ?_
  show Steps p.tables e below (Ts0.setTop (mkF m 329 #[.val (.int q0), .val (.int q1), .val (.int q2), .val (.int q3), .val (.int q4), .val (.int kk), .val (.int x0), .val (.int x1), .val (.int x2), .val (.int dd), .val (.int ((x2 + (1 : Int32)) + dd)), .unset, .unset] [(.ref a), (.ref a)])) _
  refine XS.iconst Xs0.here hx rfl (hb hby at_329) ?_
  show Steps p.tables e below (Ts0.setTop (mkF m 330 #[.val (.int q0), .val (.int q1), .val (.int q2), .val (.int q3), .val (.int q4), .val (.int kk), .val (.int x0), .val (.int x1), .val (.int x2), .val (.int dd), .val (.int ((x2 + (1 : Int32)) + dd)), .unset, .unset] [(.int (1 : Int32)), (.ref a), (.ref a)])) _
  refine XS.iload Xs0.here hx rfl (hb hby at_330) rfl ?_
  show Steps p.tables e below (Ts0.setTop (mkF m 332 #[.val (.int q0), .val (.int q1), .val (.int q2), .val (.int q3), .val (.int q4), .val (.int kk), .val (.int x0), .val (.int x1), .val (.int x2), .val (.int dd), .val (.int ((x2 + (1 : Int32)) + dd)), .unset, .unset] [(.int x1), (.int (1 : Int32)), (.ref a), (.ref a)])) _
  refine sts1 _ ?_
  show Steps p.tables e below (Ts1.setTop (mkF m 333 #[.val (.int q0), .val (.int q1), .val (.int q2), .val (.int q3), .val (.int q4), .val (.int kk), .val (.int x0), .val (.int x1), .val (.int x2), .val (.int dd), .val (.int ((x2 + (1 : Int32)) + dd)), .unset, .unset] [(.ref a)])) _
  refine XS.dup Xs1.here hx rfl (hb hby at_333) rfl rfl ?_
  show Steps p.tables e below (Ts1.setTop (mkF m 334 #[.val (.int q0), .val (.int q1), .val (.int q2), .val (.int q3), .val (.int q4), .val (.int kk), .val (.int x0), .val (.int x1), .val (.int x2), .val (.int dd), .val (.int ((x2 + (1 : Int32)) + dd)), .unset, .unset] [(.ref a), (.ref a)])) _
  refine XS.iconst Xs1.here hx rfl (hb hby at_334) ?_
  show Steps p.tables e below (Ts1.setTop (mkF m 335 #[.val (.int q0), .val (.int q1), .val (.int q2), .val (.int q3), .val (.int q4), .val (.int kk), .val (.int x0), .val (.int x1), .val (.int x2), .val (.int dd), .val (.int ((x2 + (1 : Int32)) + dd)), .unset, .unset] [(.int (2 : Int32)), (.ref a), (.ref a)])) _
  refine XS.iload Xs1.here hx rfl (hb hby at_335) rfl ?_
  show Steps p.tables e below (Ts1.setTop (mkF m 337 #[.val (.int q0), .val (.int q1), .val (.int q2), .val (.int q3), .val (.int q4), .val (.int kk), .val (.int x0), .val (.int x1), .val (.int x2), .val (.int dd), .val (.int ((x2 + (1 : Int32)) + dd)), .unset, .unset] [(.int x2), (.int (2 : Int32)), (.ref a), (.ref a)])) _
  refine sts2 _ ?_
  show Steps p.tables e below (Ts2.setTop (mkF m 338 #[.val (.int q0), .val (.int q1), .val (.int q2), .val (.int q3), .val (.int q4), .val (.int kk), .val (.int x0), .val (.int x1), .val (.int x2), .val (.int dd), .val (.int ((x2 + (1 : Int32)) + dd)), .unset, .unset] [(.ref a)])) _
  refine XS.astore Xs2.here hx rfl (hb hby at_338) rfl rfl (l' := #[.val (.int q0), .val (.int q1), .val (.int q2), .val (.int q3), .val (.int q4), .val (.int kk), .val (.int x0), .val (.int x1), .val (.int x2), .val (.int dd), .val (.int ((x2 + (1 : Int32)) + dd)), .val (.ref a), .unset]) rfl ?_
  show Steps p.tables e below (Ts2.setTop (mkF m 340 #[.val (.int q0), .val (.int q1), .val (.int q2), .val (.int q3), .val (.int q4), .val (.int kk), .val (.int x0), .val (.int x1), .val (.int x2), .val (.int dd), .val (.int ((x2 + (1 : Int32)) + dd)), .val (.ref a), .unset] [])) _
  refine XS.aload Xs2.here hx rfl (hb hby at_340) rfl rfl ?_
  show Steps p.tables e below (Ts2.setTop (mkF m 342 #[.val (.int q0), .val (.int q1), .val (.int q2), .val (.int q3), .val (.int q4), .val (.int kk), .val (.int x0), .val (.int x1), .val (.int x2), .val (.int dd), .val (.int ((x2 + (1 : Int32)) + dd)), .val (.ref a), .unset] [(.ref a)])) _
  refine XS.iload Xs2.here hx rfl (hb hby at_342) rfl ?_
  show Steps p.tables e below (Ts2.setTop (mkF m 344 #[.val (.int q0), .val (.int q1), .val (.int q2), .val (.int q3), .val (.int q4), .val (.int kk), .val (.int x0), .val (.int x1), .val (.int x2), .val (.int dd), .val (.int ((x2 + (1 : Int32)) + dd)), .val (.ref a), .unset] [(.int ((x2 + (1 : Int32)) + dd)), (.ref a)])) _
  refine stc _ ?_
  show Steps p.tables e below (Tc.setTop (mkF m 347 #[.val (.int q0), .val (.int q1), .val (.int q2), .val (.int q3), .val (.int q4), .val (.int kk), .val (.int x0), .val (.int x1), .val (.int x2), .val (.int dd), .val (.int ((x2 + (1 : Int32)) + dd)), .val (.ref a), .unset] [(.int (1 : Int32))])) _
  refine XS.istore Xc.here hx rfl (hb hby at_347) rfl (l' := #[.val (.int q0), .val (.int q1), .val (.int q2), .val (.int q3), .val (.int q4), .val (.int kk), .val (.int x0), .val (.int x1), .val (.int x2), .val (.int dd), .val (.int ((x2 + (1 : Int32)) + dd)), .val (.ref a), .val (.int (1 : Int32))]) rfl ?_
  show Steps p.tables e below (Tc.setTop (mkF m 349 #[.val (.int q0), .val (.int q1), .val (.int q2), .val (.int q3), .val (.int q4), .val (.int kk), .val (.int x0), .val (.int x1), .val (.int x2), .val (.int dd), .val (.int ((x2 + (1 : Int32)) + dd)), .val (.ref a), .val (.int (1 : Int32))] [])) _
  refine XS.iload Xc.here hx rfl (hb hby at_349) rfl ?_
  show Steps p.tables e below (Tc.setTop (mkF m 351 #[.val (.int q0), .val (.int q1), .val (.int q2), .val (.int q3), .val (.int q4), .val (.int kk), .val (.int x0), .val (.int x1), .val (.int x2), .val (.int dd), .val (.int ((x2 + (1 : Int32)) + dd)), .val (.ref a), .val (.int (1 : Int32))] [(.int x2)])) _
  refine XS.iload Xc.here hx rfl (hb hby at_351) rfl ?_
  show Steps p.tables e below (Tc.setTop (mkF m 353 #[.val (.int q0), .val (.int q1), .val (.int q2), .val (.int q3), .val (.int q4), .val (.int kk), .val (.int x0), .val (.int x1), .val (.int x2), .val (.int dd), .val (.int ((x2 + (1 : Int32)) + dd)), .val (.ref a), .val (.int (1 : Int32))] [(.int ((x2 + (1 : Int32)) + dd)), (.int x2)])) _
  refine XS.iconst Xc.here hx rfl (hb hby at_353) ?_
  show Steps p.tables e below (Tc.setTop (mkF m 354 #[.val (.int q0), .val (.int q1), .val (.int q2), .val (.int q3), .val (.int q4), .val (.int kk), .val (.int x0), .val (.int x1), .val (.int x2), .val (.int dd), .val (.int ((x2 + (1 : Int32)) + dd)), .val (.ref a), .val (.int (1 : Int32))] [(.int (1 : Int32)), (.int ((x2 + (1 : Int32)) + dd)), (.int x2)])) _
  refine XS.isub Xc.here hx rfl (hb hby at_354) rfl ?_
  show Steps p.tables e below (Tc.setTop (mkF m 355 #[.val (.int q0), .val (.int q1), .val (.int q2), .val (.int q3), .val (.int q4), .val (.int kk), .val (.int x0), .val (.int x1), .val (.int x2), .val (.int dd), .val (.int ((x2 + (1 : Int32)) + dd)), .val (.ref a), .val (.int (1 : Int32))] [(.int (((x2 + (1 : Int32)) + dd) - (1 : Int32))), (.int x2)])) _
  refine XS.icmpNo Xc.here hx rfl (hb hby at_355) rfl (tlt (hc2 : x2 < (((x2 + (1 : Int32)) + dd) - (1 : Int32)))).2.1 ?_
  show Steps p.tables e below (Tc.setTop (mkF m 358 #[.val (.int q0), .val (.int q1), .val (.int q2), .val (.int q3), .val (.int q4), .val (.int kk), .val (.int x0), .val (.int x1), .val (.int x2), .val (.int dd), .val (.int ((x2 + (1 : Int32)) + dd)), .val (.ref a), .val (.int (1 : Int32))] [])) _
  refine XS.iload Xc.here hx rfl (hb hby at_358) rfl ?_
  show Steps p.tables e below (Tc.setTop (mkF m 360 #[.val (.int q0), .val (.int q1), .val (.int q2), .val (.int q3), .val (.int q4), .val (.int kk), .val (.int x0), .val (.int x1), .val (.int x2), .val (.int dd), .val (.int ((x2 + (1 : Int32)) + dd)), .val (.ref a), .val (.int (1 : Int32))] [(.int (1 : Int32))])) _
  refine XS.ifNo Xc.here hx rfl (hb hby at_360) rfl ((if0 _ _).trans (feq (by decide : ¬ ((1 : Int32) = (0 : Int32)))).1) ?_
  show Steps p.tables e below (Tc.setTop (mkF m 363 #[.val (.int q0), .val (.int q1), .val (.int q2), .val (.int q3), .val (.int q4), .val (.int kk), .val (.int x0), .val (.int x1), .val (.int x2), .val (.int dd), .val (.int ((x2 + (1 : Int32)) + dd)), .val (.ref a), .val (.int (1 : Int32))] [])) _
  refine XS.aload Xc.here hx rfl (hb hby at_363) rfl rfl ?_
  show Steps p.tables e below (Tc.setTop (mkF m 365 #[.val (.int q0), .val (.int q1), .val (.int q2), .val (.int q3), .val (.int q4), .val (.int kk), .val (.int x0), .val (.int x1), .val (.int x2), .val (.int dd), .val (.int ((x2 + (1 : Int32)) + dd)), .val (.ref a), .val (.int (1 : Int32))] [(.ref a)])) _
  refine XS.iconst Xc.here hx rfl (hb hby at_365) ?_
  show Steps p.tables e below (Tc.setTop (mkF m 366 #[.val (.int q0), .val (.int q1), .val (.int q2), .val (.int q3), .val (.int q4), .val (.int kk), .val (.int x0), .val (.int x1), .val (.int x2), .val (.int dd), .val (.int ((x2 + (1 : Int32)) + dd)), .val (.ref a), .val (.int (1 : Int32))] [(.int (0 : Int32)), (.ref a)])) _
  refine own_ild Xc hx hZ rfl Vc 0 (by decide) (by decide) (by decide) rfl (g := (mkF m 366 #[.val (.int q0), .val (.int q1), .val (.int q2), .val (.int q3), .val (.int q4), .val (.int kk), .val (.int x0), .val (.int x1), .val (.int x2), .val (.int dd), .val (.int ((x2 + (1 : Int32)) + dd)), .val (.ref a), .val (.int (1 : Int32))] [(.int (0 : Int32)), (.ref a)])) rfl rfl (hb hby at_366) _ ?_
  show Steps p.tables e below (Tc.setTop (mkF m 367 #[.val (.int q0), .val (.int q1), .val (.int q2), .val (.int q3), .val (.int q4), .val (.int kk), .val (.int x0), .val (.int x1), .val (.int x2), .val (.int dd), .val (.int ((x2 + (1 : Int32)) + dd)), .val (.ref a), .val (.int (1 : Int32))] [(.int x0)])) _
  refine XS.iload Xc.here hx rfl (hb hby at_367) rfl ?_
  show Steps p.tables e below (Tc.setTop (mkF m 369 #[.val (.int q0), .val (.int q1), .val (.int q2), .val (.int q3), .val (.int q4), .val (.int kk), .val (.int x0), .val (.int x1), .val (.int x2), .val (.int dd), .val (.int ((x2 + (1 : Int32)) + dd)), .val (.ref a), .val (.int (1 : Int32))] [(.int x0), (.int x0)])) _
  refine XS.icmpNo Xc.here hx rfl (hb hby at_369) rfl (teq (rfl : x0 = x0)).2 ?_
  show Steps p.tables e below (Tc.setTop (mkF m 372 #[.val (.int q0), .val (.int q1), .val (.int q2), .val (.int q3), .val (.int q4), .val (.int kk), .val (.int x0), .val (.int x1), .val (.int x2), .val (.int dd), .val (.int ((x2 + (1 : Int32)) + dd)), .val (.ref a), .val (.int (1 : Int32))] [])) _
  refine XS.aload Xc.here hx rfl (hb hby at_372) rfl rfl ?_
  show Steps p.tables e below (Tc.setTop (mkF m 374 #[.val (.int q0), .val (.int q1), .val (.int q2), .val (.int q3), .val (.int q4), .val (.int kk), .val (.int x0), .val (.int x1), .val (.int x2), .val (.int dd), .val (.int ((x2 + (1 : Int32)) + dd)), .val (.ref a), .val (.int (1 : Int32))] [(.ref a)])) _
  refine XS.iconst Xc.here hx rfl (hb hby at_374) ?_
  show Steps p.tables e below (Tc.setTop (mkF m 375 #[.val (.int q0), .val (.int q1), .val (.int q2), .val (.int q3), .val (.int q4), .val (.int kk), .val (.int x0), .val (.int x1), .val (.int x2), .val (.int dd), .val (.int ((x2 + (1 : Int32)) + dd)), .val (.ref a), .val (.int (1 : Int32))] [(.int (1 : Int32)), (.ref a)])) _
  refine own_ild Xc hx hZ rfl Vc 1 (by decide) (by decide) (by decide) rfl (g := (mkF m 375 #[.val (.int q0), .val (.int q1), .val (.int q2), .val (.int q3), .val (.int q4), .val (.int kk), .val (.int x0), .val (.int x1), .val (.int x2), .val (.int dd), .val (.int ((x2 + (1 : Int32)) + dd)), .val (.ref a), .val (.int (1 : Int32))] [(.int (1 : Int32)), (.ref a)])) rfl rfl (hb hby at_375) _ ?_
  show Steps p.tables e below (Tc.setTop (mkF m 376 #[.val (.int q0), .val (.int q1), .val (.int q2), .val (.int q3), .val (.int q4), .val (.int kk), .val (.int x0), .val (.int x1), .val (.int x2), .val (.int dd), .val (.int ((x2 + (1 : Int32)) + dd)), .val (.ref a), .val (.int (1 : Int32))] [(.int x1)])) _
  refine XS.iload Xc.here hx rfl (hb hby at_376) rfl ?_
  show Steps p.tables e below (Tc.setTop (mkF m 378 #[.val (.int q0), .val (.int q1), .val (.int q2), .val (.int q3), .val (.int q4), .val (.int kk), .val (.int x0), .val (.int x1), .val (.int x2), .val (.int dd), .val (.int ((x2 + (1 : Int32)) + dd)), .val (.ref a), .val (.int (1 : Int32))] [(.int x1), (.int x1)])) _
  refine XS.icmpNo Xc.here hx rfl (hb hby at_378) rfl (teq (rfl : x1 = x1)).2 ?_
  show Steps p.tables e below (Tc.setTop (mkF m 381 #[.val (.int q0), .val (.int q1), .val (.int q2), .val (.int q3), .val (.int q4), .val (.int kk), .val (.int x0), .val (.int x1), .val (.int x2), .val (.int dd), .val (.int ((x2 + (1 : Int32)) + dd)), .val (.ref a), .val (.int (1 : Int32))] [])) _
  refine XS.aload Xc.here hx rfl (hb hby at_381) rfl rfl ?_
  show Steps p.tables e below (Tc.setTop (mkF m 383 #[.val (.int q0), .val (.int q1), .val (.int q2), .val (.int q3), .val (.int q4), .val (.int kk), .val (.int x0), .val (.int x1), .val (.int x2), .val (.int dd), .val (.int ((x2 + (1 : Int32)) + dd)), .val (.ref a), .val (.int (1 : Int32))] [(.ref a)])) _
  refine XS.iconst Xc.here hx rfl (hb hby at_383) ?_
  show Steps p.tables e below (Tc.setTop (mkF m 384 #[.val (.int q0), .val (.int q1), .val (.int q2), .val (.int q3), .val (.int q4), .val (.int kk), .val (.int x0), .val (.int x1), .val (.int x2), .val (.int dd), .val (.int ((x2 + (1 : Int32)) + dd)), .val (.ref a), .val (.int (1 : Int32))] [(.int (2 : Int32)), (.ref a)])) _
  refine own_ild Xc hx hZ rfl Vc 2 (by decide) (by decide) (by decide) rfl (g := (mkF m 384 #[.val (.int q0), .val (.int q1), .val (.int q2), .val (.int q3), .val (.int q4), .val (.int kk), .val (.int x0), .val (.int x1), .val (.int x2), .val (.int dd), .val (.int ((x2 + (1 : Int32)) + dd)), .val (.ref a), .val (.int (1 : Int32))] [(.int (2 : Int32)), (.ref a)])) rfl rfl (hb hby at_384) _ ?_
  show Steps p.tables e below (Tc.setTop (mkF m 385 #[.val (.int q0), .val (.int q1), .val (.int q2), .val (.int q3), .val (.int q4), .val (.int kk), .val (.int x0), .val (.int x1), .val (.int x2), .val (.int dd), .val (.int ((x2 + (1 : Int32)) + dd)), .val (.ref a), .val (.int (1 : Int32))] [(.int (x2 + (1 : Int32)))])) _
  refine XS.iload Xc.here hx rfl (hb hby at_385) rfl ?_
  show Steps p.tables e below (Tc.setTop (mkF m 387 #[.val (.int q0), .val (.int q1), .val (.int q2), .val (.int q3), .val (.int q4), .val (.int kk), .val (.int x0), .val (.int x1), .val (.int x2), .val (.int dd), .val (.int ((x2 + (1 : Int32)) + dd)), .val (.ref a), .val (.int (1 : Int32))] [(.int x2), (.int (x2 + (1 : Int32)))])) _
  refine XS.iconst Xc.here hx rfl (hb hby at_387) ?_
  show Steps p.tables e below (Tc.setTop (mkF m 388 #[.val (.int q0), .val (.int q1), .val (.int q2), .val (.int q3), .val (.int q4), .val (.int kk), .val (.int x0), .val (.int x1), .val (.int x2), .val (.int dd), .val (.int ((x2 + (1 : Int32)) + dd)), .val (.ref a), .val (.int (1 : Int32))] [(.int (1 : Int32)), (.int x2), (.int (x2 + (1 : Int32)))])) _
  refine XS.iadd Xc.here hx rfl (hb hby at_388) rfl ?_
  show Steps p.tables e below (Tc.setTop (mkF m 389 #[.val (.int q0), .val (.int q1), .val (.int q2), .val (.int q3), .val (.int q4), .val (.int kk), .val (.int x0), .val (.int x1), .val (.int x2), .val (.int dd), .val (.int ((x2 + (1 : Int32)) + dd)), .val (.ref a), .val (.int (1 : Int32))] [(.int (x2 + (1 : Int32))), (.int (x2 + (1 : Int32)))])) _
  refine XS.icmpNo Xc.here hx rfl (hb hby at_389) rfl (teq (rfl : (x2 + (1 : Int32)) = (x2 + (1 : Int32)))).2 ?_
  show Steps p.tables e below (Tc.setTop (mkF m 392 #[.val (.int q0), .val (.int q1), .val (.int q2), .val (.int q3), .val (.int q4), .val (.int kk), .val (.int x0), .val (.int x1), .val (.int x2), .val (.int dd), .val (.int ((x2 + (1 : Int32)) + dd)), .val (.ref a), .val (.int (1 : Int32))] [])) _
  refine XS.iconst Xc.here hx rfl (hb hby at_392) ?_
  show Steps p.tables e below (Tc.setTop (mkF m 393 #[.val (.int q0), .val (.int q1), .val (.int q2), .val (.int q3), .val (.int q4), .val (.int kk), .val (.int x0), .val (.int x1), .val (.int x2), .val (.int dd), .val (.int ((x2 + (1 : Int32)) + dd)), .val (.ref a), .val (.int (1 : Int32))] [(.int (1 : Int32))])) _
  refine XS.goto Xc.here hx rfl (pc0 := 393) (pc' := 397) rfl (hb hby at_393) (by decide) (by decide) ?_
  exact kt
set_option maxRecDepth 65536 in
set_option maxHeartbeats 4000000 in
theorem own_law_3_1 {p : Program} {l : Launch} {e : Env} {s : State} {m : MethodId} {args : Array Value} {below : List Frame} {meth : Method} {c : Code} {T : State} {locs : List Loc} {Z : State} {a0 : Array Value} (q0 q1 q2 q3 q4 kk x0 x1 x2 dd : Int32) (hw : ∀ d ∈ tables_1, d.before a0 Z = true) (X0 : Stand p l e room_1 s m args below meth c T locs 0 0) (hx : p.tables.exec = Jvm.exec) (hZ : Z.Warmed39 s.vm) (hby : c.code = code) (hml : c.maxLocals = 13) (hown : s.vm.findClass "com/example/ashlar/ashlar/storage/SubsetsNextPinLaw" = some m.cls) {h0 : Heap} (e0 : T.heap = h0) {n0 : Nat} (Z0 : n0 ≤ h0.size) (N0 : Fr n0 locs) (hc2 : ¬ (x2 < (((x2 + (1 : Int32)) + dd) - (1 : Int32)))) (hc1 : x1 < (((x2 + (1 : Int32)) + dd) - (2 : Int32))) :
    ∃ (T' : State) (l' : List Loc) (pcr : Nat) (Lr : Array Slot) (sl : Nat), sl ≤ 128 ∧ Stand p l e room_1 s m args below meth c T' l' 1 sl ∧ Fr n0 l' ∧ decode c.code pcr = .ok (.ireturn, 1) ∧ ∀ t, Steps p.tables e below (T'.setTop (mkF m pcr Lr [(.int (1 : Int32))])) t → Steps p.tables e below (T.setTop (mkF m 311 #[.val (.int q0), .val (.int q1), .val (.int q2), .val (.int q3), .val (.int q4), .val (.int kk), .val (.int x0), .val (.int x1), .val (.int x2), .val (.int dd), .unset, .unset, .unset] [])) t := by
  obtain ⟨Ta, ha, ka, Xa, ea, Ea, Aa, sta⟩ := newP X0 hx hZ (hw _ (List.mem_of_getElem? (i := 5) rfl)) e0 (g := (mkF m 321 #[.val (.int q0), .val (.int q1), .val (.int q2), .val (.int q3), .val (.int q4), .val (.int kk), .val (.int x0), .val (.int x1), .val (.int x2), .val (.int dd), .val (.int ((x2 + (1 : Int32)) + dd)), .unset, .unset] [(.int (3 : Int32))])) rfl (hb hby at_321) rfl (by decide) (cap := 3) (by decide) (by decide) (by decide) (by decide)
  obtain ⟨a, ga⟩ : ∃ z, z = h0.size := ⟨_, rfl⟩
  rw [← ga] at Aa sta
  have Va : Arv Z ha a ka .int (3 : Int32) [(.int (0 : Int32)), (.int (0 : Int32)), (.int (0 : Int32))] (.int (0 : Int32)) := (Arv.new Aa (by decide)).pad (pad_rep [] (.int (0 : Int32)) 3)
  have g_a : n0 ≤ a := Nat.le_trans Z0 (Nat.le_of_eq ga.symm)
  obtain ⟨Ts0, hs0, Xs0, es0, Ws0, Vs0', sts0⟩ := own_ist Xa hx hZ ea Va 0 (by decide) (by decide) (by decide) (Nat.le_of_ble_eq_true rfl) (g := (mkF m 327 #[.val (.int q0), .val (.int q1), .val (.int q2), .val (.int q3), .val (.int q4), .val (.int kk), .val (.int x0), .val (.int x1), .val (.int x2), .val (.int dd), .val (.int ((x2 + (1 : Int32)) + dd)), .unset, .unset] [(.int x0), (.int (0 : Int32)), (.ref a), (.ref a)])) rfl rfl (hb hby at_327)
  have Vs0 : Arv Z hs0 a ka .int (3 : Int32) [(.int x0), (.int (0 : Int32)), (.int (0 : Int32))] (.int 0) := Vs0'
  have Ns0 := Fr.snoc Xs0 N0 g_a
  obtain ⟨Ts1, hs1, Xs1, es1, Ws1, Vs1', sts1⟩ := own_ist Xs0 hx hZ es0 Vs0 1 (by decide) (by decide) (by decide) (Nat.le_of_ble_eq_true rfl) (g := (mkF m 332 #[.val (.int q0), .val (.int q1), .val (.int q2), .val (.int q3), .val (.int q4), .val (.int kk), .val (.int x0), .val (.int x1), .val (.int x2), .val (.int dd), .val (.int ((x2 + (1 : Int32)) + dd)), .unset, .unset] [(.int x1), (.int (1 : Int32)), (.ref a), (.ref a)])) rfl rfl (hb hby at_332)
  have Vs1 : Arv Z hs1 a ka .int (3 : Int32) [(.int x0), (.int x1), (.int (0 : Int32))] (.int 0) := Vs1'
  have Ns1 := Fr.snoc Xs1 Ns0 g_a
  obtain ⟨Ts2, hs2, Xs2, es2, Ws2, Vs2', sts2⟩ := own_ist Xs1 hx hZ es1 Vs1 2 (by decide) (by decide) (by decide) (Nat.le_of_ble_eq_true rfl) (g := (mkF m 337 #[.val (.int q0), .val (.int q1), .val (.int q2), .val (.int q3), .val (.int q4), .val (.int kk), .val (.int x0), .val (.int x1), .val (.int x2), .val (.int dd), .val (.int ((x2 + (1 : Int32)) + dd)), .unset, .unset] [(.int x2), (.int (2 : Int32)), (.ref a), (.ref a)])) rfl rfl (hb hby at_337)
  have Vs2 : Arv Z hs2 a ka .int (3 : Int32) [(.int x0), (.int x1), (.int x2)] (.int 0) := Vs2'
  have Ns2 := Fr.snoc Xs2 Ns1 g_a
  obtain ⟨_, _, ⟨Tc, Lc, kc, nc⟩, -, Xc, ⟨Lcc, hQc, lc, yc, zc⟩, stc⟩ := Jvm.LawKit.callS Xs2 hx (y := (⟨"com/example/ashlar/ashlar/storage/Subsets", "next", "([II)Z"⟩ : MethodName)) hown (mvT hZ (hw _ (List.mem_of_getElem? (i := 6) rfl))) (mvT hZ (hw _ (List.mem_of_getElem? (i := 7) rfl))) (mvT hZ (hw _ (List.mem_of_getElem? (i := 8) rfl))) (mvT hZ (hw _ (List.mem_of_getElem? (i := 9) rfl))) (by decide) (backOf (W := 0) (rm2_3_1 l Z a0 hw [] a ((x2 + (1 : Int32)) + dd) ka x0 x1 x2 hs2 n0 g_a Vs2 (by rw [own_s32]; exact hc2) (by rw [own_s31]; exact hc1)) hZ (hw _ (List.mem_of_getElem? (i := 9) rfl)) (hw _ (List.mem_of_getElem? (i := 8) rfl)) (by decide) (by decide)) (g := (mkF m 344 #[.val (.int q0), .val (.int q1), .val (.int q2), .val (.int q3), .val (.int q4), .val (.int kk), .val (.int x0), .val (.int x1), .val (.int x2), .val (.int dd), .val (.int ((x2 + (1 : Int32)) + dd)), .val (.ref a), .unset] [(.int ((x2 + (1 : Int32)) + dd)), (.ref a)])) rfl (by rw [hml]; rfl) (argsL := [(.ref a), (.int ((x2 + (1 : Int32)) + dd))]) (rest := []) (lenOf pd_0_n rfl) rfl (by show 2 * 0 + _ ≤ _; exact Nat.le_of_eq rfl) (hb hby at_344) (fun _ _ => ⟨rfl, es2, (by decide : 1 + 0 ≤ _), (by decide : 3 + 0 ≤ _)⟩)
  dsimp only [Pt.U, Pt.locs, Pt.cells, Pt.slots] at Xc lc yc zc stc hQc
  subst lc yc zc
  obtain ⟨rfl, Ncq, Vc⟩ := hQc
  have Nc := Fr.app Ns2 Ncq
  refine ⟨Tc, _, 448, #[.val (.int q0), .val (.int q1), .val (.int q2), .val (.int q3), .val (.int q4), .val (.int kk), .val (.int x0), .val (.int x1), .val (.int x2), .val (.int dd), .val (.int ((x2 + (1 : Int32)) + dd)), .val (.ref a), .val (.int (1 : Int32))], 3, by decide, Xc, Nc, hb hby at_448, fun t kt => ?_⟩
  show Steps p.tables e below (T.setTop (mkF m 311 #[.val (.int q0), .val (.int q1), .val (.int q2), .val (.int q3), .val (.int q4), .val (.int kk), .val (.int x0), .val (.int x1), .val (.int x2), .val (.int dd), .unset, .unset, .unset] [])) _
  refine XS.iload X0.here hx rfl (hb hby at_311) rfl ?_
  show Steps p.tables e below (T.setTop (mkF m 313 #[.val (.int q0), .val (.int q1), .val (.int q2), .val (.int q3), .val (.int q4), .val (.int kk), .val (.int x0), .val (.int x1), .val (.int x2), .val (.int dd), .unset, .unset, .unset] [(.int x2)])) _
  refine XS.iconst X0.here hx rfl (hb hby at_313) ?_
  show Steps p.tables e below (T.setTop (mkF m 314 #[.val (.int q0), .val (.int q1), .val (.int q2), .val (.int q3), .val (.int q4), .val (.int kk), .val (.int x0), .val (.int x1), .val (.int x2), .val (.int dd), .unset, .unset, .unset] [(.int (1 : Int32)), (.int x2)])) _
  refine XS.iadd X0.here hx rfl (hb hby at_314) rfl ?_
  show Steps p.tables e below (T.setTop (mkF m 315 #[.val (.int q0), .val (.int q1), .val (.int q2), .val (.int q3), .val (.int q4), .val (.int kk), .val (.int x0), .val (.int x1), .val (.int x2), .val (.int dd), .unset, .unset, .unset] [(.int (x2 + (1 : Int32)))])) _
  refine XS.iload X0.here hx rfl (hb hby at_315) rfl ?_
  show Steps p.tables e below (T.setTop (mkF m 317 #[.val (.int q0), .val (.int q1), .val (.int q2), .val (.int q3), .val (.int q4), .val (.int kk), .val (.int x0), .val (.int x1), .val (.int x2), .val (.int dd), .unset, .unset, .unset] [(.int dd), (.int (x2 + (1 : Int32)))])) _
  refine XS.iadd X0.here hx rfl (hb hby at_317) rfl ?_
  show Steps p.tables e below (T.setTop (mkF m 318 #[.val (.int q0), .val (.int q1), .val (.int q2), .val (.int q3), .val (.int q4), .val (.int kk), .val (.int x0), .val (.int x1), .val (.int x2), .val (.int dd), .unset, .unset, .unset] [(.int ((x2 + (1 : Int32)) + dd))])) _
  refine XS.istore X0.here hx rfl (hb hby at_318) rfl (l' := #[.val (.int q0), .val (.int q1), .val (.int q2), .val (.int q3), .val (.int q4), .val (.int kk), .val (.int x0), .val (.int x1), .val (.int x2), .val (.int dd), .val (.int ((x2 + (1 : Int32)) + dd)), .unset, .unset]) rfl ?_
  show Steps p.tables e below (T.setTop (mkF m 320 #[.val (.int q0), .val (.int q1), .val (.int q2), .val (.int q3), .val (.int q4), .val (.int kk), .val (.int x0), .val (.int x1), .val (.int x2), .val (.int dd), .val (.int ((x2 + (1 : Int32)) + dd)), .unset, .unset] [])) _
  refine XS.iconst X0.here hx rfl (hb hby at_320) ?_
  show Steps p.tables e below (T.setTop (mkF m 321 #[.val (.int q0), .val (.int q1), .val (.int q2), .val (.int q3), .val (.int q4), .val (.int kk), .val (.int x0), .val (.int x1), .val (.int x2), .val (.int dd), .val (.int ((x2 + (1 : Int32)) + dd)), .unset, .unset] [(.int (3 : Int32))])) _
  refine sta _ ?_
  show Steps p.tables e below (Ta.setTop (mkF m 323 #[.val (.int q0), .val (.int q1), .val (.int q2), .val (.int q3), .val (.int q4), .val (.int kk), .val (.int x0), .val (.int x1), .val (.int x2), .val (.int dd), .val (.int ((x2 + (1 : Int32)) + dd)), .unset, .unset] [(.ref a)])) _
  refine XS.dup Xa.here hx rfl (hb hby at_323) rfl rfl ?_
  show Steps p.tables e below (Ta.setTop (mkF m 324 #[.val (.int q0), .val (.int q1), .val (.int q2), .val (.int q3), .val (.int q4), .val (.int kk), .val (.int x0), .val (.int x1), .val (.int x2), .val (.int dd), .val (.int ((x2 + (1 : Int32)) + dd)), .unset, .unset] [(.ref a), (.ref a)])) _
  refine XS.iconst Xa.here hx rfl (hb hby at_324) ?_
  show Steps p.tables e below (Ta.setTop (mkF m 325 #[.val (.int q0), .val (.int q1), .val (.int q2), .val (.int q3), .val (.int q4), .val (.int kk), .val (.int x0), .val (.int x1), .val (.int x2), .val (.int dd), .val (.int ((x2 + (1 : Int32)) + dd)), .unset, .unset] [(.int (0 : Int32)), (.ref a), (.ref a)])) _
  refine XS.iload Xa.here hx rfl (hb hby at_325) rfl ?_
  show Steps p.tables e below (Ta.setTop (mkF m 327 #[.val (.int q0), .val (.int q1), .val (.int q2), .val (.int q3), .val (.int q4), .val (.int kk), .val (.int x0), .val (.int x1), .val (.int x2), .val (.int dd), .val (.int ((x2 + (1 : Int32)) + dd)), .unset, .unset] [(.int x0), (.int (0 : Int32)), (.ref a), (.ref a)])) _
  refine sts0 _ ?_
  show Steps p.tables e below (Ts0.setTop (mkF m 328 #[.val (.int q0), .val (.int q1), .val (.int q2), .val (.int q3), .val (.int q4), .val (.int kk), .val (.int x0), .val (.int x1), .val (.int x2), .val (.int dd), .val (.int ((x2 + (1 : Int32)) + dd)), .unset, .unset] [(.ref a)])) _
  refine XS.dup Xs0.here hx rfl (hb hby at_328) rfl rfl ?_
  show Steps p.tables e below (Ts0.setTop (mkF m 329 #[.val (.int q0), .val (.int q1), .val (.int q2), .val (.int q3), .val (.int q4), .val (.int kk), .val (.int x0), .val (.int x1), .val (.int x2), .val (.int dd), .val (.int ((x2 + (1 : Int32)) + dd)), .unset, .unset] [(.ref a), (.ref a)])) _
  refine XS.iconst Xs0.here hx rfl (hb hby at_329) ?_
  show Steps p.tables e below (Ts0.setTop (mkF m 330 #[.val (.int q0), .val (.int q1), .val (.int q2), .val (.int q3), .val (.int q4), .val (.int kk), .val (.int x0), .val (.int x1), .val (.int x2), .val (.int dd), .val (.int ((x2 + (1 : Int32)) + dd)), .unset, .unset] [(.int (1 : Int32)), (.ref a), (.ref a)])) _
  refine XS.iload Xs0.here hx rfl (hb hby at_330) rfl ?_
  show Steps p.tables e below (Ts0.setTop (mkF m 332 #[.val (.int q0), .val (.int q1), .val (.int q2), .val (.int q3), .val (.int q4), .val (.int kk), .val (.int x0), .val (.int x1), .val (.int x2), .val (.int dd), .val (.int ((x2 + (1 : Int32)) + dd)), .unset, .unset] [(.int x1), (.int (1 : Int32)), (.ref a), (.ref a)])) _
  refine sts1 _ ?_
  show Steps p.tables e below (Ts1.setTop (mkF m 333 #[.val (.int q0), .val (.int q1), .val (.int q2), .val (.int q3), .val (.int q4), .val (.int kk), .val (.int x0), .val (.int x1), .val (.int x2), .val (.int dd), .val (.int ((x2 + (1 : Int32)) + dd)), .unset, .unset] [(.ref a)])) _
  refine XS.dup Xs1.here hx rfl (hb hby at_333) rfl rfl ?_
  show Steps p.tables e below (Ts1.setTop (mkF m 334 #[.val (.int q0), .val (.int q1), .val (.int q2), .val (.int q3), .val (.int q4), .val (.int kk), .val (.int x0), .val (.int x1), .val (.int x2), .val (.int dd), .val (.int ((x2 + (1 : Int32)) + dd)), .unset, .unset] [(.ref a), (.ref a)])) _
  refine XS.iconst Xs1.here hx rfl (hb hby at_334) ?_
  show Steps p.tables e below (Ts1.setTop (mkF m 335 #[.val (.int q0), .val (.int q1), .val (.int q2), .val (.int q3), .val (.int q4), .val (.int kk), .val (.int x0), .val (.int x1), .val (.int x2), .val (.int dd), .val (.int ((x2 + (1 : Int32)) + dd)), .unset, .unset] [(.int (2 : Int32)), (.ref a), (.ref a)])) _
  refine XS.iload Xs1.here hx rfl (hb hby at_335) rfl ?_
  show Steps p.tables e below (Ts1.setTop (mkF m 337 #[.val (.int q0), .val (.int q1), .val (.int q2), .val (.int q3), .val (.int q4), .val (.int kk), .val (.int x0), .val (.int x1), .val (.int x2), .val (.int dd), .val (.int ((x2 + (1 : Int32)) + dd)), .unset, .unset] [(.int x2), (.int (2 : Int32)), (.ref a), (.ref a)])) _
  refine sts2 _ ?_
  show Steps p.tables e below (Ts2.setTop (mkF m 338 #[.val (.int q0), .val (.int q1), .val (.int q2), .val (.int q3), .val (.int q4), .val (.int kk), .val (.int x0), .val (.int x1), .val (.int x2), .val (.int dd), .val (.int ((x2 + (1 : Int32)) + dd)), .unset, .unset] [(.ref a)])) _
  refine XS.astore Xs2.here hx rfl (hb hby at_338) rfl rfl (l' := #[.val (.int q0), .val (.int q1), .val (.int q2), .val (.int q3), .val (.int q4), .val (.int kk), .val (.int x0), .val (.int x1), .val (.int x2), .val (.int dd), .val (.int ((x2 + (1 : Int32)) + dd)), .val (.ref a), .unset]) rfl ?_
  show Steps p.tables e below (Ts2.setTop (mkF m 340 #[.val (.int q0), .val (.int q1), .val (.int q2), .val (.int q3), .val (.int q4), .val (.int kk), .val (.int x0), .val (.int x1), .val (.int x2), .val (.int dd), .val (.int ((x2 + (1 : Int32)) + dd)), .val (.ref a), .unset] [])) _
  refine XS.aload Xs2.here hx rfl (hb hby at_340) rfl rfl ?_
  show Steps p.tables e below (Ts2.setTop (mkF m 342 #[.val (.int q0), .val (.int q1), .val (.int q2), .val (.int q3), .val (.int q4), .val (.int kk), .val (.int x0), .val (.int x1), .val (.int x2), .val (.int dd), .val (.int ((x2 + (1 : Int32)) + dd)), .val (.ref a), .unset] [(.ref a)])) _
  refine XS.iload Xs2.here hx rfl (hb hby at_342) rfl ?_
  show Steps p.tables e below (Ts2.setTop (mkF m 344 #[.val (.int q0), .val (.int q1), .val (.int q2), .val (.int q3), .val (.int q4), .val (.int kk), .val (.int x0), .val (.int x1), .val (.int x2), .val (.int dd), .val (.int ((x2 + (1 : Int32)) + dd)), .val (.ref a), .unset] [(.int ((x2 + (1 : Int32)) + dd)), (.ref a)])) _
  refine stc _ ?_
  show Steps p.tables e below (Tc.setTop (mkF m 347 #[.val (.int q0), .val (.int q1), .val (.int q2), .val (.int q3), .val (.int q4), .val (.int kk), .val (.int x0), .val (.int x1), .val (.int x2), .val (.int dd), .val (.int ((x2 + (1 : Int32)) + dd)), .val (.ref a), .unset] [(.int (1 : Int32))])) _
  refine XS.istore Xc.here hx rfl (hb hby at_347) rfl (l' := #[.val (.int q0), .val (.int q1), .val (.int q2), .val (.int q3), .val (.int q4), .val (.int kk), .val (.int x0), .val (.int x1), .val (.int x2), .val (.int dd), .val (.int ((x2 + (1 : Int32)) + dd)), .val (.ref a), .val (.int (1 : Int32))]) rfl ?_
  show Steps p.tables e below (Tc.setTop (mkF m 349 #[.val (.int q0), .val (.int q1), .val (.int q2), .val (.int q3), .val (.int q4), .val (.int kk), .val (.int x0), .val (.int x1), .val (.int x2), .val (.int dd), .val (.int ((x2 + (1 : Int32)) + dd)), .val (.ref a), .val (.int (1 : Int32))] [])) _
  refine XS.iload Xc.here hx rfl (hb hby at_349) rfl ?_
  show Steps p.tables e below (Tc.setTop (mkF m 351 #[.val (.int q0), .val (.int q1), .val (.int q2), .val (.int q3), .val (.int q4), .val (.int kk), .val (.int x0), .val (.int x1), .val (.int x2), .val (.int dd), .val (.int ((x2 + (1 : Int32)) + dd)), .val (.ref a), .val (.int (1 : Int32))] [(.int x2)])) _
  refine XS.iload Xc.here hx rfl (hb hby at_351) rfl ?_
  show Steps p.tables e below (Tc.setTop (mkF m 353 #[.val (.int q0), .val (.int q1), .val (.int q2), .val (.int q3), .val (.int q4), .val (.int kk), .val (.int x0), .val (.int x1), .val (.int x2), .val (.int dd), .val (.int ((x2 + (1 : Int32)) + dd)), .val (.ref a), .val (.int (1 : Int32))] [(.int ((x2 + (1 : Int32)) + dd)), (.int x2)])) _
  refine XS.iconst Xc.here hx rfl (hb hby at_353) ?_
  show Steps p.tables e below (Tc.setTop (mkF m 354 #[.val (.int q0), .val (.int q1), .val (.int q2), .val (.int q3), .val (.int q4), .val (.int kk), .val (.int x0), .val (.int x1), .val (.int x2), .val (.int dd), .val (.int ((x2 + (1 : Int32)) + dd)), .val (.ref a), .val (.int (1 : Int32))] [(.int (1 : Int32)), (.int ((x2 + (1 : Int32)) + dd)), (.int x2)])) _
  refine XS.isub Xc.here hx rfl (hb hby at_354) rfl ?_
  show Steps p.tables e below (Tc.setTop (mkF m 355 #[.val (.int q0), .val (.int q1), .val (.int q2), .val (.int q3), .val (.int q4), .val (.int kk), .val (.int x0), .val (.int x1), .val (.int x2), .val (.int dd), .val (.int ((x2 + (1 : Int32)) + dd)), .val (.ref a), .val (.int (1 : Int32))] [(.int (((x2 + (1 : Int32)) + dd) - (1 : Int32))), (.int x2)])) _
  refine XS.icmpYes Xc.here hx rfl (pc0 := 355) (pc' := 398) rfl (hb hby at_355) rfl (flt (hc2 : ¬ (x2 < (((x2 + (1 : Int32)) + dd) - (1 : Int32))))).2.1 (by decide) (by decide) ?_
  show Steps p.tables e below (Tc.setTop (mkF m 398 #[.val (.int q0), .val (.int q1), .val (.int q2), .val (.int q3), .val (.int q4), .val (.int kk), .val (.int x0), .val (.int x1), .val (.int x2), .val (.int dd), .val (.int ((x2 + (1 : Int32)) + dd)), .val (.ref a), .val (.int (1 : Int32))] [])) _
  refine XS.iload Xc.here hx rfl (hb hby at_398) rfl ?_
  show Steps p.tables e below (Tc.setTop (mkF m 400 #[.val (.int q0), .val (.int q1), .val (.int q2), .val (.int q3), .val (.int q4), .val (.int kk), .val (.int x0), .val (.int x1), .val (.int x2), .val (.int dd), .val (.int ((x2 + (1 : Int32)) + dd)), .val (.ref a), .val (.int (1 : Int32))] [(.int x1)])) _
  refine XS.iload Xc.here hx rfl (hb hby at_400) rfl ?_
  show Steps p.tables e below (Tc.setTop (mkF m 402 #[.val (.int q0), .val (.int q1), .val (.int q2), .val (.int q3), .val (.int q4), .val (.int kk), .val (.int x0), .val (.int x1), .val (.int x2), .val (.int dd), .val (.int ((x2 + (1 : Int32)) + dd)), .val (.ref a), .val (.int (1 : Int32))] [(.int ((x2 + (1 : Int32)) + dd)), (.int x1)])) _
  refine XS.iconst Xc.here hx rfl (hb hby at_402) ?_
  show Steps p.tables e below (Tc.setTop (mkF m 403 #[.val (.int q0), .val (.int q1), .val (.int q2), .val (.int q3), .val (.int q4), .val (.int kk), .val (.int x0), .val (.int x1), .val (.int x2), .val (.int dd), .val (.int ((x2 + (1 : Int32)) + dd)), .val (.ref a), .val (.int (1 : Int32))] [(.int (2 : Int32)), (.int ((x2 + (1 : Int32)) + dd)), (.int x1)])) _
  refine XS.isub Xc.here hx rfl (hb hby at_403) rfl ?_
  show Steps p.tables e below (Tc.setTop (mkF m 404 #[.val (.int q0), .val (.int q1), .val (.int q2), .val (.int q3), .val (.int q4), .val (.int kk), .val (.int x0), .val (.int x1), .val (.int x2), .val (.int dd), .val (.int ((x2 + (1 : Int32)) + dd)), .val (.ref a), .val (.int (1 : Int32))] [(.int (((x2 + (1 : Int32)) + dd) - (2 : Int32))), (.int x1)])) _
  refine XS.icmpNo Xc.here hx rfl (hb hby at_404) rfl (tlt (hc1 : x1 < (((x2 + (1 : Int32)) + dd) - (2 : Int32)))).2.1 ?_
  show Steps p.tables e below (Tc.setTop (mkF m 407 #[.val (.int q0), .val (.int q1), .val (.int q2), .val (.int q3), .val (.int q4), .val (.int kk), .val (.int x0), .val (.int x1), .val (.int x2), .val (.int dd), .val (.int ((x2 + (1 : Int32)) + dd)), .val (.ref a), .val (.int (1 : Int32))] [])) _
  refine XS.iload Xc.here hx rfl (hb hby at_407) rfl ?_
  show Steps p.tables e below (Tc.setTop (mkF m 409 #[.val (.int q0), .val (.int q1), .val (.int q2), .val (.int q3), .val (.int q4), .val (.int kk), .val (.int x0), .val (.int x1), .val (.int x2), .val (.int dd), .val (.int ((x2 + (1 : Int32)) + dd)), .val (.ref a), .val (.int (1 : Int32))] [(.int (1 : Int32))])) _
  refine XS.ifNo Xc.here hx rfl (hb hby at_409) rfl ((if0 _ _).trans (feq (by decide : ¬ ((1 : Int32) = (0 : Int32)))).1) ?_
  show Steps p.tables e below (Tc.setTop (mkF m 412 #[.val (.int q0), .val (.int q1), .val (.int q2), .val (.int q3), .val (.int q4), .val (.int kk), .val (.int x0), .val (.int x1), .val (.int x2), .val (.int dd), .val (.int ((x2 + (1 : Int32)) + dd)), .val (.ref a), .val (.int (1 : Int32))] [])) _
  refine XS.aload Xc.here hx rfl (hb hby at_412) rfl rfl ?_
  show Steps p.tables e below (Tc.setTop (mkF m 414 #[.val (.int q0), .val (.int q1), .val (.int q2), .val (.int q3), .val (.int q4), .val (.int kk), .val (.int x0), .val (.int x1), .val (.int x2), .val (.int dd), .val (.int ((x2 + (1 : Int32)) + dd)), .val (.ref a), .val (.int (1 : Int32))] [(.ref a)])) _
  refine XS.iconst Xc.here hx rfl (hb hby at_414) ?_
  show Steps p.tables e below (Tc.setTop (mkF m 415 #[.val (.int q0), .val (.int q1), .val (.int q2), .val (.int q3), .val (.int q4), .val (.int kk), .val (.int x0), .val (.int x1), .val (.int x2), .val (.int dd), .val (.int ((x2 + (1 : Int32)) + dd)), .val (.ref a), .val (.int (1 : Int32))] [(.int (0 : Int32)), (.ref a)])) _
  refine own_ild Xc hx hZ rfl Vc 0 (by decide) (by decide) (by decide) rfl (g := (mkF m 415 #[.val (.int q0), .val (.int q1), .val (.int q2), .val (.int q3), .val (.int q4), .val (.int kk), .val (.int x0), .val (.int x1), .val (.int x2), .val (.int dd), .val (.int ((x2 + (1 : Int32)) + dd)), .val (.ref a), .val (.int (1 : Int32))] [(.int (0 : Int32)), (.ref a)])) rfl rfl (hb hby at_415) _ ?_
  show Steps p.tables e below (Tc.setTop (mkF m 416 #[.val (.int q0), .val (.int q1), .val (.int q2), .val (.int q3), .val (.int q4), .val (.int kk), .val (.int x0), .val (.int x1), .val (.int x2), .val (.int dd), .val (.int ((x2 + (1 : Int32)) + dd)), .val (.ref a), .val (.int (1 : Int32))] [(.int x0)])) _
  refine XS.iload Xc.here hx rfl (hb hby at_416) rfl ?_
  show Steps p.tables e below (Tc.setTop (mkF m 418 #[.val (.int q0), .val (.int q1), .val (.int q2), .val (.int q3), .val (.int q4), .val (.int kk), .val (.int x0), .val (.int x1), .val (.int x2), .val (.int dd), .val (.int ((x2 + (1 : Int32)) + dd)), .val (.ref a), .val (.int (1 : Int32))] [(.int x0), (.int x0)])) _
  refine XS.icmpNo Xc.here hx rfl (hb hby at_418) rfl (teq (rfl : x0 = x0)).2 ?_
  show Steps p.tables e below (Tc.setTop (mkF m 421 #[.val (.int q0), .val (.int q1), .val (.int q2), .val (.int q3), .val (.int q4), .val (.int kk), .val (.int x0), .val (.int x1), .val (.int x2), .val (.int dd), .val (.int ((x2 + (1 : Int32)) + dd)), .val (.ref a), .val (.int (1 : Int32))] [])) _
  refine XS.aload Xc.here hx rfl (hb hby at_421) rfl rfl ?_
  show Steps p.tables e below (Tc.setTop (mkF m 423 #[.val (.int q0), .val (.int q1), .val (.int q2), .val (.int q3), .val (.int q4), .val (.int kk), .val (.int x0), .val (.int x1), .val (.int x2), .val (.int dd), .val (.int ((x2 + (1 : Int32)) + dd)), .val (.ref a), .val (.int (1 : Int32))] [(.ref a)])) _
  refine XS.iconst Xc.here hx rfl (hb hby at_423) ?_
  show Steps p.tables e below (Tc.setTop (mkF m 424 #[.val (.int q0), .val (.int q1), .val (.int q2), .val (.int q3), .val (.int q4), .val (.int kk), .val (.int x0), .val (.int x1), .val (.int x2), .val (.int dd), .val (.int ((x2 + (1 : Int32)) + dd)), .val (.ref a), .val (.int (1 : Int32))] [(.int (1 : Int32)), (.ref a)])) _
  refine own_ild Xc hx hZ rfl Vc 1 (by decide) (by decide) (by decide) rfl (g := (mkF m 424 #[.val (.int q0), .val (.int q1), .val (.int q2), .val (.int q3), .val (.int q4), .val (.int kk), .val (.int x0), .val (.int x1), .val (.int x2), .val (.int dd), .val (.int ((x2 + (1 : Int32)) + dd)), .val (.ref a), .val (.int (1 : Int32))] [(.int (1 : Int32)), (.ref a)])) rfl rfl (hb hby at_424) _ ?_
  show Steps p.tables e below (Tc.setTop (mkF m 425 #[.val (.int q0), .val (.int q1), .val (.int q2), .val (.int q3), .val (.int q4), .val (.int kk), .val (.int x0), .val (.int x1), .val (.int x2), .val (.int dd), .val (.int ((x2 + (1 : Int32)) + dd)), .val (.ref a), .val (.int (1 : Int32))] [(.int (x1 + (1 : Int32)))])) _
  refine XS.iload Xc.here hx rfl (hb hby at_425) rfl ?_
  show Steps p.tables e below (Tc.setTop (mkF m 427 #[.val (.int q0), .val (.int q1), .val (.int q2), .val (.int q3), .val (.int q4), .val (.int kk), .val (.int x0), .val (.int x1), .val (.int x2), .val (.int dd), .val (.int ((x2 + (1 : Int32)) + dd)), .val (.ref a), .val (.int (1 : Int32))] [(.int x1), (.int (x1 + (1 : Int32)))])) _
  refine XS.iconst Xc.here hx rfl (hb hby at_427) ?_
  show Steps p.tables e below (Tc.setTop (mkF m 428 #[.val (.int q0), .val (.int q1), .val (.int q2), .val (.int q3), .val (.int q4), .val (.int kk), .val (.int x0), .val (.int x1), .val (.int x2), .val (.int dd), .val (.int ((x2 + (1 : Int32)) + dd)), .val (.ref a), .val (.int (1 : Int32))] [(.int (1 : Int32)), (.int x1), (.int (x1 + (1 : Int32)))])) _
  refine XS.iadd Xc.here hx rfl (hb hby at_428) rfl ?_
  show Steps p.tables e below (Tc.setTop (mkF m 429 #[.val (.int q0), .val (.int q1), .val (.int q2), .val (.int q3), .val (.int q4), .val (.int kk), .val (.int x0), .val (.int x1), .val (.int x2), .val (.int dd), .val (.int ((x2 + (1 : Int32)) + dd)), .val (.ref a), .val (.int (1 : Int32))] [(.int (x1 + (1 : Int32))), (.int (x1 + (1 : Int32)))])) _
  refine XS.icmpNo Xc.here hx rfl (hb hby at_429) rfl (teq (rfl : (x1 + (1 : Int32)) = (x1 + (1 : Int32)))).2 ?_
  show Steps p.tables e below (Tc.setTop (mkF m 432 #[.val (.int q0), .val (.int q1), .val (.int q2), .val (.int q3), .val (.int q4), .val (.int kk), .val (.int x0), .val (.int x1), .val (.int x2), .val (.int dd), .val (.int ((x2 + (1 : Int32)) + dd)), .val (.ref a), .val (.int (1 : Int32))] [])) _
  refine XS.aload Xc.here hx rfl (hb hby at_432) rfl rfl ?_
  show Steps p.tables e below (Tc.setTop (mkF m 434 #[.val (.int q0), .val (.int q1), .val (.int q2), .val (.int q3), .val (.int q4), .val (.int kk), .val (.int x0), .val (.int x1), .val (.int x2), .val (.int dd), .val (.int ((x2 + (1 : Int32)) + dd)), .val (.ref a), .val (.int (1 : Int32))] [(.ref a)])) _
  refine XS.iconst Xc.here hx rfl (hb hby at_434) ?_
  show Steps p.tables e below (Tc.setTop (mkF m 435 #[.val (.int q0), .val (.int q1), .val (.int q2), .val (.int q3), .val (.int q4), .val (.int kk), .val (.int x0), .val (.int x1), .val (.int x2), .val (.int dd), .val (.int ((x2 + (1 : Int32)) + dd)), .val (.ref a), .val (.int (1 : Int32))] [(.int (2 : Int32)), (.ref a)])) _
  refine own_ild Xc hx hZ rfl Vc 2 (by decide) (by decide) (by decide) rfl (g := (mkF m 435 #[.val (.int q0), .val (.int q1), .val (.int q2), .val (.int q3), .val (.int q4), .val (.int kk), .val (.int x0), .val (.int x1), .val (.int x2), .val (.int dd), .val (.int ((x2 + (1 : Int32)) + dd)), .val (.ref a), .val (.int (1 : Int32))] [(.int (2 : Int32)), (.ref a)])) rfl rfl (hb hby at_435) _ ?_
  show Steps p.tables e below (Tc.setTop (mkF m 436 #[.val (.int q0), .val (.int q1), .val (.int q2), .val (.int q3), .val (.int q4), .val (.int kk), .val (.int x0), .val (.int x1), .val (.int x2), .val (.int dd), .val (.int ((x2 + (1 : Int32)) + dd)), .val (.ref a), .val (.int (1 : Int32))] [(.int ((x1 + (1 : Int32)) + (1 : Int32)))])) _
  refine XS.iload Xc.here hx rfl (hb hby at_436) rfl ?_
  show Steps p.tables e below (Tc.setTop (mkF m 438 #[.val (.int q0), .val (.int q1), .val (.int q2), .val (.int q3), .val (.int q4), .val (.int kk), .val (.int x0), .val (.int x1), .val (.int x2), .val (.int dd), .val (.int ((x2 + (1 : Int32)) + dd)), .val (.ref a), .val (.int (1 : Int32))] [(.int x1), (.int ((x1 + (1 : Int32)) + (1 : Int32)))])) _
  refine XS.iconst Xc.here hx rfl (hb hby at_438) ?_
  show Steps p.tables e below (Tc.setTop (mkF m 439 #[.val (.int q0), .val (.int q1), .val (.int q2), .val (.int q3), .val (.int q4), .val (.int kk), .val (.int x0), .val (.int x1), .val (.int x2), .val (.int dd), .val (.int ((x2 + (1 : Int32)) + dd)), .val (.ref a), .val (.int (1 : Int32))] [(.int (2 : Int32)), (.int x1), (.int ((x1 + (1 : Int32)) + (1 : Int32)))])) _
  refine XS.iadd Xc.here hx rfl (hb hby at_439) rfl ?_
  show Steps p.tables e below (Tc.setTop (mkF m 440 #[.val (.int q0), .val (.int q1), .val (.int q2), .val (.int q3), .val (.int q4), .val (.int kk), .val (.int x0), .val (.int x1), .val (.int x2), .val (.int dd), .val (.int ((x2 + (1 : Int32)) + dd)), .val (.ref a), .val (.int (1 : Int32))] [(.int (x1 + (2 : Int32))), (.int ((x1 + (1 : Int32)) + (1 : Int32)))])) _
  refine XS.icmpNo Xc.here hx rfl (hb hby at_440) rfl (teq (own_a2 x1 : ((x1 + (1 : Int32)) + (1 : Int32)) = (x1 + (2 : Int32)))).2 ?_
  show Steps p.tables e below (Tc.setTop (mkF m 443 #[.val (.int q0), .val (.int q1), .val (.int q2), .val (.int q3), .val (.int q4), .val (.int kk), .val (.int x0), .val (.int x1), .val (.int x2), .val (.int dd), .val (.int ((x2 + (1 : Int32)) + dd)), .val (.ref a), .val (.int (1 : Int32))] [])) _
  refine XS.iconst Xc.here hx rfl (hb hby at_443) ?_
  show Steps p.tables e below (Tc.setTop (mkF m 444 #[.val (.int q0), .val (.int q1), .val (.int q2), .val (.int q3), .val (.int q4), .val (.int kk), .val (.int x0), .val (.int x1), .val (.int x2), .val (.int dd), .val (.int ((x2 + (1 : Int32)) + dd)), .val (.ref a), .val (.int (1 : Int32))] [(.int (1 : Int32))])) _
  refine XS.goto Xc.here hx rfl (pc0 := 444) (pc' := 448) rfl (hb hby at_444) (by decide) (by decide) ?_
  exact kt
set_option maxRecDepth 65536 in
set_option maxHeartbeats 4000000 in
theorem own_law_3_2 {p : Program} {l : Launch} {e : Env} {s : State} {m : MethodId} {args : Array Value} {below : List Frame} {meth : Method} {c : Code} {T : State} {locs : List Loc} {Z : State} {a0 : Array Value} (q0 q1 q2 q3 q4 kk x0 x1 x2 dd : Int32) (hw : ∀ d ∈ tables_1, d.before a0 Z = true) (X0 : Stand p l e room_1 s m args below meth c T locs 0 0) (hx : p.tables.exec = Jvm.exec) (hZ : Z.Warmed39 s.vm) (hby : c.code = code) (hml : c.maxLocals = 13) (hown : s.vm.findClass "com/example/ashlar/ashlar/storage/SubsetsNextPinLaw" = some m.cls) {h0 : Heap} (e0 : T.heap = h0) {n0 : Nat} (Z0 : n0 ≤ h0.size) (N0 : Fr n0 locs) (hc2 : ¬ (x2 < (((x2 + (1 : Int32)) + dd) - (1 : Int32)))) (hc1 : ¬ (x1 < (((x2 + (1 : Int32)) + dd) - (2 : Int32)))) (hc0 : x0 < (((x2 + (1 : Int32)) + dd) - (3 : Int32))) :
    ∃ (T' : State) (l' : List Loc) (pcr : Nat) (Lr : Array Slot) (sl : Nat), sl ≤ 128 ∧ Stand p l e room_1 s m args below meth c T' l' 1 sl ∧ Fr n0 l' ∧ decode c.code pcr = .ok (.ireturn, 1) ∧ ∀ t, Steps p.tables e below (T'.setTop (mkF m pcr Lr [(.int (1 : Int32))])) t → Steps p.tables e below (T.setTop (mkF m 311 #[.val (.int q0), .val (.int q1), .val (.int q2), .val (.int q3), .val (.int q4), .val (.int kk), .val (.int x0), .val (.int x1), .val (.int x2), .val (.int dd), .unset, .unset, .unset] [])) t := by
  obtain ⟨Ta, ha, ka, Xa, ea, Ea, Aa, sta⟩ := newP X0 hx hZ (hw _ (List.mem_of_getElem? (i := 5) rfl)) e0 (g := (mkF m 321 #[.val (.int q0), .val (.int q1), .val (.int q2), .val (.int q3), .val (.int q4), .val (.int kk), .val (.int x0), .val (.int x1), .val (.int x2), .val (.int dd), .val (.int ((x2 + (1 : Int32)) + dd)), .unset, .unset] [(.int (3 : Int32))])) rfl (hb hby at_321) rfl (by decide) (cap := 3) (by decide) (by decide) (by decide) (by decide)
  obtain ⟨a, ga⟩ : ∃ z, z = h0.size := ⟨_, rfl⟩
  rw [← ga] at Aa sta
  have Va : Arv Z ha a ka .int (3 : Int32) [(.int (0 : Int32)), (.int (0 : Int32)), (.int (0 : Int32))] (.int (0 : Int32)) := (Arv.new Aa (by decide)).pad (pad_rep [] (.int (0 : Int32)) 3)
  have g_a : n0 ≤ a := Nat.le_trans Z0 (Nat.le_of_eq ga.symm)
  obtain ⟨Ts0, hs0, Xs0, es0, Ws0, Vs0', sts0⟩ := own_ist Xa hx hZ ea Va 0 (by decide) (by decide) (by decide) (Nat.le_of_ble_eq_true rfl) (g := (mkF m 327 #[.val (.int q0), .val (.int q1), .val (.int q2), .val (.int q3), .val (.int q4), .val (.int kk), .val (.int x0), .val (.int x1), .val (.int x2), .val (.int dd), .val (.int ((x2 + (1 : Int32)) + dd)), .unset, .unset] [(.int x0), (.int (0 : Int32)), (.ref a), (.ref a)])) rfl rfl (hb hby at_327)
  have Vs0 : Arv Z hs0 a ka .int (3 : Int32) [(.int x0), (.int (0 : Int32)), (.int (0 : Int32))] (.int 0) := Vs0'
  have Ns0 := Fr.snoc Xs0 N0 g_a
  obtain ⟨Ts1, hs1, Xs1, es1, Ws1, Vs1', sts1⟩ := own_ist Xs0 hx hZ es0 Vs0 1 (by decide) (by decide) (by decide) (Nat.le_of_ble_eq_true rfl) (g := (mkF m 332 #[.val (.int q0), .val (.int q1), .val (.int q2), .val (.int q3), .val (.int q4), .val (.int kk), .val (.int x0), .val (.int x1), .val (.int x2), .val (.int dd), .val (.int ((x2 + (1 : Int32)) + dd)), .unset, .unset] [(.int x1), (.int (1 : Int32)), (.ref a), (.ref a)])) rfl rfl (hb hby at_332)
  have Vs1 : Arv Z hs1 a ka .int (3 : Int32) [(.int x0), (.int x1), (.int (0 : Int32))] (.int 0) := Vs1'
  have Ns1 := Fr.snoc Xs1 Ns0 g_a
  obtain ⟨Ts2, hs2, Xs2, es2, Ws2, Vs2', sts2⟩ := own_ist Xs1 hx hZ es1 Vs1 2 (by decide) (by decide) (by decide) (Nat.le_of_ble_eq_true rfl) (g := (mkF m 337 #[.val (.int q0), .val (.int q1), .val (.int q2), .val (.int q3), .val (.int q4), .val (.int kk), .val (.int x0), .val (.int x1), .val (.int x2), .val (.int dd), .val (.int ((x2 + (1 : Int32)) + dd)), .unset, .unset] [(.int x2), (.int (2 : Int32)), (.ref a), (.ref a)])) rfl rfl (hb hby at_337)
  have Vs2 : Arv Z hs2 a ka .int (3 : Int32) [(.int x0), (.int x1), (.int x2)] (.int 0) := Vs2'
  have Ns2 := Fr.snoc Xs2 Ns1 g_a
  obtain ⟨_, _, ⟨Tc, Lc, kc, nc⟩, -, Xc, ⟨Lcc, hQc, lc, yc, zc⟩, stc⟩ := Jvm.LawKit.callS Xs2 hx (y := (⟨"com/example/ashlar/ashlar/storage/Subsets", "next", "([II)Z"⟩ : MethodName)) hown (mvT hZ (hw _ (List.mem_of_getElem? (i := 6) rfl))) (mvT hZ (hw _ (List.mem_of_getElem? (i := 7) rfl))) (mvT hZ (hw _ (List.mem_of_getElem? (i := 8) rfl))) (mvT hZ (hw _ (List.mem_of_getElem? (i := 9) rfl))) (by decide) (backOf (W := 0) (rm2_3_2 l Z a0 hw [] a ((x2 + (1 : Int32)) + dd) ka x0 x1 x2 hs2 n0 g_a Vs2 (by rw [own_s32]; exact hc2) (by rw [own_s31]; exact hc1) (by rw [own_s30]; exact hc0)) hZ (hw _ (List.mem_of_getElem? (i := 9) rfl)) (hw _ (List.mem_of_getElem? (i := 8) rfl)) (by decide) (by decide)) (g := (mkF m 344 #[.val (.int q0), .val (.int q1), .val (.int q2), .val (.int q3), .val (.int q4), .val (.int kk), .val (.int x0), .val (.int x1), .val (.int x2), .val (.int dd), .val (.int ((x2 + (1 : Int32)) + dd)), .val (.ref a), .unset] [(.int ((x2 + (1 : Int32)) + dd)), (.ref a)])) rfl (by rw [hml]; rfl) (argsL := [(.ref a), (.int ((x2 + (1 : Int32)) + dd))]) (rest := []) (lenOf pd_0_n rfl) rfl (by show 2 * 0 + _ ≤ _; exact Nat.le_of_eq rfl) (hb hby at_344) (fun _ _ => ⟨rfl, es2, (by decide : 1 + 0 ≤ _), (by decide : 3 + 0 ≤ _)⟩)
  dsimp only [Pt.U, Pt.locs, Pt.cells, Pt.slots] at Xc lc yc zc stc hQc
  subst lc yc zc
  obtain ⟨rfl, Ncq, Vc⟩ := hQc
  have Nc := Fr.app Ns2 Ncq
  refine ⟨Tc, _, 501, #[.val (.int q0), .val (.int q1), .val (.int q2), .val (.int q3), .val (.int q4), .val (.int kk), .val (.int x0), .val (.int x1), .val (.int x2), .val (.int dd), .val (.int ((x2 + (1 : Int32)) + dd)), .val (.ref a), .val (.int (1 : Int32))], 3, by decide, Xc, Nc, hb hby at_501, fun t kt => ?_⟩
  show Steps p.tables e below (T.setTop (mkF m 311 #[.val (.int q0), .val (.int q1), .val (.int q2), .val (.int q3), .val (.int q4), .val (.int kk), .val (.int x0), .val (.int x1), .val (.int x2), .val (.int dd), .unset, .unset, .unset] [])) _
  refine XS.iload X0.here hx rfl (hb hby at_311) rfl ?_
  show Steps p.tables e below (T.setTop (mkF m 313 #[.val (.int q0), .val (.int q1), .val (.int q2), .val (.int q3), .val (.int q4), .val (.int kk), .val (.int x0), .val (.int x1), .val (.int x2), .val (.int dd), .unset, .unset, .unset] [(.int x2)])) _
  refine XS.iconst X0.here hx rfl (hb hby at_313) ?_
  show Steps p.tables e below (T.setTop (mkF m 314 #[.val (.int q0), .val (.int q1), .val (.int q2), .val (.int q3), .val (.int q4), .val (.int kk), .val (.int x0), .val (.int x1), .val (.int x2), .val (.int dd), .unset, .unset, .unset] [(.int (1 : Int32)), (.int x2)])) _
  refine XS.iadd X0.here hx rfl (hb hby at_314) rfl ?_
  show Steps p.tables e below (T.setTop (mkF m 315 #[.val (.int q0), .val (.int q1), .val (.int q2), .val (.int q3), .val (.int q4), .val (.int kk), .val (.int x0), .val (.int x1), .val (.int x2), .val (.int dd), .unset, .unset, .unset] [(.int (x2 + (1 : Int32)))])) _
  refine XS.iload X0.here hx rfl (hb hby at_315) rfl ?_
  show Steps p.tables e below (T.setTop (mkF m 317 #[.val (.int q0), .val (.int q1), .val (.int q2), .val (.int q3), .val (.int q4), .val (.int kk), .val (.int x0), .val (.int x1), .val (.int x2), .val (.int dd), .unset, .unset, .unset] [(.int dd), (.int (x2 + (1 : Int32)))])) _
  refine XS.iadd X0.here hx rfl (hb hby at_317) rfl ?_
  show Steps p.tables e below (T.setTop (mkF m 318 #[.val (.int q0), .val (.int q1), .val (.int q2), .val (.int q3), .val (.int q4), .val (.int kk), .val (.int x0), .val (.int x1), .val (.int x2), .val (.int dd), .unset, .unset, .unset] [(.int ((x2 + (1 : Int32)) + dd))])) _
  refine XS.istore X0.here hx rfl (hb hby at_318) rfl (l' := #[.val (.int q0), .val (.int q1), .val (.int q2), .val (.int q3), .val (.int q4), .val (.int kk), .val (.int x0), .val (.int x1), .val (.int x2), .val (.int dd), .val (.int ((x2 + (1 : Int32)) + dd)), .unset, .unset]) rfl ?_
  show Steps p.tables e below (T.setTop (mkF m 320 #[.val (.int q0), .val (.int q1), .val (.int q2), .val (.int q3), .val (.int q4), .val (.int kk), .val (.int x0), .val (.int x1), .val (.int x2), .val (.int dd), .val (.int ((x2 + (1 : Int32)) + dd)), .unset, .unset] [])) _
  refine XS.iconst X0.here hx rfl (hb hby at_320) ?_
  show Steps p.tables e below (T.setTop (mkF m 321 #[.val (.int q0), .val (.int q1), .val (.int q2), .val (.int q3), .val (.int q4), .val (.int kk), .val (.int x0), .val (.int x1), .val (.int x2), .val (.int dd), .val (.int ((x2 + (1 : Int32)) + dd)), .unset, .unset] [(.int (3 : Int32))])) _
  refine sta _ ?_
  show Steps p.tables e below (Ta.setTop (mkF m 323 #[.val (.int q0), .val (.int q1), .val (.int q2), .val (.int q3), .val (.int q4), .val (.int kk), .val (.int x0), .val (.int x1), .val (.int x2), .val (.int dd), .val (.int ((x2 + (1 : Int32)) + dd)), .unset, .unset] [(.ref a)])) _
  refine XS.dup Xa.here hx rfl (hb hby at_323) rfl rfl ?_
  show Steps p.tables e below (Ta.setTop (mkF m 324 #[.val (.int q0), .val (.int q1), .val (.int q2), .val (.int q3), .val (.int q4), .val (.int kk), .val (.int x0), .val (.int x1), .val (.int x2), .val (.int dd), .val (.int ((x2 + (1 : Int32)) + dd)), .unset, .unset] [(.ref a), (.ref a)])) _
  refine XS.iconst Xa.here hx rfl (hb hby at_324) ?_
  show Steps p.tables e below (Ta.setTop (mkF m 325 #[.val (.int q0), .val (.int q1), .val (.int q2), .val (.int q3), .val (.int q4), .val (.int kk), .val (.int x0), .val (.int x1), .val (.int x2), .val (.int dd), .val (.int ((x2 + (1 : Int32)) + dd)), .unset, .unset] [(.int (0 : Int32)), (.ref a), (.ref a)])) _
  refine XS.iload Xa.here hx rfl (hb hby at_325) rfl ?_
  show Steps p.tables e below (Ta.setTop (mkF m 327 #[.val (.int q0), .val (.int q1), .val (.int q2), .val (.int q3), .val (.int q4), .val (.int kk), .val (.int x0), .val (.int x1), .val (.int x2), .val (.int dd), .val (.int ((x2 + (1 : Int32)) + dd)), .unset, .unset] [(.int x0), (.int (0 : Int32)), (.ref a), (.ref a)])) _
  refine sts0 _ ?_
  show Steps p.tables e below (Ts0.setTop (mkF m 328 #[.val (.int q0), .val (.int q1), .val (.int q2), .val (.int q3), .val (.int q4), .val (.int kk), .val (.int x0), .val (.int x1), .val (.int x2), .val (.int dd), .val (.int ((x2 + (1 : Int32)) + dd)), .unset, .unset] [(.ref a)])) _
  refine XS.dup Xs0.here hx rfl (hb hby at_328) rfl rfl ?_
  show Steps p.tables e below (Ts0.setTop (mkF m 329 #[.val (.int q0), .val (.int q1), .val (.int q2), .val (.int q3), .val (.int q4), .val (.int kk), .val (.int x0), .val (.int x1), .val (.int x2), .val (.int dd), .val (.int ((x2 + (1 : Int32)) + dd)), .unset, .unset] [(.ref a), (.ref a)])) _
  refine XS.iconst Xs0.here hx rfl (hb hby at_329) ?_
  show Steps p.tables e below (Ts0.setTop (mkF m 330 #[.val (.int q0), .val (.int q1), .val (.int q2), .val (.int q3), .val (.int q4), .val (.int kk), .val (.int x0), .val (.int x1), .val (.int x2), .val (.int dd), .val (.int ((x2 + (1 : Int32)) + dd)), .unset, .unset] [(.int (1 : Int32)), (.ref a), (.ref a)])) _
  refine XS.iload Xs0.here hx rfl (hb hby at_330) rfl ?_
  show Steps p.tables e below (Ts0.setTop (mkF m 332 #[.val (.int q0), .val (.int q1), .val (.int q2), .val (.int q3), .val (.int q4), .val (.int kk), .val (.int x0), .val (.int x1), .val (.int x2), .val (.int dd), .val (.int ((x2 + (1 : Int32)) + dd)), .unset, .unset] [(.int x1), (.int (1 : Int32)), (.ref a), (.ref a)])) _
  refine sts1 _ ?_
  show Steps p.tables e below (Ts1.setTop (mkF m 333 #[.val (.int q0), .val (.int q1), .val (.int q2), .val (.int q3), .val (.int q4), .val (.int kk), .val (.int x0), .val (.int x1), .val (.int x2), .val (.int dd), .val (.int ((x2 + (1 : Int32)) + dd)), .unset, .unset] [(.ref a)])) _
  refine XS.dup Xs1.here hx rfl (hb hby at_333) rfl rfl ?_
  show Steps p.tables e below (Ts1.setTop (mkF m 334 #[.val (.int q0), .val (.int q1), .val (.int q2), .val (.int q3), .val (.int q4), .val (.int kk), .val (.int x0), .val (.int x1), .val (.int x2), .val (.int dd), .val (.int ((x2 + (1 : Int32)) + dd)), .unset, .unset] [(.ref a), (.ref a)])) _
  refine XS.iconst Xs1.here hx rfl (hb hby at_334) ?_
  show Steps p.tables e below (Ts1.setTop (mkF m 335 #[.val (.int q0), .val (.int q1), .val (.int q2), .val (.int q3), .val (.int q4), .val (.int kk), .val (.int x0), .val (.int x1), .val (.int x2), .val (.int dd), .val (.int ((x2 + (1 : Int32)) + dd)), .unset, .unset] [(.int (2 : Int32)), (.ref a), (.ref a)])) _
  refine XS.iload Xs1.here hx rfl (hb hby at_335) rfl ?_
  show Steps p.tables e below (Ts1.setTop (mkF m 337 #[.val (.int q0), .val (.int q1), .val (.int q2), .val (.int q3), .val (.int q4), .val (.int kk), .val (.int x0), .val (.int x1), .val (.int x2), .val (.int dd), .val (.int ((x2 + (1 : Int32)) + dd)), .unset, .unset] [(.int x2), (.int (2 : Int32)), (.ref a), (.ref a)])) _
  refine sts2 _ ?_
  show Steps p.tables e below (Ts2.setTop (mkF m 338 #[.val (.int q0), .val (.int q1), .val (.int q2), .val (.int q3), .val (.int q4), .val (.int kk), .val (.int x0), .val (.int x1), .val (.int x2), .val (.int dd), .val (.int ((x2 + (1 : Int32)) + dd)), .unset, .unset] [(.ref a)])) _
  refine XS.astore Xs2.here hx rfl (hb hby at_338) rfl rfl (l' := #[.val (.int q0), .val (.int q1), .val (.int q2), .val (.int q3), .val (.int q4), .val (.int kk), .val (.int x0), .val (.int x1), .val (.int x2), .val (.int dd), .val (.int ((x2 + (1 : Int32)) + dd)), .val (.ref a), .unset]) rfl ?_
  show Steps p.tables e below (Ts2.setTop (mkF m 340 #[.val (.int q0), .val (.int q1), .val (.int q2), .val (.int q3), .val (.int q4), .val (.int kk), .val (.int x0), .val (.int x1), .val (.int x2), .val (.int dd), .val (.int ((x2 + (1 : Int32)) + dd)), .val (.ref a), .unset] [])) _
  refine XS.aload Xs2.here hx rfl (hb hby at_340) rfl rfl ?_
  show Steps p.tables e below (Ts2.setTop (mkF m 342 #[.val (.int q0), .val (.int q1), .val (.int q2), .val (.int q3), .val (.int q4), .val (.int kk), .val (.int x0), .val (.int x1), .val (.int x2), .val (.int dd), .val (.int ((x2 + (1 : Int32)) + dd)), .val (.ref a), .unset] [(.ref a)])) _
  refine XS.iload Xs2.here hx rfl (hb hby at_342) rfl ?_
  show Steps p.tables e below (Ts2.setTop (mkF m 344 #[.val (.int q0), .val (.int q1), .val (.int q2), .val (.int q3), .val (.int q4), .val (.int kk), .val (.int x0), .val (.int x1), .val (.int x2), .val (.int dd), .val (.int ((x2 + (1 : Int32)) + dd)), .val (.ref a), .unset] [(.int ((x2 + (1 : Int32)) + dd)), (.ref a)])) _
  refine stc _ ?_
  show Steps p.tables e below (Tc.setTop (mkF m 347 #[.val (.int q0), .val (.int q1), .val (.int q2), .val (.int q3), .val (.int q4), .val (.int kk), .val (.int x0), .val (.int x1), .val (.int x2), .val (.int dd), .val (.int ((x2 + (1 : Int32)) + dd)), .val (.ref a), .unset] [(.int (1 : Int32))])) _
  refine XS.istore Xc.here hx rfl (hb hby at_347) rfl (l' := #[.val (.int q0), .val (.int q1), .val (.int q2), .val (.int q3), .val (.int q4), .val (.int kk), .val (.int x0), .val (.int x1), .val (.int x2), .val (.int dd), .val (.int ((x2 + (1 : Int32)) + dd)), .val (.ref a), .val (.int (1 : Int32))]) rfl ?_
  show Steps p.tables e below (Tc.setTop (mkF m 349 #[.val (.int q0), .val (.int q1), .val (.int q2), .val (.int q3), .val (.int q4), .val (.int kk), .val (.int x0), .val (.int x1), .val (.int x2), .val (.int dd), .val (.int ((x2 + (1 : Int32)) + dd)), .val (.ref a), .val (.int (1 : Int32))] [])) _
  refine XS.iload Xc.here hx rfl (hb hby at_349) rfl ?_
  show Steps p.tables e below (Tc.setTop (mkF m 351 #[.val (.int q0), .val (.int q1), .val (.int q2), .val (.int q3), .val (.int q4), .val (.int kk), .val (.int x0), .val (.int x1), .val (.int x2), .val (.int dd), .val (.int ((x2 + (1 : Int32)) + dd)), .val (.ref a), .val (.int (1 : Int32))] [(.int x2)])) _
  refine XS.iload Xc.here hx rfl (hb hby at_351) rfl ?_
  show Steps p.tables e below (Tc.setTop (mkF m 353 #[.val (.int q0), .val (.int q1), .val (.int q2), .val (.int q3), .val (.int q4), .val (.int kk), .val (.int x0), .val (.int x1), .val (.int x2), .val (.int dd), .val (.int ((x2 + (1 : Int32)) + dd)), .val (.ref a), .val (.int (1 : Int32))] [(.int ((x2 + (1 : Int32)) + dd)), (.int x2)])) _
  refine XS.iconst Xc.here hx rfl (hb hby at_353) ?_
  show Steps p.tables e below (Tc.setTop (mkF m 354 #[.val (.int q0), .val (.int q1), .val (.int q2), .val (.int q3), .val (.int q4), .val (.int kk), .val (.int x0), .val (.int x1), .val (.int x2), .val (.int dd), .val (.int ((x2 + (1 : Int32)) + dd)), .val (.ref a), .val (.int (1 : Int32))] [(.int (1 : Int32)), (.int ((x2 + (1 : Int32)) + dd)), (.int x2)])) _
  refine XS.isub Xc.here hx rfl (hb hby at_354) rfl ?_
  show Steps p.tables e below (Tc.setTop (mkF m 355 #[.val (.int q0), .val (.int q1), .val (.int q2), .val (.int q3), .val (.int q4), .val (.int kk), .val (.int x0), .val (.int x1), .val (.int x2), .val (.int dd), .val (.int ((x2 + (1 : Int32)) + dd)), .val (.ref a), .val (.int (1 : Int32))] [(.int (((x2 + (1 : Int32)) + dd) - (1 : Int32))), (.int x2)])) _
  refine XS.icmpYes Xc.here hx rfl (pc0 := 355) (pc' := 398) rfl (hb hby at_355) rfl (flt (hc2 : ¬ (x2 < (((x2 + (1 : Int32)) + dd) - (1 : Int32))))).2.1 (by decide) (by decide) ?_
  show Steps p.tables e below (Tc.setTop (mkF m 398 #[.val (.int q0), .val (.int q1), .val (.int q2), .val (.int q3), .val (.int q4), .val (.int kk), .val (.int x0), .val (.int x1), .val (.int x2), .val (.int dd), .val (.int ((x2 + (1 : Int32)) + dd)), .val (.ref a), .val (.int (1 : Int32))] [])) _
  refine XS.iload Xc.here hx rfl (hb hby at_398) rfl ?_
  show Steps p.tables e below (Tc.setTop (mkF m 400 #[.val (.int q0), .val (.int q1), .val (.int q2), .val (.int q3), .val (.int q4), .val (.int kk), .val (.int x0), .val (.int x1), .val (.int x2), .val (.int dd), .val (.int ((x2 + (1 : Int32)) + dd)), .val (.ref a), .val (.int (1 : Int32))] [(.int x1)])) _
  refine XS.iload Xc.here hx rfl (hb hby at_400) rfl ?_
  show Steps p.tables e below (Tc.setTop (mkF m 402 #[.val (.int q0), .val (.int q1), .val (.int q2), .val (.int q3), .val (.int q4), .val (.int kk), .val (.int x0), .val (.int x1), .val (.int x2), .val (.int dd), .val (.int ((x2 + (1 : Int32)) + dd)), .val (.ref a), .val (.int (1 : Int32))] [(.int ((x2 + (1 : Int32)) + dd)), (.int x1)])) _
  refine XS.iconst Xc.here hx rfl (hb hby at_402) ?_
  show Steps p.tables e below (Tc.setTop (mkF m 403 #[.val (.int q0), .val (.int q1), .val (.int q2), .val (.int q3), .val (.int q4), .val (.int kk), .val (.int x0), .val (.int x1), .val (.int x2), .val (.int dd), .val (.int ((x2 + (1 : Int32)) + dd)), .val (.ref a), .val (.int (1 : Int32))] [(.int (2 : Int32)), (.int ((x2 + (1 : Int32)) + dd)), (.int x1)])) _
  refine XS.isub Xc.here hx rfl (hb hby at_403) rfl ?_
  show Steps p.tables e below (Tc.setTop (mkF m 404 #[.val (.int q0), .val (.int q1), .val (.int q2), .val (.int q3), .val (.int q4), .val (.int kk), .val (.int x0), .val (.int x1), .val (.int x2), .val (.int dd), .val (.int ((x2 + (1 : Int32)) + dd)), .val (.ref a), .val (.int (1 : Int32))] [(.int (((x2 + (1 : Int32)) + dd) - (2 : Int32))), (.int x1)])) _
  refine XS.icmpYes Xc.here hx rfl (pc0 := 404) (pc' := 449) rfl (hb hby at_404) rfl (flt (hc1 : ¬ (x1 < (((x2 + (1 : Int32)) + dd) - (2 : Int32))))).2.1 (by decide) (by decide) ?_
  show Steps p.tables e below (Tc.setTop (mkF m 449 #[.val (.int q0), .val (.int q1), .val (.int q2), .val (.int q3), .val (.int q4), .val (.int kk), .val (.int x0), .val (.int x1), .val (.int x2), .val (.int dd), .val (.int ((x2 + (1 : Int32)) + dd)), .val (.ref a), .val (.int (1 : Int32))] [])) _
  refine XS.iload Xc.here hx rfl (hb hby at_449) rfl ?_
  show Steps p.tables e below (Tc.setTop (mkF m 451 #[.val (.int q0), .val (.int q1), .val (.int q2), .val (.int q3), .val (.int q4), .val (.int kk), .val (.int x0), .val (.int x1), .val (.int x2), .val (.int dd), .val (.int ((x2 + (1 : Int32)) + dd)), .val (.ref a), .val (.int (1 : Int32))] [(.int x0)])) _
  refine XS.iload Xc.here hx rfl (hb hby at_451) rfl ?_
  show Steps p.tables e below (Tc.setTop (mkF m 453 #[.val (.int q0), .val (.int q1), .val (.int q2), .val (.int q3), .val (.int q4), .val (.int kk), .val (.int x0), .val (.int x1), .val (.int x2), .val (.int dd), .val (.int ((x2 + (1 : Int32)) + dd)), .val (.ref a), .val (.int (1 : Int32))] [(.int ((x2 + (1 : Int32)) + dd)), (.int x0)])) _
  refine XS.iconst Xc.here hx rfl (hb hby at_453) ?_
  show Steps p.tables e below (Tc.setTop (mkF m 454 #[.val (.int q0), .val (.int q1), .val (.int q2), .val (.int q3), .val (.int q4), .val (.int kk), .val (.int x0), .val (.int x1), .val (.int x2), .val (.int dd), .val (.int ((x2 + (1 : Int32)) + dd)), .val (.ref a), .val (.int (1 : Int32))] [(.int (3 : Int32)), (.int ((x2 + (1 : Int32)) + dd)), (.int x0)])) _
  refine XS.isub Xc.here hx rfl (hb hby at_454) rfl ?_
  show Steps p.tables e below (Tc.setTop (mkF m 455 #[.val (.int q0), .val (.int q1), .val (.int q2), .val (.int q3), .val (.int q4), .val (.int kk), .val (.int x0), .val (.int x1), .val (.int x2), .val (.int dd), .val (.int ((x2 + (1 : Int32)) + dd)), .val (.ref a), .val (.int (1 : Int32))] [(.int (((x2 + (1 : Int32)) + dd) - (3 : Int32))), (.int x0)])) _
  refine XS.icmpNo Xc.here hx rfl (hb hby at_455) rfl (tlt (hc0 : x0 < (((x2 + (1 : Int32)) + dd) - (3 : Int32)))).2.1 ?_
  show Steps p.tables e below (Tc.setTop (mkF m 458 #[.val (.int q0), .val (.int q1), .val (.int q2), .val (.int q3), .val (.int q4), .val (.int kk), .val (.int x0), .val (.int x1), .val (.int x2), .val (.int dd), .val (.int ((x2 + (1 : Int32)) + dd)), .val (.ref a), .val (.int (1 : Int32))] [])) _
  refine XS.iload Xc.here hx rfl (hb hby at_458) rfl ?_
  show Steps p.tables e below (Tc.setTop (mkF m 460 #[.val (.int q0), .val (.int q1), .val (.int q2), .val (.int q3), .val (.int q4), .val (.int kk), .val (.int x0), .val (.int x1), .val (.int x2), .val (.int dd), .val (.int ((x2 + (1 : Int32)) + dd)), .val (.ref a), .val (.int (1 : Int32))] [(.int (1 : Int32))])) _
  refine XS.ifNo Xc.here hx rfl (hb hby at_460) rfl ((if0 _ _).trans (feq (by decide : ¬ ((1 : Int32) = (0 : Int32)))).1) ?_
  show Steps p.tables e below (Tc.setTop (mkF m 463 #[.val (.int q0), .val (.int q1), .val (.int q2), .val (.int q3), .val (.int q4), .val (.int kk), .val (.int x0), .val (.int x1), .val (.int x2), .val (.int dd), .val (.int ((x2 + (1 : Int32)) + dd)), .val (.ref a), .val (.int (1 : Int32))] [])) _
  refine XS.aload Xc.here hx rfl (hb hby at_463) rfl rfl ?_
  show Steps p.tables e below (Tc.setTop (mkF m 465 #[.val (.int q0), .val (.int q1), .val (.int q2), .val (.int q3), .val (.int q4), .val (.int kk), .val (.int x0), .val (.int x1), .val (.int x2), .val (.int dd), .val (.int ((x2 + (1 : Int32)) + dd)), .val (.ref a), .val (.int (1 : Int32))] [(.ref a)])) _
  refine XS.iconst Xc.here hx rfl (hb hby at_465) ?_
  show Steps p.tables e below (Tc.setTop (mkF m 466 #[.val (.int q0), .val (.int q1), .val (.int q2), .val (.int q3), .val (.int q4), .val (.int kk), .val (.int x0), .val (.int x1), .val (.int x2), .val (.int dd), .val (.int ((x2 + (1 : Int32)) + dd)), .val (.ref a), .val (.int (1 : Int32))] [(.int (0 : Int32)), (.ref a)])) _
  refine own_ild Xc hx hZ rfl Vc 0 (by decide) (by decide) (by decide) rfl (g := (mkF m 466 #[.val (.int q0), .val (.int q1), .val (.int q2), .val (.int q3), .val (.int q4), .val (.int kk), .val (.int x0), .val (.int x1), .val (.int x2), .val (.int dd), .val (.int ((x2 + (1 : Int32)) + dd)), .val (.ref a), .val (.int (1 : Int32))] [(.int (0 : Int32)), (.ref a)])) rfl rfl (hb hby at_466) _ ?_
  show Steps p.tables e below (Tc.setTop (mkF m 467 #[.val (.int q0), .val (.int q1), .val (.int q2), .val (.int q3), .val (.int q4), .val (.int kk), .val (.int x0), .val (.int x1), .val (.int x2), .val (.int dd), .val (.int ((x2 + (1 : Int32)) + dd)), .val (.ref a), .val (.int (1 : Int32))] [(.int (x0 + (1 : Int32)))])) _
  refine XS.iload Xc.here hx rfl (hb hby at_467) rfl ?_
  show Steps p.tables e below (Tc.setTop (mkF m 469 #[.val (.int q0), .val (.int q1), .val (.int q2), .val (.int q3), .val (.int q4), .val (.int kk), .val (.int x0), .val (.int x1), .val (.int x2), .val (.int dd), .val (.int ((x2 + (1 : Int32)) + dd)), .val (.ref a), .val (.int (1 : Int32))] [(.int x0), (.int (x0 + (1 : Int32)))])) _
  refine XS.iconst Xc.here hx rfl (hb hby at_469) ?_
  show Steps p.tables e below (Tc.setTop (mkF m 470 #[.val (.int q0), .val (.int q1), .val (.int q2), .val (.int q3), .val (.int q4), .val (.int kk), .val (.int x0), .val (.int x1), .val (.int x2), .val (.int dd), .val (.int ((x2 + (1 : Int32)) + dd)), .val (.ref a), .val (.int (1 : Int32))] [(.int (1 : Int32)), (.int x0), (.int (x0 + (1 : Int32)))])) _
  refine XS.iadd Xc.here hx rfl (hb hby at_470) rfl ?_
  show Steps p.tables e below (Tc.setTop (mkF m 471 #[.val (.int q0), .val (.int q1), .val (.int q2), .val (.int q3), .val (.int q4), .val (.int kk), .val (.int x0), .val (.int x1), .val (.int x2), .val (.int dd), .val (.int ((x2 + (1 : Int32)) + dd)), .val (.ref a), .val (.int (1 : Int32))] [(.int (x0 + (1 : Int32))), (.int (x0 + (1 : Int32)))])) _
  refine XS.icmpNo Xc.here hx rfl (hb hby at_471) rfl (teq (rfl : (x0 + (1 : Int32)) = (x0 + (1 : Int32)))).2 ?_
  show Steps p.tables e below (Tc.setTop (mkF m 474 #[.val (.int q0), .val (.int q1), .val (.int q2), .val (.int q3), .val (.int q4), .val (.int kk), .val (.int x0), .val (.int x1), .val (.int x2), .val (.int dd), .val (.int ((x2 + (1 : Int32)) + dd)), .val (.ref a), .val (.int (1 : Int32))] [])) _
  refine XS.aload Xc.here hx rfl (hb hby at_474) rfl rfl ?_
  show Steps p.tables e below (Tc.setTop (mkF m 476 #[.val (.int q0), .val (.int q1), .val (.int q2), .val (.int q3), .val (.int q4), .val (.int kk), .val (.int x0), .val (.int x1), .val (.int x2), .val (.int dd), .val (.int ((x2 + (1 : Int32)) + dd)), .val (.ref a), .val (.int (1 : Int32))] [(.ref a)])) _
  refine XS.iconst Xc.here hx rfl (hb hby at_476) ?_
  show Steps p.tables e below (Tc.setTop (mkF m 477 #[.val (.int q0), .val (.int q1), .val (.int q2), .val (.int q3), .val (.int q4), .val (.int kk), .val (.int x0), .val (.int x1), .val (.int x2), .val (.int dd), .val (.int ((x2 + (1 : Int32)) + dd)), .val (.ref a), .val (.int (1 : Int32))] [(.int (1 : Int32)), (.ref a)])) _
  refine own_ild Xc hx hZ rfl Vc 1 (by decide) (by decide) (by decide) rfl (g := (mkF m 477 #[.val (.int q0), .val (.int q1), .val (.int q2), .val (.int q3), .val (.int q4), .val (.int kk), .val (.int x0), .val (.int x1), .val (.int x2), .val (.int dd), .val (.int ((x2 + (1 : Int32)) + dd)), .val (.ref a), .val (.int (1 : Int32))] [(.int (1 : Int32)), (.ref a)])) rfl rfl (hb hby at_477) _ ?_
  show Steps p.tables e below (Tc.setTop (mkF m 478 #[.val (.int q0), .val (.int q1), .val (.int q2), .val (.int q3), .val (.int q4), .val (.int kk), .val (.int x0), .val (.int x1), .val (.int x2), .val (.int dd), .val (.int ((x2 + (1 : Int32)) + dd)), .val (.ref a), .val (.int (1 : Int32))] [(.int ((x0 + (1 : Int32)) + (1 : Int32)))])) _
  refine XS.iload Xc.here hx rfl (hb hby at_478) rfl ?_
  show Steps p.tables e below (Tc.setTop (mkF m 480 #[.val (.int q0), .val (.int q1), .val (.int q2), .val (.int q3), .val (.int q4), .val (.int kk), .val (.int x0), .val (.int x1), .val (.int x2), .val (.int dd), .val (.int ((x2 + (1 : Int32)) + dd)), .val (.ref a), .val (.int (1 : Int32))] [(.int x0), (.int ((x0 + (1 : Int32)) + (1 : Int32)))])) _
  refine XS.iconst Xc.here hx rfl (hb hby at_480) ?_
  show Steps p.tables e below (Tc.setTop (mkF m 481 #[.val (.int q0), .val (.int q1), .val (.int q2), .val (.int q3), .val (.int q4), .val (.int kk), .val (.int x0), .val (.int x1), .val (.int x2), .val (.int dd), .val (.int ((x2 + (1 : Int32)) + dd)), .val (.ref a), .val (.int (1 : Int32))] [(.int (2 : Int32)), (.int x0), (.int ((x0 + (1 : Int32)) + (1 : Int32)))])) _
  refine XS.iadd Xc.here hx rfl (hb hby at_481) rfl ?_
  show Steps p.tables e below (Tc.setTop (mkF m 482 #[.val (.int q0), .val (.int q1), .val (.int q2), .val (.int q3), .val (.int q4), .val (.int kk), .val (.int x0), .val (.int x1), .val (.int x2), .val (.int dd), .val (.int ((x2 + (1 : Int32)) + dd)), .val (.ref a), .val (.int (1 : Int32))] [(.int (x0 + (2 : Int32))), (.int ((x0 + (1 : Int32)) + (1 : Int32)))])) _
  refine XS.icmpNo Xc.here hx rfl (hb hby at_482) rfl (teq (own_a2 x0 : ((x0 + (1 : Int32)) + (1 : Int32)) = (x0 + (2 : Int32)))).2 ?_
  show Steps p.tables e below (Tc.setTop (mkF m 485 #[.val (.int q0), .val (.int q1), .val (.int q2), .val (.int q3), .val (.int q4), .val (.int kk), .val (.int x0), .val (.int x1), .val (.int x2), .val (.int dd), .val (.int ((x2 + (1 : Int32)) + dd)), .val (.ref a), .val (.int (1 : Int32))] [])) _
  refine XS.aload Xc.here hx rfl (hb hby at_485) rfl rfl ?_
  show Steps p.tables e below (Tc.setTop (mkF m 487 #[.val (.int q0), .val (.int q1), .val (.int q2), .val (.int q3), .val (.int q4), .val (.int kk), .val (.int x0), .val (.int x1), .val (.int x2), .val (.int dd), .val (.int ((x2 + (1 : Int32)) + dd)), .val (.ref a), .val (.int (1 : Int32))] [(.ref a)])) _
  refine XS.iconst Xc.here hx rfl (hb hby at_487) ?_
  show Steps p.tables e below (Tc.setTop (mkF m 488 #[.val (.int q0), .val (.int q1), .val (.int q2), .val (.int q3), .val (.int q4), .val (.int kk), .val (.int x0), .val (.int x1), .val (.int x2), .val (.int dd), .val (.int ((x2 + (1 : Int32)) + dd)), .val (.ref a), .val (.int (1 : Int32))] [(.int (2 : Int32)), (.ref a)])) _
  refine own_ild Xc hx hZ rfl Vc 2 (by decide) (by decide) (by decide) rfl (g := (mkF m 488 #[.val (.int q0), .val (.int q1), .val (.int q2), .val (.int q3), .val (.int q4), .val (.int kk), .val (.int x0), .val (.int x1), .val (.int x2), .val (.int dd), .val (.int ((x2 + (1 : Int32)) + dd)), .val (.ref a), .val (.int (1 : Int32))] [(.int (2 : Int32)), (.ref a)])) rfl rfl (hb hby at_488) _ ?_
  show Steps p.tables e below (Tc.setTop (mkF m 489 #[.val (.int q0), .val (.int q1), .val (.int q2), .val (.int q3), .val (.int q4), .val (.int kk), .val (.int x0), .val (.int x1), .val (.int x2), .val (.int dd), .val (.int ((x2 + (1 : Int32)) + dd)), .val (.ref a), .val (.int (1 : Int32))] [(.int (((x0 + (1 : Int32)) + (1 : Int32)) + (1 : Int32)))])) _
  refine XS.iload Xc.here hx rfl (hb hby at_489) rfl ?_
  show Steps p.tables e below (Tc.setTop (mkF m 491 #[.val (.int q0), .val (.int q1), .val (.int q2), .val (.int q3), .val (.int q4), .val (.int kk), .val (.int x0), .val (.int x1), .val (.int x2), .val (.int dd), .val (.int ((x2 + (1 : Int32)) + dd)), .val (.ref a), .val (.int (1 : Int32))] [(.int x0), (.int (((x0 + (1 : Int32)) + (1 : Int32)) + (1 : Int32)))])) _
  refine XS.iconst Xc.here hx rfl (hb hby at_491) ?_
  show Steps p.tables e below (Tc.setTop (mkF m 492 #[.val (.int q0), .val (.int q1), .val (.int q2), .val (.int q3), .val (.int q4), .val (.int kk), .val (.int x0), .val (.int x1), .val (.int x2), .val (.int dd), .val (.int ((x2 + (1 : Int32)) + dd)), .val (.ref a), .val (.int (1 : Int32))] [(.int (3 : Int32)), (.int x0), (.int (((x0 + (1 : Int32)) + (1 : Int32)) + (1 : Int32)))])) _
  refine XS.iadd Xc.here hx rfl (hb hby at_492) rfl ?_
  show Steps p.tables e below (Tc.setTop (mkF m 493 #[.val (.int q0), .val (.int q1), .val (.int q2), .val (.int q3), .val (.int q4), .val (.int kk), .val (.int x0), .val (.int x1), .val (.int x2), .val (.int dd), .val (.int ((x2 + (1 : Int32)) + dd)), .val (.ref a), .val (.int (1 : Int32))] [(.int (x0 + (3 : Int32))), (.int (((x0 + (1 : Int32)) + (1 : Int32)) + (1 : Int32)))])) _
  refine XS.icmpNo Xc.here hx rfl (hb hby at_493) rfl (teq (own_a3 x0 : (((x0 + (1 : Int32)) + (1 : Int32)) + (1 : Int32)) = (x0 + (3 : Int32)))).2 ?_
  show Steps p.tables e below (Tc.setTop (mkF m 496 #[.val (.int q0), .val (.int q1), .val (.int q2), .val (.int q3), .val (.int q4), .val (.int kk), .val (.int x0), .val (.int x1), .val (.int x2), .val (.int dd), .val (.int ((x2 + (1 : Int32)) + dd)), .val (.ref a), .val (.int (1 : Int32))] [])) _
  refine XS.iconst Xc.here hx rfl (hb hby at_496) ?_
  show Steps p.tables e below (Tc.setTop (mkF m 497 #[.val (.int q0), .val (.int q1), .val (.int q2), .val (.int q3), .val (.int q4), .val (.int kk), .val (.int x0), .val (.int x1), .val (.int x2), .val (.int dd), .val (.int ((x2 + (1 : Int32)) + dd)), .val (.ref a), .val (.int (1 : Int32))] [(.int (1 : Int32))])) _
  refine XS.goto Xc.here hx rfl (pc0 := 497) (pc' := 501) rfl (hb hby at_497) (by decide) (by decide) ?_
  exact kt
set_option maxRecDepth 65536 in
set_option maxHeartbeats 4000000 in
theorem own_law_3_3 {p : Program} {l : Launch} {e : Env} {s : State} {m : MethodId} {args : Array Value} {below : List Frame} {meth : Method} {c : Code} {T : State} {locs : List Loc} {Z : State} {a0 : Array Value} (q0 q1 q2 q3 q4 kk x0 x1 x2 dd : Int32) (hw : ∀ d ∈ tables_1, d.before a0 Z = true) (X0 : Stand p l e room_1 s m args below meth c T locs 0 0) (hx : p.tables.exec = Jvm.exec) (hZ : Z.Warmed39 s.vm) (hby : c.code = code) (hml : c.maxLocals = 13) (hown : s.vm.findClass "com/example/ashlar/ashlar/storage/SubsetsNextPinLaw" = some m.cls) {h0 : Heap} (e0 : T.heap = h0) {n0 : Nat} (Z0 : n0 ≤ h0.size) (N0 : Fr n0 locs) (hc2 : ¬ (x2 < (((x2 + (1 : Int32)) + dd) - (1 : Int32)))) (hc1 : ¬ (x1 < (((x2 + (1 : Int32)) + dd) - (2 : Int32)))) (hc0 : ¬ (x0 < (((x2 + (1 : Int32)) + dd) - (3 : Int32)))) :
    ∃ (T' : State) (l' : List Loc) (pcr : Nat) (Lr : Array Slot) (sl : Nat), sl ≤ 128 ∧ Stand p l e room_1 s m args below meth c T' l' 1 sl ∧ Fr n0 l' ∧ decode c.code pcr = .ok (.ireturn, 1) ∧ ∀ t, Steps p.tables e below (T'.setTop (mkF m pcr Lr [(.int (1 : Int32))])) t → Steps p.tables e below (T.setTop (mkF m 311 #[.val (.int q0), .val (.int q1), .val (.int q2), .val (.int q3), .val (.int q4), .val (.int kk), .val (.int x0), .val (.int x1), .val (.int x2), .val (.int dd), .unset, .unset, .unset] [])) t := by
  obtain ⟨Ta, ha, ka, Xa, ea, Ea, Aa, sta⟩ := newP X0 hx hZ (hw _ (List.mem_of_getElem? (i := 5) rfl)) e0 (g := (mkF m 321 #[.val (.int q0), .val (.int q1), .val (.int q2), .val (.int q3), .val (.int q4), .val (.int kk), .val (.int x0), .val (.int x1), .val (.int x2), .val (.int dd), .val (.int ((x2 + (1 : Int32)) + dd)), .unset, .unset] [(.int (3 : Int32))])) rfl (hb hby at_321) rfl (by decide) (cap := 3) (by decide) (by decide) (by decide) (by decide)
  obtain ⟨a, ga⟩ : ∃ z, z = h0.size := ⟨_, rfl⟩
  rw [← ga] at Aa sta
  have Va : Arv Z ha a ka .int (3 : Int32) [(.int (0 : Int32)), (.int (0 : Int32)), (.int (0 : Int32))] (.int (0 : Int32)) := (Arv.new Aa (by decide)).pad (pad_rep [] (.int (0 : Int32)) 3)
  have g_a : n0 ≤ a := Nat.le_trans Z0 (Nat.le_of_eq ga.symm)
  obtain ⟨Ts0, hs0, Xs0, es0, Ws0, Vs0', sts0⟩ := own_ist Xa hx hZ ea Va 0 (by decide) (by decide) (by decide) (Nat.le_of_ble_eq_true rfl) (g := (mkF m 327 #[.val (.int q0), .val (.int q1), .val (.int q2), .val (.int q3), .val (.int q4), .val (.int kk), .val (.int x0), .val (.int x1), .val (.int x2), .val (.int dd), .val (.int ((x2 + (1 : Int32)) + dd)), .unset, .unset] [(.int x0), (.int (0 : Int32)), (.ref a), (.ref a)])) rfl rfl (hb hby at_327)
  have Vs0 : Arv Z hs0 a ka .int (3 : Int32) [(.int x0), (.int (0 : Int32)), (.int (0 : Int32))] (.int 0) := Vs0'
  have Ns0 := Fr.snoc Xs0 N0 g_a
  obtain ⟨Ts1, hs1, Xs1, es1, Ws1, Vs1', sts1⟩ := own_ist Xs0 hx hZ es0 Vs0 1 (by decide) (by decide) (by decide) (Nat.le_of_ble_eq_true rfl) (g := (mkF m 332 #[.val (.int q0), .val (.int q1), .val (.int q2), .val (.int q3), .val (.int q4), .val (.int kk), .val (.int x0), .val (.int x1), .val (.int x2), .val (.int dd), .val (.int ((x2 + (1 : Int32)) + dd)), .unset, .unset] [(.int x1), (.int (1 : Int32)), (.ref a), (.ref a)])) rfl rfl (hb hby at_332)
  have Vs1 : Arv Z hs1 a ka .int (3 : Int32) [(.int x0), (.int x1), (.int (0 : Int32))] (.int 0) := Vs1'
  have Ns1 := Fr.snoc Xs1 Ns0 g_a
  obtain ⟨Ts2, hs2, Xs2, es2, Ws2, Vs2', sts2⟩ := own_ist Xs1 hx hZ es1 Vs1 2 (by decide) (by decide) (by decide) (Nat.le_of_ble_eq_true rfl) (g := (mkF m 337 #[.val (.int q0), .val (.int q1), .val (.int q2), .val (.int q3), .val (.int q4), .val (.int kk), .val (.int x0), .val (.int x1), .val (.int x2), .val (.int dd), .val (.int ((x2 + (1 : Int32)) + dd)), .unset, .unset] [(.int x2), (.int (2 : Int32)), (.ref a), (.ref a)])) rfl rfl (hb hby at_337)
  have Vs2 : Arv Z hs2 a ka .int (3 : Int32) [(.int x0), (.int x1), (.int x2)] (.int 0) := Vs2'
  have Ns2 := Fr.snoc Xs2 Ns1 g_a
  obtain ⟨_, _, ⟨Tc, Lc, kc, nc⟩, -, Xc, ⟨Lcc, hQc, lc, yc, zc⟩, stc⟩ := Jvm.LawKit.callS Xs2 hx (y := (⟨"com/example/ashlar/ashlar/storage/Subsets", "next", "([II)Z"⟩ : MethodName)) hown (mvT hZ (hw _ (List.mem_of_getElem? (i := 6) rfl))) (mvT hZ (hw _ (List.mem_of_getElem? (i := 7) rfl))) (mvT hZ (hw _ (List.mem_of_getElem? (i := 8) rfl))) (mvT hZ (hw _ (List.mem_of_getElem? (i := 9) rfl))) (by decide) (backOf (W := 0) (rm2_3_3 l Z a0 hw [] a ((x2 + (1 : Int32)) + dd) ka x0 x1 x2 hs2 n0 g_a Vs2 (by rw [own_s32]; exact hc2) (by rw [own_s31]; exact hc1) (by rw [own_s30]; exact hc0)) hZ (hw _ (List.mem_of_getElem? (i := 9) rfl)) (hw _ (List.mem_of_getElem? (i := 8) rfl)) (by decide) (by decide)) (g := (mkF m 344 #[.val (.int q0), .val (.int q1), .val (.int q2), .val (.int q3), .val (.int q4), .val (.int kk), .val (.int x0), .val (.int x1), .val (.int x2), .val (.int dd), .val (.int ((x2 + (1 : Int32)) + dd)), .val (.ref a), .unset] [(.int ((x2 + (1 : Int32)) + dd)), (.ref a)])) rfl (by rw [hml]; rfl) (argsL := [(.ref a), (.int ((x2 + (1 : Int32)) + dd))]) (rest := []) (lenOf pd_0_n rfl) rfl (by show 2 * 0 + _ ≤ _; exact Nat.le_of_eq rfl) (hb hby at_344) (fun _ _ => ⟨rfl, es2, (by decide : 1 + 0 ≤ _), (by decide : 3 + 0 ≤ _)⟩)
  dsimp only [Pt.U, Pt.locs, Pt.cells, Pt.slots] at Xc lc yc zc stc hQc
  subst lc yc zc
  obtain ⟨rfl, Ncq, Vc⟩ := hQc
  have Nc := Fr.app Ns2 Ncq
  refine ⟨Tc, _, 539, #[.val (.int q0), .val (.int q1), .val (.int q2), .val (.int q3), .val (.int q4), .val (.int kk), .val (.int x0), .val (.int x1), .val (.int x2), .val (.int dd), .val (.int ((x2 + (1 : Int32)) + dd)), .val (.ref a), .val (.int (0 : Int32))], 3, by decide, Xc, Nc, hb hby at_539, fun t kt => ?_⟩
  show Steps p.tables e below (T.setTop (mkF m 311 #[.val (.int q0), .val (.int q1), .val (.int q2), .val (.int q3), .val (.int q4), .val (.int kk), .val (.int x0), .val (.int x1), .val (.int x2), .val (.int dd), .unset, .unset, .unset] [])) _
  refine XS.iload X0.here hx rfl (hb hby at_311) rfl ?_
  show Steps p.tables e below (T.setTop (mkF m 313 #[.val (.int q0), .val (.int q1), .val (.int q2), .val (.int q3), .val (.int q4), .val (.int kk), .val (.int x0), .val (.int x1), .val (.int x2), .val (.int dd), .unset, .unset, .unset] [(.int x2)])) _
  refine XS.iconst X0.here hx rfl (hb hby at_313) ?_
  show Steps p.tables e below (T.setTop (mkF m 314 #[.val (.int q0), .val (.int q1), .val (.int q2), .val (.int q3), .val (.int q4), .val (.int kk), .val (.int x0), .val (.int x1), .val (.int x2), .val (.int dd), .unset, .unset, .unset] [(.int (1 : Int32)), (.int x2)])) _
  refine XS.iadd X0.here hx rfl (hb hby at_314) rfl ?_
  show Steps p.tables e below (T.setTop (mkF m 315 #[.val (.int q0), .val (.int q1), .val (.int q2), .val (.int q3), .val (.int q4), .val (.int kk), .val (.int x0), .val (.int x1), .val (.int x2), .val (.int dd), .unset, .unset, .unset] [(.int (x2 + (1 : Int32)))])) _
  refine XS.iload X0.here hx rfl (hb hby at_315) rfl ?_
  show Steps p.tables e below (T.setTop (mkF m 317 #[.val (.int q0), .val (.int q1), .val (.int q2), .val (.int q3), .val (.int q4), .val (.int kk), .val (.int x0), .val (.int x1), .val (.int x2), .val (.int dd), .unset, .unset, .unset] [(.int dd), (.int (x2 + (1 : Int32)))])) _
  refine XS.iadd X0.here hx rfl (hb hby at_317) rfl ?_
  show Steps p.tables e below (T.setTop (mkF m 318 #[.val (.int q0), .val (.int q1), .val (.int q2), .val (.int q3), .val (.int q4), .val (.int kk), .val (.int x0), .val (.int x1), .val (.int x2), .val (.int dd), .unset, .unset, .unset] [(.int ((x2 + (1 : Int32)) + dd))])) _
  refine XS.istore X0.here hx rfl (hb hby at_318) rfl (l' := #[.val (.int q0), .val (.int q1), .val (.int q2), .val (.int q3), .val (.int q4), .val (.int kk), .val (.int x0), .val (.int x1), .val (.int x2), .val (.int dd), .val (.int ((x2 + (1 : Int32)) + dd)), .unset, .unset]) rfl ?_
  show Steps p.tables e below (T.setTop (mkF m 320 #[.val (.int q0), .val (.int q1), .val (.int q2), .val (.int q3), .val (.int q4), .val (.int kk), .val (.int x0), .val (.int x1), .val (.int x2), .val (.int dd), .val (.int ((x2 + (1 : Int32)) + dd)), .unset, .unset] [])) _
  refine XS.iconst X0.here hx rfl (hb hby at_320) ?_
  show Steps p.tables e below (T.setTop (mkF m 321 #[.val (.int q0), .val (.int q1), .val (.int q2), .val (.int q3), .val (.int q4), .val (.int kk), .val (.int x0), .val (.int x1), .val (.int x2), .val (.int dd), .val (.int ((x2 + (1 : Int32)) + dd)), .unset, .unset] [(.int (3 : Int32))])) _
  refine sta _ ?_
  show Steps p.tables e below (Ta.setTop (mkF m 323 #[.val (.int q0), .val (.int q1), .val (.int q2), .val (.int q3), .val (.int q4), .val (.int kk), .val (.int x0), .val (.int x1), .val (.int x2), .val (.int dd), .val (.int ((x2 + (1 : Int32)) + dd)), .unset, .unset] [(.ref a)])) _
  refine XS.dup Xa.here hx rfl (hb hby at_323) rfl rfl ?_
  show Steps p.tables e below (Ta.setTop (mkF m 324 #[.val (.int q0), .val (.int q1), .val (.int q2), .val (.int q3), .val (.int q4), .val (.int kk), .val (.int x0), .val (.int x1), .val (.int x2), .val (.int dd), .val (.int ((x2 + (1 : Int32)) + dd)), .unset, .unset] [(.ref a), (.ref a)])) _
  refine XS.iconst Xa.here hx rfl (hb hby at_324) ?_
  show Steps p.tables e below (Ta.setTop (mkF m 325 #[.val (.int q0), .val (.int q1), .val (.int q2), .val (.int q3), .val (.int q4), .val (.int kk), .val (.int x0), .val (.int x1), .val (.int x2), .val (.int dd), .val (.int ((x2 + (1 : Int32)) + dd)), .unset, .unset] [(.int (0 : Int32)), (.ref a), (.ref a)])) _
  refine XS.iload Xa.here hx rfl (hb hby at_325) rfl ?_
  show Steps p.tables e below (Ta.setTop (mkF m 327 #[.val (.int q0), .val (.int q1), .val (.int q2), .val (.int q3), .val (.int q4), .val (.int kk), .val (.int x0), .val (.int x1), .val (.int x2), .val (.int dd), .val (.int ((x2 + (1 : Int32)) + dd)), .unset, .unset] [(.int x0), (.int (0 : Int32)), (.ref a), (.ref a)])) _
  refine sts0 _ ?_
  show Steps p.tables e below (Ts0.setTop (mkF m 328 #[.val (.int q0), .val (.int q1), .val (.int q2), .val (.int q3), .val (.int q4), .val (.int kk), .val (.int x0), .val (.int x1), .val (.int x2), .val (.int dd), .val (.int ((x2 + (1 : Int32)) + dd)), .unset, .unset] [(.ref a)])) _
  refine XS.dup Xs0.here hx rfl (hb hby at_328) rfl rfl ?_
  show Steps p.tables e below (Ts0.setTop (mkF m 329 #[.val (.int q0), .val (.int q1), .val (.int q2), .val (.int q3), .val (.int q4), .val (.int kk), .val (.int x0), .val (.int x1), .val (.int x2), .val (.int dd), .val (.int ((x2 + (1 : Int32)) + dd)), .unset, .unset] [(.ref a), (.ref a)])) _
  refine XS.iconst Xs0.here hx rfl (hb hby at_329) ?_
  show Steps p.tables e below (Ts0.setTop (mkF m 330 #[.val (.int q0), .val (.int q1), .val (.int q2), .val (.int q3), .val (.int q4), .val (.int kk), .val (.int x0), .val (.int x1), .val (.int x2), .val (.int dd), .val (.int ((x2 + (1 : Int32)) + dd)), .unset, .unset] [(.int (1 : Int32)), (.ref a), (.ref a)])) _
  refine XS.iload Xs0.here hx rfl (hb hby at_330) rfl ?_
  show Steps p.tables e below (Ts0.setTop (mkF m 332 #[.val (.int q0), .val (.int q1), .val (.int q2), .val (.int q3), .val (.int q4), .val (.int kk), .val (.int x0), .val (.int x1), .val (.int x2), .val (.int dd), .val (.int ((x2 + (1 : Int32)) + dd)), .unset, .unset] [(.int x1), (.int (1 : Int32)), (.ref a), (.ref a)])) _
  refine sts1 _ ?_
  show Steps p.tables e below (Ts1.setTop (mkF m 333 #[.val (.int q0), .val (.int q1), .val (.int q2), .val (.int q3), .val (.int q4), .val (.int kk), .val (.int x0), .val (.int x1), .val (.int x2), .val (.int dd), .val (.int ((x2 + (1 : Int32)) + dd)), .unset, .unset] [(.ref a)])) _
  refine XS.dup Xs1.here hx rfl (hb hby at_333) rfl rfl ?_
  show Steps p.tables e below (Ts1.setTop (mkF m 334 #[.val (.int q0), .val (.int q1), .val (.int q2), .val (.int q3), .val (.int q4), .val (.int kk), .val (.int x0), .val (.int x1), .val (.int x2), .val (.int dd), .val (.int ((x2 + (1 : Int32)) + dd)), .unset, .unset] [(.ref a), (.ref a)])) _
  refine XS.iconst Xs1.here hx rfl (hb hby at_334) ?_
  show Steps p.tables e below (Ts1.setTop (mkF m 335 #[.val (.int q0), .val (.int q1), .val (.int q2), .val (.int q3), .val (.int q4), .val (.int kk), .val (.int x0), .val (.int x1), .val (.int x2), .val (.int dd), .val (.int ((x2 + (1 : Int32)) + dd)), .unset, .unset] [(.int (2 : Int32)), (.ref a), (.ref a)])) _
  refine XS.iload Xs1.here hx rfl (hb hby at_335) rfl ?_
  show Steps p.tables e below (Ts1.setTop (mkF m 337 #[.val (.int q0), .val (.int q1), .val (.int q2), .val (.int q3), .val (.int q4), .val (.int kk), .val (.int x0), .val (.int x1), .val (.int x2), .val (.int dd), .val (.int ((x2 + (1 : Int32)) + dd)), .unset, .unset] [(.int x2), (.int (2 : Int32)), (.ref a), (.ref a)])) _
  refine sts2 _ ?_
  show Steps p.tables e below (Ts2.setTop (mkF m 338 #[.val (.int q0), .val (.int q1), .val (.int q2), .val (.int q3), .val (.int q4), .val (.int kk), .val (.int x0), .val (.int x1), .val (.int x2), .val (.int dd), .val (.int ((x2 + (1 : Int32)) + dd)), .unset, .unset] [(.ref a)])) _
  refine XS.astore Xs2.here hx rfl (hb hby at_338) rfl rfl (l' := #[.val (.int q0), .val (.int q1), .val (.int q2), .val (.int q3), .val (.int q4), .val (.int kk), .val (.int x0), .val (.int x1), .val (.int x2), .val (.int dd), .val (.int ((x2 + (1 : Int32)) + dd)), .val (.ref a), .unset]) rfl ?_
  show Steps p.tables e below (Ts2.setTop (mkF m 340 #[.val (.int q0), .val (.int q1), .val (.int q2), .val (.int q3), .val (.int q4), .val (.int kk), .val (.int x0), .val (.int x1), .val (.int x2), .val (.int dd), .val (.int ((x2 + (1 : Int32)) + dd)), .val (.ref a), .unset] [])) _
  refine XS.aload Xs2.here hx rfl (hb hby at_340) rfl rfl ?_
  show Steps p.tables e below (Ts2.setTop (mkF m 342 #[.val (.int q0), .val (.int q1), .val (.int q2), .val (.int q3), .val (.int q4), .val (.int kk), .val (.int x0), .val (.int x1), .val (.int x2), .val (.int dd), .val (.int ((x2 + (1 : Int32)) + dd)), .val (.ref a), .unset] [(.ref a)])) _
  refine XS.iload Xs2.here hx rfl (hb hby at_342) rfl ?_
  show Steps p.tables e below (Ts2.setTop (mkF m 344 #[.val (.int q0), .val (.int q1), .val (.int q2), .val (.int q3), .val (.int q4), .val (.int kk), .val (.int x0), .val (.int x1), .val (.int x2), .val (.int dd), .val (.int ((x2 + (1 : Int32)) + dd)), .val (.ref a), .unset] [(.int ((x2 + (1 : Int32)) + dd)), (.ref a)])) _
  refine stc _ ?_
  show Steps p.tables e below (Tc.setTop (mkF m 347 #[.val (.int q0), .val (.int q1), .val (.int q2), .val (.int q3), .val (.int q4), .val (.int kk), .val (.int x0), .val (.int x1), .val (.int x2), .val (.int dd), .val (.int ((x2 + (1 : Int32)) + dd)), .val (.ref a), .unset] [(.int (0 : Int32))])) _
  refine XS.istore Xc.here hx rfl (hb hby at_347) rfl (l' := #[.val (.int q0), .val (.int q1), .val (.int q2), .val (.int q3), .val (.int q4), .val (.int kk), .val (.int x0), .val (.int x1), .val (.int x2), .val (.int dd), .val (.int ((x2 + (1 : Int32)) + dd)), .val (.ref a), .val (.int (0 : Int32))]) rfl ?_
  show Steps p.tables e below (Tc.setTop (mkF m 349 #[.val (.int q0), .val (.int q1), .val (.int q2), .val (.int q3), .val (.int q4), .val (.int kk), .val (.int x0), .val (.int x1), .val (.int x2), .val (.int dd), .val (.int ((x2 + (1 : Int32)) + dd)), .val (.ref a), .val (.int (0 : Int32))] [])) _
  refine XS.iload Xc.here hx rfl (hb hby at_349) rfl ?_
  show Steps p.tables e below (Tc.setTop (mkF m 351 #[.val (.int q0), .val (.int q1), .val (.int q2), .val (.int q3), .val (.int q4), .val (.int kk), .val (.int x0), .val (.int x1), .val (.int x2), .val (.int dd), .val (.int ((x2 + (1 : Int32)) + dd)), .val (.ref a), .val (.int (0 : Int32))] [(.int x2)])) _
  refine XS.iload Xc.here hx rfl (hb hby at_351) rfl ?_
  show Steps p.tables e below (Tc.setTop (mkF m 353 #[.val (.int q0), .val (.int q1), .val (.int q2), .val (.int q3), .val (.int q4), .val (.int kk), .val (.int x0), .val (.int x1), .val (.int x2), .val (.int dd), .val (.int ((x2 + (1 : Int32)) + dd)), .val (.ref a), .val (.int (0 : Int32))] [(.int ((x2 + (1 : Int32)) + dd)), (.int x2)])) _
  refine XS.iconst Xc.here hx rfl (hb hby at_353) ?_
  show Steps p.tables e below (Tc.setTop (mkF m 354 #[.val (.int q0), .val (.int q1), .val (.int q2), .val (.int q3), .val (.int q4), .val (.int kk), .val (.int x0), .val (.int x1), .val (.int x2), .val (.int dd), .val (.int ((x2 + (1 : Int32)) + dd)), .val (.ref a), .val (.int (0 : Int32))] [(.int (1 : Int32)), (.int ((x2 + (1 : Int32)) + dd)), (.int x2)])) _
  refine XS.isub Xc.here hx rfl (hb hby at_354) rfl ?_
  show Steps p.tables e below (Tc.setTop (mkF m 355 #[.val (.int q0), .val (.int q1), .val (.int q2), .val (.int q3), .val (.int q4), .val (.int kk), .val (.int x0), .val (.int x1), .val (.int x2), .val (.int dd), .val (.int ((x2 + (1 : Int32)) + dd)), .val (.ref a), .val (.int (0 : Int32))] [(.int (((x2 + (1 : Int32)) + dd) - (1 : Int32))), (.int x2)])) _
  refine XS.icmpYes Xc.here hx rfl (pc0 := 355) (pc' := 398) rfl (hb hby at_355) rfl (flt (hc2 : ¬ (x2 < (((x2 + (1 : Int32)) + dd) - (1 : Int32))))).2.1 (by decide) (by decide) ?_
  show Steps p.tables e below (Tc.setTop (mkF m 398 #[.val (.int q0), .val (.int q1), .val (.int q2), .val (.int q3), .val (.int q4), .val (.int kk), .val (.int x0), .val (.int x1), .val (.int x2), .val (.int dd), .val (.int ((x2 + (1 : Int32)) + dd)), .val (.ref a), .val (.int (0 : Int32))] [])) _
  refine XS.iload Xc.here hx rfl (hb hby at_398) rfl ?_
  show Steps p.tables e below (Tc.setTop (mkF m 400 #[.val (.int q0), .val (.int q1), .val (.int q2), .val (.int q3), .val (.int q4), .val (.int kk), .val (.int x0), .val (.int x1), .val (.int x2), .val (.int dd), .val (.int ((x2 + (1 : Int32)) + dd)), .val (.ref a), .val (.int (0 : Int32))] [(.int x1)])) _
  refine XS.iload Xc.here hx rfl (hb hby at_400) rfl ?_
  show Steps p.tables e below (Tc.setTop (mkF m 402 #[.val (.int q0), .val (.int q1), .val (.int q2), .val (.int q3), .val (.int q4), .val (.int kk), .val (.int x0), .val (.int x1), .val (.int x2), .val (.int dd), .val (.int ((x2 + (1 : Int32)) + dd)), .val (.ref a), .val (.int (0 : Int32))] [(.int ((x2 + (1 : Int32)) + dd)), (.int x1)])) _
  refine XS.iconst Xc.here hx rfl (hb hby at_402) ?_
  show Steps p.tables e below (Tc.setTop (mkF m 403 #[.val (.int q0), .val (.int q1), .val (.int q2), .val (.int q3), .val (.int q4), .val (.int kk), .val (.int x0), .val (.int x1), .val (.int x2), .val (.int dd), .val (.int ((x2 + (1 : Int32)) + dd)), .val (.ref a), .val (.int (0 : Int32))] [(.int (2 : Int32)), (.int ((x2 + (1 : Int32)) + dd)), (.int x1)])) _
  refine XS.isub Xc.here hx rfl (hb hby at_403) rfl ?_
  show Steps p.tables e below (Tc.setTop (mkF m 404 #[.val (.int q0), .val (.int q1), .val (.int q2), .val (.int q3), .val (.int q4), .val (.int kk), .val (.int x0), .val (.int x1), .val (.int x2), .val (.int dd), .val (.int ((x2 + (1 : Int32)) + dd)), .val (.ref a), .val (.int (0 : Int32))] [(.int (((x2 + (1 : Int32)) + dd) - (2 : Int32))), (.int x1)])) _
  refine XS.icmpYes Xc.here hx rfl (pc0 := 404) (pc' := 449) rfl (hb hby at_404) rfl (flt (hc1 : ¬ (x1 < (((x2 + (1 : Int32)) + dd) - (2 : Int32))))).2.1 (by decide) (by decide) ?_
  show Steps p.tables e below (Tc.setTop (mkF m 449 #[.val (.int q0), .val (.int q1), .val (.int q2), .val (.int q3), .val (.int q4), .val (.int kk), .val (.int x0), .val (.int x1), .val (.int x2), .val (.int dd), .val (.int ((x2 + (1 : Int32)) + dd)), .val (.ref a), .val (.int (0 : Int32))] [])) _
  refine XS.iload Xc.here hx rfl (hb hby at_449) rfl ?_
  show Steps p.tables e below (Tc.setTop (mkF m 451 #[.val (.int q0), .val (.int q1), .val (.int q2), .val (.int q3), .val (.int q4), .val (.int kk), .val (.int x0), .val (.int x1), .val (.int x2), .val (.int dd), .val (.int ((x2 + (1 : Int32)) + dd)), .val (.ref a), .val (.int (0 : Int32))] [(.int x0)])) _
  refine XS.iload Xc.here hx rfl (hb hby at_451) rfl ?_
  show Steps p.tables e below (Tc.setTop (mkF m 453 #[.val (.int q0), .val (.int q1), .val (.int q2), .val (.int q3), .val (.int q4), .val (.int kk), .val (.int x0), .val (.int x1), .val (.int x2), .val (.int dd), .val (.int ((x2 + (1 : Int32)) + dd)), .val (.ref a), .val (.int (0 : Int32))] [(.int ((x2 + (1 : Int32)) + dd)), (.int x0)])) _
  refine XS.iconst Xc.here hx rfl (hb hby at_453) ?_
  show Steps p.tables e below (Tc.setTop (mkF m 454 #[.val (.int q0), .val (.int q1), .val (.int q2), .val (.int q3), .val (.int q4), .val (.int kk), .val (.int x0), .val (.int x1), .val (.int x2), .val (.int dd), .val (.int ((x2 + (1 : Int32)) + dd)), .val (.ref a), .val (.int (0 : Int32))] [(.int (3 : Int32)), (.int ((x2 + (1 : Int32)) + dd)), (.int x0)])) _
  refine XS.isub Xc.here hx rfl (hb hby at_454) rfl ?_
  show Steps p.tables e below (Tc.setTop (mkF m 455 #[.val (.int q0), .val (.int q1), .val (.int q2), .val (.int q3), .val (.int q4), .val (.int kk), .val (.int x0), .val (.int x1), .val (.int x2), .val (.int dd), .val (.int ((x2 + (1 : Int32)) + dd)), .val (.ref a), .val (.int (0 : Int32))] [(.int (((x2 + (1 : Int32)) + dd) - (3 : Int32))), (.int x0)])) _
  refine XS.icmpYes Xc.here hx rfl (pc0 := 455) (pc' := 502) rfl (hb hby at_455) rfl (flt (hc0 : ¬ (x0 < (((x2 + (1 : Int32)) + dd) - (3 : Int32))))).2.1 (by decide) (by decide) ?_
  show Steps p.tables e below (Tc.setTop (mkF m 502 #[.val (.int q0), .val (.int q1), .val (.int q2), .val (.int q3), .val (.int q4), .val (.int kk), .val (.int x0), .val (.int x1), .val (.int x2), .val (.int dd), .val (.int ((x2 + (1 : Int32)) + dd)), .val (.ref a), .val (.int (0 : Int32))] [])) _
  refine XS.iload Xc.here hx rfl (hb hby at_502) rfl ?_
  show Steps p.tables e below (Tc.setTop (mkF m 504 #[.val (.int q0), .val (.int q1), .val (.int q2), .val (.int q3), .val (.int q4), .val (.int kk), .val (.int x0), .val (.int x1), .val (.int x2), .val (.int dd), .val (.int ((x2 + (1 : Int32)) + dd)), .val (.ref a), .val (.int (0 : Int32))] [(.int (0 : Int32))])) _
  refine XS.ifNo Xc.here hx rfl (hb hby at_504) rfl ((if0 _ _).trans (teq (by decide : (0 : Int32) = (0 : Int32))).2) ?_
  show Steps p.tables e below (Tc.setTop (mkF m 507 #[.val (.int q0), .val (.int q1), .val (.int q2), .val (.int q3), .val (.int q4), .val (.int kk), .val (.int x0), .val (.int x1), .val (.int x2), .val (.int dd), .val (.int ((x2 + (1 : Int32)) + dd)), .val (.ref a), .val (.int (0 : Int32))] [])) _
  refine XS.aload Xc.here hx rfl (hb hby at_507) rfl rfl ?_
  show Steps p.tables e below (Tc.setTop (mkF m 509 #[.val (.int q0), .val (.int q1), .val (.int q2), .val (.int q3), .val (.int q4), .val (.int kk), .val (.int x0), .val (.int x1), .val (.int x2), .val (.int dd), .val (.int ((x2 + (1 : Int32)) + dd)), .val (.ref a), .val (.int (0 : Int32))] [(.ref a)])) _
  refine XS.iconst Xc.here hx rfl (hb hby at_509) ?_
  show Steps p.tables e below (Tc.setTop (mkF m 510 #[.val (.int q0), .val (.int q1), .val (.int q2), .val (.int q3), .val (.int q4), .val (.int kk), .val (.int x0), .val (.int x1), .val (.int x2), .val (.int dd), .val (.int ((x2 + (1 : Int32)) + dd)), .val (.ref a), .val (.int (0 : Int32))] [(.int (0 : Int32)), (.ref a)])) _
  refine own_ild Xc hx hZ rfl Vc 0 (by decide) (by decide) (by decide) rfl (g := (mkF m 510 #[.val (.int q0), .val (.int q1), .val (.int q2), .val (.int q3), .val (.int q4), .val (.int kk), .val (.int x0), .val (.int x1), .val (.int x2), .val (.int dd), .val (.int ((x2 + (1 : Int32)) + dd)), .val (.ref a), .val (.int (0 : Int32))] [(.int (0 : Int32)), (.ref a)])) rfl rfl (hb hby at_510) _ ?_
  show Steps p.tables e below (Tc.setTop (mkF m 511 #[.val (.int q0), .val (.int q1), .val (.int q2), .val (.int q3), .val (.int q4), .val (.int kk), .val (.int x0), .val (.int x1), .val (.int x2), .val (.int dd), .val (.int ((x2 + (1 : Int32)) + dd)), .val (.ref a), .val (.int (0 : Int32))] [(.int x0)])) _
  refine XS.iload Xc.here hx rfl (hb hby at_511) rfl ?_
  show Steps p.tables e below (Tc.setTop (mkF m 513 #[.val (.int q0), .val (.int q1), .val (.int q2), .val (.int q3), .val (.int q4), .val (.int kk), .val (.int x0), .val (.int x1), .val (.int x2), .val (.int dd), .val (.int ((x2 + (1 : Int32)) + dd)), .val (.ref a), .val (.int (0 : Int32))] [(.int x0), (.int x0)])) _
  refine XS.icmpNo Xc.here hx rfl (hb hby at_513) rfl (teq (rfl : x0 = x0)).2 ?_
  show Steps p.tables e below (Tc.setTop (mkF m 516 #[.val (.int q0), .val (.int q1), .val (.int q2), .val (.int q3), .val (.int q4), .val (.int kk), .val (.int x0), .val (.int x1), .val (.int x2), .val (.int dd), .val (.int ((x2 + (1 : Int32)) + dd)), .val (.ref a), .val (.int (0 : Int32))] [])) _
  refine XS.aload Xc.here hx rfl (hb hby at_516) rfl rfl ?_
  show Steps p.tables e below (Tc.setTop (mkF m 518 #[.val (.int q0), .val (.int q1), .val (.int q2), .val (.int q3), .val (.int q4), .val (.int kk), .val (.int x0), .val (.int x1), .val (.int x2), .val (.int dd), .val (.int ((x2 + (1 : Int32)) + dd)), .val (.ref a), .val (.int (0 : Int32))] [(.ref a)])) _
  refine XS.iconst Xc.here hx rfl (hb hby at_518) ?_
  show Steps p.tables e below (Tc.setTop (mkF m 519 #[.val (.int q0), .val (.int q1), .val (.int q2), .val (.int q3), .val (.int q4), .val (.int kk), .val (.int x0), .val (.int x1), .val (.int x2), .val (.int dd), .val (.int ((x2 + (1 : Int32)) + dd)), .val (.ref a), .val (.int (0 : Int32))] [(.int (1 : Int32)), (.ref a)])) _
  refine own_ild Xc hx hZ rfl Vc 1 (by decide) (by decide) (by decide) rfl (g := (mkF m 519 #[.val (.int q0), .val (.int q1), .val (.int q2), .val (.int q3), .val (.int q4), .val (.int kk), .val (.int x0), .val (.int x1), .val (.int x2), .val (.int dd), .val (.int ((x2 + (1 : Int32)) + dd)), .val (.ref a), .val (.int (0 : Int32))] [(.int (1 : Int32)), (.ref a)])) rfl rfl (hb hby at_519) _ ?_
  show Steps p.tables e below (Tc.setTop (mkF m 520 #[.val (.int q0), .val (.int q1), .val (.int q2), .val (.int q3), .val (.int q4), .val (.int kk), .val (.int x0), .val (.int x1), .val (.int x2), .val (.int dd), .val (.int ((x2 + (1 : Int32)) + dd)), .val (.ref a), .val (.int (0 : Int32))] [(.int x1)])) _
  refine XS.iload Xc.here hx rfl (hb hby at_520) rfl ?_
  show Steps p.tables e below (Tc.setTop (mkF m 522 #[.val (.int q0), .val (.int q1), .val (.int q2), .val (.int q3), .val (.int q4), .val (.int kk), .val (.int x0), .val (.int x1), .val (.int x2), .val (.int dd), .val (.int ((x2 + (1 : Int32)) + dd)), .val (.ref a), .val (.int (0 : Int32))] [(.int x1), (.int x1)])) _
  refine XS.icmpNo Xc.here hx rfl (hb hby at_522) rfl (teq (rfl : x1 = x1)).2 ?_
  show Steps p.tables e below (Tc.setTop (mkF m 525 #[.val (.int q0), .val (.int q1), .val (.int q2), .val (.int q3), .val (.int q4), .val (.int kk), .val (.int x0), .val (.int x1), .val (.int x2), .val (.int dd), .val (.int ((x2 + (1 : Int32)) + dd)), .val (.ref a), .val (.int (0 : Int32))] [])) _
  refine XS.aload Xc.here hx rfl (hb hby at_525) rfl rfl ?_
  show Steps p.tables e below (Tc.setTop (mkF m 527 #[.val (.int q0), .val (.int q1), .val (.int q2), .val (.int q3), .val (.int q4), .val (.int kk), .val (.int x0), .val (.int x1), .val (.int x2), .val (.int dd), .val (.int ((x2 + (1 : Int32)) + dd)), .val (.ref a), .val (.int (0 : Int32))] [(.ref a)])) _
  refine XS.iconst Xc.here hx rfl (hb hby at_527) ?_
  show Steps p.tables e below (Tc.setTop (mkF m 528 #[.val (.int q0), .val (.int q1), .val (.int q2), .val (.int q3), .val (.int q4), .val (.int kk), .val (.int x0), .val (.int x1), .val (.int x2), .val (.int dd), .val (.int ((x2 + (1 : Int32)) + dd)), .val (.ref a), .val (.int (0 : Int32))] [(.int (2 : Int32)), (.ref a)])) _
  refine own_ild Xc hx hZ rfl Vc 2 (by decide) (by decide) (by decide) rfl (g := (mkF m 528 #[.val (.int q0), .val (.int q1), .val (.int q2), .val (.int q3), .val (.int q4), .val (.int kk), .val (.int x0), .val (.int x1), .val (.int x2), .val (.int dd), .val (.int ((x2 + (1 : Int32)) + dd)), .val (.ref a), .val (.int (0 : Int32))] [(.int (2 : Int32)), (.ref a)])) rfl rfl (hb hby at_528) _ ?_
  show Steps p.tables e below (Tc.setTop (mkF m 529 #[.val (.int q0), .val (.int q1), .val (.int q2), .val (.int q3), .val (.int q4), .val (.int kk), .val (.int x0), .val (.int x1), .val (.int x2), .val (.int dd), .val (.int ((x2 + (1 : Int32)) + dd)), .val (.ref a), .val (.int (0 : Int32))] [(.int x2)])) _
  refine XS.iload Xc.here hx rfl (hb hby at_529) rfl ?_
  show Steps p.tables e below (Tc.setTop (mkF m 531 #[.val (.int q0), .val (.int q1), .val (.int q2), .val (.int q3), .val (.int q4), .val (.int kk), .val (.int x0), .val (.int x1), .val (.int x2), .val (.int dd), .val (.int ((x2 + (1 : Int32)) + dd)), .val (.ref a), .val (.int (0 : Int32))] [(.int x2), (.int x2)])) _
  refine XS.icmpNo Xc.here hx rfl (hb hby at_531) rfl (teq (rfl : x2 = x2)).2 ?_
  show Steps p.tables e below (Tc.setTop (mkF m 534 #[.val (.int q0), .val (.int q1), .val (.int q2), .val (.int q3), .val (.int q4), .val (.int kk), .val (.int x0), .val (.int x1), .val (.int x2), .val (.int dd), .val (.int ((x2 + (1 : Int32)) + dd)), .val (.ref a), .val (.int (0 : Int32))] [])) _
  refine XS.iconst Xc.here hx rfl (hb hby at_534) ?_
  show Steps p.tables e below (Tc.setTop (mkF m 535 #[.val (.int q0), .val (.int q1), .val (.int q2), .val (.int q3), .val (.int q4), .val (.int kk), .val (.int x0), .val (.int x1), .val (.int x2), .val (.int dd), .val (.int ((x2 + (1 : Int32)) + dd)), .val (.ref a), .val (.int (0 : Int32))] [(.int (1 : Int32))])) _
  refine XS.goto Xc.here hx rfl (pc0 := 535) (pc' := 539) rfl (hb hby at_535) (by decide) (by decide) ?_
  exact kt
theorem ef_0 (m : MethodId) (x0 : Int32) (x1 : Int32) (x2 : Int32) (x3 : Int32) (x4 : Int32) : entryFrame m #[(.int x0), (.int x1), (.int x2), (.int x3), (.int x4)] maxLocals = mkF m 0 #[.val (.int x0), .val (.int x1), .val (.int x2), .val (.int x3), .val (.int x4), .unset, .unset, .unset, .unset, .unset, .unset, .unset, .unset] [] := by first | (simp [entryFrame, mkF, argsToLocals, Value.category, maxLocals]; done) | rfl
def Q0 (Z : State) (p1 : Int32) (p2 : Int32) (p3 : Int32) (p4 : Int32) (p5 : Int32) (h0 : Heap) (n0 : Nat) (v : Option Value) (h : Heap) (L : List Loc) : Prop := v = some (.int (1 : Int32)) ∧ Fr n0 L
set_option maxRecDepth 65536 in
set_option maxHeartbeats 40000000 in
theorem rm0 (l : Launch) (Z : State) (a0 : Array Value) (hw : ∀ d ∈ tables_1, d.before a0 Z = true) (ws : List Jvm.Cond) (p1 : Int32) (p2 : Int32) (p3 : Int32) (p4 : Int32) (p5 : Int32) (h0 : Heap) (n0 : Nat) (Z0 : n0 ≤ h0.size) :
    MetFree l x (head1 (Jvm.Cond.code x code maxLocals ret :: ws) room_1) (fun a U => a = #[(.int p1), (.int p2), (.int p3), (.int p4), (.int p5)] ∧ Z.Warmed39 U.vm ∧ U.heap = h0) (fun _ _ _ _ _ => True) (fun _ U o U' => ∃ v L, o = .returned v ∧ Q0 Z p1 p2 p3 p4 p5 h0 n0 v U'.heap L ∧ FrameEnd U o U' L room_1.cells room_1.slots) := by
  refine MetFree.of_bodySF (plainFor_of_name pn_0) hisR ?_
  intro p e s m args below meth c s₁ Bd hml0 hP hK
  obtain ⟨rfl, hZ, hh⟩ := hP
  have hx := Bd.exec
  have hby := Bd.bytes
  have hml : c.maxLocals = 13 := hml0
  have hown : s.vm.findClass "com/example/ashlar/ashlar/storage/SubsetsNextPinLaw" = some m.cls := findClass_of_methodNamed Bd.named
  have hnm := (name_of_methodNamed Bd.named Bd.method).1
  have X0 : Stand p l e room_1 s m #[(.int p1), (.int p2), (.int p3), (.int p4), (.int p5)] below meth c s₁ [] 0 0 := Stand.of_body Bd
  have e0 : s₁.heap = h0 := by rw [← hh, Bd.state]; rfl
  have N0 := Fr.nil n0
  have pre0 : ∀ t, Steps p.tables e below (s₁.setTop (mkF m 0 #[.val (.int p1), .val (.int p2), .val (.int p3), .val (.int p4), .val (.int p5), .unset, .unset, .unset, .unset, .unset, .unset, .unset, .unset] [])) t → Steps p.tables e below (s₁.setTop (entryFrame m #[(.int p1), (.int p2), (.int p3), (.int p4), (.int p5)] maxLocals)) t := fun t k => castTop (ef_0 m p1 p2 p3 p4 p5) k
  obtain ⟨xa, hxa⟩ : ∃ z, z = own_gap p2 := ⟨_, rfl⟩
  obtain ⟨xb, hxb⟩ : ∃ z, z = ((xa + (1 : Int32)) + (own_gap p3)) := ⟨_, rfl⟩
  obtain ⟨xc, hxc⟩ : ∃ z, z = ((xb + (1 : Int32)) + (own_gap p4)) := ⟨_, rfl⟩
  obtain ⟨xd, hxd⟩ : ∃ z, z = own_gap p5 := ⟨_, rfl⟩
  obtain ⟨_, _, ⟨Tg1, Lg1, kg1, ng1⟩, -, Xg1, ⟨Lcg1, hQg1, lg1, yg1, zg1⟩, stg1⟩ := Jvm.LawKit.callS X0 hx (y := (⟨"com/example/ashlar/ashlar/storage/SubsetsNextPinLaw", "gap", "(I)I"⟩ : MethodName)) hown (mvT hZ (hw _ (List.mem_of_getElem? (i := 0) rfl))) (mvT hZ (hw _ (List.mem_of_getElem? (i := 1) rfl))) (mvT hZ (hw _ (List.mem_of_getElem? (i := 2) rfl))) (mvT hZ (hw _ (List.mem_of_getElem? (i := 3) rfl))) (by decide) (backOf (W := 0) (rm1 l Z a0 hw [] p2 h0 n0 Z0) hZ (hw _ (List.mem_of_getElem? (i := 3) rfl)) (hw _ (List.mem_of_getElem? (i := 2) rfl)) (by decide) (by decide)) (g := (mkF m 6 #[.val (.int p1), .val (.int p2), .val (.int p3), .val (.int p4), .val (.int p5), .val (.int (p1 &&& (3 : Int32))), .unset, .unset, .unset, .unset, .unset, .unset, .unset] [(.int p2)])) rfl (by rw [hml]; rfl) (argsL := [(.int p2)]) (rest := []) (lenOf pd_0_g rfl) rfl (by show 2 * 0 + _ ≤ _; exact Nat.le_of_eq rfl) (hb hby at_6) (fun _ _ => ⟨rfl, e0, (by decide : 0 + 0 ≤ _), (by decide : 0 + 0 ≤ _)⟩)
  dsimp only [Pt.U, Pt.locs, Pt.cells, Pt.slots] at Xg1 lg1 yg1 zg1 stg1 hQg1
  subst lg1 yg1 zg1
  obtain ⟨rfl, Ng1q, qg1h⟩ := hQg1
  have Ng1 := Fr.app N0 Ng1q
  obtain ⟨_, _, ⟨Tg2, Lg2, kg2, ng2⟩, -, Xg2, ⟨Lcg2, hQg2, lg2, yg2, zg2⟩, stg2⟩ := Jvm.LawKit.callS Xg1 hx (y := (⟨"com/example/ashlar/ashlar/storage/SubsetsNextPinLaw", "gap", "(I)I"⟩ : MethodName)) hown (mvT hZ (hw _ (List.mem_of_getElem? (i := 0) rfl))) (mvT hZ (hw _ (List.mem_of_getElem? (i := 1) rfl))) (mvT hZ (hw _ (List.mem_of_getElem? (i := 2) rfl))) (mvT hZ (hw _ (List.mem_of_getElem? (i := 3) rfl))) (by decide) (backOf (W := 1) (rm1 l Z a0 hw [] p3 h0 n0 Z0) hZ (hw _ (List.mem_of_getElem? (i := 3) rfl)) (hw _ (List.mem_of_getElem? (i := 2) rfl)) (by decide) (by decide)) (g := (mkF m 16 #[.val (.int p1), .val (.int p2), .val (.int p3), .val (.int p4), .val (.int p5), .val (.int (p1 &&& (3 : Int32))), .val (.int xa), .unset, .unset, .unset, .unset, .unset, .unset] [(.int p3), (.int (xa + (1 : Int32)))])) rfl (by rw [hml]; rfl) (argsL := [(.int p3)]) (rest := [(.int (xa + (1 : Int32)))]) (lenOf pd_0_g rfl) rfl (by show 2 * 0 + _ ≤ _; exact Nat.le_of_eq rfl) (hb hby at_16) (fun _ _ => ⟨rfl, qg1h, (by decide : 0 + 0 ≤ _), (by decide : 0 + 0 ≤ _)⟩)
  dsimp only [Pt.U, Pt.locs, Pt.cells, Pt.slots] at Xg2 lg2 yg2 zg2 stg2 hQg2
  subst lg2 yg2 zg2
  obtain ⟨rfl, Ng2q, qg2h⟩ := hQg2
  have Ng2 := Fr.app Ng1 Ng2q
  obtain ⟨_, _, ⟨Tg3, Lg3, kg3, ng3⟩, -, Xg3, ⟨Lcg3, hQg3, lg3, yg3, zg3⟩, stg3⟩ := Jvm.LawKit.callS Xg2 hx (y := (⟨"com/example/ashlar/ashlar/storage/SubsetsNextPinLaw", "gap", "(I)I"⟩ : MethodName)) hown (mvT hZ (hw _ (List.mem_of_getElem? (i := 0) rfl))) (mvT hZ (hw _ (List.mem_of_getElem? (i := 1) rfl))) (mvT hZ (hw _ (List.mem_of_getElem? (i := 2) rfl))) (mvT hZ (hw _ (List.mem_of_getElem? (i := 3) rfl))) (by decide) (backOf (W := 1) (rm1 l Z a0 hw [] p4 h0 n0 Z0) hZ (hw _ (List.mem_of_getElem? (i := 3) rfl)) (hw _ (List.mem_of_getElem? (i := 2) rfl)) (by decide) (by decide)) (g := (mkF m 27 #[.val (.int p1), .val (.int p2), .val (.int p3), .val (.int p4), .val (.int p5), .val (.int (p1 &&& (3 : Int32))), .val (.int xa), .val (.int xb), .unset, .unset, .unset, .unset, .unset] [(.int p4), (.int (xb + (1 : Int32)))])) rfl (by rw [hml]; rfl) (argsL := [(.int p4)]) (rest := [(.int (xb + (1 : Int32)))]) (lenOf pd_0_g rfl) rfl (by show 2 * 0 + _ ≤ _; exact Nat.le_of_eq rfl) (hb hby at_27) (fun _ _ => ⟨rfl, qg2h, (by decide : 0 + 0 ≤ _), (by decide : 0 + 0 ≤ _)⟩)
  dsimp only [Pt.U, Pt.locs, Pt.cells, Pt.slots] at Xg3 lg3 yg3 zg3 stg3 hQg3
  subst lg3 yg3 zg3
  obtain ⟨rfl, Ng3q, qg3h⟩ := hQg3
  have Ng3 := Fr.app Ng2 Ng3q
  obtain ⟨_, _, ⟨Tg4, Lg4, kg4, ng4⟩, -, Xg4, ⟨Lcg4, hQg4, lg4, yg4, zg4⟩, stg4⟩ := Jvm.LawKit.callS Xg3 hx (y := (⟨"com/example/ashlar/ashlar/storage/SubsetsNextPinLaw", "gap", "(I)I"⟩ : MethodName)) hown (mvT hZ (hw _ (List.mem_of_getElem? (i := 0) rfl))) (mvT hZ (hw _ (List.mem_of_getElem? (i := 1) rfl))) (mvT hZ (hw _ (List.mem_of_getElem? (i := 2) rfl))) (mvT hZ (hw _ (List.mem_of_getElem? (i := 3) rfl))) (by decide) (backOf (W := 0) (rm1 l Z a0 hw [] p5 h0 n0 Z0) hZ (hw _ (List.mem_of_getElem? (i := 3) rfl)) (hw _ (List.mem_of_getElem? (i := 2) rfl)) (by decide) (by decide)) (g := (mkF m 35 #[.val (.int p1), .val (.int p2), .val (.int p3), .val (.int p4), .val (.int p5), .val (.int (p1 &&& (3 : Int32))), .val (.int xa), .val (.int xb), .val (.int xc), .unset, .unset, .unset, .unset] [(.int p5)])) rfl (by rw [hml]; rfl) (argsL := [(.int p5)]) (rest := []) (lenOf pd_0_g rfl) rfl (by show 2 * 0 + _ ≤ _; exact Nat.le_of_eq rfl) (hb hby at_35) (fun _ _ => ⟨rfl, qg3h, (by decide : 0 + 0 ≤ _), (by decide : 0 + 0 ≤ _)⟩)
  dsimp only [Pt.U, Pt.locs, Pt.cells, Pt.slots] at Xg4 lg4 yg4 zg4 stg4 hQg4
  subst lg4 yg4 zg4
  obtain ⟨rfl, Ng4q, qg4h⟩ := hQg4
  have Ng4 := Fr.app Ng3 Ng4q
  obtain ⟨TR, lR, pcR, LR, sl, hsl, XR, NR, hdR, stR⟩ : ∃ (T' : State) (l' : List Loc) (pcr : Nat) (Lr : Array Slot) (sl : Nat), sl ≤ 128 ∧ Stand p l e room_1 s m #[(.int p1), (.int p2), (.int p3), (.int p4), (.int p5)] below meth c T' l' 1 sl ∧ Fr n0 l' ∧ decode c.code pcr = .ok (.ireturn, 1) ∧ ∀ t, Steps p.tables e below (T'.setTop (mkF m pcr Lr [(.int (1 : Int32))])) t → Steps p.tables e below (Tg4.setTop (mkF m 40 #[.val (.int p1), .val (.int p2), .val (.int p3), .val (.int p4), .val (.int p5), .val (.int (p1 &&& (3 : Int32))), .val (.int xa), .val (.int xb), .val (.int xc), .val (.int xd), .unset, .unset, .unset] [])) t := by
    by_cases k0 : (p1 &&& (3 : Int32)) = (0 : Int32)
    · obtain ⟨T', l', pcr, Lr, sl, hsl, X', N', hd', st'⟩ := own_law_0_0 p1 p2 p3 p4 p5 (p1 &&& (3 : Int32)) xa xb xc xd hw Xg4 hx hZ hby hml hown qg4h Z0 Ng4 
      refine ⟨T', l', pcr, Lr, sl, hsl, X', N', hd', fun t kt => ?_⟩
      show Steps p.tables e below (Tg4.setTop (mkF m 40 #[.val (.int p1), .val (.int p2), .val (.int p3), .val (.int p4), .val (.int p5), .val (.int (p1 &&& (3 : Int32))), .val (.int xa), .val (.int xb), .val (.int xc), .val (.int xd), .unset, .unset, .unset] [])) _
      refine XS.iload Xg4.here hx rfl (hb hby at_40) rfl ?_
      show Steps p.tables e below (Tg4.setTop (mkF m 42 #[.val (.int p1), .val (.int p2), .val (.int p3), .val (.int p4), .val (.int p5), .val (.int (p1 &&& (3 : Int32))), .val (.int xa), .val (.int xb), .val (.int xc), .val (.int xd), .unset, .unset, .unset] [(.int (p1 &&& (3 : Int32)))])) _
      refine XS.ifNo Xg4.here hx rfl (hb hby at_42) rfl ((if0 _ _).trans (teq (k0 : (p1 &&& (3 : Int32)) = (0 : Int32))).2) ?_
      exact st' _ kt
    · by_cases k1 : (p1 &&& (3 : Int32)) = (1 : Int32)
      · by_cases h10 : xa < (((xa + (1 : Int32)) + xd) - (1 : Int32))
        · obtain ⟨T', l', pcr, Lr, sl, hsl, X', N', hd', st'⟩ := own_law_1_0 p1 p2 p3 p4 p5 (p1 &&& (3 : Int32)) xa xb xc xd hw Xg4 hx hZ hby hml hown qg4h Z0 Ng4 h10
          refine ⟨T', l', pcr, Lr, sl, hsl, X', N', hd', fun t kt => ?_⟩
          show Steps p.tables e below (Tg4.setTop (mkF m 40 #[.val (.int p1), .val (.int p2), .val (.int p3), .val (.int p4), .val (.int p5), .val (.int (p1 &&& (3 : Int32))), .val (.int xa), .val (.int xb), .val (.int xc), .val (.int xd), .unset, .unset, .unset] [])) _
          refine XS.iload Xg4.here hx rfl (hb hby at_40) rfl ?_
          show Steps p.tables e below (Tg4.setTop (mkF m 42 #[.val (.int p1), .val (.int p2), .val (.int p3), .val (.int p4), .val (.int p5), .val (.int (p1 &&& (3 : Int32))), .val (.int xa), .val (.int xb), .val (.int xc), .val (.int xd), .unset, .unset, .unset] [(.int (p1 &&& (3 : Int32)))])) _
          refine XS.ifYes Xg4.here hx rfl (pc0 := 42) (pc' := 76) rfl (hb hby at_42) rfl ((if0 _ _).trans (feq (k0 : ¬ ((p1 &&& (3 : Int32)) = (0 : Int32)))).2) (by decide) (by decide) ?_
          show Steps p.tables e below (Tg4.setTop (mkF m 76 #[.val (.int p1), .val (.int p2), .val (.int p3), .val (.int p4), .val (.int p5), .val (.int (p1 &&& (3 : Int32))), .val (.int xa), .val (.int xb), .val (.int xc), .val (.int xd), .unset, .unset, .unset] [])) _
          refine XS.iload Xg4.here hx rfl (hb hby at_76) rfl ?_
          show Steps p.tables e below (Tg4.setTop (mkF m 78 #[.val (.int p1), .val (.int p2), .val (.int p3), .val (.int p4), .val (.int p5), .val (.int (p1 &&& (3 : Int32))), .val (.int xa), .val (.int xb), .val (.int xc), .val (.int xd), .unset, .unset, .unset] [(.int (p1 &&& (3 : Int32)))])) _
          refine XS.iconst Xg4.here hx rfl (hb hby at_78) ?_
          show Steps p.tables e below (Tg4.setTop (mkF m 79 #[.val (.int p1), .val (.int p2), .val (.int p3), .val (.int p4), .val (.int p5), .val (.int (p1 &&& (3 : Int32))), .val (.int xa), .val (.int xb), .val (.int xc), .val (.int xd), .unset, .unset, .unset] [(.int (1 : Int32)), (.int (p1 &&& (3 : Int32)))])) _
          refine XS.icmpNo Xg4.here hx rfl (hb hby at_79) rfl (teq (k1 : (p1 &&& (3 : Int32)) = (1 : Int32))).2 ?_
          exact st' _ kt
        · obtain ⟨T', l', pcr, Lr, sl, hsl, X', N', hd', st'⟩ := own_law_1_1 p1 p2 p3 p4 p5 (p1 &&& (3 : Int32)) xa xb xc xd hw Xg4 hx hZ hby hml hown qg4h Z0 Ng4 h10
          refine ⟨T', l', pcr, Lr, sl, hsl, X', N', hd', fun t kt => ?_⟩
          show Steps p.tables e below (Tg4.setTop (mkF m 40 #[.val (.int p1), .val (.int p2), .val (.int p3), .val (.int p4), .val (.int p5), .val (.int (p1 &&& (3 : Int32))), .val (.int xa), .val (.int xb), .val (.int xc), .val (.int xd), .unset, .unset, .unset] [])) _
          refine XS.iload Xg4.here hx rfl (hb hby at_40) rfl ?_
          show Steps p.tables e below (Tg4.setTop (mkF m 42 #[.val (.int p1), .val (.int p2), .val (.int p3), .val (.int p4), .val (.int p5), .val (.int (p1 &&& (3 : Int32))), .val (.int xa), .val (.int xb), .val (.int xc), .val (.int xd), .unset, .unset, .unset] [(.int (p1 &&& (3 : Int32)))])) _
          refine XS.ifYes Xg4.here hx rfl (pc0 := 42) (pc' := 76) rfl (hb hby at_42) rfl ((if0 _ _).trans (feq (k0 : ¬ ((p1 &&& (3 : Int32)) = (0 : Int32)))).2) (by decide) (by decide) ?_
          show Steps p.tables e below (Tg4.setTop (mkF m 76 #[.val (.int p1), .val (.int p2), .val (.int p3), .val (.int p4), .val (.int p5), .val (.int (p1 &&& (3 : Int32))), .val (.int xa), .val (.int xb), .val (.int xc), .val (.int xd), .unset, .unset, .unset] [])) _
          refine XS.iload Xg4.here hx rfl (hb hby at_76) rfl ?_
          show Steps p.tables e below (Tg4.setTop (mkF m 78 #[.val (.int p1), .val (.int p2), .val (.int p3), .val (.int p4), .val (.int p5), .val (.int (p1 &&& (3 : Int32))), .val (.int xa), .val (.int xb), .val (.int xc), .val (.int xd), .unset, .unset, .unset] [(.int (p1 &&& (3 : Int32)))])) _
          refine XS.iconst Xg4.here hx rfl (hb hby at_78) ?_
          show Steps p.tables e below (Tg4.setTop (mkF m 79 #[.val (.int p1), .val (.int p2), .val (.int p3), .val (.int p4), .val (.int p5), .val (.int (p1 &&& (3 : Int32))), .val (.int xa), .val (.int xb), .val (.int xc), .val (.int xd), .unset, .unset, .unset] [(.int (1 : Int32)), (.int (p1 &&& (3 : Int32)))])) _
          refine XS.icmpNo Xg4.here hx rfl (hb hby at_79) rfl (teq (k1 : (p1 &&& (3 : Int32)) = (1 : Int32))).2 ?_
          exact st' _ kt
      · by_cases k2 : (p1 &&& (3 : Int32)) = (2 : Int32)
        · by_cases h21 : xb < (((xb + (1 : Int32)) + xd) - (1 : Int32))
          · obtain ⟨T', l', pcr, Lr, sl, hsl, X', N', hd', st'⟩ := own_law_2_0 p1 p2 p3 p4 p5 (p1 &&& (3 : Int32)) xa xb xc xd hw Xg4 hx hZ hby hml hown qg4h Z0 Ng4 h21
            refine ⟨T', l', pcr, Lr, sl, hsl, X', N', hd', fun t kt => ?_⟩
            show Steps p.tables e below (Tg4.setTop (mkF m 40 #[.val (.int p1), .val (.int p2), .val (.int p3), .val (.int p4), .val (.int p5), .val (.int (p1 &&& (3 : Int32))), .val (.int xa), .val (.int xb), .val (.int xc), .val (.int xd), .unset, .unset, .unset] [])) _
            refine XS.iload Xg4.here hx rfl (hb hby at_40) rfl ?_
            show Steps p.tables e below (Tg4.setTop (mkF m 42 #[.val (.int p1), .val (.int p2), .val (.int p3), .val (.int p4), .val (.int p5), .val (.int (p1 &&& (3 : Int32))), .val (.int xa), .val (.int xb), .val (.int xc), .val (.int xd), .unset, .unset, .unset] [(.int (p1 &&& (3 : Int32)))])) _
            refine XS.ifYes Xg4.here hx rfl (pc0 := 42) (pc' := 76) rfl (hb hby at_42) rfl ((if0 _ _).trans (feq (k0 : ¬ ((p1 &&& (3 : Int32)) = (0 : Int32)))).2) (by decide) (by decide) ?_
            show Steps p.tables e below (Tg4.setTop (mkF m 76 #[.val (.int p1), .val (.int p2), .val (.int p3), .val (.int p4), .val (.int p5), .val (.int (p1 &&& (3 : Int32))), .val (.int xa), .val (.int xb), .val (.int xc), .val (.int xd), .unset, .unset, .unset] [])) _
            refine XS.iload Xg4.here hx rfl (hb hby at_76) rfl ?_
            show Steps p.tables e below (Tg4.setTop (mkF m 78 #[.val (.int p1), .val (.int p2), .val (.int p3), .val (.int p4), .val (.int p5), .val (.int (p1 &&& (3 : Int32))), .val (.int xa), .val (.int xb), .val (.int xc), .val (.int xd), .unset, .unset, .unset] [(.int (p1 &&& (3 : Int32)))])) _
            refine XS.iconst Xg4.here hx rfl (hb hby at_78) ?_
            show Steps p.tables e below (Tg4.setTop (mkF m 79 #[.val (.int p1), .val (.int p2), .val (.int p3), .val (.int p4), .val (.int p5), .val (.int (p1 &&& (3 : Int32))), .val (.int xa), .val (.int xb), .val (.int xc), .val (.int xd), .unset, .unset, .unset] [(.int (1 : Int32)), (.int (p1 &&& (3 : Int32)))])) _
            refine XS.icmpYes Xg4.here hx rfl (pc0 := 79) (pc' := 161) rfl (hb hby at_79) rfl (feq (k1 : ¬ ((p1 &&& (3 : Int32)) = (1 : Int32)))).2 (by decide) (by decide) ?_
            show Steps p.tables e below (Tg4.setTop (mkF m 161 #[.val (.int p1), .val (.int p2), .val (.int p3), .val (.int p4), .val (.int p5), .val (.int (p1 &&& (3 : Int32))), .val (.int xa), .val (.int xb), .val (.int xc), .val (.int xd), .unset, .unset, .unset] [])) _
            refine XS.iload Xg4.here hx rfl (hb hby at_161) rfl ?_
            show Steps p.tables e below (Tg4.setTop (mkF m 163 #[.val (.int p1), .val (.int p2), .val (.int p3), .val (.int p4), .val (.int p5), .val (.int (p1 &&& (3 : Int32))), .val (.int xa), .val (.int xb), .val (.int xc), .val (.int xd), .unset, .unset, .unset] [(.int (p1 &&& (3 : Int32)))])) _
            refine XS.iconst Xg4.here hx rfl (hb hby at_163) ?_
            show Steps p.tables e below (Tg4.setTop (mkF m 164 #[.val (.int p1), .val (.int p2), .val (.int p3), .val (.int p4), .val (.int p5), .val (.int (p1 &&& (3 : Int32))), .val (.int xa), .val (.int xb), .val (.int xc), .val (.int xd), .unset, .unset, .unset] [(.int (2 : Int32)), (.int (p1 &&& (3 : Int32)))])) _
            refine XS.icmpNo Xg4.here hx rfl (hb hby at_164) rfl (teq (k2 : (p1 &&& (3 : Int32)) = (2 : Int32))).2 ?_
            exact st' _ kt
          · by_cases h20 : xa < (((xb + (1 : Int32)) + xd) - (2 : Int32))
            · obtain ⟨T', l', pcr, Lr, sl, hsl, X', N', hd', st'⟩ := own_law_2_1 p1 p2 p3 p4 p5 (p1 &&& (3 : Int32)) xa xb xc xd hw Xg4 hx hZ hby hml hown qg4h Z0 Ng4 h21 h20
              refine ⟨T', l', pcr, Lr, sl, hsl, X', N', hd', fun t kt => ?_⟩
              show Steps p.tables e below (Tg4.setTop (mkF m 40 #[.val (.int p1), .val (.int p2), .val (.int p3), .val (.int p4), .val (.int p5), .val (.int (p1 &&& (3 : Int32))), .val (.int xa), .val (.int xb), .val (.int xc), .val (.int xd), .unset, .unset, .unset] [])) _
              refine XS.iload Xg4.here hx rfl (hb hby at_40) rfl ?_
              show Steps p.tables e below (Tg4.setTop (mkF m 42 #[.val (.int p1), .val (.int p2), .val (.int p3), .val (.int p4), .val (.int p5), .val (.int (p1 &&& (3 : Int32))), .val (.int xa), .val (.int xb), .val (.int xc), .val (.int xd), .unset, .unset, .unset] [(.int (p1 &&& (3 : Int32)))])) _
              refine XS.ifYes Xg4.here hx rfl (pc0 := 42) (pc' := 76) rfl (hb hby at_42) rfl ((if0 _ _).trans (feq (k0 : ¬ ((p1 &&& (3 : Int32)) = (0 : Int32)))).2) (by decide) (by decide) ?_
              show Steps p.tables e below (Tg4.setTop (mkF m 76 #[.val (.int p1), .val (.int p2), .val (.int p3), .val (.int p4), .val (.int p5), .val (.int (p1 &&& (3 : Int32))), .val (.int xa), .val (.int xb), .val (.int xc), .val (.int xd), .unset, .unset, .unset] [])) _
              refine XS.iload Xg4.here hx rfl (hb hby at_76) rfl ?_
              show Steps p.tables e below (Tg4.setTop (mkF m 78 #[.val (.int p1), .val (.int p2), .val (.int p3), .val (.int p4), .val (.int p5), .val (.int (p1 &&& (3 : Int32))), .val (.int xa), .val (.int xb), .val (.int xc), .val (.int xd), .unset, .unset, .unset] [(.int (p1 &&& (3 : Int32)))])) _
              refine XS.iconst Xg4.here hx rfl (hb hby at_78) ?_
              show Steps p.tables e below (Tg4.setTop (mkF m 79 #[.val (.int p1), .val (.int p2), .val (.int p3), .val (.int p4), .val (.int p5), .val (.int (p1 &&& (3 : Int32))), .val (.int xa), .val (.int xb), .val (.int xc), .val (.int xd), .unset, .unset, .unset] [(.int (1 : Int32)), (.int (p1 &&& (3 : Int32)))])) _
              refine XS.icmpYes Xg4.here hx rfl (pc0 := 79) (pc' := 161) rfl (hb hby at_79) rfl (feq (k1 : ¬ ((p1 &&& (3 : Int32)) = (1 : Int32)))).2 (by decide) (by decide) ?_
              show Steps p.tables e below (Tg4.setTop (mkF m 161 #[.val (.int p1), .val (.int p2), .val (.int p3), .val (.int p4), .val (.int p5), .val (.int (p1 &&& (3 : Int32))), .val (.int xa), .val (.int xb), .val (.int xc), .val (.int xd), .unset, .unset, .unset] [])) _
              refine XS.iload Xg4.here hx rfl (hb hby at_161) rfl ?_
              show Steps p.tables e below (Tg4.setTop (mkF m 163 #[.val (.int p1), .val (.int p2), .val (.int p3), .val (.int p4), .val (.int p5), .val (.int (p1 &&& (3 : Int32))), .val (.int xa), .val (.int xb), .val (.int xc), .val (.int xd), .unset, .unset, .unset] [(.int (p1 &&& (3 : Int32)))])) _
              refine XS.iconst Xg4.here hx rfl (hb hby at_163) ?_
              show Steps p.tables e below (Tg4.setTop (mkF m 164 #[.val (.int p1), .val (.int p2), .val (.int p3), .val (.int p4), .val (.int p5), .val (.int (p1 &&& (3 : Int32))), .val (.int xa), .val (.int xb), .val (.int xc), .val (.int xd), .unset, .unset, .unset] [(.int (2 : Int32)), (.int (p1 &&& (3 : Int32)))])) _
              refine XS.icmpNo Xg4.here hx rfl (hb hby at_164) rfl (teq (k2 : (p1 &&& (3 : Int32)) = (2 : Int32))).2 ?_
              exact st' _ kt
            · obtain ⟨T', l', pcr, Lr, sl, hsl, X', N', hd', st'⟩ := own_law_2_2 p1 p2 p3 p4 p5 (p1 &&& (3 : Int32)) xa xb xc xd hw Xg4 hx hZ hby hml hown qg4h Z0 Ng4 h21 h20
              refine ⟨T', l', pcr, Lr, sl, hsl, X', N', hd', fun t kt => ?_⟩
              show Steps p.tables e below (Tg4.setTop (mkF m 40 #[.val (.int p1), .val (.int p2), .val (.int p3), .val (.int p4), .val (.int p5), .val (.int (p1 &&& (3 : Int32))), .val (.int xa), .val (.int xb), .val (.int xc), .val (.int xd), .unset, .unset, .unset] [])) _
              refine XS.iload Xg4.here hx rfl (hb hby at_40) rfl ?_
              show Steps p.tables e below (Tg4.setTop (mkF m 42 #[.val (.int p1), .val (.int p2), .val (.int p3), .val (.int p4), .val (.int p5), .val (.int (p1 &&& (3 : Int32))), .val (.int xa), .val (.int xb), .val (.int xc), .val (.int xd), .unset, .unset, .unset] [(.int (p1 &&& (3 : Int32)))])) _
              refine XS.ifYes Xg4.here hx rfl (pc0 := 42) (pc' := 76) rfl (hb hby at_42) rfl ((if0 _ _).trans (feq (k0 : ¬ ((p1 &&& (3 : Int32)) = (0 : Int32)))).2) (by decide) (by decide) ?_
              show Steps p.tables e below (Tg4.setTop (mkF m 76 #[.val (.int p1), .val (.int p2), .val (.int p3), .val (.int p4), .val (.int p5), .val (.int (p1 &&& (3 : Int32))), .val (.int xa), .val (.int xb), .val (.int xc), .val (.int xd), .unset, .unset, .unset] [])) _
              refine XS.iload Xg4.here hx rfl (hb hby at_76) rfl ?_
              show Steps p.tables e below (Tg4.setTop (mkF m 78 #[.val (.int p1), .val (.int p2), .val (.int p3), .val (.int p4), .val (.int p5), .val (.int (p1 &&& (3 : Int32))), .val (.int xa), .val (.int xb), .val (.int xc), .val (.int xd), .unset, .unset, .unset] [(.int (p1 &&& (3 : Int32)))])) _
              refine XS.iconst Xg4.here hx rfl (hb hby at_78) ?_
              show Steps p.tables e below (Tg4.setTop (mkF m 79 #[.val (.int p1), .val (.int p2), .val (.int p3), .val (.int p4), .val (.int p5), .val (.int (p1 &&& (3 : Int32))), .val (.int xa), .val (.int xb), .val (.int xc), .val (.int xd), .unset, .unset, .unset] [(.int (1 : Int32)), (.int (p1 &&& (3 : Int32)))])) _
              refine XS.icmpYes Xg4.here hx rfl (pc0 := 79) (pc' := 161) rfl (hb hby at_79) rfl (feq (k1 : ¬ ((p1 &&& (3 : Int32)) = (1 : Int32)))).2 (by decide) (by decide) ?_
              show Steps p.tables e below (Tg4.setTop (mkF m 161 #[.val (.int p1), .val (.int p2), .val (.int p3), .val (.int p4), .val (.int p5), .val (.int (p1 &&& (3 : Int32))), .val (.int xa), .val (.int xb), .val (.int xc), .val (.int xd), .unset, .unset, .unset] [])) _
              refine XS.iload Xg4.here hx rfl (hb hby at_161) rfl ?_
              show Steps p.tables e below (Tg4.setTop (mkF m 163 #[.val (.int p1), .val (.int p2), .val (.int p3), .val (.int p4), .val (.int p5), .val (.int (p1 &&& (3 : Int32))), .val (.int xa), .val (.int xb), .val (.int xc), .val (.int xd), .unset, .unset, .unset] [(.int (p1 &&& (3 : Int32)))])) _
              refine XS.iconst Xg4.here hx rfl (hb hby at_163) ?_
              show Steps p.tables e below (Tg4.setTop (mkF m 164 #[.val (.int p1), .val (.int p2), .val (.int p3), .val (.int p4), .val (.int p5), .val (.int (p1 &&& (3 : Int32))), .val (.int xa), .val (.int xb), .val (.int xc), .val (.int xd), .unset, .unset, .unset] [(.int (2 : Int32)), (.int (p1 &&& (3 : Int32)))])) _
              refine XS.icmpNo Xg4.here hx rfl (hb hby at_164) rfl (teq (k2 : (p1 &&& (3 : Int32)) = (2 : Int32))).2 ?_
              exact st' _ kt
        · by_cases h32 : xc < (((xc + (1 : Int32)) + xd) - (1 : Int32))
          · obtain ⟨T', l', pcr, Lr, sl, hsl, X', N', hd', st'⟩ := own_law_3_0 p1 p2 p3 p4 p5 (p1 &&& (3 : Int32)) xa xb xc xd hw Xg4 hx hZ hby hml hown qg4h Z0 Ng4 h32
            refine ⟨T', l', pcr, Lr, sl, hsl, X', N', hd', fun t kt => ?_⟩
            show Steps p.tables e below (Tg4.setTop (mkF m 40 #[.val (.int p1), .val (.int p2), .val (.int p3), .val (.int p4), .val (.int p5), .val (.int (p1 &&& (3 : Int32))), .val (.int xa), .val (.int xb), .val (.int xc), .val (.int xd), .unset, .unset, .unset] [])) _
            refine XS.iload Xg4.here hx rfl (hb hby at_40) rfl ?_
            show Steps p.tables e below (Tg4.setTop (mkF m 42 #[.val (.int p1), .val (.int p2), .val (.int p3), .val (.int p4), .val (.int p5), .val (.int (p1 &&& (3 : Int32))), .val (.int xa), .val (.int xb), .val (.int xc), .val (.int xd), .unset, .unset, .unset] [(.int (p1 &&& (3 : Int32)))])) _
            refine XS.ifYes Xg4.here hx rfl (pc0 := 42) (pc' := 76) rfl (hb hby at_42) rfl ((if0 _ _).trans (feq (k0 : ¬ ((p1 &&& (3 : Int32)) = (0 : Int32)))).2) (by decide) (by decide) ?_
            show Steps p.tables e below (Tg4.setTop (mkF m 76 #[.val (.int p1), .val (.int p2), .val (.int p3), .val (.int p4), .val (.int p5), .val (.int (p1 &&& (3 : Int32))), .val (.int xa), .val (.int xb), .val (.int xc), .val (.int xd), .unset, .unset, .unset] [])) _
            refine XS.iload Xg4.here hx rfl (hb hby at_76) rfl ?_
            show Steps p.tables e below (Tg4.setTop (mkF m 78 #[.val (.int p1), .val (.int p2), .val (.int p3), .val (.int p4), .val (.int p5), .val (.int (p1 &&& (3 : Int32))), .val (.int xa), .val (.int xb), .val (.int xc), .val (.int xd), .unset, .unset, .unset] [(.int (p1 &&& (3 : Int32)))])) _
            refine XS.iconst Xg4.here hx rfl (hb hby at_78) ?_
            show Steps p.tables e below (Tg4.setTop (mkF m 79 #[.val (.int p1), .val (.int p2), .val (.int p3), .val (.int p4), .val (.int p5), .val (.int (p1 &&& (3 : Int32))), .val (.int xa), .val (.int xb), .val (.int xc), .val (.int xd), .unset, .unset, .unset] [(.int (1 : Int32)), (.int (p1 &&& (3 : Int32)))])) _
            refine XS.icmpYes Xg4.here hx rfl (pc0 := 79) (pc' := 161) rfl (hb hby at_79) rfl (feq (k1 : ¬ ((p1 &&& (3 : Int32)) = (1 : Int32)))).2 (by decide) (by decide) ?_
            show Steps p.tables e below (Tg4.setTop (mkF m 161 #[.val (.int p1), .val (.int p2), .val (.int p3), .val (.int p4), .val (.int p5), .val (.int (p1 &&& (3 : Int32))), .val (.int xa), .val (.int xb), .val (.int xc), .val (.int xd), .unset, .unset, .unset] [])) _
            refine XS.iload Xg4.here hx rfl (hb hby at_161) rfl ?_
            show Steps p.tables e below (Tg4.setTop (mkF m 163 #[.val (.int p1), .val (.int p2), .val (.int p3), .val (.int p4), .val (.int p5), .val (.int (p1 &&& (3 : Int32))), .val (.int xa), .val (.int xb), .val (.int xc), .val (.int xd), .unset, .unset, .unset] [(.int (p1 &&& (3 : Int32)))])) _
            refine XS.iconst Xg4.here hx rfl (hb hby at_163) ?_
            show Steps p.tables e below (Tg4.setTop (mkF m 164 #[.val (.int p1), .val (.int p2), .val (.int p3), .val (.int p4), .val (.int p5), .val (.int (p1 &&& (3 : Int32))), .val (.int xa), .val (.int xb), .val (.int xc), .val (.int xd), .unset, .unset, .unset] [(.int (2 : Int32)), (.int (p1 &&& (3 : Int32)))])) _
            refine XS.icmpYes Xg4.here hx rfl (pc0 := 164) (pc' := 311) rfl (hb hby at_164) rfl (feq (k2 : ¬ ((p1 &&& (3 : Int32)) = (2 : Int32)))).2 (by decide) (by decide) ?_
            exact st' _ kt
          · by_cases h31 : xb < (((xc + (1 : Int32)) + xd) - (2 : Int32))
            · obtain ⟨T', l', pcr, Lr, sl, hsl, X', N', hd', st'⟩ := own_law_3_1 p1 p2 p3 p4 p5 (p1 &&& (3 : Int32)) xa xb xc xd hw Xg4 hx hZ hby hml hown qg4h Z0 Ng4 h32 h31
              refine ⟨T', l', pcr, Lr, sl, hsl, X', N', hd', fun t kt => ?_⟩
              show Steps p.tables e below (Tg4.setTop (mkF m 40 #[.val (.int p1), .val (.int p2), .val (.int p3), .val (.int p4), .val (.int p5), .val (.int (p1 &&& (3 : Int32))), .val (.int xa), .val (.int xb), .val (.int xc), .val (.int xd), .unset, .unset, .unset] [])) _
              refine XS.iload Xg4.here hx rfl (hb hby at_40) rfl ?_
              show Steps p.tables e below (Tg4.setTop (mkF m 42 #[.val (.int p1), .val (.int p2), .val (.int p3), .val (.int p4), .val (.int p5), .val (.int (p1 &&& (3 : Int32))), .val (.int xa), .val (.int xb), .val (.int xc), .val (.int xd), .unset, .unset, .unset] [(.int (p1 &&& (3 : Int32)))])) _
              refine XS.ifYes Xg4.here hx rfl (pc0 := 42) (pc' := 76) rfl (hb hby at_42) rfl ((if0 _ _).trans (feq (k0 : ¬ ((p1 &&& (3 : Int32)) = (0 : Int32)))).2) (by decide) (by decide) ?_
              show Steps p.tables e below (Tg4.setTop (mkF m 76 #[.val (.int p1), .val (.int p2), .val (.int p3), .val (.int p4), .val (.int p5), .val (.int (p1 &&& (3 : Int32))), .val (.int xa), .val (.int xb), .val (.int xc), .val (.int xd), .unset, .unset, .unset] [])) _
              refine XS.iload Xg4.here hx rfl (hb hby at_76) rfl ?_
              show Steps p.tables e below (Tg4.setTop (mkF m 78 #[.val (.int p1), .val (.int p2), .val (.int p3), .val (.int p4), .val (.int p5), .val (.int (p1 &&& (3 : Int32))), .val (.int xa), .val (.int xb), .val (.int xc), .val (.int xd), .unset, .unset, .unset] [(.int (p1 &&& (3 : Int32)))])) _
              refine XS.iconst Xg4.here hx rfl (hb hby at_78) ?_
              show Steps p.tables e below (Tg4.setTop (mkF m 79 #[.val (.int p1), .val (.int p2), .val (.int p3), .val (.int p4), .val (.int p5), .val (.int (p1 &&& (3 : Int32))), .val (.int xa), .val (.int xb), .val (.int xc), .val (.int xd), .unset, .unset, .unset] [(.int (1 : Int32)), (.int (p1 &&& (3 : Int32)))])) _
              refine XS.icmpYes Xg4.here hx rfl (pc0 := 79) (pc' := 161) rfl (hb hby at_79) rfl (feq (k1 : ¬ ((p1 &&& (3 : Int32)) = (1 : Int32)))).2 (by decide) (by decide) ?_
              show Steps p.tables e below (Tg4.setTop (mkF m 161 #[.val (.int p1), .val (.int p2), .val (.int p3), .val (.int p4), .val (.int p5), .val (.int (p1 &&& (3 : Int32))), .val (.int xa), .val (.int xb), .val (.int xc), .val (.int xd), .unset, .unset, .unset] [])) _
              refine XS.iload Xg4.here hx rfl (hb hby at_161) rfl ?_
              show Steps p.tables e below (Tg4.setTop (mkF m 163 #[.val (.int p1), .val (.int p2), .val (.int p3), .val (.int p4), .val (.int p5), .val (.int (p1 &&& (3 : Int32))), .val (.int xa), .val (.int xb), .val (.int xc), .val (.int xd), .unset, .unset, .unset] [(.int (p1 &&& (3 : Int32)))])) _
              refine XS.iconst Xg4.here hx rfl (hb hby at_163) ?_
              show Steps p.tables e below (Tg4.setTop (mkF m 164 #[.val (.int p1), .val (.int p2), .val (.int p3), .val (.int p4), .val (.int p5), .val (.int (p1 &&& (3 : Int32))), .val (.int xa), .val (.int xb), .val (.int xc), .val (.int xd), .unset, .unset, .unset] [(.int (2 : Int32)), (.int (p1 &&& (3 : Int32)))])) _
              refine XS.icmpYes Xg4.here hx rfl (pc0 := 164) (pc' := 311) rfl (hb hby at_164) rfl (feq (k2 : ¬ ((p1 &&& (3 : Int32)) = (2 : Int32)))).2 (by decide) (by decide) ?_
              exact st' _ kt
            · by_cases h30 : xa < (((xc + (1 : Int32)) + xd) - (3 : Int32))
              · obtain ⟨T', l', pcr, Lr, sl, hsl, X', N', hd', st'⟩ := own_law_3_2 p1 p2 p3 p4 p5 (p1 &&& (3 : Int32)) xa xb xc xd hw Xg4 hx hZ hby hml hown qg4h Z0 Ng4 h32 h31 h30
                refine ⟨T', l', pcr, Lr, sl, hsl, X', N', hd', fun t kt => ?_⟩
                show Steps p.tables e below (Tg4.setTop (mkF m 40 #[.val (.int p1), .val (.int p2), .val (.int p3), .val (.int p4), .val (.int p5), .val (.int (p1 &&& (3 : Int32))), .val (.int xa), .val (.int xb), .val (.int xc), .val (.int xd), .unset, .unset, .unset] [])) _
                refine XS.iload Xg4.here hx rfl (hb hby at_40) rfl ?_
                show Steps p.tables e below (Tg4.setTop (mkF m 42 #[.val (.int p1), .val (.int p2), .val (.int p3), .val (.int p4), .val (.int p5), .val (.int (p1 &&& (3 : Int32))), .val (.int xa), .val (.int xb), .val (.int xc), .val (.int xd), .unset, .unset, .unset] [(.int (p1 &&& (3 : Int32)))])) _
                refine XS.ifYes Xg4.here hx rfl (pc0 := 42) (pc' := 76) rfl (hb hby at_42) rfl ((if0 _ _).trans (feq (k0 : ¬ ((p1 &&& (3 : Int32)) = (0 : Int32)))).2) (by decide) (by decide) ?_
                show Steps p.tables e below (Tg4.setTop (mkF m 76 #[.val (.int p1), .val (.int p2), .val (.int p3), .val (.int p4), .val (.int p5), .val (.int (p1 &&& (3 : Int32))), .val (.int xa), .val (.int xb), .val (.int xc), .val (.int xd), .unset, .unset, .unset] [])) _
                refine XS.iload Xg4.here hx rfl (hb hby at_76) rfl ?_
                show Steps p.tables e below (Tg4.setTop (mkF m 78 #[.val (.int p1), .val (.int p2), .val (.int p3), .val (.int p4), .val (.int p5), .val (.int (p1 &&& (3 : Int32))), .val (.int xa), .val (.int xb), .val (.int xc), .val (.int xd), .unset, .unset, .unset] [(.int (p1 &&& (3 : Int32)))])) _
                refine XS.iconst Xg4.here hx rfl (hb hby at_78) ?_
                show Steps p.tables e below (Tg4.setTop (mkF m 79 #[.val (.int p1), .val (.int p2), .val (.int p3), .val (.int p4), .val (.int p5), .val (.int (p1 &&& (3 : Int32))), .val (.int xa), .val (.int xb), .val (.int xc), .val (.int xd), .unset, .unset, .unset] [(.int (1 : Int32)), (.int (p1 &&& (3 : Int32)))])) _
                refine XS.icmpYes Xg4.here hx rfl (pc0 := 79) (pc' := 161) rfl (hb hby at_79) rfl (feq (k1 : ¬ ((p1 &&& (3 : Int32)) = (1 : Int32)))).2 (by decide) (by decide) ?_
                show Steps p.tables e below (Tg4.setTop (mkF m 161 #[.val (.int p1), .val (.int p2), .val (.int p3), .val (.int p4), .val (.int p5), .val (.int (p1 &&& (3 : Int32))), .val (.int xa), .val (.int xb), .val (.int xc), .val (.int xd), .unset, .unset, .unset] [])) _
                refine XS.iload Xg4.here hx rfl (hb hby at_161) rfl ?_
                show Steps p.tables e below (Tg4.setTop (mkF m 163 #[.val (.int p1), .val (.int p2), .val (.int p3), .val (.int p4), .val (.int p5), .val (.int (p1 &&& (3 : Int32))), .val (.int xa), .val (.int xb), .val (.int xc), .val (.int xd), .unset, .unset, .unset] [(.int (p1 &&& (3 : Int32)))])) _
                refine XS.iconst Xg4.here hx rfl (hb hby at_163) ?_
                show Steps p.tables e below (Tg4.setTop (mkF m 164 #[.val (.int p1), .val (.int p2), .val (.int p3), .val (.int p4), .val (.int p5), .val (.int (p1 &&& (3 : Int32))), .val (.int xa), .val (.int xb), .val (.int xc), .val (.int xd), .unset, .unset, .unset] [(.int (2 : Int32)), (.int (p1 &&& (3 : Int32)))])) _
                refine XS.icmpYes Xg4.here hx rfl (pc0 := 164) (pc' := 311) rfl (hb hby at_164) rfl (feq (k2 : ¬ ((p1 &&& (3 : Int32)) = (2 : Int32)))).2 (by decide) (by decide) ?_
                exact st' _ kt
              · obtain ⟨T', l', pcr, Lr, sl, hsl, X', N', hd', st'⟩ := own_law_3_3 p1 p2 p3 p4 p5 (p1 &&& (3 : Int32)) xa xb xc xd hw Xg4 hx hZ hby hml hown qg4h Z0 Ng4 h32 h31 h30
                refine ⟨T', l', pcr, Lr, sl, hsl, X', N', hd', fun t kt => ?_⟩
                show Steps p.tables e below (Tg4.setTop (mkF m 40 #[.val (.int p1), .val (.int p2), .val (.int p3), .val (.int p4), .val (.int p5), .val (.int (p1 &&& (3 : Int32))), .val (.int xa), .val (.int xb), .val (.int xc), .val (.int xd), .unset, .unset, .unset] [])) _
                refine XS.iload Xg4.here hx rfl (hb hby at_40) rfl ?_
                show Steps p.tables e below (Tg4.setTop (mkF m 42 #[.val (.int p1), .val (.int p2), .val (.int p3), .val (.int p4), .val (.int p5), .val (.int (p1 &&& (3 : Int32))), .val (.int xa), .val (.int xb), .val (.int xc), .val (.int xd), .unset, .unset, .unset] [(.int (p1 &&& (3 : Int32)))])) _
                refine XS.ifYes Xg4.here hx rfl (pc0 := 42) (pc' := 76) rfl (hb hby at_42) rfl ((if0 _ _).trans (feq (k0 : ¬ ((p1 &&& (3 : Int32)) = (0 : Int32)))).2) (by decide) (by decide) ?_
                show Steps p.tables e below (Tg4.setTop (mkF m 76 #[.val (.int p1), .val (.int p2), .val (.int p3), .val (.int p4), .val (.int p5), .val (.int (p1 &&& (3 : Int32))), .val (.int xa), .val (.int xb), .val (.int xc), .val (.int xd), .unset, .unset, .unset] [])) _
                refine XS.iload Xg4.here hx rfl (hb hby at_76) rfl ?_
                show Steps p.tables e below (Tg4.setTop (mkF m 78 #[.val (.int p1), .val (.int p2), .val (.int p3), .val (.int p4), .val (.int p5), .val (.int (p1 &&& (3 : Int32))), .val (.int xa), .val (.int xb), .val (.int xc), .val (.int xd), .unset, .unset, .unset] [(.int (p1 &&& (3 : Int32)))])) _
                refine XS.iconst Xg4.here hx rfl (hb hby at_78) ?_
                show Steps p.tables e below (Tg4.setTop (mkF m 79 #[.val (.int p1), .val (.int p2), .val (.int p3), .val (.int p4), .val (.int p5), .val (.int (p1 &&& (3 : Int32))), .val (.int xa), .val (.int xb), .val (.int xc), .val (.int xd), .unset, .unset, .unset] [(.int (1 : Int32)), (.int (p1 &&& (3 : Int32)))])) _
                refine XS.icmpYes Xg4.here hx rfl (pc0 := 79) (pc' := 161) rfl (hb hby at_79) rfl (feq (k1 : ¬ ((p1 &&& (3 : Int32)) = (1 : Int32)))).2 (by decide) (by decide) ?_
                show Steps p.tables e below (Tg4.setTop (mkF m 161 #[.val (.int p1), .val (.int p2), .val (.int p3), .val (.int p4), .val (.int p5), .val (.int (p1 &&& (3 : Int32))), .val (.int xa), .val (.int xb), .val (.int xc), .val (.int xd), .unset, .unset, .unset] [])) _
                refine XS.iload Xg4.here hx rfl (hb hby at_161) rfl ?_
                show Steps p.tables e below (Tg4.setTop (mkF m 163 #[.val (.int p1), .val (.int p2), .val (.int p3), .val (.int p4), .val (.int p5), .val (.int (p1 &&& (3 : Int32))), .val (.int xa), .val (.int xb), .val (.int xc), .val (.int xd), .unset, .unset, .unset] [(.int (p1 &&& (3 : Int32)))])) _
                refine XS.iconst Xg4.here hx rfl (hb hby at_163) ?_
                show Steps p.tables e below (Tg4.setTop (mkF m 164 #[.val (.int p1), .val (.int p2), .val (.int p3), .val (.int p4), .val (.int p5), .val (.int (p1 &&& (3 : Int32))), .val (.int xa), .val (.int xb), .val (.int xc), .val (.int xd), .unset, .unset, .unset] [(.int (2 : Int32)), (.int (p1 &&& (3 : Int32)))])) _
                refine XS.icmpYes Xg4.here hx rfl (pc0 := 164) (pc' := 311) rfl (hb hby at_164) rfl (feq (k2 : ¬ ((p1 &&& (3 : Int32)) = (2 : Int32)))).2 (by decide) (by decide) ?_
                exact st' _ kt
  obtain ⟨fs, hr, hrun, hended, hW, hsame⟩ := XR.leave (v := some (.int (1 : Int32))) (fun h => by rw [Bd.returns] at h; cases h)
  refine ⟨_, _, pre0 _ ?_, hrun, hended, _, _, rfl, ?_, ⟨_, rfl⟩, hW, hsame.mono (by decide) hsl⟩
  · show Steps p.tables e below (s₁.setTop (mkF m 0 #[.val (.int p1), .val (.int p2), .val (.int p3), .val (.int p4), .val (.int p5), .unset, .unset, .unset, .unset, .unset, .unset, .unset, .unset] [])) _
    refine XS.iloadN X0.here hx rfl (hb hby at_0) rfl ?_
    show Steps p.tables e below (s₁.setTop (mkF m 1 #[.val (.int p1), .val (.int p2), .val (.int p3), .val (.int p4), .val (.int p5), .unset, .unset, .unset, .unset, .unset, .unset, .unset, .unset] [(.int p1)])) _
    refine XS.iconst X0.here hx rfl (hb hby at_1) ?_
    show Steps p.tables e below (s₁.setTop (mkF m 2 #[.val (.int p1), .val (.int p2), .val (.int p3), .val (.int p4), .val (.int p5), .unset, .unset, .unset, .unset, .unset, .unset, .unset, .unset] [(.int (3 : Int32)), (.int p1)])) _
    refine XS.iand X0.here hx rfl (hb hby at_2) rfl ?_
    show Steps p.tables e below (s₁.setTop (mkF m 3 #[.val (.int p1), .val (.int p2), .val (.int p3), .val (.int p4), .val (.int p5), .unset, .unset, .unset, .unset, .unset, .unset, .unset, .unset] [(.int (p1 &&& (3 : Int32)))])) _
    refine XS.istore X0.here hx rfl (hb hby at_3) rfl (l' := #[.val (.int p1), .val (.int p2), .val (.int p3), .val (.int p4), .val (.int p5), .val (.int (p1 &&& (3 : Int32))), .unset, .unset, .unset, .unset, .unset, .unset, .unset]) rfl ?_
    show Steps p.tables e below (s₁.setTop (mkF m 5 #[.val (.int p1), .val (.int p2), .val (.int p3), .val (.int p4), .val (.int p5), .val (.int (p1 &&& (3 : Int32))), .unset, .unset, .unset, .unset, .unset, .unset, .unset] [])) _
    refine XS.iloadN X0.here hx rfl (hb hby at_5) rfl ?_
    show Steps p.tables e below (s₁.setTop (mkF m 6 #[.val (.int p1), .val (.int p2), .val (.int p3), .val (.int p4), .val (.int p5), .val (.int (p1 &&& (3 : Int32))), .unset, .unset, .unset, .unset, .unset, .unset, .unset] [(.int p2)])) _
    refine stg1 _ ?_
    show Steps p.tables e below (Tg1.setTop (mkF m 9 #[.val (.int p1), .val (.int p2), .val (.int p3), .val (.int p4), .val (.int p5), .val (.int (p1 &&& (3 : Int32))), .unset, .unset, .unset, .unset, .unset, .unset, .unset] [(.int (own_gap p2))])) _
    rw [← hxa]
    show Steps p.tables e below (Tg1.setTop (mkF m 9 #[.val (.int p1), .val (.int p2), .val (.int p3), .val (.int p4), .val (.int p5), .val (.int (p1 &&& (3 : Int32))), .unset, .unset, .unset, .unset, .unset, .unset, .unset] [(.int xa)])) _
    refine XS.istore Xg1.here hx rfl (hb hby at_9) rfl (l' := #[.val (.int p1), .val (.int p2), .val (.int p3), .val (.int p4), .val (.int p5), .val (.int (p1 &&& (3 : Int32))), .val (.int xa), .unset, .unset, .unset, .unset, .unset, .unset]) rfl ?_
    show Steps p.tables e below (Tg1.setTop (mkF m 11 #[.val (.int p1), .val (.int p2), .val (.int p3), .val (.int p4), .val (.int p5), .val (.int (p1 &&& (3 : Int32))), .val (.int xa), .unset, .unset, .unset, .unset, .unset, .unset] [])) _
    refine XS.iload Xg1.here hx rfl (hb hby at_11) rfl ?_
    show Steps p.tables e below (Tg1.setTop (mkF m 13 #[.val (.int p1), .val (.int p2), .val (.int p3), .val (.int p4), .val (.int p5), .val (.int (p1 &&& (3 : Int32))), .val (.int xa), .unset, .unset, .unset, .unset, .unset, .unset] [(.int xa)])) _
    refine XS.iconst Xg1.here hx rfl (hb hby at_13) ?_
    show Steps p.tables e below (Tg1.setTop (mkF m 14 #[.val (.int p1), .val (.int p2), .val (.int p3), .val (.int p4), .val (.int p5), .val (.int (p1 &&& (3 : Int32))), .val (.int xa), .unset, .unset, .unset, .unset, .unset, .unset] [(.int (1 : Int32)), (.int xa)])) _
    refine XS.iadd Xg1.here hx rfl (hb hby at_14) rfl ?_
    show Steps p.tables e below (Tg1.setTop (mkF m 15 #[.val (.int p1), .val (.int p2), .val (.int p3), .val (.int p4), .val (.int p5), .val (.int (p1 &&& (3 : Int32))), .val (.int xa), .unset, .unset, .unset, .unset, .unset, .unset] [(.int (xa + (1 : Int32)))])) _
    refine XS.iloadN Xg1.here hx rfl (hb hby at_15) rfl ?_
    show Steps p.tables e below (Tg1.setTop (mkF m 16 #[.val (.int p1), .val (.int p2), .val (.int p3), .val (.int p4), .val (.int p5), .val (.int (p1 &&& (3 : Int32))), .val (.int xa), .unset, .unset, .unset, .unset, .unset, .unset] [(.int p3), (.int (xa + (1 : Int32)))])) _
    refine stg2 _ ?_
    show Steps p.tables e below (Tg2.setTop (mkF m 19 #[.val (.int p1), .val (.int p2), .val (.int p3), .val (.int p4), .val (.int p5), .val (.int (p1 &&& (3 : Int32))), .val (.int xa), .unset, .unset, .unset, .unset, .unset, .unset] [(.int (own_gap p3)), (.int (xa + (1 : Int32)))])) _
    refine XS.iadd Xg2.here hx rfl (hb hby at_19) rfl ?_
    show Steps p.tables e below (Tg2.setTop (mkF m 20 #[.val (.int p1), .val (.int p2), .val (.int p3), .val (.int p4), .val (.int p5), .val (.int (p1 &&& (3 : Int32))), .val (.int xa), .unset, .unset, .unset, .unset, .unset, .unset] [(.int ((xa + (1 : Int32)) + (own_gap p3)))])) _
    rw [← hxb]
    show Steps p.tables e below (Tg2.setTop (mkF m 20 #[.val (.int p1), .val (.int p2), .val (.int p3), .val (.int p4), .val (.int p5), .val (.int (p1 &&& (3 : Int32))), .val (.int xa), .unset, .unset, .unset, .unset, .unset, .unset] [(.int xb)])) _
    refine XS.istore Xg2.here hx rfl (hb hby at_20) rfl (l' := #[.val (.int p1), .val (.int p2), .val (.int p3), .val (.int p4), .val (.int p5), .val (.int (p1 &&& (3 : Int32))), .val (.int xa), .val (.int xb), .unset, .unset, .unset, .unset, .unset]) rfl ?_
    show Steps p.tables e below (Tg2.setTop (mkF m 22 #[.val (.int p1), .val (.int p2), .val (.int p3), .val (.int p4), .val (.int p5), .val (.int (p1 &&& (3 : Int32))), .val (.int xa), .val (.int xb), .unset, .unset, .unset, .unset, .unset] [])) _
    refine XS.iload Xg2.here hx rfl (hb hby at_22) rfl ?_
    show Steps p.tables e below (Tg2.setTop (mkF m 24 #[.val (.int p1), .val (.int p2), .val (.int p3), .val (.int p4), .val (.int p5), .val (.int (p1 &&& (3 : Int32))), .val (.int xa), .val (.int xb), .unset, .unset, .unset, .unset, .unset] [(.int xb)])) _
    refine XS.iconst Xg2.here hx rfl (hb hby at_24) ?_
    show Steps p.tables e below (Tg2.setTop (mkF m 25 #[.val (.int p1), .val (.int p2), .val (.int p3), .val (.int p4), .val (.int p5), .val (.int (p1 &&& (3 : Int32))), .val (.int xa), .val (.int xb), .unset, .unset, .unset, .unset, .unset] [(.int (1 : Int32)), (.int xb)])) _
    refine XS.iadd Xg2.here hx rfl (hb hby at_25) rfl ?_
    show Steps p.tables e below (Tg2.setTop (mkF m 26 #[.val (.int p1), .val (.int p2), .val (.int p3), .val (.int p4), .val (.int p5), .val (.int (p1 &&& (3 : Int32))), .val (.int xa), .val (.int xb), .unset, .unset, .unset, .unset, .unset] [(.int (xb + (1 : Int32)))])) _
    refine XS.iloadN Xg2.here hx rfl (hb hby at_26) rfl ?_
    show Steps p.tables e below (Tg2.setTop (mkF m 27 #[.val (.int p1), .val (.int p2), .val (.int p3), .val (.int p4), .val (.int p5), .val (.int (p1 &&& (3 : Int32))), .val (.int xa), .val (.int xb), .unset, .unset, .unset, .unset, .unset] [(.int p4), (.int (xb + (1 : Int32)))])) _
    refine stg3 _ ?_
    show Steps p.tables e below (Tg3.setTop (mkF m 30 #[.val (.int p1), .val (.int p2), .val (.int p3), .val (.int p4), .val (.int p5), .val (.int (p1 &&& (3 : Int32))), .val (.int xa), .val (.int xb), .unset, .unset, .unset, .unset, .unset] [(.int (own_gap p4)), (.int (xb + (1 : Int32)))])) _
    refine XS.iadd Xg3.here hx rfl (hb hby at_30) rfl ?_
    show Steps p.tables e below (Tg3.setTop (mkF m 31 #[.val (.int p1), .val (.int p2), .val (.int p3), .val (.int p4), .val (.int p5), .val (.int (p1 &&& (3 : Int32))), .val (.int xa), .val (.int xb), .unset, .unset, .unset, .unset, .unset] [(.int ((xb + (1 : Int32)) + (own_gap p4)))])) _
    rw [← hxc]
    show Steps p.tables e below (Tg3.setTop (mkF m 31 #[.val (.int p1), .val (.int p2), .val (.int p3), .val (.int p4), .val (.int p5), .val (.int (p1 &&& (3 : Int32))), .val (.int xa), .val (.int xb), .unset, .unset, .unset, .unset, .unset] [(.int xc)])) _
    refine XS.istore Xg3.here hx rfl (hb hby at_31) rfl (l' := #[.val (.int p1), .val (.int p2), .val (.int p3), .val (.int p4), .val (.int p5), .val (.int (p1 &&& (3 : Int32))), .val (.int xa), .val (.int xb), .val (.int xc), .unset, .unset, .unset, .unset]) rfl ?_
    show Steps p.tables e below (Tg3.setTop (mkF m 33 #[.val (.int p1), .val (.int p2), .val (.int p3), .val (.int p4), .val (.int p5), .val (.int (p1 &&& (3 : Int32))), .val (.int xa), .val (.int xb), .val (.int xc), .unset, .unset, .unset, .unset] [])) _
    refine XS.iload Xg3.here hx rfl (hb hby at_33) rfl ?_
    show Steps p.tables e below (Tg3.setTop (mkF m 35 #[.val (.int p1), .val (.int p2), .val (.int p3), .val (.int p4), .val (.int p5), .val (.int (p1 &&& (3 : Int32))), .val (.int xa), .val (.int xb), .val (.int xc), .unset, .unset, .unset, .unset] [(.int p5)])) _
    refine stg4 _ ?_
    show Steps p.tables e below (Tg4.setTop (mkF m 38 #[.val (.int p1), .val (.int p2), .val (.int p3), .val (.int p4), .val (.int p5), .val (.int (p1 &&& (3 : Int32))), .val (.int xa), .val (.int xb), .val (.int xc), .unset, .unset, .unset, .unset] [(.int (own_gap p5))])) _
    rw [← hxd]
    show Steps p.tables e below (Tg4.setTop (mkF m 38 #[.val (.int p1), .val (.int p2), .val (.int p3), .val (.int p4), .val (.int p5), .val (.int (p1 &&& (3 : Int32))), .val (.int xa), .val (.int xb), .val (.int xc), .unset, .unset, .unset, .unset] [(.int xd)])) _
    refine XS.istore Xg4.here hx rfl (hb hby at_38) rfl (l' := #[.val (.int p1), .val (.int p2), .val (.int p3), .val (.int p4), .val (.int p5), .val (.int (p1 &&& (3 : Int32))), .val (.int xa), .val (.int xb), .val (.int xc), .val (.int xd), .unset, .unset, .unset]) rfl ?_
    refine stR _ ?_
    exact retN XR hx (t := .boolean) Bd.returns (by simp) hdR hr
  · show Q0 Z p1 p2 p3 p4 p5 h0 n0 _ TR.heap _
    exact ⟨rfl, NR⟩
set_option maxRecDepth 65536 in
set_option maxHeartbeats 40000000 in
theorem comes_1 {Post : Tables → Env → Array Value → State → Outcome → State → Prop} (hpost : ∀ tb e args s v u, (limb_1_1.after args s (.returned v) u = true ∧ limb_1_2.after args s (.returned v) u = true ∧ True) → FrameEnd s (.returned v) u (Jvm.fieldLocs frame_1_writes args s ++ Jvm.arrayLocs frame_1_arrays args s ++ Jvm.staticLocs frame_1_statics s) 16 128 → Post tb e args s (.returned v) u) :
    ArmFor flags0 classFile x code maxLocals ret World_1 tables_1 room_1 Calls_1 rest_1 Pre_1 Post := by
  intro l hfl _ _ p e ha hc hk s m args below hf hA hF happ hP
  obtain ⟨hcalls, hrest, hpre⟩ := hP
  obtain ⟨-, -, -, hnamed, -, -, -, hat⟩ := (Spec.applies_iff hf).mp happ
  obtain ⟨hg, hn⟩ := and_e (Cond.before_iff.mp (show (Jvm.Cond.and given_1 narrow_1).before args s = true from hpre))
  obtain ⟨gc, gr0⟩ := and_e hg
  obtain ⟨gi0, gr1⟩ := and_e gr0
  obtain ⟨gi1, gr2⟩ := and_e gr1
  obtain ⟨gi2, gr3⟩ := and_e gr2
  obtain ⟨gi3, gr4⟩ := and_e gr3
  have gi4 := gr4
  obtain ⟨w0, w1, w2, w3, w4, rfl⟩ : ∃ w0 w1 w2 w3 w4 : Value, args = #[w0, w1, w2, w3, w4] := by
    have hs : args.size = 5 := by simpa [Cond.value, given_1] using gc
    obtain ⟨L⟩ := args
    match L, hs with
    | [w0, w1, w2, w3, w4], _ => exact ⟨w0, w1, w2, w3, w4, rfl⟩
  have hw := fun d (hd : d ∈ tables_1) => atoms_spec (ws := Jvm.Cond.code x code maxLocals ret :: tables_1) hat d (List.mem_cons_of_mem _ hd)
  obtain ⟨i0, ei0⟩ := is_v gi0
  obtain rfl : w0 = (.int i0) := Option.some.inj ei0
  obtain ⟨i1, ei1⟩ := is_v gi1
  obtain rfl : w1 = (.int i1) := Option.some.inj ei1
  obtain ⟨i2, ei2⟩ := is_v gi2
  obtain rfl : w2 = (.int i2) := Option.some.inj ei2
  obtain ⟨i3, ei3⟩ := is_v gi3
  obtain rfl : w3 = (.int i3) := Option.some.inj ei3
  obtain ⟨i4, ei4⟩ := is_v gi4
  obtain rfl : w4 = (.int i4) := Option.some.inj ei4
  obtain ⟨n, o, h1, h2, h3, _, L, rfl, ⟨rfl, N⟩, hq⟩ := rm0 l s _ hw tables_1 i0 i1 i2 i3 i4 s.heap s.heap.size (Nat.le_refl _) p e ha hc hk s m _ below hf ((Spec.applies_iff_loose hf).mp happ).1 ⟨rfl, State.Warmed39.refl s, rfl⟩ trivial
  refine ⟨n, _, h1, h2, h3, hpost _ _ _ _ _ _ ⟨Cond.after_iff.mpr rfl, Cond.after_iff.mpr (eq_i res_at (Term.int_eval (1)) rfl), trivial⟩ ⟨hq.1, hq.2.1, (hq.2.2.sift fun y hy => Or.inr (N y hy)).mono (by decide) (by decide)⟩⟩
theorem main_1_1 : Claimed_1_1 := comes_1 fun _ _ _ _ _ _ h hF => ⟨h.1, hF⟩
theorem main_1_2 : Claimed_1_2 := comes_1 fun _ _ _ _ _ _ h hF => ⟨h.2.1, hF⟩
end Jvm.Pilot.@@N@@
namespace Jvm.Pilot.@@N@@
open Jvm Jvm.ClassFile Sem Op Lib Jvm.Free Jvm.Stand Jvm.Pilot.@@N@@.Jvm.D
/-! MADE BY PROGRAM (witnessworld.py) out of the Statement's table words and the real class files: 9 classes; the members and pool entries that the words name. The judged class is class 1, her method 2. -/
namespace start1
open Jvm.ClassFile
def u (s : String) : CpInfo := .utf8 (stringToUtf16 s)
/-- a pool by its gaps: so many unusable entries, then the entry; so many at the end -/
def gap : Nat → List CpInfo → List CpInfo
  | 0, r => r
  | n + 1, r => .unusable :: gap n r
def poolList (es : List (Nat × CpInfo)) (last : Nat) : List CpInfo := es.foldr (fun e r => gap e.1 (e.2 :: r)) (gap last [])
def pool (es : List (Nat × CpInfo)) (last : Nat) : Array CpInfo := ⟨poolList es last⟩
def fileOf (pool : Array CpInfo) (this : Nat) (attrs : Array Attribute := #[]) (ms : Array MethodInfo := #[]) (fl : Nat := 33) (sup : Nat := 0) (ifs : Array Nat := #[]) (fds : Array FieldInfo := #[]) : ClassFile where
  minorVersion := 0
  majorVersion := 65
  constantPool := pool
  accessFlags := fl
  thisClass := this
  superClass := sup
  interfaces := ifs
  fields := fds
  methods := ms
  attributes := attrs
def plain (name : String) (sup : Option ClassId) : Class where
  name := name
  kind := .ordinary
  loader := none
  accessFlags := 33
  super := sup
  interfaces := #[]
  cf := none
  fields := #[]
  methods := #[]
  instanceTypes := #[]
  staticTypes := #[]
  resolved := #[]
  callSites := []
  init := .initialized
  statics := none
  mirror := none

def pool0 : Array CpInfo := pool [(5, u "<init>"), (0, u "()V"), (1, .class_ 10), (1, u "java/lang/Object")] 113

def k0m0 : Method := { name := "<init>", desc := "()V", sig := { parameters := [], returnType := none }, accessFlags := 1, code := none }
/-- java/lang/Object -/
def k0 : Class := { plain "java/lang/Object" none with
  accessFlags := 33
  interfaces := #[]
  cf := some (fileOf pool0 8 #[] #[{ accessFlags := 1, nameIndex := 5, descriptorIndex := 6, attributes := #[] }] 33 0 #[] #[])
  fields := #[]
  methods := #[k0m0]
  instanceTypes := #[]
  staticTypes := #[]
  resolved := Array.replicate 124 none
  statics := none }

def pool1 : Array CpInfo := pool [(2, .class_ 4), (1, u "java/lang/Object"), (0, u "<init>"), (0, u "()V"), (0, .integer 268435455), (0, .methodref 9 10), (0, .class_ 11), (0, .nameAndType 12 13), (0, u "com/example/ashlar/ashlar/storage/SubsetsNextPinLaw"), (0, u "gap"), (0, u "(I)I"), (0, .methodref 15 16), (0, .class_ 17), (0, .nameAndType 18 19), (0, u "com/example/ashlar/ashlar/storage/Subsets"), (0, u "next"), (0, u "([II)Z"), (3, u "law"), (0, u "(IIIII)Z")] 4

def k1m0 : Method := { name := "<init>", desc := "()V", sig := { parameters := [], returnType := none }, accessFlags := 2, code := none }
def k1c1 : Code := { maxStack := 2, maxLocals := 1, code := method_2_code, exceptionTable := #[], attributes := #[] }
def k1m1 : Method := { name := "gap", desc := "(I)I", sig := { parameters := [.int], returnType := some .int }, accessFlags := 10, code := some k1c1 }
def k1c2 : Code := { maxStack := 4, maxLocals := 13, code := code, exceptionTable := #[], attributes := #[] }
def k1m2 : Method := { name := "law", desc := "(IIIII)Z", sig := { parameters := [.int, .int, .int, .int, .int], returnType := some .boolean }, accessFlags := 9, code := some k1c2 }
/-- com/example/ashlar/ashlar/storage/SubsetsNextPinLaw -/
def k1 : Class := { plain "com/example/ashlar/ashlar/storage/SubsetsNextPinLaw" (some 0) with
  accessFlags := 49
  interfaces := #[]
  cf := some (fileOf pool1 9 #[] #[{ accessFlags := 2, nameIndex := 5, descriptorIndex := 6, attributes := #[] }, { accessFlags := 10, nameIndex := 12, descriptorIndex := 13, attributes := #[] }, { accessFlags := 9, nameIndex := 23, descriptorIndex := 24, attributes := #[] }] 49 2 #[] #[])
  fields := #[]
  methods := #[k1m0, k1m1, k1m2]
  instanceTypes := #[]
  staticTypes := #[]
  resolved := Array.replicate 29 none
  statics := none }

def pool2 : Array CpInfo := pool [(2, .class_ 4), (1, u "java/lang/Object"), (0, u "<init>"), (0, u "()V"), (10, .class_ 18), (0, u "com/example/ashlar/ashlar/storage/Subsets"), (4, u "next"), (0, u "([II)Z")] 3

def k2m0 : Method := { name := "<init>", desc := "()V", sig := { parameters := [], returnType := none }, accessFlags := 2, code := none }
def k2c1 : Code := { maxStack := 5, maxLocals := 4, code := prog_78_method_3_code, exceptionTable := #[], attributes := #[] }
def k2m1 : Method := { name := "next", desc := "([II)Z", sig := { parameters := [(.array .int), .int], returnType := some .boolean }, accessFlags := 8, code := some k2c1 }
/-- com/example/ashlar/ashlar/storage/Subsets -/
def k2 : Class := { plain "com/example/ashlar/ashlar/storage/Subsets" (some 0) with
  accessFlags := 48
  interfaces := #[]
  cf := some (fileOf pool2 17 #[] #[{ accessFlags := 2, nameIndex := 5, descriptorIndex := 6, attributes := #[] }, { accessFlags := 8, nameIndex := 23, descriptorIndex := 24, attributes := #[] }] 48 2 #[] #[])
  fields := #[]
  methods := #[k2m0, k2m1]
  instanceTypes := #[]
  staticTypes := #[]
  resolved := Array.replicate 28 none
  statics := none }

def pool3 : Array CpInfo := pool [(1, u "java/lang/Cloneable"), (0, .class_ 1), (0, u "java/lang/Object"), (0, .class_ 3)] 3

/-- java/lang/Cloneable -/
def k3 : Class := { plain "java/lang/Cloneable" (some 0) with
  accessFlags := 1537
  interfaces := #[]
  cf := some (fileOf pool3 2 #[] #[] 1537 4 #[] #[])
  fields := #[]
  methods := #[]
  instanceTypes := #[]
  staticTypes := #[]
  resolved := Array.replicate 8 none
  statics := none }

def pool4 : Array CpInfo := pool [(1, u "java/io/Serializable"), (0, .class_ 1), (0, u "java/lang/Object"), (0, .class_ 3)] 3

/-- java/io/Serializable -/
def k4 : Class := { plain "java/io/Serializable" (some 0) with
  accessFlags := 1537
  interfaces := #[]
  cf := some (fileOf pool4 2 #[] #[] 1537 4 #[] #[])
  fields := #[]
  methods := #[]
  instanceTypes := #[]
  staticTypes := #[]
  resolved := Array.replicate 8 none
  statics := none }

/-- the primitive byte -/
def k5 : Class := { plain "byte" none with kind := .primitive 'B', accessFlags := 0x411 }
/-- [B -/
def k6 : Class := { plain "[B" (some 0) with kind := .array 5 .byte, interfaces := #[3, 4], accessFlags := 1041 }

/-- the primitive int -/
def k7 : Class := { plain "int" none with kind := .primitive 'I', accessFlags := 0x411 }
/-- [I -/
def k8 : Class := { plain "[I" (some 0) with kind := .array 7 .int, interfaces := #[3, 4], accessFlags := 1041 }

def heap : Heap := #[]
def classes : Array Class := #[k0, k1, k2, k3, k4, k5, k6, k7, k8]
def interned : List (Array UInt16 × Addr) := []
def slotsUsed : Nat := 0
def theMethod : MethodId := ⟨1, 2⟩
def args0 : Array Value := #[.int 3, .int 2, .int 5, .int 9, .int 4]
def aboutOver (below : List Frame) : State where
  vm := { classes := classes, interned := interned.toArray }
  heap := heap
  slotsUsed := slotsUsed
  threads := #[{ frames := .invoking theMethod args0 :: below }]
def below0 : List Frame := [.native { method := ⟨0, 0⟩, args := #[] }]
def about1 : State := aboutOver below0
def p0 : Program := .bare "" "" ""
def e0 : Env := launch0.env 0 0 0
theorem w_frames : about1.frames = Frame.invoking theMethod args0 :: below0 := rfl
set_option maxRecDepth 65536 in
theorem w_args : argsFit about1.vm theMethod args0 = true := by decide +kernel
set_option maxRecDepth 65536 in
theorem w_heap : heapFits about1 = true := by decide +kernel
set_option maxRecDepth 65536 in
theorem w_runnable : about1.curStatus? = some .runnable := by decide +kernel
set_option maxRecDepth 65536 in
theorem w_alone : about1.alone = true := by decide +kernel
set_option maxRecDepth 65536 in
theorem w_named : about1.methodNamed? x = some theMethod := by decide +kernel
set_option maxRecDepth 65536 in
theorem w_hears : about1.hears theMethod below0 = true := by decide +kernel
set_option maxRecDepth 65536 in
theorem w_ripe : about1.ripe theMethod args0 below0 = true := by decide +kernel
theorem w_running : about1.status = .running := rfl
set_option maxRecDepth 65536 in
theorem w_room : about1.hasRoom e0.platform room_1 = true :=
  launch0.hasRoom_least _ room_1 (by decide +kernel) (by decide +kernel) (by decide +kernel) (by decide +kernel) (by decide +kernel) (by decide +kernel)
theorem allAtoms_all (ts : List Jvm.Cond) (a : Array Jvm.Value) (st : Jvm.State) : (allAtoms ts).before a st = ts.all (fun c => c.before a st) := by
  induction ts with
  | nil => rfl
  | cons c t ih =>
    show (Jvm.Cond.and c (allAtoms t)).before a st = _
    rw [Jvm.Cond.before_and, ih, List.all_cons]
def words1 : List Jvm.Cond := Jvm.Cond.code x code maxLocals ret :: tables_1
/-- a 'code' word, met by the world's own term for the bytes: nothing is compared byte by byte -/
theorem code_word {y : MethodName} {bytes : ByteArray} {mx : Nat} {rt : Option FieldType} {a : Array Value} {s : State} {m : MethodId} {meth : Method} {c : Code} (h1 : s.methodNamed? y = some m) (h2 : s.vm.method? m = some meth) (h3 : meth.code = some c) (h4 : c.code = bytes)
    (h5 : (c.maxLocals == mx && c.exceptionTable.isEmpty && decide (c.maxStack ≤ mostOperands) && decide (meth.sig.returnType = rt) && !meth.locks && decide (parseMethodDescriptor y.desc = some meth.sig)) = true) : (Jvm.Cond.code y bytes mx rt).before a s = true := by
  simp only [Bool.and_eq_true, beq_iff_eq, Bool.not_eq_true', decide_eq_true_eq] at h5
  obtain ⟨⟨⟨⟨⟨g1, g2⟩, g3⟩, g4⟩, g5⟩, g6⟩ := h5
  simp [Cond.before, Cond.holds, Cond.value, h1, h2, h3, h4, g1, g2, g3, g4, g5, g6]
def isCode : Jvm.Cond → Bool
  | .code _ _ _ _ => true
  | _ => false
theorem all_split {L : List Jvm.Cond} {P : Jvm.Cond → Bool} (h1 : L.all (fun c => isCode c || P c) = true) (h2 : ∀ c ∈ L.filter isCode, P c = true) : L.all P = true := by
  refine List.all_eq_true.mpr fun c hc => ?_
  have h := List.all_eq_true.mp h1 c hc
  rcases Bool.eq_false_or_eq_true (isCode c) with hi | hi
  · exact h2 c (List.mem_filter.mpr ⟨hc, hi⟩)
  · simpa [hi] using h
set_option maxRecDepth 65536 in
theorem w_c0 : (Jvm.Cond.code x code maxLocals ret).before args0 about1 = true := code_word (m := ⟨1, 2⟩) (meth := k1m2) (c := k1c2) (by decide +kernel) rfl rfl rfl (by decide +kernel)
set_option maxRecDepth 65536 in
theorem w_c1 : (Jvm.Cond.code ({ cls := "com/example/ashlar/ashlar/storage/SubsetsNextPinLaw", name := "gap", desc := "(I)I" } : Jvm.MethodName) method_2_code (1 : Nat) (Option.some Jvm.ClassFile.FieldType.int)).before args0 about1 = true := code_word (m := ⟨1, 1⟩) (meth := k1m1) (c := k1c1) (by decide +kernel) rfl rfl rfl (by decide +kernel)
set_option maxRecDepth 65536 in
theorem w_c2 : (Jvm.Cond.code ({ cls := "com/example/ashlar/ashlar/storage/Subsets", name := "next", desc := "([II)Z" } : Jvm.MethodName) prog_78_method_3_code (4 : Nat) (Option.some Jvm.ClassFile.FieldType.boolean)).before args0 about1 = true := code_word (m := ⟨2, 1⟩) (meth := k2m1) (c := k2c1) (by decide +kernel) rfl rfl rfl (by decide +kernel)
def codes1 : List Jvm.Cond := [Jvm.Cond.code x code maxLocals ret, Jvm.Cond.code ({ cls := "com/example/ashlar/ashlar/storage/SubsetsNextPinLaw", name := "gap", desc := "(I)I" } : Jvm.MethodName) method_2_code (1 : Nat) (Option.some Jvm.ClassFile.FieldType.int), Jvm.Cond.code ({ cls := "com/example/ashlar/ashlar/storage/Subsets", name := "next", desc := "([II)Z" } : Jvm.MethodName) prog_78_method_3_code (4 : Nat) (Option.some Jvm.ClassFile.FieldType.boolean)]
set_option maxRecDepth 65536 in
theorem codes_eq : words1.filter isCode = codes1 := rfl
theorem w_codes : ∀ c ∈ words1.filter isCode, c.before args0 about1 = true := by
  rw [codes_eq]
  intro c hc
  simp only [codes1, List.mem_cons, List.not_mem_nil, or_false] at hc
  rcases hc with rfl | rfl | rfl
  · exact w_c0
  · exact w_c1
  · exact w_c2
set_option maxRecDepth 65536 in
theorem w_t1 : words1.all (fun c => isCode c || c.before args0 about1) = true := by decide +kernel
theorem w_tables : (allAtoms (Jvm.Cond.code x code maxLocals ret :: tables_1)).before args0 about1 = true := by
  rw [allAtoms_all]
  show words1.all (fun c => c.before args0 about1) = true
  refine all_split ?_ w_codes
  rw [w_t1]
set_option maxRecDepth 65536 in
theorem w_case : (Jvm.Cond.and given_1 narrow_1).before args0 about1 = true := by decide +kernel
theorem w_applies : (headSpec (Jvm.Cond.code x code maxLocals ret :: tables_1) room_1).applies x e0.platform about1 = true :=
  (Spec.applies_iff w_frames).mpr ⟨w_running, w_runnable, w_alone, w_named, w_hears, w_ripe, w_room, w_tables⟩
theorem atStart : AtStart classFile x code maxLocals ret World_1 tables_1 room_1 Calls_1 rest_1 Pre_1 launch0 p0 e0 about1 theMethod args0 below0 :=
  ⟨lists_1, trivial, launch0.admits_env _ _ _, launch0.least_env, fairChoices_fair.cas, fairChoices_fair.clock, w_frames, w_args, w_heap, w_applies, trivial, trivial, w_case⟩
end start1
theorem witness_1 : WitnessClaimed_1 := ⟨start1.p0, start1.e0, start1.about1, start1.theMethod, start1.args0, start1.below0, start1.atStart⟩
end Jvm.Pilot.@@N@@
