import JvmDerived
import JvmDerived.Pilot.@@N@@Statement
import JvmDerived.Pilot.@@N@@Code
set_option linter.unusedVariables false
set_option linter.unusedSimpArgs false
namespace Jvm.RoadKit
open Sem ClassFile Op Lib Jvm.Stand Jvm.Free Jvm.LawKit
section New
variable {p : Program} {l : Launch} {e : Env} {R : Room} {s : State} {m : MethodId} {args : Array Value} {below : List Frame} {meth : Method} {c : Code} {T : State} {locs : List Loc} {cells slots : Nat}
theorem retI (X : Stand p l e R s m args below meth c T locs cells slots) (hx : p.tables.exec = Jvm.exec) {pc : Nat} {Ls : Array Slot} {z : Int32} {rest : List Value} (hret : meth.sig.returnType = some .int) (hd : decode c.code pc = .ok (.ireturn, 1)) {fs : List Frame}
    (hl : ∀ (f : JFrame) (acts : List Action), f.method = m → f.locked = none → f.entered = [] → (doReturn e (T.setTop f) acts (some (.int z))).1 = T.setFrames fs) : Steps p.tables e below (T.setTop (mkF m pc Ls (.int z :: rest))) (T.setFrames fs) := by
  have hm' : T.vm.method? m = some meth := X.method'
  have hn : narrow .int (.int z) = .int z := rfl
  show Steps p.tables e below (T.setTop { method := m, pc := pc, locals := Ls, stack := _ :: rest, locked := none }) _
  jvm_step X.here [X.here.top, hx, hd, hm', hret, hn]
  first | (intro acts; rw [hl _ acts rfl rfl rfl]) | rw [hl _ _ rfl rfl rfl]
  exact Steps.refl _
end New
end Jvm.RoadKit
namespace Jvm.Pilot.@@N@@
open Jvm Jvm.ClassFile Sem Op Lib Jvm.Free Jvm.Stand Jvm.LawKit Jvm.RoadKit Bundle Jvm.Pilot.@@N@@.Jvm.D

section Own
variable {p : Program} {l : Launch} {e : Env} {R : Room} {s : State} {m : MethodId} {args : Array Value} {below : List Frame} {meth : Method} {c : Code} {T : State} {locs : List Loc} {cells slots : Nat} {Z : State} {h : Heap} {a : Addr} {k : ClassId} {n : Int32} {vs : List Value} {dv : Value}
theorem own_in {cl : Cell} {j : Int32} {i : Nat} (S : cl.slots.size = n.toNatClampNeg) (hj0 : ¬ j < 0) (hji : j.toNatClampNeg = i) (hin : i < n.toNatClampNeg) : ¬ (j < 0 ∨ cl.slots.size ≤ j.toNatClampNeg) := by
  rw [S, hji]; exact fun q => q.elim hj0 (fun q => absurd hin (Nat.not_lt.mpr q))
theorem own_ild (X : Stand p l e R s m args below meth c T locs cells slots) (hx : p.tables.exec = Jvm.exec) (hZ : Z.Warmed39 s.vm) (eT : T.heap = h) (A : Arv Z h a k .int n vs dv) {j w : Int32} (i : Nat) (hj0 : ¬ j < 0) (hji : j.toNatClampNeg = i) (hin : i < n.toNatClampNeg) (hw : vs.getD i dv = .int w)
    {g : JFrame} (hg : g.method = m) {rest : List Value} (hs : g.stack = .int j :: .ref a :: rest) (hd : decode c.code g.pc = .ok (.iaload, 1)) : ∀ target, Steps p.tables e below (T.setTop { g with pc := g.pc + 1, stack := .int w :: rest }) target → Steps p.tables e below (T.setTop g) target := by
  obtain ⟨cl, Ar, -, S, -, H, -⟩ := A
  have hat : cl.slots[j.toNatClampNeg]? = some (.int w) := by rw [hji, H i (by rw [S]; exact hin), hw]
  exact X.iaload hx (j := j) (v := .int w) (by rw [eT]; exact Ar.1) (State.isArrayOf_alike hZ.alike Ar.2.1) Ar.2.2 (own_in S hj0 hji hin) hat hg hs hd
theorem own_len (X : Stand p l e R s m args below meth c T locs cells slots) (hx : p.tables.exec = Jvm.exec) (hZ : Z.Warmed39 s.vm) (eT : T.heap = h) {ty : FieldType} (A : Arv Z h a k ty n vs dv)
    {g : JFrame} (hg : g.method = m) {rest : List Value} (hs : g.stack = .ref a :: rest) (hd : decode c.code g.pc = .ok (.arraylength, 1)) : ∀ target, Steps p.tables e below (T.setTop { g with pc := g.pc + 1, stack := .int n :: rest }) target → Steps p.tables e below (T.setTop g) target := by
  obtain ⟨cl, Ar, -, S, N, H, -⟩ := A
  have q := X.arraylength hx (by rw [eT]; exact Ar.1) (State.isArrayOf_alike hZ.alike Ar.2.1) hg hs hd
  rw [len_of S N] at q
  exact q
theorem own_ist (X : Stand p l e R s m args below meth c T locs cells slots) (hx : p.tables.exec = Jvm.exec) (hZ : Z.Warmed39 s.vm) (eT : T.heap = h) (A : Arv Z h a k .int n vs dv) {j x : Int32} (i : Nat) (hj0 : ¬ j < 0) (hji : j.toNatClampNeg = i) (hin : i < n.toNatClampNeg) (hi : i < vs.length)
    {g : JFrame} (hg : g.method = m) {rest : List Value} (hs : g.stack = .int x :: .int j :: .ref a :: rest) (hd : decode c.code g.pc = .ok (.iastore, 1)) :
    ∃ T' h', Stand p l e R s m args below meth c T' (locs ++ [⟨a, j.toNatClampNeg⟩]) cells slots ∧ T'.heap = h' ∧ Wr h h' a j.toNatClampNeg (.int x) ∧ Arv Z h' a k .int n (vs.set i (.int x)) dv ∧ ∀ target, Steps p.tables e below (T'.setTop { g with pc := g.pc + 1, stack := rest }) target → Steps p.tables e below (T.setTop g) target := by
  obtain ⟨cl, Ar, q1, S, N, H, G⟩ := A
  obtain ⟨T', h', X', e', W', st⟩ := stI X hx hZ eT Ar (j := j) (own_in S hj0 hji hin) hg hs hd
  exact ⟨T', h', X', e', W', Arv.set Ar q1 S N H G rfl W' i hji hi, st⟩
end Own

def own_big : Nat → Int32
  | 0 => 0
  | k + 1 => own_big k * 10 + 9
def own_vs : List Value := [.int 0, .int 9, .int 99, .int 999, .int 9999, .int 99999, .int 999999, .int 9999999, .int 99999999, .int 999999999]
theorem own_at : ∀ m, m < 10 → own_vs.getD m (.int 0) = .int (own_big m) := by decide
theorem own_nat {k : Nat} (h : k < 2 ^ 31) : (Int32.ofNat k).toInt = (k : Int) := Int32.toInt_ofNat_of_lt h
theorem own_ilt {i n : Nat} (hi : i < 2 ^ 31) (hn : n < 2 ^ 31) : Int32.ofNat i < Int32.ofNat n ↔ i < n := by
  rw [Int32.lt_iff_toInt_lt, own_nat hi, own_nat hn]; omega
theorem own_up (i : Nat) : Int32.ofNat i + 1 = Int32.ofNat (i + 1) := (Int32.ofNat_add i 1).symm
theorem own_tn {k : Nat} (h : k < 2 ^ 31) : (Int32.ofNat k).toNatClampNeg = k := by
  show (Int32.ofNat k).toInt.toNat = k
  rw [own_nat h]; omega
theorem own_count (x : Int32) : ∃ n, n < 10 ∧ (x &&& 2147483647) % 10 = Int32.ofNat n := by
  have h0 : 0 ≤ (x &&& 2147483647).toInt := (c_and x 2147483647 (by decide)).1
  have h1 : ((x &&& 2147483647) % 10).toInt = (x &&& 2147483647).toInt % 10 := (c_irem (x &&& 2147483647) 10 10 (by decide)).1 h0
  refine ⟨((x &&& 2147483647) % 10).toInt.toNat, by omega, ?_⟩
  apply Int32.toInt_inj.mp
  rw [own_nat (by omega)]
  omega

theorem d1_0 : decode prog_36_method_21_code 0 = .ok (.iconst 0, 1) := by decide +kernel
theorem d1_1 : decode prog_36_method_21_code 1 = .ok (.istore_n 1, 1) := by decide +kernel
theorem d1_2 : decode prog_36_method_21_code 2 = .ok (.iconst 0, 1) := by decide +kernel
theorem d1_3 : decode prog_36_method_21_code 3 = .ok (.istore_n 2, 1) := by decide +kernel
theorem d1_4 : decode prog_36_method_21_code 4 = .ok (.iload_n 2, 1) := by decide +kernel
theorem d1_5 : decode prog_36_method_21_code 5 = .ok (.iload_n 0, 1) := by decide +kernel
theorem d1_6 : decode prog_36_method_21_code 6 = .ok (.if_icmp .ge 17, 3) := by decide +kernel
theorem d1_9 : decode prog_36_method_21_code 9 = .ok (.iload_n 1, 1) := by decide +kernel
theorem d1_10 : decode prog_36_method_21_code 10 = .ok (.bipush 10, 2) := by decide +kernel
theorem d1_12 : decode prog_36_method_21_code 12 = .ok (.imul, 1) := by decide +kernel
theorem d1_13 : decode prog_36_method_21_code 13 = .ok (.bipush 9, 2) := by decide +kernel
theorem d1_15 : decode prog_36_method_21_code 15 = .ok (.iadd, 1) := by decide +kernel
theorem d1_16 : decode prog_36_method_21_code 16 = .ok (.istore_n 1, 1) := by decide +kernel
theorem d1_17 : decode prog_36_method_21_code 17 = .ok (.iinc 2 1, 3) := by decide +kernel
theorem d1_20 : decode prog_36_method_21_code 20 = .ok (.goto (-16), 3) := by decide +kernel
theorem d1_23 : decode prog_36_method_21_code 23 = .ok (.iload_n 1, 1) := by decide +kernel
theorem d1_24 : decode prog_36_method_21_code 24 = .ok (.ireturn, 1) := by decide +kernel
set_option maxRecDepth 65536 in
set_option maxHeartbeats 4000000 in
theorem own_loop {p : Program} {l : Launch} {e : Env} {R : Room} {s : State} {m : MethodId} {args : Array Value} {below : List Frame} {meth : Method} {c : Code} {T : State} {locs : List Loc} {cells slots : Nat} (X : Stand p l e R s m args below meth c T locs cells slots) (hx : p.tables.exec = Jvm.exec) (hby : c.code = prog_36_method_21_code) (n : Nat) (hn : n < 2 ^ 31) (target : State)
    (kt : Steps p.tables e below (T.setTop (mkF m 23 #[.val (.int (Int32.ofNat n)), .val (.int (own_big n)), .val (.int (Int32.ofNat n))] [])) target) :
    ∀ k i, i + k = n → Steps p.tables e below (T.setTop (mkF m 4 #[.val (.int (Int32.ofNat n)), .val (.int (own_big i)), .val (.int (Int32.ofNat i))] [])) target := by
  intro k
  induction k with
  | zero =>
    intro i hi
    obtain rfl : i = n := by omega
    show Steps p.tables e below (T.setTop (mkF m 4 #[.val (.int (Int32.ofNat i)), .val (.int (own_big i)), .val (.int (Int32.ofNat i))] [])) _
    refine XS.iloadN X.here hx rfl (hb hby d1_4) rfl ?_
    show Steps p.tables e below (T.setTop (mkF m 5 #[.val (.int (Int32.ofNat i)), .val (.int (own_big i)), .val (.int (Int32.ofNat i))] [(.int (Int32.ofNat i))])) _
    refine XS.iloadN X.here hx rfl (hb hby d1_5) rfl ?_
    show Steps p.tables e below (T.setTop (mkF m 6 #[.val (.int (Int32.ofNat i)), .val (.int (own_big i)), .val (.int (Int32.ofNat i))] [(.int (Int32.ofNat i)), (.int (Int32.ofNat i))])) _
    refine XS.icmpYes X.here hx rfl (pc0 := 6) (pc' := 23) rfl (hb hby d1_6) rfl (flt (fun q => absurd ((own_ilt hn hn).mp q) (Nat.lt_irrefl _) : ¬ ((Int32.ofNat i) < (Int32.ofNat i)))).2.1 (by decide) (by decide) ?_
    exact kt
  | succ k ih =>
    intro i hi
    show Steps p.tables e below (T.setTop (mkF m 4 #[.val (.int (Int32.ofNat n)), .val (.int (own_big i)), .val (.int (Int32.ofNat i))] [])) _
    refine XS.iloadN X.here hx rfl (hb hby d1_4) rfl ?_
    show Steps p.tables e below (T.setTop (mkF m 5 #[.val (.int (Int32.ofNat n)), .val (.int (own_big i)), .val (.int (Int32.ofNat i))] [(.int (Int32.ofNat i))])) _
    refine XS.iloadN X.here hx rfl (hb hby d1_5) rfl ?_
    show Steps p.tables e below (T.setTop (mkF m 6 #[.val (.int (Int32.ofNat n)), .val (.int (own_big i)), .val (.int (Int32.ofNat i))] [(.int (Int32.ofNat n)), (.int (Int32.ofNat i))])) _
    refine XS.icmpNo X.here hx rfl (hb hby d1_6) rfl (tlt ((own_ilt (by omega) hn).mpr (by omega) : (Int32.ofNat i) < (Int32.ofNat n))).2.1 ?_
    show Steps p.tables e below (T.setTop (mkF m 9 #[.val (.int (Int32.ofNat n)), .val (.int (own_big i)), .val (.int (Int32.ofNat i))] [])) _
    refine XS.iloadN X.here hx rfl (hb hby d1_9) rfl ?_
    show Steps p.tables e below (T.setTop (mkF m 10 #[.val (.int (Int32.ofNat n)), .val (.int (own_big i)), .val (.int (Int32.ofNat i))] [(.int (own_big i))])) _
    refine XS.bipush X.here hx rfl (hb hby d1_10) ?_
    show Steps p.tables e below (T.setTop (mkF m 12 #[.val (.int (Int32.ofNat n)), .val (.int (own_big i)), .val (.int (Int32.ofNat i))] [(.int (10 : Int32)), (.int (own_big i))])) _
    refine XS.imul X.here hx rfl (hb hby d1_12) rfl ?_
    show Steps p.tables e below (T.setTop (mkF m 13 #[.val (.int (Int32.ofNat n)), .val (.int (own_big i)), .val (.int (Int32.ofNat i))] [(.int ((own_big i) * (10 : Int32)))])) _
    refine XS.bipush X.here hx rfl (hb hby d1_13) ?_
    show Steps p.tables e below (T.setTop (mkF m 15 #[.val (.int (Int32.ofNat n)), .val (.int (own_big i)), .val (.int (Int32.ofNat i))] [(.int (9 : Int32)), (.int ((own_big i) * (10 : Int32)))])) _
    refine XS.iadd X.here hx rfl (hb hby d1_15) rfl ?_
    show Steps p.tables e below (T.setTop (mkF m 16 #[.val (.int (Int32.ofNat n)), .val (.int (own_big i)), .val (.int (Int32.ofNat i))] [(.int (((own_big i) * (10 : Int32)) + (9 : Int32)))])) _
    refine XS.istoreN X.here hx rfl (hb hby d1_16) rfl (l' := #[.val (.int (Int32.ofNat n)), .val (.int (((own_big i) * (10 : Int32)) + (9 : Int32))), .val (.int (Int32.ofNat i))]) rfl ?_
    show Steps p.tables e below (T.setTop (mkF m 17 #[.val (.int (Int32.ofNat n)), .val (.int (((own_big i) * (10 : Int32)) + (9 : Int32))), .val (.int (Int32.ofNat i))] [])) _
    refine XS.iinc X.here hx rfl (hb hby d1_17) rfl (l' := #[.val (.int (Int32.ofNat n)), .val (.int (((own_big i) * (10 : Int32)) + (9 : Int32))), .val (.int ((Int32.ofNat i) + (1 : Int32)))]) rfl ?_
    show Steps p.tables e below (T.setTop (mkF m 20 #[.val (.int (Int32.ofNat n)), .val (.int (((own_big i) * (10 : Int32)) + (9 : Int32))), .val (.int ((Int32.ofNat i) + (1 : Int32)))] [])) _
    refine XS.goto X.here hx rfl (pc0 := 20) (pc' := 4) rfl (hb hby d1_20) (by decide) (by decide) ?_
    have q := ih (i + 1) (by omega)
    rw [← own_up] at q
    exact q
theorem pn_1 : plainName "com/example/vedette/vedette/io/Layout" = true := by first | (simp [plainName, overriddenIn]; done) | decide +kernel
theorem ef_1 (m : MethodId) (x0 : Int32) : entryFrame m #[(.int x0)] 3 = mkF m 0 #[.val (.int x0), .unset, .unset] [] := by first | (simp [entryFrame, mkF, argsToLocals, Value.category]; done) | rfl
def Q1 (Z : State) (p1 : Int32) (n : Nat) (h0 : Heap) (n0 : Nat) (v : Option Value) (h : Heap) (L : List Loc) : Prop := v = some (.int (own_big n)) ∧ Fr n0 L ∧ h = h0
set_option maxRecDepth 65536 in
set_option maxHeartbeats 40000000 in
theorem rm1 (l : Launch) (Z : State) (a0 : Array Value) (hw : ∀ d ∈ tables_1, d.before a0 Z = true) (ws : List Jvm.Cond) (p1 : Int32) (h0 : Heap) (n0 : Nat) (Z0 : n0 ≤ h0.size) (n : Nat) (hn : n < 2 ^ 31) (hp : p1 = Int32.ofNat n) :
    MetFree l (⟨"com/example/vedette/vedette/io/Layout", "largest", "(I)I"⟩ : MethodName) (head1 (Jvm.Cond.code (⟨"com/example/vedette/vedette/io/Layout", "largest", "(I)I"⟩ : MethodName) prog_36_method_21_code 3 (some .int) :: ws) ({ frames := 0, cells := 0, slots := 0, locals := 0 } : Room)) (fun a U => a = #[(.int p1)] ∧ Z.Warmed39 U.vm ∧ U.heap = h0) (fun _ _ _ _ _ => True) (fun _ U o U' => ∃ v L, o = .returned v ∧ Q1 Z p1 n h0 n0 v U'.heap L ∧ FrameEnd U o U' L ({ frames := 0, cells := 0, slots := 0, locals := 0 } : Room).cells ({ frames := 0, cells := 0, slots := 0, locals := 0 } : Room).slots) := by
  refine MetFree.of_bodySF (plainFor_of_name pn_1) hisR ?_
  intro p e s m args below meth c s₁ Bd hml0 hP hK
  obtain ⟨rfl, hZ, hh⟩ := hP
  have hx := Bd.exec
  have hby := Bd.bytes
  have hml : c.maxLocals = 3 := hml0
  have hown : s.vm.findClass "com/example/vedette/vedette/io/Layout" = some m.cls := findClass_of_methodNamed Bd.named
  have hnm := (name_of_methodNamed Bd.named Bd.method).1
  have X0 : Stand p l e ({ frames := 0, cells := 0, slots := 0, locals := 0 } : Room) s m #[(.int p1)] below meth c s₁ [] 0 0 := Stand.of_body Bd
  have e0 : s₁.heap = h0 := by rw [← hh, Bd.state]; rfl
  have N0 := Fr.nil n0
  have pre0 : ∀ t, Steps p.tables e below (s₁.setTop (mkF m 0 #[.val (.int p1), .unset, .unset] [])) t → Steps p.tables e below (s₁.setTop (entryFrame m #[(.int p1)] 3)) t := fun t k => castTop (ef_1 m p1) k
  subst hp
  obtain ⟨fs, hr, hrun, hended, hW, hsame⟩ := X0.leave (v := some (.int (own_big n))) (fun h => by rw [Bd.returns] at h; cases h)
  refine ⟨_, _, pre0 _ ?_, hrun, hended, _, _, rfl, ?_, ⟨_, rfl⟩, hW, hsame.mono (by decide) (by decide)⟩
  · have fin : Steps p.tables e below (s₁.setTop (mkF m 23 #[.val (.int (Int32.ofNat n)), .val (.int (own_big n)), .val (.int (Int32.ofNat n))] [])) (s₁.setFrames fs) := by
      show Steps p.tables e below (s₁.setTop (mkF m 23 #[.val (.int (Int32.ofNat n)), .val (.int (own_big n)), .val (.int (Int32.ofNat n))] [])) _
      refine XS.iloadN X0.here hx rfl (hb hby d1_23) rfl ?_
      exact retI X0 hx Bd.returns (hb hby d1_24) hr
    show Steps p.tables e below (s₁.setTop (mkF m 0 #[.val (.int (Int32.ofNat n)), .unset, .unset] [])) _
    refine XS.iconst X0.here hx rfl (hb hby d1_0) ?_
    show Steps p.tables e below (s₁.setTop (mkF m 1 #[.val (.int (Int32.ofNat n)), .unset, .unset] [(.int (0 : Int32))])) _
    refine XS.istoreN X0.here hx rfl (hb hby d1_1) rfl (l' := #[.val (.int (Int32.ofNat n)), .val (.int (0 : Int32)), .unset]) rfl ?_
    show Steps p.tables e below (s₁.setTop (mkF m 2 #[.val (.int (Int32.ofNat n)), .val (.int (0 : Int32)), .unset] [])) _
    refine XS.iconst X0.here hx rfl (hb hby d1_2) ?_
    show Steps p.tables e below (s₁.setTop (mkF m 3 #[.val (.int (Int32.ofNat n)), .val (.int (0 : Int32)), .unset] [(.int (0 : Int32))])) _
    refine XS.istoreN X0.here hx rfl (hb hby d1_3) rfl (l' := #[.val (.int (Int32.ofNat n)), .val (.int (0 : Int32)), .val (.int (0 : Int32))]) rfl ?_
    exact own_loop X0 hx hby n hn _ fin n 0 (by omega)
  · show Q1 Z (Int32.ofNat n) n h0 n0 _ s₁.heap _
    rw [e0]
    exact ⟨rfl, N0, rfl⟩
theorem pn_0 : plainName "com/example/vedette/vedette/io/LayoutLargestPinLaw" = true := by first | (simp [plainName, overriddenIn]; done) | decide +kernel
theorem pd_0_0 : parseMethodDescriptor "(I)I" = some ⟨[.int], some .int⟩ := by decide +kernel
theorem ef_0 (m : MethodId) (x0 : Int32) : entryFrame m #[(.int x0)] maxLocals = mkF m 0 #[.val (.int x0), .unset, .unset] [] := by first | (simp [entryFrame, mkF, argsToLocals, Value.category, maxLocals]; done) | rfl
def Q0 (Z : State) (p1 : Int32) (h0 : Heap) (n0 : Nat) (v : Option Value) (h : Heap) (L : List Loc) : Prop := v = some (.int (1 : Int32)) ∧ Fr n0 L
set_option maxRecDepth 65536 in
set_option maxHeartbeats 40000000 in
theorem rm0 (l : Launch) (Z : State) (a0 : Array Value) (hw : ∀ d ∈ tables_1, d.before a0 Z = true) (ws : List Jvm.Cond) (p1 : Int32) (h0 : Heap) (n0 : Nat) (Z0 : n0 ≤ h0.size) :
    MetFree l x (head1 (Jvm.Cond.code x code maxLocals ret :: ws) room_1) (fun a U => a = #[(.int p1)] ∧ Z.Warmed39 U.vm ∧ U.heap = h0) (fun _ _ _ _ _ => True) (fun _ U o U' => ∃ v L, o = .returned v ∧ Q0 Z p1 h0 n0 v U'.heap L ∧ FrameEnd U o U' L room_1.cells room_1.slots) := by
  refine MetFree.of_bodySF (plainFor_of_name pn_0) hisR ?_
  intro p e s m args below meth c s₁ Bd hml0 hP hK
  obtain ⟨rfl, hZ, hh⟩ := hP
  have hx := Bd.exec
  have hby := Bd.bytes
  have hml : c.maxLocals = 3 := hml0
  have hown : s.vm.findClass "com/example/vedette/vedette/io/LayoutLargestPinLaw" = some m.cls := findClass_of_methodNamed Bd.named
  have hnm := (name_of_methodNamed Bd.named Bd.method).1
  have X0 : Stand p l e room_1 s m #[(.int p1)] below meth c s₁ [] 0 0 := Stand.of_body Bd
  have e0 : s₁.heap = h0 := by rw [← hh, Bd.state]; rfl
  have N0 := Fr.nil n0
  have pre0 : ∀ t, Steps p.tables e below (s₁.setTop (mkF m 0 #[.val (.int p1), .unset, .unset] [])) t → Steps p.tables e below (s₁.setTop (entryFrame m #[(.int p1)] maxLocals)) t := fun t k => castTop (ef_0 m p1) k
  obtain ⟨nc, hnc, enc⟩ := own_count p1
  obtain ⟨Ta, ha, ka, Xa, ea, Ea, Aa, sta⟩ := newP X0 hx hZ (hw _ (List.mem_of_getElem? (i := 1) rfl)) e0 (g := (mkF m 10 #[.val (.int p1), .val (.int (Int32.ofNat nc)), .unset] [(.int (10 : Int32))])) rfl (hb hby at_10) rfl (by decide) (cap := 10) (by decide) (by decide) (by decide) (by decide)
  obtain ⟨a, ga⟩ : ∃ z, z = h0.size := ⟨_, rfl⟩
  rw [← ga] at Aa sta
  have Va : Arv Z ha a ka .int (10 : Int32) [(.int (0 : Int32)), (.int (0 : Int32)), (.int (0 : Int32)), (.int (0 : Int32)), (.int (0 : Int32)), (.int (0 : Int32)), (.int (0 : Int32)), (.int (0 : Int32)), (.int (0 : Int32)), (.int (0 : Int32))] (.int (0 : Int32)) := (Arv.new Aa (by decide)).pad (pad_rep [] (.int (0 : Int32)) 10)
  have g_a : n0 ≤ a := Nat.le_trans Z0 (Nat.le_of_eq ga.symm)
  obtain ⟨Ts0, hs0, Xs0, es0, Ws0, Vs0, sts0⟩ := own_ist Xa hx hZ ea Va 0 (by decide) (by decide) (by decide) (by decide) (g := (mkF m 15 #[.val (.int p1), .val (.int (Int32.ofNat nc)), .unset] [(.int (0 : Int32)), (.int (0 : Int32)), (.ref a), (.ref a)])) rfl rfl (hb hby at_15)
  have Ns0 := Fr.snoc Xs0 N0 g_a
  obtain ⟨Ts1, hs1, Xs1, es1, Ws1, Vs1, sts1⟩ := own_ist Xs0 hx hZ es0 Vs0 1 (by decide) (by decide) (by decide) (by decide) (g := (mkF m 20 #[.val (.int p1), .val (.int (Int32.ofNat nc)), .unset] [(.int (9 : Int32)), (.int (1 : Int32)), (.ref a), (.ref a)])) rfl rfl (hb hby at_20)
  have Ns1 := Fr.snoc Xs1 Ns0 g_a
  obtain ⟨Ts2, hs2, Xs2, es2, Ws2, Vs2, sts2⟩ := own_ist Xs1 hx hZ es1 Vs1 2 (by decide) (by decide) (by decide) (by decide) (g := (mkF m 25 #[.val (.int p1), .val (.int (Int32.ofNat nc)), .unset] [(.int (99 : Int32)), (.int (2 : Int32)), (.ref a), (.ref a)])) rfl rfl (hb hby at_25)
  have Ns2 := Fr.snoc Xs2 Ns1 g_a
  obtain ⟨Ts3, hs3, Xs3, es3, Ws3, Vs3, sts3⟩ := own_ist Xs2 hx hZ es2 Vs2 3 (by decide) (by decide) (by decide) (by decide) (g := (mkF m 31 #[.val (.int p1), .val (.int (Int32.ofNat nc)), .unset] [(.int (999 : Int32)), (.int (3 : Int32)), (.ref a), (.ref a)])) rfl rfl (hb hby at_31)
  have Ns3 := Fr.snoc Xs3 Ns2 g_a
  obtain ⟨Ts4, hs4, Xs4, es4, Ws4, Vs4, sts4⟩ := own_ist Xs3 hx hZ es3 Vs3 4 (by decide) (by decide) (by decide) (by decide) (g := (mkF m 37 #[.val (.int p1), .val (.int (Int32.ofNat nc)), .unset] [(.int (9999 : Int32)), (.int (4 : Int32)), (.ref a), (.ref a)])) rfl rfl (hb hby at_37)
  have Ns4 := Fr.snoc Xs4 Ns3 g_a
  obtain ⟨Ts5, hs5, Xs5, es5, Ws5, Vs5, sts5⟩ := own_ist Xs4 hx hZ es4 Vs4 5 (by decide) (by decide) (by decide) (by decide) (g := (mkF m 42 #[.val (.int p1), .val (.int (Int32.ofNat nc)), .unset] [(.int (99999 : Int32)), (.int (5 : Int32)), (.ref a), (.ref a)])) rfl rfl (hb hby at_42)
  have Ns5 := Fr.snoc Xs5 Ns4 g_a
  obtain ⟨Ts6, hs6, Xs6, es6, Ws6, Vs6, sts6⟩ := own_ist Xs5 hx hZ es5 Vs5 6 (by decide) (by decide) (by decide) (by decide) (g := (mkF m 48 #[.val (.int p1), .val (.int (Int32.ofNat nc)), .unset] [(.int (999999 : Int32)), (.int (6 : Int32)), (.ref a), (.ref a)])) rfl rfl (hb hby at_48)
  have Ns6 := Fr.snoc Xs6 Ns5 g_a
  obtain ⟨Ts7, hs7, Xs7, es7, Ws7, Vs7, sts7⟩ := own_ist Xs6 hx hZ es6 Vs6 7 (by decide) (by decide) (by decide) (by decide) (g := (mkF m 54 #[.val (.int p1), .val (.int (Int32.ofNat nc)), .unset] [(.int (9999999 : Int32)), (.int (7 : Int32)), (.ref a), (.ref a)])) rfl rfl (hb hby at_54)
  have Ns7 := Fr.snoc Xs7 Ns6 g_a
  obtain ⟨Ts8, hs8, Xs8, es8, Ws8, Vs8, sts8⟩ := own_ist Xs7 hx hZ es7 Vs7 8 (by decide) (by decide) (by decide) (by decide) (g := (mkF m 60 #[.val (.int p1), .val (.int (Int32.ofNat nc)), .unset] [(.int (99999999 : Int32)), (.int (8 : Int32)), (.ref a), (.ref a)])) rfl rfl (hb hby at_60)
  have Ns8 := Fr.snoc Xs8 Ns7 g_a
  obtain ⟨Ts9, hs9, Xs9, es9, Ws9, Vs9, sts9⟩ := own_ist Xs8 hx hZ es8 Vs8 9 (by decide) (by decide) (by decide) (by decide) (g := (mkF m 66 #[.val (.int p1), .val (.int (Int32.ofNat nc)), .unset] [(.int (999999999 : Int32)), (.int (9 : Int32)), (.ref a), (.ref a)])) rfl rfl (hb hby at_66)
  have Ns9 := Fr.snoc Xs9 Ns8 g_a
  have sz0 : n0 ≤ Ts9.heap.size := by rw [es9]; exact Nat.le_trans g_a (Nat.le_of_lt Vs9.lt)
  obtain ⟨_, _, ⟨Tc, Lc, kc, nc'⟩, -, Xc, ⟨Lcc, hQc, lc, yc, zc⟩, stc⟩ := Jvm.LawKit.callS Xs9 hx (y := (⟨"com/example/vedette/vedette/io/Layout", "largest", "(I)I"⟩ : MethodName)) hown (mvT hZ (hw _ (List.mem_of_getElem? (i := 7) rfl))) (mvT hZ (hw _ (List.mem_of_getElem? (i := 8) rfl))) (mvT hZ (hw _ (List.mem_of_getElem? (i := 9) rfl))) (mvT hZ (hw _ (List.mem_of_getElem? (i := 10) rfl))) (by decide) (backOf (W := 0) (rm1 l Z a0 hw [] (Int32.ofNat nc) hs9 n0 (by rw [← es9]; exact sz0) nc (by omega) rfl) hZ (hw _ (List.mem_of_getElem? (i := 10) rfl)) (hw _ (List.mem_of_getElem? (i := 9) rfl)) (by decide) (by decide)) (g := (mkF m 69 #[.val (.int p1), .val (.int (Int32.ofNat nc)), .val (.ref a)] [(.int (Int32.ofNat nc))])) rfl (by rw [hml]; rfl) (argsL := [(.int (Int32.ofNat nc))]) (rest := []) (lenOf pd_0_0 rfl) rfl (by show 2 * 0 + _ ≤ _; exact Nat.le_of_eq rfl) (hb hby at_69) (fun _ _ => ⟨rfl, es9, (by decide : 1 + 0 ≤ _), (by decide : 10 + 0 ≤ _)⟩)
  dsimp only [Pt.U, Pt.locs, Pt.cells, Pt.slots] at Xc lc yc zc stc hQc
  subst lc yc zc
  obtain ⟨rfl, Ncq, qch⟩ := hQc
  have Nc := Fr.app Ns9 Ncq
  obtain ⟨fs, hr, hrun, hended, hW, hsame⟩ := Xc.leave (v := some (.int (1 : Int32))) (fun h => by rw [Bd.returns] at h; cases h)
  refine ⟨_, _, pre0 _ ?_, hrun, hended, _, _, rfl, ?_, ⟨_, rfl⟩, hW, hsame.mono (by decide) (by decide)⟩
  · show Steps p.tables e below (s₁.setTop (mkF m 0 #[.val (.int p1), .unset, .unset] [])) _
    refine XS.iloadN X0.here hx rfl (hb hby at_0) rfl ?_
    show Steps p.tables e below (s₁.setTop (mkF m 1 #[.val (.int p1), .unset, .unset] [(.int p1)])) _
    refine X0.ldcInt hx hown (mvT hZ (hw _ (List.mem_of_getElem? (i := 0) rfl))) (g := (mkF m 1 #[.val (.int p1), .unset, .unset] [(.int p1)])) rfl (hb hby at_1) _ ?_
    show Steps p.tables e below (s₁.setTop (mkF m 3 #[.val (.int p1), .unset, .unset] [(.int (2147483647 : Int32)), (.int p1)])) _
    refine XS.iand X0.here hx rfl (hb hby at_3) rfl ?_
    show Steps p.tables e below (s₁.setTop (mkF m 4 #[.val (.int p1), .unset, .unset] [(.int (p1 &&& (2147483647 : Int32)))])) _
    refine XS.bipush X0.here hx rfl (hb hby at_4) ?_
    show Steps p.tables e below (s₁.setTop (mkF m 6 #[.val (.int p1), .unset, .unset] [(.int (10 : Int32)), (.int (p1 &&& (2147483647 : Int32)))])) _
    refine iremM X0 hx rfl (hb hby at_6) rfl (by decide) ?_
    show Steps p.tables e below (s₁.setTop (mkF m 7 #[.val (.int p1), .unset, .unset] [(.int ((p1 &&& (2147483647 : Int32)) % (10 : Int32)))])) _
    rw [enc]
    show Steps p.tables e below (s₁.setTop (mkF m 7 #[.val (.int p1), .unset, .unset] [(.int (Int32.ofNat nc))])) _
    refine XS.istoreN X0.here hx rfl (hb hby at_7) rfl (l' := #[.val (.int p1), .val (.int (Int32.ofNat nc)), .unset]) rfl ?_
    show Steps p.tables e below (s₁.setTop (mkF m 8 #[.val (.int p1), .val (.int (Int32.ofNat nc)), .unset] [])) _
    refine XS.bipush X0.here hx rfl (hb hby at_8) ?_
    show Steps p.tables e below (s₁.setTop (mkF m 10 #[.val (.int p1), .val (.int (Int32.ofNat nc)), .unset] [(.int (10 : Int32))])) _
    refine sta _ ?_
    show Steps p.tables e below (Ta.setTop (mkF m 12 #[.val (.int p1), .val (.int (Int32.ofNat nc)), .unset] [(.ref a)])) _
    refine XS.dup Xa.here hx rfl (hb hby at_12) rfl rfl ?_
    show Steps p.tables e below (Ta.setTop (mkF m 13 #[.val (.int p1), .val (.int (Int32.ofNat nc)), .unset] [(.ref a), (.ref a)])) _
    refine XS.iconst Xa.here hx rfl (hb hby at_13) ?_
    show Steps p.tables e below (Ta.setTop (mkF m 14 #[.val (.int p1), .val (.int (Int32.ofNat nc)), .unset] [(.int (0 : Int32)), (.ref a), (.ref a)])) _
    refine XS.iconst Xa.here hx rfl (hb hby at_14) ?_
    show Steps p.tables e below (Ta.setTop (mkF m 15 #[.val (.int p1), .val (.int (Int32.ofNat nc)), .unset] [(.int (0 : Int32)), (.int (0 : Int32)), (.ref a), (.ref a)])) _
    refine sts0 _ ?_
    show Steps p.tables e below (Ts0.setTop (mkF m 16 #[.val (.int p1), .val (.int (Int32.ofNat nc)), .unset] [(.ref a)])) _
    refine XS.dup Xs0.here hx rfl (hb hby at_16) rfl rfl ?_
    show Steps p.tables e below (Ts0.setTop (mkF m 17 #[.val (.int p1), .val (.int (Int32.ofNat nc)), .unset] [(.ref a), (.ref a)])) _
    refine XS.iconst Xs0.here hx rfl (hb hby at_17) ?_
    show Steps p.tables e below (Ts0.setTop (mkF m 18 #[.val (.int p1), .val (.int (Int32.ofNat nc)), .unset] [(.int (1 : Int32)), (.ref a), (.ref a)])) _
    refine XS.bipush Xs0.here hx rfl (hb hby at_18) ?_
    show Steps p.tables e below (Ts0.setTop (mkF m 20 #[.val (.int p1), .val (.int (Int32.ofNat nc)), .unset] [(.int (9 : Int32)), (.int (1 : Int32)), (.ref a), (.ref a)])) _
    refine sts1 _ ?_
    show Steps p.tables e below (Ts1.setTop (mkF m 21 #[.val (.int p1), .val (.int (Int32.ofNat nc)), .unset] [(.ref a)])) _
    refine XS.dup Xs1.here hx rfl (hb hby at_21) rfl rfl ?_
    show Steps p.tables e below (Ts1.setTop (mkF m 22 #[.val (.int p1), .val (.int (Int32.ofNat nc)), .unset] [(.ref a), (.ref a)])) _
    refine XS.iconst Xs1.here hx rfl (hb hby at_22) ?_
    show Steps p.tables e below (Ts1.setTop (mkF m 23 #[.val (.int p1), .val (.int (Int32.ofNat nc)), .unset] [(.int (2 : Int32)), (.ref a), (.ref a)])) _
    refine XS.bipush Xs1.here hx rfl (hb hby at_23) ?_
    show Steps p.tables e below (Ts1.setTop (mkF m 25 #[.val (.int p1), .val (.int (Int32.ofNat nc)), .unset] [(.int (99 : Int32)), (.int (2 : Int32)), (.ref a), (.ref a)])) _
    refine sts2 _ ?_
    show Steps p.tables e below (Ts2.setTop (mkF m 26 #[.val (.int p1), .val (.int (Int32.ofNat nc)), .unset] [(.ref a)])) _
    refine XS.dup Xs2.here hx rfl (hb hby at_26) rfl rfl ?_
    show Steps p.tables e below (Ts2.setTop (mkF m 27 #[.val (.int p1), .val (.int (Int32.ofNat nc)), .unset] [(.ref a), (.ref a)])) _
    refine XS.iconst Xs2.here hx rfl (hb hby at_27) ?_
    show Steps p.tables e below (Ts2.setTop (mkF m 28 #[.val (.int p1), .val (.int (Int32.ofNat nc)), .unset] [(.int (3 : Int32)), (.ref a), (.ref a)])) _
    refine XS.sipush Xs2.here hx rfl (hb hby at_28) ?_
    show Steps p.tables e below (Ts2.setTop (mkF m 31 #[.val (.int p1), .val (.int (Int32.ofNat nc)), .unset] [(.int (999 : Int32)), (.int (3 : Int32)), (.ref a), (.ref a)])) _
    refine sts3 _ ?_
    show Steps p.tables e below (Ts3.setTop (mkF m 32 #[.val (.int p1), .val (.int (Int32.ofNat nc)), .unset] [(.ref a)])) _
    refine XS.dup Xs3.here hx rfl (hb hby at_32) rfl rfl ?_
    show Steps p.tables e below (Ts3.setTop (mkF m 33 #[.val (.int p1), .val (.int (Int32.ofNat nc)), .unset] [(.ref a), (.ref a)])) _
    refine XS.iconst Xs3.here hx rfl (hb hby at_33) ?_
    show Steps p.tables e below (Ts3.setTop (mkF m 34 #[.val (.int p1), .val (.int (Int32.ofNat nc)), .unset] [(.int (4 : Int32)), (.ref a), (.ref a)])) _
    refine XS.sipush Xs3.here hx rfl (hb hby at_34) ?_
    show Steps p.tables e below (Ts3.setTop (mkF m 37 #[.val (.int p1), .val (.int (Int32.ofNat nc)), .unset] [(.int (9999 : Int32)), (.int (4 : Int32)), (.ref a), (.ref a)])) _
    refine sts4 _ ?_
    show Steps p.tables e below (Ts4.setTop (mkF m 38 #[.val (.int p1), .val (.int (Int32.ofNat nc)), .unset] [(.ref a)])) _
    refine XS.dup Xs4.here hx rfl (hb hby at_38) rfl rfl ?_
    show Steps p.tables e below (Ts4.setTop (mkF m 39 #[.val (.int p1), .val (.int (Int32.ofNat nc)), .unset] [(.ref a), (.ref a)])) _
    refine XS.iconst Xs4.here hx rfl (hb hby at_39) ?_
    show Steps p.tables e below (Ts4.setTop (mkF m 40 #[.val (.int p1), .val (.int (Int32.ofNat nc)), .unset] [(.int (5 : Int32)), (.ref a), (.ref a)])) _
    refine Xs4.ldcInt hx hown (mvT hZ (hw _ (List.mem_of_getElem? (i := 2) rfl))) (g := (mkF m 40 #[.val (.int p1), .val (.int (Int32.ofNat nc)), .unset] [(.int (5 : Int32)), (.ref a), (.ref a)])) rfl (hb hby at_40) _ ?_
    show Steps p.tables e below (Ts4.setTop (mkF m 42 #[.val (.int p1), .val (.int (Int32.ofNat nc)), .unset] [(.int (99999 : Int32)), (.int (5 : Int32)), (.ref a), (.ref a)])) _
    refine sts5 _ ?_
    show Steps p.tables e below (Ts5.setTop (mkF m 43 #[.val (.int p1), .val (.int (Int32.ofNat nc)), .unset] [(.ref a)])) _
    refine XS.dup Xs5.here hx rfl (hb hby at_43) rfl rfl ?_
    show Steps p.tables e below (Ts5.setTop (mkF m 44 #[.val (.int p1), .val (.int (Int32.ofNat nc)), .unset] [(.ref a), (.ref a)])) _
    refine XS.bipush Xs5.here hx rfl (hb hby at_44) ?_
    show Steps p.tables e below (Ts5.setTop (mkF m 46 #[.val (.int p1), .val (.int (Int32.ofNat nc)), .unset] [(.int (6 : Int32)), (.ref a), (.ref a)])) _
    refine Xs5.ldcInt hx hown (mvT hZ (hw _ (List.mem_of_getElem? (i := 3) rfl))) (g := (mkF m 46 #[.val (.int p1), .val (.int (Int32.ofNat nc)), .unset] [(.int (6 : Int32)), (.ref a), (.ref a)])) rfl (hb hby at_46) _ ?_
    show Steps p.tables e below (Ts5.setTop (mkF m 48 #[.val (.int p1), .val (.int (Int32.ofNat nc)), .unset] [(.int (999999 : Int32)), (.int (6 : Int32)), (.ref a), (.ref a)])) _
    refine sts6 _ ?_
    show Steps p.tables e below (Ts6.setTop (mkF m 49 #[.val (.int p1), .val (.int (Int32.ofNat nc)), .unset] [(.ref a)])) _
    refine XS.dup Xs6.here hx rfl (hb hby at_49) rfl rfl ?_
    show Steps p.tables e below (Ts6.setTop (mkF m 50 #[.val (.int p1), .val (.int (Int32.ofNat nc)), .unset] [(.ref a), (.ref a)])) _
    refine XS.bipush Xs6.here hx rfl (hb hby at_50) ?_
    show Steps p.tables e below (Ts6.setTop (mkF m 52 #[.val (.int p1), .val (.int (Int32.ofNat nc)), .unset] [(.int (7 : Int32)), (.ref a), (.ref a)])) _
    refine Xs6.ldcInt hx hown (mvT hZ (hw _ (List.mem_of_getElem? (i := 4) rfl))) (g := (mkF m 52 #[.val (.int p1), .val (.int (Int32.ofNat nc)), .unset] [(.int (7 : Int32)), (.ref a), (.ref a)])) rfl (hb hby at_52) _ ?_
    show Steps p.tables e below (Ts6.setTop (mkF m 54 #[.val (.int p1), .val (.int (Int32.ofNat nc)), .unset] [(.int (9999999 : Int32)), (.int (7 : Int32)), (.ref a), (.ref a)])) _
    refine sts7 _ ?_
    show Steps p.tables e below (Ts7.setTop (mkF m 55 #[.val (.int p1), .val (.int (Int32.ofNat nc)), .unset] [(.ref a)])) _
    refine XS.dup Xs7.here hx rfl (hb hby at_55) rfl rfl ?_
    show Steps p.tables e below (Ts7.setTop (mkF m 56 #[.val (.int p1), .val (.int (Int32.ofNat nc)), .unset] [(.ref a), (.ref a)])) _
    refine XS.bipush Xs7.here hx rfl (hb hby at_56) ?_
    show Steps p.tables e below (Ts7.setTop (mkF m 58 #[.val (.int p1), .val (.int (Int32.ofNat nc)), .unset] [(.int (8 : Int32)), (.ref a), (.ref a)])) _
    refine Xs7.ldcInt hx hown (mvT hZ (hw _ (List.mem_of_getElem? (i := 5) rfl))) (g := (mkF m 58 #[.val (.int p1), .val (.int (Int32.ofNat nc)), .unset] [(.int (8 : Int32)), (.ref a), (.ref a)])) rfl (hb hby at_58) _ ?_
    show Steps p.tables e below (Ts7.setTop (mkF m 60 #[.val (.int p1), .val (.int (Int32.ofNat nc)), .unset] [(.int (99999999 : Int32)), (.int (8 : Int32)), (.ref a), (.ref a)])) _
    refine sts8 _ ?_
    show Steps p.tables e below (Ts8.setTop (mkF m 61 #[.val (.int p1), .val (.int (Int32.ofNat nc)), .unset] [(.ref a)])) _
    refine XS.dup Xs8.here hx rfl (hb hby at_61) rfl rfl ?_
    show Steps p.tables e below (Ts8.setTop (mkF m 62 #[.val (.int p1), .val (.int (Int32.ofNat nc)), .unset] [(.ref a), (.ref a)])) _
    refine XS.bipush Xs8.here hx rfl (hb hby at_62) ?_
    show Steps p.tables e below (Ts8.setTop (mkF m 64 #[.val (.int p1), .val (.int (Int32.ofNat nc)), .unset] [(.int (9 : Int32)), (.ref a), (.ref a)])) _
    refine Xs8.ldcInt hx hown (mvT hZ (hw _ (List.mem_of_getElem? (i := 6) rfl))) (g := (mkF m 64 #[.val (.int p1), .val (.int (Int32.ofNat nc)), .unset] [(.int (9 : Int32)), (.ref a), (.ref a)])) rfl (hb hby at_64) _ ?_
    show Steps p.tables e below (Ts8.setTop (mkF m 66 #[.val (.int p1), .val (.int (Int32.ofNat nc)), .unset] [(.int (999999999 : Int32)), (.int (9 : Int32)), (.ref a), (.ref a)])) _
    refine sts9 _ ?_
    show Steps p.tables e below (Ts9.setTop (mkF m 67 #[.val (.int p1), .val (.int (Int32.ofNat nc)), .unset] [(.ref a)])) _
    refine XS.astoreN Xs9.here hx rfl (hb hby at_67) rfl rfl (l' := #[.val (.int p1), .val (.int (Int32.ofNat nc)), .val (.ref a)]) rfl ?_
    show Steps p.tables e below (Ts9.setTop (mkF m 68 #[.val (.int p1), .val (.int (Int32.ofNat nc)), .val (.ref a)] [])) _
    refine XS.iloadN Xs9.here hx rfl (hb hby at_68) rfl ?_
    show Steps p.tables e below (Ts9.setTop (mkF m 69 #[.val (.int p1), .val (.int (Int32.ofNat nc)), .val (.ref a)] [(.int (Int32.ofNat nc))])) _
    refine stc _ ?_
    show Steps p.tables e below (Tc.setTop (mkF m 72 #[.val (.int p1), .val (.int (Int32.ofNat nc)), .val (.ref a)] [(.int (own_big nc))])) _
    refine XS.aloadN Xc.here hx rfl (hb hby at_72) rfl rfl ?_
    show Steps p.tables e below (Tc.setTop (mkF m 73 #[.val (.int p1), .val (.int (Int32.ofNat nc)), .val (.ref a)] [(.ref a), (.int (own_big nc))])) _
    refine XS.iloadN Xc.here hx rfl (hb hby at_73) rfl ?_
    show Steps p.tables e below (Tc.setTop (mkF m 74 #[.val (.int p1), .val (.int (Int32.ofNat nc)), .val (.ref a)] [(.int (Int32.ofNat nc)), (.ref a), (.int (own_big nc))])) _
    refine own_ild Xc hx hZ qch Vs9 nc (by rw [Int32.lt_iff_toInt_lt, own_nat (by omega)]; exact Int.not_lt.mpr (Int.natCast_nonneg _)) (own_tn (by omega)) hnc (own_at nc hnc) (g := (mkF m 74 #[.val (.int p1), .val (.int (Int32.ofNat nc)), .val (.ref a)] [(.int (Int32.ofNat nc)), (.ref a), (.int (own_big nc))])) rfl rfl (hb hby at_74) _ ?_
    show Steps p.tables e below (Tc.setTop (mkF m 75 #[.val (.int p1), .val (.int (Int32.ofNat nc)), .val (.ref a)] [(.int (own_big nc)), (.int (own_big nc))])) _
    refine XS.icmpNo Xc.here hx rfl (hb hby at_75) rfl (teq (rfl : (own_big nc) = (own_big nc))).2 ?_
    show Steps p.tables e below (Tc.setTop (mkF m 78 #[.val (.int p1), .val (.int (Int32.ofNat nc)), .val (.ref a)] [])) _
    refine XS.iconst Xc.here hx rfl (hb hby at_78) ?_
    show Steps p.tables e below (Tc.setTop (mkF m 79 #[.val (.int p1), .val (.int (Int32.ofNat nc)), .val (.ref a)] [(.int (1 : Int32))])) _
    refine XS.goto Xc.here hx rfl (pc0 := 79) (pc' := 83) rfl (hb hby at_79) (by decide) (by decide) ?_
    exact retN Xc hx (t := .boolean) Bd.returns (by simp) (hb hby at_83) hr
  · show Q0 Z p1 h0 n0 _ Tc.heap _
    exact ⟨rfl, Nc⟩
set_option maxRecDepth 65536 in
set_option maxHeartbeats 40000000 in
theorem comes_1 {Post : Tables → Env → Array Value → State → Outcome → State → Prop} (hpost : ∀ tb e args s v u, (limb_1_1.after args s (.returned v) u = true ∧ limb_1_2.after args s (.returned v) u = true ∧ True) → FrameEnd s (.returned v) u (Jvm.fieldLocs frame_1_writes args s ++ Jvm.arrayLocs frame_1_arrays args s ++ Jvm.staticLocs frame_1_statics s) 16 128 → Post tb e args s (.returned v) u) :
    ArmFor flags0 classFile x code maxLocals ret World_1 tables_1 room_1 Calls_1 rest_1 Pre_1 Post := by
  intro l hfl _ _ p e ha hc hk s m args below hf hA hF happ hP
  obtain ⟨hcalls, hrest, hpre⟩ := hP
  obtain ⟨-, -, -, hnamed, -, -, -, hat⟩ := (Spec.applies_iff hf).mp happ
  obtain ⟨hg, hn⟩ := and_e (Cond.before_iff.mp (show (Jvm.Cond.and given_1 narrow_1).before args s = true from hpre))
  obtain ⟨gc, gr0⟩ := and_e hg
  have gi0 := gr0
  obtain ⟨w0, rfl⟩ : ∃ w0 : Value, args = #[w0] := by
    have hs : args.size = 1 := by simpa [Cond.value, given_1] using gc
    obtain ⟨L⟩ := args
    match L, hs with
    | [w0], _ => exact ⟨w0, rfl⟩
  have hw := fun d (hd : d ∈ tables_1) => atoms_spec (ws := Jvm.Cond.code x code maxLocals ret :: tables_1) hat d (List.mem_cons_of_mem _ hd)
  obtain ⟨i0, ei0⟩ := is_v gi0
  obtain rfl : w0 = (.int i0) := Option.some.inj ei0
  obtain ⟨n, o, h1, h2, h3, _, L, rfl, ⟨rfl, N⟩, hq⟩ := rm0 l s _ hw tables_1 i0 s.heap s.heap.size (Nat.le_refl _) p e ha hc hk s m _ below hf ((Spec.applies_iff_loose hf).mp happ).1 ⟨rfl, State.Warmed39.refl s, rfl⟩ trivial
  refine ⟨n, _, h1, h2, h3, hpost _ _ _ _ _ _ ⟨Cond.after_iff.mpr rfl, Cond.after_iff.mpr (eq_i res_at (Term.int_eval (1)) rfl), trivial⟩ ⟨hq.1, hq.2.1, (hq.2.2.sift fun y hy => Or.inr (N y hy)).mono (by decide) (by decide)⟩⟩
theorem main_1_1 : Claimed_1_1 := comes_1 fun _ _ _ _ _ _ h hF => ⟨h.1, hF⟩
theorem main_1_2 : Claimed_1_2 := comes_1 fun _ _ _ _ _ _ h hF => ⟨h.2.1, hF⟩
end Jvm.Pilot.@@N@@
namespace Jvm.Pilot.@@N@@
open Jvm Jvm.ClassFile Sem Op Lib Jvm.Free Jvm.Stand Jvm.Pilot.@@N@@.Jvm.D
/-! MADE BY PROGRAM (witnessworld.py) out of the Statement's table words and the real class files: 9 classes; the members and pool entries that the words name. The judged class is class 1, her method 1. -/
namespace start1
open Jvm.ClassFile
def u (s : String) : CpInfo := .utf8 (stringToUtf16 s)
/-- a pool by its gaps: so many unusable entries, then the entry; so many at the end -/
def gap : Nat → List CpInfo → List CpInfo
  | 0, r => r
  | n + 1, r => .unusable :: gap n r
def poolList (es : List (Nat × CpInfo)) (last : Nat) : List CpInfo := es.foldr (fun e r => gap e.1 (e.2 :: r)) (gap last [])
def pool (es : List (Nat × CpInfo)) (last : Nat) : Array CpInfo := ⟨poolList es last⟩
def fileOf (pool : Array CpInfo) (this : Nat) (attrs : Array Attribute := #[]) (ms : Array MethodInfo := #[]) (fl : Nat := 33) (sup : Nat := 0) (ifs : Array Nat := #[]) (fds : Array FieldInfo := #[]) : ClassFile where
  minorVersion := 0
  majorVersion := 65
  constantPool := pool
  accessFlags := fl
  thisClass := this
  superClass := sup
  interfaces := ifs
  fields := fds
  methods := ms
  attributes := attrs
def plain (name : String) (sup : Option ClassId) : Class where
  name := name
  kind := .ordinary
  loader := none
  accessFlags := 33
  super := sup
  interfaces := #[]
  cf := none
  fields := #[]
  methods := #[]
  instanceTypes := #[]
  staticTypes := #[]
  resolved := #[]
  callSites := []
  init := .initialized
  statics := none
  mirror := none

def pool0 : Array CpInfo := pool [(5, u "<init>"), (0, u "()V"), (1, .class_ 10), (1, u "java/lang/Object")] 113

def k0m0 : Method := { name := "<init>", desc := "()V", sig := { parameters := [], returnType := none }, accessFlags := 1, code := none }
/-- java/lang/Object -/
def k0 : Class := { plain "java/lang/Object" none with
  accessFlags := 33
  interfaces := #[]
  cf := some (fileOf pool0 8 #[] #[{ accessFlags := 1, nameIndex := 5, descriptorIndex := 6, attributes := #[] }] 33 0 #[] #[])
  fields := #[]
  methods := #[k0m0]
  instanceTypes := #[]
  staticTypes := #[]
  resolved := Array.replicate 124 none
  statics := none }

def pool1 : Array CpInfo := pool [(2, .class_ 4), (1, u "java/lang/Object"), (0, u "<init>"), (0, u "()V"), (0, .integer 2147483647), (0, .integer 99999), (0, .integer 999999), (0, .integer 9999999), (0, .integer 99999999), (0, .integer 999999999), (0, .methodref 14 15), (0, .class_ 16), (0, .nameAndType 17 18), (0, u "com/example/vedette/vedette/io/Layout"), (0, u "largest"), (0, u "(I)I"), (0, .class_ 20), (0, u "com/example/vedette/vedette/io/LayoutLargestPinLaw"), (2, u "law"), (0, u "(I)Z")] 5

def k1m0 : Method := { name := "<init>", desc := "()V", sig := { parameters := [], returnType := none }, accessFlags := 2, code := none }
def k1c1 : Code := { maxStack := 4, maxLocals := 3, code := code, exceptionTable := #[], attributes := #[] }
def k1m1 : Method := { name := "law", desc := "(I)Z", sig := { parameters := [.int], returnType := some .boolean }, accessFlags := 9, code := some k1c1 }
/-- com/example/vedette/vedette/io/LayoutLargestPinLaw -/
def k1 : Class := { plain "com/example/vedette/vedette/io/LayoutLargestPinLaw" (some 0) with
  accessFlags := 49
  interfaces := #[]
  cf := some (fileOf pool1 19 #[] #[{ accessFlags := 2, nameIndex := 5, descriptorIndex := 6, attributes := #[] }, { accessFlags := 9, nameIndex := 23, descriptorIndex := 24, attributes := #[] }] 49 2 #[] #[])
  fields := #[]
  methods := #[k1m0, k1m1]
  instanceTypes := #[]
  staticTypes := #[]
  resolved := Array.replicate 30 none
  statics := none }

def pool2 : Array CpInfo := pool [(2, .class_ 4), (1, u "java/lang/Object"), (3, .class_ 10), (1, u "com/example/vedette/vedette/io/Layout"), (0, u "declared"), (0, u "Ljava/lang/String;"), (6, u "indicatorLength"), (0, u "I"), (2, u "identifierLength"), (2, u "lengthDigits"), (2, u "startDigits"), (8, u "implementationBlank"), (0, u "Z"), (2, u "implementationLength"), (2, u "largest"), (0, u "(I)I"), (2, u "longestField"), (2, u "lastStart"), (22, u "POSITIONS"), (0, u "[I"), (71, u "INDICATOR_POSITION"), (2, u "IDENTIFIER_POSITION"), (1, u "LENGTH_POSITION"), (1, u "START_POSITION"), (1, u "IMPLEMENTATION_POSITION")] 36

def k2c0 : Code := { maxStack := 2, maxLocals := 3, code := prog_36_method_21_code, exceptionTable := #[], attributes := #[] }
def k2m0 : Method := { name := "largest", desc := "(I)I", sig := { parameters := [.int], returnType := some .int }, accessFlags := 8, code := some k2c0 }
/-- com/example/vedette/vedette/io/Layout -/
def k2 : Class := { plain "com/example/vedette/vedette/io/Layout" (some 0) with
  accessFlags := 48
  interfaces := #[]
  cf := some (fileOf pool2 8 #[] #[{ accessFlags := 8, nameIndex := 45, descriptorIndex := 46, attributes := #[] }] 48 2 #[] #[{ accessFlags := 26, nameIndex := 148, descriptorIndex := 20, attributes := #[] }, { accessFlags := 26, nameIndex := 151, descriptorIndex := 20, attributes := #[] }, { accessFlags := 26, nameIndex := 153, descriptorIndex := 20, attributes := #[] }, { accessFlags := 26, nameIndex := 155, descriptorIndex := 20, attributes := #[] }, { accessFlags := 26, nameIndex := 157, descriptorIndex := 20, attributes := #[] }, { accessFlags := 26, nameIndex := 75, descriptorIndex := 76, attributes := #[] }, { accessFlags := 18, nameIndex := 11, descriptorIndex := 12, attributes := #[] }, { accessFlags := 18, nameIndex := 19, descriptorIndex := 20, attributes := #[] }, { accessFlags := 18, nameIndex := 23, descriptorIndex := 20, attributes := #[] }, { accessFlags := 18, nameIndex := 26, descriptorIndex := 20, attributes := #[] }, { accessFlags := 18, nameIndex := 29, descriptorIndex := 20, attributes := #[] }, { accessFlags := 18, nameIndex := 42, descriptorIndex := 20, attributes := #[] }, { accessFlags := 18, nameIndex := 38, descriptorIndex := 39, attributes := #[] }, { accessFlags := 18, nameIndex := 49, descriptorIndex := 20, attributes := #[] }, { accessFlags := 18, nameIndex := 52, descriptorIndex := 20, attributes := #[] }])
  fields := #[{ name := "INDICATOR_POSITION", type := .int, accessFlags := 26, slot := 0, constantValue := 0 }, { name := "IDENTIFIER_POSITION", type := .int, accessFlags := 26, slot := 1, constantValue := 0 }, { name := "LENGTH_POSITION", type := .int, accessFlags := 26, slot := 2, constantValue := 0 }, { name := "START_POSITION", type := .int, accessFlags := 26, slot := 3, constantValue := 0 }, { name := "IMPLEMENTATION_POSITION", type := .int, accessFlags := 26, slot := 4, constantValue := 0 }, { name := "POSITIONS", type := (.array .int), accessFlags := 26, slot := 5, constantValue := 0 }, { name := "declared", type := (.object "java/lang/String"), accessFlags := 18, slot := 0, constantValue := 0 }, { name := "indicatorLength", type := .int, accessFlags := 18, slot := 1, constantValue := 0 }, { name := "identifierLength", type := .int, accessFlags := 18, slot := 2, constantValue := 0 }, { name := "lengthDigits", type := .int, accessFlags := 18, slot := 3, constantValue := 0 }, { name := "startDigits", type := .int, accessFlags := 18, slot := 4, constantValue := 0 }, { name := "implementationLength", type := .int, accessFlags := 18, slot := 5, constantValue := 0 }, { name := "implementationBlank", type := .boolean, accessFlags := 18, slot := 6, constantValue := 0 }, { name := "longestField", type := .int, accessFlags := 18, slot := 7, constantValue := 0 }, { name := "lastStart", type := .int, accessFlags := 18, slot := 8, constantValue := 0 }]
  methods := #[k2m0]
  instanceTypes := #[(.object "java/lang/String"), .int, .int, .int, .int, .int, .boolean, .int, .int]
  staticTypes := #[.int, .int, .int, .int, .int, (.array .int)]
  resolved := Array.replicate 194 none
  statics := none }

def pool3 : Array CpInfo := pool [(1, u "java/lang/Cloneable"), (0, .class_ 1), (0, u "java/lang/Object"), (0, .class_ 3)] 3

/-- java/lang/Cloneable -/
def k3 : Class := { plain "java/lang/Cloneable" (some 0) with
  accessFlags := 1537
  interfaces := #[]
  cf := some (fileOf pool3 2 #[] #[] 1537 4 #[] #[])
  fields := #[]
  methods := #[]
  instanceTypes := #[]
  staticTypes := #[]
  resolved := Array.replicate 8 none
  statics := none }

def pool4 : Array CpInfo := pool [(1, u "java/io/Serializable"), (0, .class_ 1), (0, u "java/lang/Object"), (0, .class_ 3)] 3

/-- java/io/Serializable -/
def k4 : Class := { plain "java/io/Serializable" (some 0) with
  accessFlags := 1537
  interfaces := #[]
  cf := some (fileOf pool4 2 #[] #[] 1537 4 #[] #[])
  fields := #[]
  methods := #[]
  instanceTypes := #[]
  staticTypes := #[]
  resolved := Array.replicate 8 none
  statics := none }

/-- the primitive byte -/
def k5 : Class := { plain "byte" none with kind := .primitive 'B', accessFlags := 0x411 }
/-- [B -/
def k6 : Class := { plain "[B" (some 0) with kind := .array 5 .byte, interfaces := #[3, 4], accessFlags := 1041 }

/-- the primitive int -/
def k7 : Class := { plain "int" none with kind := .primitive 'I', accessFlags := 0x411 }
/-- [I -/
def k8 : Class := { plain "[I" (some 0) with kind := .array 7 .int, interfaces := #[3, 4], accessFlags := 1041 }

def heap : Heap := #[]
def classes : Array Class := #[k0, k1, k2, k3, k4, k5, k6, k7, k8]
def interned : List (Array UInt16 × Addr) := []
def slotsUsed : Nat := 0
def theMethod : MethodId := ⟨1, 1⟩
def args0 : Array Value := #[.int 7]
def aboutOver (below : List Frame) : State where
  vm := { classes := classes, interned := interned.toArray }
  heap := heap
  slotsUsed := slotsUsed
  threads := #[{ frames := .invoking theMethod args0 :: below }]
def below0 : List Frame := [.native { method := ⟨0, 0⟩, args := #[] }]
def about1 : State := aboutOver below0
def p0 : Program := .bare "" "" ""
def e0 : Env := launch0.env 0 0 0
theorem w_frames : about1.frames = Frame.invoking theMethod args0 :: below0 := rfl
set_option maxRecDepth 65536 in
theorem w_args : argsFit about1.vm theMethod args0 = true := by decide +kernel
set_option maxRecDepth 65536 in
theorem w_heap : heapFits about1 = true := by decide +kernel
set_option maxRecDepth 65536 in
theorem w_runnable : about1.curStatus? = some .runnable := by decide +kernel
set_option maxRecDepth 65536 in
theorem w_alone : about1.alone = true := by decide +kernel
set_option maxRecDepth 65536 in
theorem w_named : about1.methodNamed? x = some theMethod := by decide +kernel
set_option maxRecDepth 65536 in
theorem w_hears : about1.hears theMethod below0 = true := by decide +kernel
set_option maxRecDepth 65536 in
theorem w_ripe : about1.ripe theMethod args0 below0 = true := by decide +kernel
theorem w_running : about1.status = .running := rfl
set_option maxRecDepth 65536 in
theorem w_room : about1.hasRoom e0.platform room_1 = true :=
  launch0.hasRoom_least _ room_1 (by decide +kernel) (by decide +kernel) (by decide +kernel) (by decide +kernel) (by decide +kernel) (by decide +kernel)
theorem allAtoms_all (ts : List Jvm.Cond) (a : Array Jvm.Value) (st : Jvm.State) : (allAtoms ts).before a st = ts.all (fun c => c.before a st) := by
  induction ts with
  | nil => rfl
  | cons c t ih =>
    show (Jvm.Cond.and c (allAtoms t)).before a st = _
    rw [Jvm.Cond.before_and, ih, List.all_cons]
def words1 : List Jvm.Cond := Jvm.Cond.code x code maxLocals ret :: tables_1
/-- a 'code' word, met by the world's own term for the bytes: nothing is compared byte by byte -/
theorem code_word {y : MethodName} {bytes : ByteArray} {mx : Nat} {rt : Option FieldType} {a : Array Value} {s : State} {m : MethodId} {meth : Method} {c : Code} (h1 : s.methodNamed? y = some m) (h2 : s.vm.method? m = some meth) (h3 : meth.code = some c) (h4 : c.code = bytes)
    (h5 : (c.maxLocals == mx && c.exceptionTable.isEmpty && decide (c.maxStack ≤ mostOperands) && decide (meth.sig.returnType = rt) && !meth.locks && decide (parseMethodDescriptor y.desc = some meth.sig)) = true) : (Jvm.Cond.code y bytes mx rt).before a s = true := by
  simp only [Bool.and_eq_true, beq_iff_eq, Bool.not_eq_true', decide_eq_true_eq] at h5
  obtain ⟨⟨⟨⟨⟨g1, g2⟩, g3⟩, g4⟩, g5⟩, g6⟩ := h5
  simp [Cond.before, Cond.holds, Cond.value, h1, h2, h3, h4, g1, g2, g3, g4, g5, g6]
def isCode : Jvm.Cond → Bool
  | .code _ _ _ _ => true
  | _ => false
theorem all_split {L : List Jvm.Cond} {P : Jvm.Cond → Bool} (h1 : L.all (fun c => isCode c || P c) = true) (h2 : ∀ c ∈ L.filter isCode, P c = true) : L.all P = true := by
  refine List.all_eq_true.mpr fun c hc => ?_
  have h := List.all_eq_true.mp h1 c hc
  rcases Bool.eq_false_or_eq_true (isCode c) with hi | hi
  · exact h2 c (List.mem_filter.mpr ⟨hc, hi⟩)
  · simpa [hi] using h
set_option maxRecDepth 65536 in
theorem w_c0 : (Jvm.Cond.code x code maxLocals ret).before args0 about1 = true := code_word (m := ⟨1, 1⟩) (meth := k1m1) (c := k1c1) (by decide +kernel) rfl rfl rfl (by decide +kernel)
set_option maxRecDepth 65536 in
theorem w_c1 : (Jvm.Cond.code ({ cls := "com/example/vedette/vedette/io/Layout", name := "largest", desc := "(I)I" } : Jvm.MethodName) prog_36_method_21_code (3 : Nat) (Option.some Jvm.ClassFile.FieldType.int)).before args0 about1 = true := code_word (m := ⟨2, 0⟩) (meth := k2m0) (c := k2c0) (by decide +kernel) rfl rfl rfl (by decide +kernel)
def codes1 : List Jvm.Cond := [Jvm.Cond.code x code maxLocals ret, Jvm.Cond.code ({ cls := "com/example/vedette/vedette/io/Layout", name := "largest", desc := "(I)I" } : Jvm.MethodName) prog_36_method_21_code (3 : Nat) (Option.some Jvm.ClassFile.FieldType.int)]
set_option maxRecDepth 65536 in
theorem codes_eq : words1.filter isCode = codes1 := rfl
theorem w_codes : ∀ c ∈ words1.filter isCode, c.before args0 about1 = true := by
  rw [codes_eq]
  intro c hc
  simp only [codes1, List.mem_cons, List.not_mem_nil, or_false] at hc
  rcases hc with rfl | rfl
  · exact w_c0
  · exact w_c1
set_option maxRecDepth 65536 in
theorem w_t1 : words1.all (fun c => isCode c || c.before args0 about1) = true := by decide +kernel
theorem w_tables : (allAtoms (Jvm.Cond.code x code maxLocals ret :: tables_1)).before args0 about1 = true := by
  rw [allAtoms_all]
  show words1.all (fun c => c.before args0 about1) = true
  refine all_split ?_ w_codes
  rw [w_t1]
set_option maxRecDepth 65536 in
theorem w_case : (Jvm.Cond.and given_1 narrow_1).before args0 about1 = true := by decide +kernel
theorem w_applies : (headSpec (Jvm.Cond.code x code maxLocals ret :: tables_1) room_1).applies x e0.platform about1 = true :=
  (Spec.applies_iff w_frames).mpr ⟨w_running, w_runnable, w_alone, w_named, w_hears, w_ripe, w_room, w_tables⟩
theorem atStart : AtStart classFile x code maxLocals ret World_1 tables_1 room_1 Calls_1 rest_1 Pre_1 launch0 p0 e0 about1 theMethod args0 below0 :=
  ⟨lists_1, trivial, launch0.admits_env _ _ _, launch0.least_env, fairChoices_fair.cas, fairChoices_fair.clock, w_frames, w_args, w_heap, w_applies, trivial, trivial, w_case⟩
end start1
theorem witness_1 : WitnessClaimed_1 := ⟨start1.p0, start1.e0, start1.about1, start1.theMethod, start1.args0, start1.below0, start1.atStart⟩
end Jvm.Pilot.@@N@@
