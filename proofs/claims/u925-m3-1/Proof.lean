import JvmDerived
import JvmDerived.Pilot.@@N@@Statement
import JvmDerived.Pilot.@@N@@Code
set_option linter.unusedVariables false
set_option linter.unusedSimpArgs false
namespace Jvm.RoadKit
open Sem ClassFile Op Lib Jvm.Stand Jvm.Free Jvm.LawKit
section New
variable {p : Program} {l : Launch} {e : Env} {R : Room} {s : State} {m : MethodId} {args : Array Value} {below : List Frame} {meth : Method} {c : Code} {T : State} {locs : List Loc} {cells slots : Nat}
theorem retI (X : Stand p l e R s m args below meth c T locs cells slots) (hx : p.tables.exec = Jvm.exec) {pc : Nat} {Ls : Array Slot} {z : Int32} {rest : List Value} (hret : meth.sig.returnType = some .int) (hd : decode c.code pc = .ok (.ireturn, 1)) {fs : List Frame}
    (hl : ∀ (f : JFrame) (acts : List Action), f.method = m → f.locked = none → f.entered = [] → (doReturn e (T.setTop f) acts (some (.int z))).1 = T.setFrames fs) : Steps p.tables e below (T.setTop (mkF m pc Ls (.int z :: rest))) (T.setFrames fs) := by
  have hm' : T.vm.method? m = some meth := X.method'
  have hn : narrow .int (.int z) = .int z := rfl
  show Steps p.tables e below (T.setTop { method := m, pc := pc, locals := Ls, stack := _ :: rest, locked := none }) _
  jvm_step X.here [X.here.top, hx, hd, hm', hret, hn]
  first | (intro acts; rw [hl _ acts rfl rfl rfl]) | rw [hl _ _ rfl rfl rfl]
  exact Steps.refl _
end New
end Jvm.RoadKit
namespace Jvm.Pilot.@@N@@
open Jvm Jvm.ClassFile Sem Op Lib Jvm.Free Jvm.Stand Jvm.LawKit Jvm.RoadKit Bundle Jvm.Pilot.@@N@@.Jvm.D

def own_b (P : Prop) [Decidable P] : Int32 := if P then 1 else 0
theorem own_bt {P : Prop} [Decidable P] (h : P) : (1 : Int32) = own_b P := (if_pos h).symm
theorem own_bf {P : Prop} [Decidable P] (h : ¬ P) : (0 : Int32) = own_b P := (if_neg h).symm
theorem own_bc {P Q : Prop} [Decidable P] [Decidable Q] (h : P ↔ Q) : own_b P = own_b Q := by
  by_cases hp : P
  · rw [← own_bt hp, ← own_bt (h.mp hp)]
  · rw [← own_bf hp, ← own_bf (fun q => hp (h.mpr q))]
theorem own_nb {P : Prop} [Decidable P] : nar .boolean (own_b P) = own_b P := by
  by_cases hp : P
  · rw [← own_bt hp]; rfl
  · rw [← own_bf hp]; rfl
theorem own_bz {P : Prop} [Decidable P] : own_b P = 0 ↔ ¬ P := by
  by_cases hp : P
  · rw [← own_bt hp]; exact ⟨fun h => absurd h (by decide), fun h => absurd hp h⟩
  · rw [← own_bf hp]; exact ⟨fun _ => hp, fun _ => rfl⟩

section Own
variable {p : Program} {l : Launch} {e : Env} {R : Room} {s : State} {m : MethodId} {args : Array Value} {below : List Frame} {meth : Method} {c : Code} {T : State} {locs : List Loc} {cells slots : Nat} {Z : State} {h : Heap} {a : Addr} {k : ClassId} {n : Int32} {vs : List Value} {dv : Value}
theorem own_in {cl : Cell} {j : Int32} {i : Nat} (S : cl.slots.size = n.toNatClampNeg) (hj0 : ¬ j < 0) (hji : j.toNatClampNeg = i) (hin : i < n.toNatClampNeg) : ¬ (j < 0 ∨ cl.slots.size ≤ j.toNatClampNeg) := by
  rw [S, hji]; exact fun q => q.elim hj0 (fun q => absurd hin (Nat.not_lt.mpr q))
theorem own_ild (X : Stand p l e R s m args below meth c T locs cells slots) (hx : p.tables.exec = Jvm.exec) (hZ : Z.Warmed39 s.vm) (eT : T.heap = h) (A : Arv Z h a k .int n vs dv) {j w : Int32} (i : Nat) (hj0 : ¬ j < 0) (hji : j.toNatClampNeg = i) (hin : i < n.toNatClampNeg) (hw : vs.getD i dv = .int w)
    {g : JFrame} (hg : g.method = m) {rest : List Value} (hs : g.stack = .int j :: .ref a :: rest) (hd : decode c.code g.pc = .ok (.iaload, 1)) : ∀ target, Steps p.tables e below (T.setTop { g with pc := g.pc + 1, stack := .int w :: rest }) target → Steps p.tables e below (T.setTop g) target := by
  obtain ⟨cl, Ar, -, S, -, H, -⟩ := A
  have hat : cl.slots[j.toNatClampNeg]? = some (.int w) := by rw [hji, H i (by rw [S]; exact hin), hw]
  exact X.iaload hx (j := j) (v := .int w) (by rw [eT]; exact Ar.1) (State.isArrayOf_alike hZ.alike Ar.2.1) Ar.2.2 (own_in S hj0 hji hin) hat hg hs hd
theorem own_len (X : Stand p l e R s m args below meth c T locs cells slots) (hx : p.tables.exec = Jvm.exec) (hZ : Z.Warmed39 s.vm) (eT : T.heap = h) {ty : FieldType} (A : Arv Z h a k ty n vs dv)
    {g : JFrame} (hg : g.method = m) {rest : List Value} (hs : g.stack = .ref a :: rest) (hd : decode c.code g.pc = .ok (.arraylength, 1)) : ∀ target, Steps p.tables e below (T.setTop { g with pc := g.pc + 1, stack := .int n :: rest }) target → Steps p.tables e below (T.setTop g) target := by
  obtain ⟨cl, Ar, -, S, N, H, -⟩ := A
  have q := X.arraylength hx (by rw [eT]; exact Ar.1) (State.isArrayOf_alike hZ.alike Ar.2.1) hg hs hd
  rw [len_of S N] at q
  exact q
theorem own_ist (X : Stand p l e R s m args below meth c T locs cells slots) (hx : p.tables.exec = Jvm.exec) (hZ : Z.Warmed39 s.vm) (eT : T.heap = h) (A : Arv Z h a k .int n vs dv) {j x : Int32} (i : Nat) (hj0 : ¬ j < 0) (hji : j.toNatClampNeg = i) (hin : i < n.toNatClampNeg) (hi : i < vs.length)
    {g : JFrame} (hg : g.method = m) {rest : List Value} (hs : g.stack = .int x :: .int j :: .ref a :: rest) (hd : decode c.code g.pc = .ok (.iastore, 1)) :
    ∃ T' h', Stand p l e R s m args below meth c T' (locs ++ [⟨a, j.toNatClampNeg⟩]) cells slots ∧ T'.heap = h' ∧ Wr h h' a j.toNatClampNeg (.int x) ∧ Arv Z h' a k .int n (vs.set i (.int x)) dv ∧ ∀ target, Steps p.tables e below (T'.setTop { g with pc := g.pc + 1, stack := rest }) target → Steps p.tables e below (T.setTop g) target := by
  obtain ⟨cl, Ar, q1, S, N, H, G⟩ := A
  obtain ⟨T', h', X', e', W', st⟩ := stI X hx hZ eT Ar (j := j) (own_in S hj0 hji hin) hg hs hd
  exact ⟨T', h', X', e', W', Arv.set Ar q1 S N H G rfl W' i hji hi, st⟩
end Own

theorem own_nat {k : Nat} (h : k < 2 ^ 31) : (Int32.ofNat k).toInt = (k : Int) := Int32.toInt_ofNat_of_lt h
theorem own_nn {k : Nat} (h : k < 2 ^ 31) : ¬ Int32.ofNat k < 0 := by
  rw [Int32.lt_iff_toInt_lt, own_nat h]; exact Int.not_lt.mpr (Int.natCast_nonneg _)
theorem own_tn {k : Nat} (h : k < 2 ^ 31) : (Int32.ofNat k).toNatClampNeg = k := by
  show (Int32.ofNat k).toInt.toNat = k
  rw [own_nat h]; omega
theorem own_ilt {i n : Nat} (hi : i < 2 ^ 31) (hn : n < 2 ^ 31) : Int32.ofNat i < Int32.ofNat n ↔ i < n := by
  rw [Int32.lt_iff_toInt_lt, own_nat hi, own_nat hn]; omega
theorem own_up (i : Nat) : Int32.ofNat i + 1 = Int32.ofNat (i + 1) := (Int32.ofNat_add i 1).symm
theorem own_down {i : Nat} (h0 : 1 ≤ i) (h : i < 2 ^ 31) : Int32.ofNat i - 1 = Int32.ofNat (i - 1) := by
  apply Int32.toInt_inj.mp
  have c1 := c_isub (Int32.ofNat i) 1
  have r1 := rng32 (Int32.ofNat i - 1)
  have k1 : (1 : Int32).toInt = 1 := rfl
  rw [own_nat h, k1] at c1
  rw [own_nat (by omega)]
  omega
theorem own_div {i : Nat} (h : i < 64) : Int32.ofNat i / 64 = 0 := by
  apply Int32.toInt_inj.mp
  have q := (c_idiv (Int32.ofNat i) 64 64 (by decide) (by decide)).1
  rw [own_nat (by omega)] at q
  rw [q (by omega)]
  have k0 : (0 : Int32).toInt = 0 := rfl
  omega
theorem own_four : (4 : Int32).toNatClampNeg = 4 := by decide
def own_vs (D : List Nat) : List Value := D.map fun n => .int (Int32.ofNat n)
theorem own_get (D : List Nat) (i : Nat) (h : i < D.length) : (own_vs D).getD i (.int 0) = .int (Int32.ofNat (D.getD i 0)) := by
  simp [own_vs, List.getD_eq_getElem?_getD, List.getElem?_map, List.getElem?_eq_getElem h]
theorem own_set (D : List Nat) (i x : Nat) : (own_vs D).set i (.int (Int32.ofNat x)) = own_vs (D.set i x) := by
  unfold own_vs; rw [List.map_set]
theorem own_vsl (D : List Nat) : (own_vs D).length = D.length := List.length_map ..
section OwnN
variable {p : Program} {l : Launch} {e : Env} {R : Room} {s : State} {m : MethodId} {args : Array Value} {below : List Frame} {meth : Method} {c : Code} {T : State} {locs : List Loc} {cells slots : Nat} {Z : State} {h : Heap} {a : Addr} {k : ClassId} {n : Int32} {vs : List Value} {dv : Value} {D : List Nat}
theorem own_ildN (X : Stand p l e R s m args below meth c T locs cells slots) (hx : p.tables.exec = Jvm.exec) (hZ : Z.Warmed39 s.vm) (eT : T.heap = h) (A : Arv Z h a k .int (4 : Int32) (own_vs D) (.int 0)) (i : Nat) (hi : i < 4) (hD : D.length = 4)
    {g : JFrame} (hg : g.method = m) {rest : List Value} (hs : g.stack = .int (Int32.ofNat i) :: .ref a :: rest) (hd : decode c.code g.pc = .ok (.iaload, 1)) : ∀ target, Steps p.tables e below (T.setTop { g with pc := g.pc + 1, stack := .int (Int32.ofNat (D.getD i 0)) :: rest }) target → Steps p.tables e below (T.setTop g) target :=
  own_ild X hx hZ eT A i (own_nn (by omega)) (own_tn (by omega)) (by rw [own_four]; exact hi) (own_get D i (by omega)) hg hs hd
theorem own_istN (X : Stand p l e R s m args below meth c T locs cells slots) (hx : p.tables.exec = Jvm.exec) (hZ : Z.Warmed39 s.vm) (eT : T.heap = h) (A : Arv Z h a k .int (4 : Int32) (own_vs D) (.int 0)) (i x : Nat) (hi : i < 4) (hD : D.length = 4)
    {g : JFrame} (hg : g.method = m) {rest : List Value} (hs : g.stack = .int (Int32.ofNat x) :: .int (Int32.ofNat i) :: .ref a :: rest) (hd : decode c.code g.pc = .ok (.iastore, 1)) :
    ∃ T' h', Stand p l e R s m args below meth c T' (locs ++ [⟨a, (Int32.ofNat i).toNatClampNeg⟩]) cells slots ∧ T'.heap = h' ∧ Wr h h' a (Int32.ofNat i).toNatClampNeg (.int (Int32.ofNat x)) ∧ Arv Z h' a k .int (4 : Int32) (own_vs (D.set i x)) (.int 0) ∧ ∀ target, Steps p.tables e below (T'.setTop { g with pc := g.pc + 1, stack := rest }) target → Steps p.tables e below (T.setTop g) target := by
  obtain ⟨T', h', X', e', W', V', st⟩ := own_ist X hx hZ eT A i (own_nn (by omega)) (own_tn (by omega)) (by rw [own_four]; exact hi) (by rw [own_vsl]; omega) hg hs hd
  rw [own_set] at V'
  exact ⟨T', h', X', e', W', V', st⟩
theorem own_istW (X : Stand p l e R s m args below meth c T locs cells slots) (hx : p.tables.exec = Jvm.exec) (hZ : Z.Warmed39 s.vm) (eT : T.heap = h) (A : Arv Z h a k .int (4 : Int32) vs (.int 0)) (i : Nat) (hi : i < 4) (hD : vs.length = 4) {x : Int32}
    {g : JFrame} (hg : g.method = m) {rest : List Value} (hs : g.stack = .int x :: .int (Int32.ofNat i) :: .ref a :: rest) (hd : decode c.code g.pc = .ok (.iastore, 1)) :
    ∃ T' h', Stand p l e R s m args below meth c T' (locs ++ [⟨a, (Int32.ofNat i).toNatClampNeg⟩]) cells slots ∧ T'.heap = h' ∧ Wr h h' a (Int32.ofNat i).toNatClampNeg (.int x) ∧ Arv Z h' a k .int (4 : Int32) (vs.set i (.int x)) (.int 0) ∧ ∀ target, Steps p.tables e below (T'.setTop { g with pc := g.pc + 1, stack := rest }) target → Steps p.tables e below (T.setTop g) target :=
  own_ist X hx hZ eT A i (own_nn (by omega)) (own_tn (by omega)) (by rw [own_four]; exact hi) (by omega) hg hs hd
theorem own_lld (X : Stand p l e R s m args below meth c T locs cells slots) (hx : p.tables.exec = Jvm.exec) (hZ : Z.Warmed39 s.vm) (eT : T.heap = h) (A : Arv Z h a k .long n vs dv) {j : Int32} {w : Int64} (i : Nat) (hj0 : ¬ j < 0) (hji : j.toNatClampNeg = i) (hin : i < n.toNatClampNeg) (hw : vs.getD i dv = .long w)
    {g : JFrame} (hg : g.method = m) {rest : List Value} (hs : g.stack = .int j :: .ref a :: rest) (hd : decode c.code g.pc = .ok (.laload, 1)) : ∀ target, Steps p.tables e below (T.setTop { g with pc := g.pc + 1, stack := .long w :: rest }) target → Steps p.tables e below (T.setTop g) target := by
  obtain ⟨cl, Ar, -, S, -, H, -⟩ := A
  have hat : cl.slots[j.toNatClampNeg]? = some (.long w) := by rw [hji, H i (by rw [S]; exact hin), hw]
  exact X.laload hx (j := j) (v := .long w) (by rw [eT]; exact Ar.1) (State.isArrayOf_alike hZ.alike Ar.2.1) Ar.2.2 (own_in S hj0 hji hin) hat hg hs hd
theorem own_lst (X : Stand p l e R s m args below meth c T locs cells slots) (hx : p.tables.exec = Jvm.exec) (hZ : Z.Warmed39 s.vm) (eT : T.heap = h) (A : Arv Z h a k .long n vs dv) {j : Int32} {x : Int64} (i : Nat) (hj0 : ¬ j < 0) (hji : j.toNatClampNeg = i) (hin : i < n.toNatClampNeg) (hi : i < vs.length)
    {g : JFrame} (hg : g.method = m) {rest : List Value} (hs : g.stack = .long x :: .int j :: .ref a :: rest) (hd : decode c.code g.pc = .ok (.lastore, 1)) :
    ∃ T' h', Stand p l e R s m args below meth c T' (locs ++ [⟨a, j.toNatClampNeg⟩]) cells slots ∧ T'.heap = h' ∧ Wr h h' a j.toNatClampNeg (.long x) ∧ Arv Z h' a k .long n (vs.set i (.long x)) dv ∧ ∀ target, Steps p.tables e below (T'.setTop { g with pc := g.pc + 1, stack := rest }) target → Steps p.tables e below (T.setTop g) target := by
  obtain ⟨cl, Ar, q1, S, N, H, G⟩ := A
  obtain ⟨T', h', X', e', W', st⟩ := stJ X hx hZ eT Ar (j := j) (own_in S hj0 hji hin) hg hs hd
  exact ⟨T', h', X', e', W', Arv.set Ar q1 S N H G rfl W' i hji hi, st⟩
end OwnN
def own_rem (S : Nat × List Nat × List Nat) (i : Nat) : Nat × List Nat × List Nat :=
  (S.1 - 1, (S.2.1.set (S.2.2.getD i 0) (S.2.1.getD (S.1 - 1) 0)).set (S.1 - 1) (S.2.1.getD (S.2.2.getD i 0) 0), (S.2.2.set (S.2.1.getD (S.1 - 1) 0) (S.2.2.getD i 0)).set (S.2.1.getD (S.2.2.getD i 0) 0) (S.1 - 1))
def own_ok (S : Nat × List Nat × List Nat) (i : Nat) : Prop :=
  i < 4 ∧ S.1 ≤ 4 ∧ S.2.2.getD i 0 < S.1 ∧ S.2.1.length = 4 ∧ S.2.2.length = 4 ∧ S.2.1.getD (S.2.2.getD i 0) 0 < 4 ∧ S.2.1.getD (S.1 - 1) 0 < 4
instance own_okd (S : Nat × List Nat × List Nat) (i : Nat) : Decidable (own_ok S i) := by unfold own_ok; infer_instance
def own_s0 : Nat × List Nat × List Nat := (4, [0, 1, 2, 3], [0, 1, 2, 3])
def own_s (b : Bool) (S : Nat × List Nat × List Nat) (i : Nat) : Nat × List Nat × List Nat := if b then own_rem S i else S
theorem own_ok0 : own_ok own_s0 0 := by decide
theorem own_ok1 : ∀ b0, own_ok (own_s b0 own_s0 0) 1 := by decide
theorem own_ok2 : ∀ b0 b1, own_ok (own_s b1 (own_s b0 own_s0 0) 1) 2 := by decide
theorem own_ok3 : ∀ b0 b1 b2, own_ok (own_s b2 (own_s b1 (own_s b0 own_s0 0) 1) 2) 3 := by decide
def own_fill (ds : List Nat) (z : Int32) (vs : List Value) : List Value := ds.foldl (fun w d => w.set d (.int z)) vs
def own_okr (S : Nat × List Nat × List Nat) : Prop := S.1 ≤ 4 ∧ S.2.1.length = 4 ∧ ∀ i, i < 4 → S.2.1.getD i 0 < 4
instance own_okrd (S : Nat × List Nat × List Nat) : Decidable (own_okr S) := by unfold own_okr; infer_instance
theorem own_ok4 : ∀ b0 b1 b2 b3, own_okr (own_s b3 (own_s b2 (own_s b1 (own_s b0 own_s0 0) 1) 2) 3) := by decide
def own_sel (b : Bool) (x z : Int32) : Int32 := if b then x else z
def own_s4 (b0 b1 b2 b3 : Bool) : Nat × List Nat × List Nat := own_s b3 (own_s b2 (own_s b1 (own_s b0 own_s0 0) 1) 2) 3
theorem own_fin (b0 b1 b2 b3 : Bool) (z a b c d : Int32) : own_fill ((own_s4 b0 b1 b2 b3).2.1.take (own_s4 b0 b1 b2 b3).1) z [.int a, .int b, .int c, .int d] = [.int (own_sel b0 a z), .int (own_sel b1 b z), .int (own_sel b2 c z), .int (own_sel b3 d z)] := by
  cases b0 <;> cases b1 <;> cases b2 <;> cases b3 <;> rfl
theorem own_fl (ds : List Nat) (z : Int32) (vs : List Value) : (own_fill ds z vs).length = vs.length := by
  unfold own_fill
  induction ds generalizing vs with
  | nil => rfl
  | cons d ds ih => rw [List.foldl_cons, ih, List.length_set]
theorem own_step (D : List Nat) (i : Nat) (h : i < D.length) (z : Int32) (vs : List Value) : (own_fill (D.take i) z vs).set (D.getD i 0) (.int z) = own_fill (D.take (i + 1)) z vs := by
  unfold own_fill
  rw [List.take_succ_eq_append_getElem h, List.foldl_append, List.getD_eq_getElem?_getD, List.getElem?_eq_getElem h]
  rfl

def own_Rep (Z : State) (h : Heap) (v tr dn pl pr ws : Addr) (kd kp kr kw : ClassId) (sz : Nat) (D P : List Nat) (Wv : List Value) : Prop := Exa Z h v "com/example/arcmill/arcmill/Variable" ∧ Exa Z h tr "com/example/arcmill/arcmill/Trail" ∧ Fld Z h v "com/example/arcmill/arcmill/Variable" "size" "I" (.int (Int32.ofNat sz)) ∧ (∃ sv : Int64, Fld Z h v "com/example/arcmill/arcmill/Variable" "sizeSavedIn" "J" (.long sv)) ∧ Fld Z h v "com/example/arcmill/arcmill/Variable" "trail" "Lcom/example/arcmill/arcmill/Trail;" (.ref tr) ∧ Fld Z h v "com/example/arcmill/arcmill/Variable" "dense" "[I" (.ref dn) ∧ Fld Z h v "com/example/arcmill/arcmill/Variable" "places" "[I" (.ref pl) ∧ Fld Z h v "com/example/arcmill/arcmill/Variable" "present" "[J" (.ref pr) ∧ Fld Z h v "com/example/arcmill/arcmill/Variable" "workspace" "[I" (.ref ws) ∧ Fld Z h tr "com/example/arcmill/arcmill/Trail" "epoch" "J" (.long (0 : Int64)) ∧ Fld Z h tr "com/example/arcmill/arcmill/Trail" "level" "I" (.int (0 : Int32)) ∧ Arv Z h dn kd .int (4 : Int32) (own_vs D) (.int 0) ∧ Arv Z h pl kp .int (4 : Int32) (own_vs P) (.int 0) ∧ (∃ qq : Int64, Arv Z h pr kr .long (1 : Int32) [(.long qq)] (.long (0 : Int64))) ∧ Arv Z h ws kw .int (4 : Int32) Wv (.int 0) ∧ @LT.lt Nat _ tr v ∧ @LT.lt Nat _ v dn ∧ @LT.lt Nat _ dn pl ∧ @LT.lt Nat _ pl pr ∧ @LT.lt Nat _ pr ws
theorem d6_0 : decode jdk_22_method_1_code 0 = .ok (.aload_n 0, 1) := by decide +kernel
theorem d6_1 : decode jdk_22_method_1_code 1 = .ok (.invokespecial 1, 3) := by decide +kernel
theorem d6_4 : decode jdk_22_method_1_code 4 = .ok (.return_, 1) := by decide +kernel
theorem pn_6 : plainName "java/util/AbstractCollection" = true := by first | (simp [plainName, overriddenIn]; done) | decide +kernel
theorem ef_6 (m : MethodId) (x0 : Addr) : entryFrame m #[(.ref x0)] 1 = mkF m 0 #[.val (.ref x0)] [] := by first | (simp [entryFrame, mkF, argsToLocals, Value.category]; done) | rfl
def Q6 (Z : State) (a1 : Addr) (h0 : Heap) (n0 : Nat) (v : Option Value) (h : Heap) (L : List Loc) : Prop := v = none ∧ Fr n0 L ∧ h = h0
set_option maxRecDepth 65536 in
set_option maxHeartbeats 40000000 in
theorem rm6 (l : Launch) (Z : State) (a0 : Array Value) (hw : ∀ d ∈ tables_1, d.before a0 Z = true) (ws : List Jvm.Cond) (a1 : Addr) (h0 : Heap) (n0 : Nat) (Z0 : n0 ≤ h0.size) :
    MetFree l (⟨"java/util/AbstractCollection", "<init>", "()V"⟩ : MethodName) (head1 (Jvm.Cond.code (⟨"java/util/AbstractCollection", "<init>", "()V"⟩ : MethodName) jdk_22_method_1_code 1 none :: ws) ({ frames := 1, cells := 0, slots := 0, locals := 12 } : Room)) (fun a U => a = #[(.ref a1)] ∧ Z.Warmed39 U.vm ∧ U.heap = h0) (fun _ _ _ _ _ => True) (fun _ U o U' => ∃ v L, o = .returned v ∧ Q6 Z a1 h0 n0 v U'.heap L ∧ FrameEnd U o U' L ({ frames := 1, cells := 0, slots := 0, locals := 12 } : Room).cells ({ frames := 1, cells := 0, slots := 0, locals := 12 } : Room).slots) := by
  refine MetFree.of_bodySF (plainFor_of_name pn_6) hisR ?_
  intro p e s m args below meth c s₁ Bd hml0 hP hK
  obtain ⟨rfl, hZ, hh⟩ := hP
  have hx := Bd.exec
  have hby := Bd.bytes
  have hml : c.maxLocals = 1 := hml0
  have hown : s.vm.findClass "java/util/AbstractCollection" = some m.cls := findClass_of_methodNamed Bd.named
  have hnm := (name_of_methodNamed Bd.named Bd.method).1
  have X0 : Stand p l e ({ frames := 1, cells := 0, slots := 0, locals := 12 } : Room) s m #[(.ref a1)] below meth c s₁ [] 0 0 := Stand.of_body Bd
  have e0 : s₁.heap = h0 := by rw [← hh, Bd.state]; rfl
  have N0 := Fr.nil n0
  have pre0 : ∀ t, Steps p.tables e below (s₁.setTop (mkF m 0 #[.val (.ref a1)] [])) t → Steps p.tables e below (s₁.setTop (entryFrame m #[(.ref a1)] 1)) t := fun t k => castTop (ef_6 m a1) k
  obtain ⟨T2, X2, e2, st2⟩ := initO X0 hx hZ hown (hw _ (List.mem_of_getElem? (i := 54) rfl)) (hw _ (List.mem_of_getElem? (i := 7) rfl)) (hw _ (List.mem_of_getElem? (i := 8) rfl)) e0 (g := (mkF m 1 #[.val (.ref a1)] [(.ref a1)])) rfl (by rw [hml]; rfl) rfl (hb hby d6_1) (by decide) (W := 0) (by show 2 * 0 + _ ≤ _; exact Nat.le_of_eq rfl) (by decide)
  obtain ⟨fs, hr, hrun, hended, hW, hsame⟩ := X2.leave (v := none) (fun _ => rfl)
  refine ⟨_, _, pre0 _ ?_, hrun, hended, _, _, rfl, ?_, ⟨_, rfl⟩, hW, hsame.mono (by decide) (by decide)⟩
  · show Steps p.tables e below (s₁.setTop (mkF m 0 #[.val (.ref a1)] [])) _
    refine XS.aloadN X0.here hx rfl (hb hby d6_0) rfl rfl ?_
    show Steps p.tables e below (s₁.setTop (mkF m 1 #[.val (.ref a1)] [(.ref a1)])) _
    refine st2 _ ?_
    show Steps p.tables e below (T2.setTop (mkF m 4 #[.val (.ref a1)] [])) _
    exact X2.returnOut hx Bd.returns (hb hby d6_4) hr
  · show Q6 Z a1 h0 n0 _ T2.heap _
    rw [e2]
    exact ⟨rfl, N0, rfl⟩

theorem d5_0 : decode jdk_39_method_1_code 0 = .ok (.aload_n 0, 1) := by decide +kernel
theorem d5_1 : decode jdk_39_method_1_code 1 = .ok (.invokespecial 1, 3) := by decide +kernel
theorem d5_4 : decode jdk_39_method_1_code 4 = .ok (.aload_n 0, 1) := by decide +kernel
theorem d5_5 : decode jdk_39_method_1_code 5 = .ok (.iconst 0, 1) := by decide +kernel
theorem d5_6 : decode jdk_39_method_1_code 6 = .ok (.putfield 7, 3) := by decide +kernel
theorem d5_9 : decode jdk_39_method_1_code 9 = .ok (.return_, 1) := by decide +kernel
theorem pn_5 : plainName "java/util/AbstractList" = true := by first | (simp [plainName, overriddenIn]; done) | decide +kernel
theorem pd_5_0 : parseMethodDescriptor "()V" = some ⟨[], none⟩ := by decide +kernel
theorem ef_5 (m : MethodId) (x0 : Addr) : entryFrame m #[(.ref x0)] 1 = mkF m 0 #[.val (.ref x0)] [] := by first | (simp [entryFrame, mkF, argsToLocals, Value.category]; done) | rfl
def Q5 (Z : State) (a1 : Addr) (u_modCount_a1 : Value) (u_el : Value) (h0 : Heap) (n0 : Nat) (v : Option Value) (h : Heap) (L : List Loc) : Prop := v = none ∧ Fr n0 L ∧ Keep h0 h [a1] ∧ Fld Z h a1 "java/util/ArrayList" "elementData" "[Ljava/lang/Object;" u_el
set_option maxRecDepth 65536 in
set_option maxHeartbeats 40000000 in
theorem rm5 (l : Launch) (Z : State) (a0 : Array Value) (hw : ∀ d ∈ tables_1, d.before a0 Z = true) (ws : List Jvm.Cond) (a1 : Addr) (u_modCount_a1 : Value) (u_el : Value) (h0 : Heap) (n0 : Nat) (Z0 : n0 ≤ h0.size) (E_a1 : Exa Z h0 a1 "java/util/ArrayList") (F_modCount_a1 : Fld Z h0 a1 "java/util/AbstractList" "modCount" "I" u_modCount_a1) (g_a1 : n0 ≤ a1) (F_el : Fld Z h0 a1 "java/util/ArrayList" "elementData" "[Ljava/lang/Object;" u_el) :
    MetFree l (⟨"java/util/AbstractList", "<init>", "()V"⟩ : MethodName) (head1 (Jvm.Cond.code (⟨"java/util/AbstractList", "<init>", "()V"⟩ : MethodName) jdk_39_method_1_code 1 none :: ws) ({ frames := 2, cells := 0, slots := 0, locals := 24 } : Room)) (fun a U => a = #[(.ref a1)] ∧ Z.Warmed39 U.vm ∧ U.heap = h0) (fun _ _ _ _ _ => True) (fun _ U o U' => ∃ v L, o = .returned v ∧ Q5 Z a1 u_modCount_a1 u_el h0 n0 v U'.heap L ∧ FrameEnd U o U' L ({ frames := 2, cells := 0, slots := 0, locals := 24 } : Room).cells ({ frames := 2, cells := 0, slots := 0, locals := 24 } : Room).slots) := by
  refine MetFree.of_bodySF (plainFor_of_name pn_5) hisR ?_
  intro p e s m args below meth c s₁ Bd hml0 hP hK
  obtain ⟨rfl, hZ, hh⟩ := hP
  have hx := Bd.exec
  have hby := Bd.bytes
  have hml : c.maxLocals = 1 := hml0
  have hown : s.vm.findClass "java/util/AbstractList" = some m.cls := findClass_of_methodNamed Bd.named
  have hnm := (name_of_methodNamed Bd.named Bd.method).1
  have X0 : Stand p l e ({ frames := 2, cells := 0, slots := 0, locals := 24 } : Room) s m #[(.ref a1)] below meth c s₁ [] 0 0 := Stand.of_body Bd
  have e0 : s₁.heap = h0 := by rw [← hh, Bd.state]; rfl
  have N0 := Fr.nil n0
  have pre0 : ∀ t, Steps p.tables e below (s₁.setTop (mkF m 0 #[.val (.ref a1)] [])) t → Steps p.tables e below (s₁.setTop (entryFrame m #[(.ref a1)] 1)) t := fun t k => castTop (ef_5 m a1) k
  obtain ⟨_, _, ⟨T2, L2, k2, n2⟩, -, X2, ⟨Lc2, hQ2, l2, y2, z2⟩, st2⟩ := X0.specialBack hx (y := (⟨"java/util/AbstractCollection", "<init>", "()V"⟩ : MethodName)) rfl hown (mvT hZ (hw _ (List.mem_of_getElem? (i := 48) rfl))) (mvT hZ (hw _ (List.mem_of_getElem? (i := 49) rfl))) (mvT hZ (hw _ (List.mem_of_getElem? (i := 53) rfl))) (by decide) (backOf (W := 0) (rm6 l Z a0 hw [] a1 h0 n0 Z0) hZ (hw _ (List.mem_of_getElem? (i := 53) rfl)) (hw _ (List.mem_of_getElem? (i := 52) rfl)) (by decide) (by decide)) (g := (mkF m 1 #[.val (.ref a1)] [(.ref a1)])) rfl (by rw [hml]; rfl) (Steps.refl _) (a := a1) (argsL := []) (rest := []) (lenOf pd_5_0 rfl) rfl (by show 2 * 0 + _ ≤ _; exact Nat.le_of_eq rfl) (hb hby d5_1) (fun _ _ => ⟨rfl, e0, (by decide : 0 + 0 ≤ _), (by decide : 0 + 0 ≤ _)⟩)
  dsimp only [Pt.U, Pt.locs, Pt.cells, Pt.slots] at X2 l2 y2 z2 st2 hQ2
  subst l2 y2 z2
  obtain ⟨rfl, N2q, q2h⟩ := hQ2
  have N2 := Fr.app N0 N2q
  obtain ⟨T3, h3, X3, e3, W3, st3⟩ := putF X2 hx hZ hown (host := "") (Or.inl (hw _ (List.mem_of_getElem? (i := 55) rfl))) Via.refl rfl (q2h.symm ▸ F_modCount_a1) (q2h.symm ▸ E_a1) (Or.inl (hw _ (List.mem_of_getElem? (i := 56) rfl))) (hw _ (List.mem_of_getElem? (i := 37) rfl)) (ty := .int) (by decide) rfl rfl (g := (mkF m 6 #[.val (.ref a1)] [(.int (0 : Int32)), (.ref a1)])) rfl rfl (hb hby d5_6)
  have Fw3 := (q2h.symm ▸ F_modCount_a1).same W3
  have K3 : Keep h0 h3 [a1] := (q2h.symm ▸ Keep.refl h0 [a1] : Keep h0 T2.heap [a1]).wr W3 (Or.inl (List.mem_of_getElem? (i := 0) rfl))
  have N3 := Fr.snoc X3 N2 g_a1
  obtain ⟨fs, hr, hrun, hended, hW, hsame⟩ := X3.leave (v := none) (fun _ => rfl)
  refine ⟨_, _, pre0 _ ?_, hrun, hended, _, _, rfl, ?_, ⟨_, rfl⟩, hW, hsame.mono (by decide) (by decide)⟩
  · show Steps p.tables e below (s₁.setTop (mkF m 0 #[.val (.ref a1)] [])) _
    refine XS.aloadN X0.here hx rfl (hb hby d5_0) rfl rfl ?_
    show Steps p.tables e below (s₁.setTop (mkF m 1 #[.val (.ref a1)] [(.ref a1)])) _
    refine st2.trans ?_
    show Steps p.tables e below (T2.setTop (mkF m 4 #[.val (.ref a1)] [])) _
    refine XS.aloadN X2.here hx rfl (hb hby d5_4) rfl rfl ?_
    show Steps p.tables e below (T2.setTop (mkF m 5 #[.val (.ref a1)] [(.ref a1)])) _
    refine XS.iconst X2.here hx rfl (hb hby d5_5) ?_
    show Steps p.tables e below (T2.setTop (mkF m 6 #[.val (.ref a1)] [(.int (0 : Int32)), (.ref a1)])) _
    refine st3 _ ?_
    show Steps p.tables e below (T3.setTop (mkF m 9 #[.val (.ref a1)] [])) _
    exact X3.returnOut hx Bd.returns (hb hby d5_9) hr
  · show Q5 Z a1 u_modCount_a1 u_el h0 n0 _ T3.heap _
    rw [e3]
    exact ⟨rfl, N3, K3, (q2h.symm ▸ F_el : Fld Z T2.heap a1 "java/util/ArrayList" "elementData" "[Ljava/lang/Object;" u_el).other W3 (Or.inr (slot_ne (Or.inl (hw _ (List.mem_of_getElem? (i := 59) rfl))) (Or.inl (hw _ (List.mem_of_getElem? (i := 56) rfl))) (by decide) (t := (.array (.object "java/lang/Object"))) (t' := .int) (by decide) (by decide)))⟩

theorem d4_0 : decode jdk_38_method_2_code 0 = .ok (.aload_n 0, 1) := by decide +kernel
theorem d4_1 : decode jdk_38_method_2_code 1 = .ok (.invokespecial 1, 3) := by decide +kernel
theorem d4_4 : decode jdk_38_method_2_code 4 = .ok (.aload_n 0, 1) := by decide +kernel
theorem d4_5 : decode jdk_38_method_2_code 5 = .ok (.getstatic 39, 3) := by decide +kernel
theorem d4_8 : decode jdk_38_method_2_code 8 = .ok (.putfield 9, 3) := by decide +kernel
theorem d4_11 : decode jdk_38_method_2_code 11 = .ok (.return_, 1) := by decide +kernel
theorem pn_4 : plainName "java/util/ArrayList" = true := by first | (simp [plainName, overriddenIn]; done) | decide +kernel
theorem pd_4_0 : parseMethodDescriptor "()V" = some ⟨[], none⟩ := by decide +kernel
theorem ef_4 (m : MethodId) (x0 : Addr) : entryFrame m #[(.ref x0)] 1 = mkF m 0 #[.val (.ref x0)] [] := by first | (simp [entryFrame, mkF, argsToLocals, Value.category]; done) | rfl
def Q4 (Z : State) (a1 : Addr) (w3 : Addr) (u_elementData_a1 : Value) (u_modCount_a1 : Value) (h0 : Heap) (n0 : Nat) (v : Option Value) (h : Heap) (L : List Loc) : Prop := v = none ∧ Fr n0 L ∧ Keep h0 h [a1]
set_option maxRecDepth 65536 in
set_option maxHeartbeats 40000000 in
theorem rm4 (l : Launch) (Z : State) (a0 : Array Value) (hw : ∀ d ∈ tables_1, d.before a0 Z = true) (ws : List Jvm.Cond) (a1 : Addr) (w3 : Addr) (u_elementData_a1 : Value) (u_modCount_a1 : Value) (h0 : Heap) (n0 : Nat) (Z0 : n0 ≤ h0.size) (S0 : Sta Z Z.heap "java/util/ArrayList" "DEFAULTCAPACITY_EMPTY_ELEMENTDATA" "[Ljava/lang/Object;" (.ref w3)) (hO : Old Z n0 h0) (E_a1 : Exa Z h0 a1 "java/util/ArrayList") (F_elementData_a1 : Fld Z h0 a1 "java/util/ArrayList" "elementData" "[Ljava/lang/Object;" u_elementData_a1) (g_a1 : n0 ≤ a1) (F_modCount_a1 : Fld Z h0 a1 "java/util/AbstractList" "modCount" "I" u_modCount_a1) :
    MetFree l (⟨"java/util/ArrayList", "<init>", "()V"⟩ : MethodName) (head1 (Jvm.Cond.code (⟨"java/util/ArrayList", "<init>", "()V"⟩ : MethodName) jdk_38_method_2_code 1 none :: ws) ({ frames := 3, cells := 0, slots := 0, locals := 36 } : Room)) (fun a U => a = #[(.ref a1)] ∧ Z.Warmed39 U.vm ∧ U.heap = h0) (fun _ _ _ _ _ => True) (fun _ U o U' => ∃ v L, o = .returned v ∧ Q4 Z a1 w3 u_elementData_a1 u_modCount_a1 h0 n0 v U'.heap L ∧ FrameEnd U o U' L ({ frames := 3, cells := 0, slots := 0, locals := 36 } : Room).cells ({ frames := 3, cells := 0, slots := 0, locals := 36 } : Room).slots) := by
  refine MetFree.of_bodySF (plainFor_of_name pn_4) hisR ?_
  intro p e s m args below meth c s₁ Bd hml0 hP hK
  obtain ⟨rfl, hZ, hh⟩ := hP
  have hx := Bd.exec
  have hby := Bd.bytes
  have hml : c.maxLocals = 1 := hml0
  have hown : s.vm.findClass "java/util/ArrayList" = some m.cls := findClass_of_methodNamed Bd.named
  have hnm := (name_of_methodNamed Bd.named Bd.method).1
  have X0 : Stand p l e ({ frames := 3, cells := 0, slots := 0, locals := 36 } : Room) s m #[(.ref a1)] below meth c s₁ [] 0 0 := Stand.of_body Bd
  have e0 : s₁.heap = h0 := by rw [← hh, Bd.state]; rfl
  have N0 := Fr.nil n0
  have pre0 : ∀ t, Steps p.tables e below (s₁.setTop (mkF m 0 #[.val (.ref a1)] [])) t → Steps p.tables e below (s₁.setTop (entryFrame m #[(.ref a1)] 1)) t := fun t k => castTop (ef_4 m a1) k
  obtain ⟨_, _, ⟨T2, L2, k2, n2⟩, -, X2, ⟨Lc2, hQ2, l2, y2, z2⟩, st2⟩ := X0.specialBack hx (y := (⟨"java/util/AbstractList", "<init>", "()V"⟩ : MethodName)) rfl hown (mvT hZ (hw _ (List.mem_of_getElem? (i := 42) rfl))) (mvT hZ (hw _ (List.mem_of_getElem? (i := 43) rfl))) (mvT hZ (hw _ (List.mem_of_getElem? (i := 47) rfl))) (by decide) (backOf (W := 0) (rm5 l Z a0 hw [] a1 u_modCount_a1 u_elementData_a1 h0 n0 Z0 E_a1 F_modCount_a1 g_a1 F_elementData_a1) hZ (hw _ (List.mem_of_getElem? (i := 47) rfl)) (hw _ (List.mem_of_getElem? (i := 46) rfl)) (by decide) (by decide)) (g := (mkF m 1 #[.val (.ref a1)] [(.ref a1)])) rfl (by rw [hml]; rfl) (Steps.refl _) (a := a1) (argsL := []) (rest := []) (lenOf pd_4_0 rfl) rfl (by show 2 * 0 + _ ≤ _; exact Nat.le_of_eq rfl) (hb hby d4_1) (fun _ _ => ⟨rfl, e0, (by decide : 0 + 0 ≤ _), (by decide : 0 + 0 ≤ _)⟩)
  dsimp only [Pt.U, Pt.locs, Pt.cells, Pt.slots] at X2 l2 y2 z2 st2 hQ2
  subst l2 y2 z2
  obtain ⟨rfl, N2q, K2, F2⟩ := hQ2
  have N2 := Fr.app N0 N2q
  obtain ⟨T4, X4, e4, st4⟩ := getS2 X2 hx hZ hown (host := "") (Or.inl (hw _ (List.mem_of_getElem? (i := 57) rfl))) Via.refl rfl (S0.ext (hO.keep K2 (fun x hx => by cases List.mem_singleton.mp hx; exact g_a1)).2) (g := (mkF m 5 #[.val (.ref a1)] [(.ref a1)])) rfl (hb hby d4_5)
  obtain ⟨T5, h5, X5, e5, W5, st5⟩ := putF X4 hx hZ hown (host := "") (Or.inl (hw _ (List.mem_of_getElem? (i := 58) rfl))) Via.refl e4 F2 (E_a1.keep K2) (Or.inl (hw _ (List.mem_of_getElem? (i := 59) rfl))) (hw _ (List.mem_of_getElem? (i := 37) rfl)) (ty := (.array (.object "java/lang/Object"))) (by decide) rfl rfl (g := (mkF m 8 #[.val (.ref a1)] [(.ref w3), (.ref a1)])) rfl rfl (hb hby d4_8)
  have Fw5 := F2.same W5
  have K5 : Keep h0 h5 [a1] := K2.wr W5 (Or.inl (List.mem_of_getElem? (i := 0) rfl))
  have N5 := Fr.snoc X5 N2 g_a1
  obtain ⟨fs, hr, hrun, hended, hW, hsame⟩ := X5.leave (v := none) (fun _ => rfl)
  refine ⟨_, _, pre0 _ ?_, hrun, hended, _, _, rfl, ?_, ⟨_, rfl⟩, hW, hsame.mono (by decide) (by decide)⟩
  · show Steps p.tables e below (s₁.setTop (mkF m 0 #[.val (.ref a1)] [])) _
    refine XS.aloadN X0.here hx rfl (hb hby d4_0) rfl rfl ?_
    show Steps p.tables e below (s₁.setTop (mkF m 1 #[.val (.ref a1)] [(.ref a1)])) _
    refine st2.trans ?_
    show Steps p.tables e below (T2.setTop (mkF m 4 #[.val (.ref a1)] [])) _
    refine XS.aloadN X2.here hx rfl (hb hby d4_4) rfl rfl ?_
    show Steps p.tables e below (T2.setTop (mkF m 5 #[.val (.ref a1)] [(.ref a1)])) _
    refine st4 _ ?_
    show Steps p.tables e below (T4.setTop (mkF m 8 #[.val (.ref a1)] [(.ref w3), (.ref a1)])) _
    refine st5 _ ?_
    show Steps p.tables e below (T5.setTop (mkF m 11 #[.val (.ref a1)] [])) _
    exact X5.returnOut hx Bd.returns (hb hby d4_11) hr
  · show Q4 Z a1 w3 u_elementData_a1 u_modCount_a1 h0 n0 _ T5.heap _
    rw [e5]
    exact ⟨rfl, N5, K5⟩

theorem dT_0 : decode prog_51_method_1_code 0 = .ok (.aload_n 0, 1) := by decide +kernel
theorem dT_1 : decode prog_51_method_1_code 1 = .ok (.invokespecial 1, 3) := by decide +kernel
theorem dT_4 : decode prog_51_method_1_code 4 = .ok (.aload_n 0, 1) := by decide +kernel
theorem dT_5 : decode prog_51_method_1_code 5 = .ok (.sipush 256, 3) := by decide +kernel
theorem dT_8 : decode prog_51_method_1_code 8 = .ok (.anewarray 7, 3) := by decide +kernel
theorem dT_11 : decode prog_51_method_1_code 11 = .ok (.putfield 9, 3) := by decide +kernel
theorem dT_14 : decode prog_51_method_1_code 14 = .ok (.aload_n 0, 1) := by decide +kernel
theorem dT_15 : decode prog_51_method_1_code 15 = .ok (.sipush 256, 3) := by decide +kernel
theorem dT_18 : decode prog_51_method_1_code 18 = .ok (.newarray .int, 2) := by decide +kernel
theorem dT_20 : decode prog_51_method_1_code 20 = .ok (.putfield 15, 3) := by decide +kernel
theorem dT_23 : decode prog_51_method_1_code 23 = .ok (.aload_n 0, 1) := by decide +kernel
theorem dT_24 : decode prog_51_method_1_code 24 = .ok (.bipush 64, 2) := by decide +kernel
theorem dT_26 : decode prog_51_method_1_code 26 = .ok (.newarray .int, 2) := by decide +kernel
theorem dT_28 : decode prog_51_method_1_code 28 = .ok (.putfield 19, 3) := by decide +kernel
theorem dT_31 : decode prog_51_method_1_code 31 = .ok (.return_, 1) := by decide +kernel
def Q1 (Z : State) (tr : Addr) (h0 : Heap) (n0 : Nat) (v : Option Value) (h : Heap) (L : List Loc) : Prop := v = none ∧ Fr n0 L ∧ Keep h0 h [tr] ∧ Exa Z h tr "com/example/arcmill/arcmill/Trail" ∧ Fld Z h tr "com/example/arcmill/arcmill/Trail" "epoch" "J" (.long (0 : Int64)) ∧ Fld Z h tr "com/example/arcmill/arcmill/Trail" "level" "I" (.int (0 : Int32))
theorem pn_1 : plainName "com/example/arcmill/arcmill/Trail" = true := by first | (simp [plainName, overriddenIn]; done) | decide +kernel
theorem ef_1 (m : MethodId) (tr : Addr) : entryFrame m #[(.ref tr)] 1 = mkF m 0 #[.val (.ref tr)] [] := by first | (simp [entryFrame, mkF, argsToLocals, Value.category]; done) | rfl
set_option maxRecDepth 65536 in
set_option maxHeartbeats 40000000 in
theorem rm1 (l : Launch) (Z : State) (a0 : Array Value) (hw : ∀ d ∈ tables_1, d.before a0 Z = true) (ws' : List Jvm.Cond) (tr : Addr) (h0 : Heap) (n0 : Nat) (Z0 : n0 ≤ h0.size) (gt : n0 ≤ tr) (E0 : Exa Z h0 tr "com/example/arcmill/arcmill/Trail") (F_owners : Fld Z h0 tr "com/example/arcmill/arcmill/Trail" "owners" "[Lcom/example/arcmill/arcmill/Trail$Restorable;" .null) (F_values : Fld Z h0 tr "com/example/arcmill/arcmill/Trail" "values" "[I" .null) (F_levelStarts : Fld Z h0 tr "com/example/arcmill/arcmill/Trail" "levelStarts" "[I" .null) (F_epoch : Fld Z h0 tr "com/example/arcmill/arcmill/Trail" "epoch" "J" (.long (0 : Int64))) (F_level : Fld Z h0 tr "com/example/arcmill/arcmill/Trail" "level" "I" (.int (0 : Int32))) (F_size : Fld Z h0 tr "com/example/arcmill/arcmill/Trail" "size" "I" (.int (0 : Int32))) :
    MetFree l (⟨"com/example/arcmill/arcmill/Trail", "<init>", "()V"⟩ : MethodName) (head1 (Jvm.Cond.code (⟨"com/example/arcmill/arcmill/Trail", "<init>", "()V"⟩ : MethodName) prog_51_method_1_code 1 none :: ws') ({ frames := 1, cells := 3, slots := 576, locals := 12 } : Room)) (fun a U => a = #[(.ref tr)] ∧ Z.Warmed39 U.vm ∧ U.heap = h0) (fun _ _ _ _ _ => True) (fun _ U o U' => ∃ rv L, o = .returned rv ∧ Q1 Z tr h0 n0 rv U'.heap L ∧ FrameEnd U o U' L ({ frames := 1, cells := 3, slots := 576, locals := 12 } : Room).cells ({ frames := 1, cells := 3, slots := 576, locals := 12 } : Room).slots) := by
  refine MetFree.of_bodySF (plainFor_of_name pn_1) hisR ?_
  intro p e s m args below meth c s₁ Bd hml0 hP hK
  obtain ⟨rfl, hZ, hh⟩ := hP
  have hx := Bd.exec
  have hby := Bd.bytes
  have hml : c.maxLocals = 1 := hml0
  have hown : s.vm.findClass "com/example/arcmill/arcmill/Trail" = some m.cls := findClass_of_methodNamed Bd.named
  have hnm := (name_of_methodNamed Bd.named Bd.method).1
  have X0 : Stand p l e ({ frames := 1, cells := 3, slots := 576, locals := 12 } : Room) s m #[(.ref tr)] below meth c s₁ [] 0 0 := Stand.of_body Bd
  have e0 : s₁.heap = h0 := by rw [← hh, Bd.state]; rfl
  have N0 := Fr.nil n0
  have pre0 : ∀ t, Steps p.tables e below (s₁.setTop (mkF m 0 #[.val (.ref tr)] [])) t → Steps p.tables e below (s₁.setTop (entryFrame m #[(.ref tr)] 1)) t := fun t k => castTop (ef_1 m tr) k
  obtain ⟨Tt1, Xt1, et1, stt1⟩ := initO X0 hx hZ hown (hw _ (List.mem_of_getElem? (i := 6) rfl)) (hw _ (List.mem_of_getElem? (i := 7) rfl)) (hw _ (List.mem_of_getElem? (i := 8) rfl)) e0 (g := (mkF m 1 #[.val (.ref tr)] [(.ref tr)])) rfl (by rw [hml]; rfl) rfl (hb hby dT_1) (by decide) (W := 0) (by show 2 * 0 + _ ≤ _; exact Nat.le_of_eq rfl) (by decide)
  obtain ⟨Tt2, ht2, kt2, Xt2, et2, Et2, At2, Ot2, stt2⟩ := newR Xt1 hx hZ hown (hw _ (List.mem_of_getElem? (i := 9) rfl)) (hw _ (List.mem_of_getElem? (i := 10) rfl)) et1 (g := (mkF m 8 #[.val (.ref tr)] [(.int (256 : Int32)), (.ref tr)])) rfl (hb hby dT_8) rfl (by decide) (cap := 256) (by decide) (by decide) (by decide) (by decide)
  obtain ⟨b1, gt2⟩ : ∃ z, z = h0.size := ⟨_, rfl⟩
  rw [← gt2] at At2 stt2
  have lt_tr_b1 : @LT.lt Nat _ tr b1 := Nat.lt_of_lt_of_le E0.lt (Nat.le_of_eq gt2.symm)
  have ge_b1 : n0 ≤ b1 := Nat.le_trans Z0 (Nat.le_of_eq gt2.symm)
  have Zt2 : n0 ≤ ht2.size := Nat.le_trans Z0 Et2.1
  have Vt2 := Arv.new At2 (by decide)
  have f3 : Fld Z ht2 tr "com/example/arcmill/arcmill/Trail" "owners" "[Lcom/example/arcmill/arcmill/Trail$Restorable;" .null := F_owners.ext Et2
  have f4 : Exa Z ht2 tr "com/example/arcmill/arcmill/Trail" := E0.ext Et2
  obtain ⟨Tt5, ht5, Xt5, et5, Wt5, stt5⟩ := putF Xt2 hx hZ hown (host := "") (Or.inl (hw _ (List.mem_of_getElem? (i := 11) rfl))) Via.refl et2 f3 f4 (Or.inl (hw _ (List.mem_of_getElem? (i := 12) rfl))) (hw _ (List.mem_of_getElem? (i := 1) rfl)) (ty := (.array (.object "com/example/arcmill/arcmill/Trail$Restorable"))) (by decide) rfl rfl (g := (mkF m 11 #[.val (.ref tr)] [(.ref b1), (.ref tr)])) rfl rfl (hb hby dT_11)
  have Ft5 : Fld Z ht5 tr "com/example/arcmill/arcmill/Trail" "owners" "[Lcom/example/arcmill/arcmill/Trail$Restorable;" (.ref b1) := f3.same Wt5
  have Nt5 := Fr.snoc Xt5 N0 gt
  have Zt5 : n0 ≤ ht5.size := by rw [Wt5.size]; exact Zt2
  obtain ⟨Tt6, ht6, kt6, Xt6, et6, Et6, At6, stt6⟩ := newP Xt5 hx hZ (hw _ (List.mem_of_getElem? (i := 13) rfl)) et5 (g := (mkF m 18 #[.val (.ref tr)] [(.int (256 : Int32)), (.ref tr)])) rfl (hb hby dT_18) rfl (by decide) (cap := 256) (by decide) (by decide) (by decide) (by decide)
  obtain ⟨b2, gt6⟩ : ∃ z, z = ht5.size := ⟨_, rfl⟩
  rw [← gt6] at At6 stt6
  have ne_b1_tr : @Ne Nat b1 tr := by omega
  have f7 : Arv Z ht5 b1 kt2 (.object "com/example/arcmill/arcmill/Trail$Restorable") (256 : Int32) [] (defaultValue (.object "com/example/arcmill/arcmill/Trail$Restorable")) := Vt2.other Wt5 ne_b1_tr
  have lt_b1_b2 : @LT.lt Nat _ b1 b2 := Nat.lt_of_lt_of_le f7.lt (Nat.le_of_eq gt6.symm)
  have ge_b2 : n0 ≤ b2 := Nat.le_trans Zt5 (Nat.le_of_eq gt6.symm)
  have Zt6 : n0 ≤ ht6.size := Nat.le_trans Zt5 Et6.1
  have Vt6 : Arv Z ht6 b2 kt6 .int (256 : Int32) [] (.int (0 : Int32)) := (Arv.new At6 (by decide))
  have sn8 : Jvm.RoadKit.slotOf Z "com/example/arcmill/arcmill/Trail" "values" "[I" ≠ Jvm.RoadKit.slotOf Z "com/example/arcmill/arcmill/Trail" "owners" "[Lcom/example/arcmill/arcmill/Trail$Restorable;" := slot_ne (Or.inl (hw _ (List.mem_of_getElem? (i := 15) rfl))) (Or.inl (hw _ (List.mem_of_getElem? (i := 12) rfl))) (by decide) (t := (.array .int)) (t' := (.array (.object "com/example/arcmill/arcmill/Trail$Restorable"))) (by decide) (by decide)
  have f9 : Fld Z ht6 tr "com/example/arcmill/arcmill/Trail" "values" "[I" .null := ((F_values.ext Et2).other Wt5 (Or.inr sn8)).ext Et6
  have f10 : Exa Z ht6 tr "com/example/arcmill/arcmill/Trail" := (f4.wr Wt5).ext Et6
  obtain ⟨Tt11, ht11, Xt11, et11, Wt11, stt11⟩ := putF Xt6 hx hZ hown (host := "") (Or.inl (hw _ (List.mem_of_getElem? (i := 14) rfl))) Via.refl et6 f9 f10 (Or.inl (hw _ (List.mem_of_getElem? (i := 15) rfl))) (hw _ (List.mem_of_getElem? (i := 1) rfl)) (ty := (.array .int)) (by decide) rfl rfl (g := (mkF m 20 #[.val (.ref tr)] [(.ref b2), (.ref tr)])) rfl rfl (hb hby dT_20)
  have Ft11 : Fld Z ht11 tr "com/example/arcmill/arcmill/Trail" "values" "[I" (.ref b2) := f9.same Wt11
  have Nt11 := Fr.snoc Xt11 Nt5 gt
  have Zt11 : n0 ≤ ht11.size := by rw [Wt11.size]; exact Zt6
  obtain ⟨Tt12, ht12, kt12, Xt12, et12, Et12, At12, stt12⟩ := newP Xt11 hx hZ (hw _ (List.mem_of_getElem? (i := 13) rfl)) et11 (g := (mkF m 26 #[.val (.ref tr)] [(.int (64 : Int32)), (.ref tr)])) rfl (hb hby dT_26) rfl (by decide) (cap := 64) (by decide) (by decide) (by decide) (by decide)
  obtain ⟨b3, gt12⟩ : ∃ z, z = ht11.size := ⟨_, rfl⟩
  rw [← gt12] at At12 stt12
  have ne_b2_tr : @Ne Nat b2 tr := by omega
  have f13 : Arv Z ht11 b2 kt6 .int (256 : Int32) [] (.int (0 : Int32)) := Vt6.other Wt11 ne_b2_tr
  have lt_b2_b3 : @LT.lt Nat _ b2 b3 := Nat.lt_of_lt_of_le f13.lt (Nat.le_of_eq gt12.symm)
  have ge_b3 : n0 ≤ b3 := Nat.le_trans Zt11 (Nat.le_of_eq gt12.symm)
  have Zt12 : n0 ≤ ht12.size := Nat.le_trans Zt11 Et12.1
  have Vt12 : Arv Z ht12 b3 kt12 .int (64 : Int32) [] (.int (0 : Int32)) := (Arv.new At12 (by decide))
  have sn14 : Jvm.RoadKit.slotOf Z "com/example/arcmill/arcmill/Trail" "levelStarts" "[I" ≠ Jvm.RoadKit.slotOf Z "com/example/arcmill/arcmill/Trail" "owners" "[Lcom/example/arcmill/arcmill/Trail$Restorable;" := slot_ne (Or.inl (hw _ (List.mem_of_getElem? (i := 17) rfl))) (Or.inl (hw _ (List.mem_of_getElem? (i := 12) rfl))) (by decide) (t := (.array .int)) (t' := (.array (.object "com/example/arcmill/arcmill/Trail$Restorable"))) (by decide) (by decide)
  have sn15 : Jvm.RoadKit.slotOf Z "com/example/arcmill/arcmill/Trail" "levelStarts" "[I" ≠ Jvm.RoadKit.slotOf Z "com/example/arcmill/arcmill/Trail" "values" "[I" := slot_ne (Or.inl (hw _ (List.mem_of_getElem? (i := 17) rfl))) (Or.inl (hw _ (List.mem_of_getElem? (i := 15) rfl))) (by decide) (t := (.array .int)) (t' := (.array .int)) (by decide) (by decide)
  have f16 : Fld Z ht12 tr "com/example/arcmill/arcmill/Trail" "levelStarts" "[I" .null := ((((F_levelStarts.ext Et2).other Wt5 (Or.inr sn14)).ext Et6).other Wt11 (Or.inr sn15)).ext Et12
  have f17 : Exa Z ht12 tr "com/example/arcmill/arcmill/Trail" := (f10.wr Wt11).ext Et12
  obtain ⟨Tt18, ht18, Xt18, et18, Wt18, stt18⟩ := putF Xt12 hx hZ hown (host := "") (Or.inl (hw _ (List.mem_of_getElem? (i := 16) rfl))) Via.refl et12 f16 f17 (Or.inl (hw _ (List.mem_of_getElem? (i := 17) rfl))) (hw _ (List.mem_of_getElem? (i := 1) rfl)) (ty := (.array .int)) (by decide) rfl rfl (g := (mkF m 28 #[.val (.ref tr)] [(.ref b3), (.ref tr)])) rfl rfl (hb hby dT_28)
  have Ft18 : Fld Z ht18 tr "com/example/arcmill/arcmill/Trail" "levelStarts" "[I" (.ref b3) := f16.same Wt18
  have Nt18 := Fr.snoc Xt18 Nt11 gt
  have Zt18 : n0 ≤ ht18.size := by rw [Wt18.size]; exact Zt12
  have f19 : Exa Z ht18 tr "com/example/arcmill/arcmill/Trail" := f17.wr Wt18
  have sn20 : Jvm.RoadKit.slotOf Z "com/example/arcmill/arcmill/Trail" "epoch" "J" ≠ Jvm.RoadKit.slotOf Z "com/example/arcmill/arcmill/Trail" "owners" "[Lcom/example/arcmill/arcmill/Trail$Restorable;" := slot_ne (Or.inl (hw _ (List.mem_of_getElem? (i := 111) rfl))) (Or.inl (hw _ (List.mem_of_getElem? (i := 12) rfl))) (by decide) (t := .long) (t' := (.array (.object "com/example/arcmill/arcmill/Trail$Restorable"))) (by decide) (by decide)
  have sn21 : Jvm.RoadKit.slotOf Z "com/example/arcmill/arcmill/Trail" "epoch" "J" ≠ Jvm.RoadKit.slotOf Z "com/example/arcmill/arcmill/Trail" "values" "[I" := slot_ne (Or.inl (hw _ (List.mem_of_getElem? (i := 111) rfl))) (Or.inl (hw _ (List.mem_of_getElem? (i := 15) rfl))) (by decide) (t := .long) (t' := (.array .int)) (by decide) (by decide)
  have sn22 : Jvm.RoadKit.slotOf Z "com/example/arcmill/arcmill/Trail" "epoch" "J" ≠ Jvm.RoadKit.slotOf Z "com/example/arcmill/arcmill/Trail" "levelStarts" "[I" := slot_ne (Or.inl (hw _ (List.mem_of_getElem? (i := 111) rfl))) (Or.inl (hw _ (List.mem_of_getElem? (i := 17) rfl))) (by decide) (t := .long) (t' := (.array .int)) (by decide) (by decide)
  have f23 : Fld Z ht18 tr "com/example/arcmill/arcmill/Trail" "epoch" "J" (.long (0 : Int64)) := (((((F_epoch.ext Et2).other Wt5 (Or.inr sn20)).ext Et6).other Wt11 (Or.inr sn21)).ext Et12).other Wt18 (Or.inr sn22)
  have sn24 : Jvm.RoadKit.slotOf Z "com/example/arcmill/arcmill/Trail" "level" "I" ≠ Jvm.RoadKit.slotOf Z "com/example/arcmill/arcmill/Trail" "owners" "[Lcom/example/arcmill/arcmill/Trail$Restorable;" := slot_ne (Or.inl (hw _ (List.mem_of_getElem? (i := 113) rfl))) (Or.inl (hw _ (List.mem_of_getElem? (i := 12) rfl))) (by decide) (t := .int) (t' := (.array (.object "com/example/arcmill/arcmill/Trail$Restorable"))) (by decide) (by decide)
  have sn25 : Jvm.RoadKit.slotOf Z "com/example/arcmill/arcmill/Trail" "level" "I" ≠ Jvm.RoadKit.slotOf Z "com/example/arcmill/arcmill/Trail" "values" "[I" := slot_ne (Or.inl (hw _ (List.mem_of_getElem? (i := 113) rfl))) (Or.inl (hw _ (List.mem_of_getElem? (i := 15) rfl))) (by decide) (t := .int) (t' := (.array .int)) (by decide) (by decide)
  have sn26 : Jvm.RoadKit.slotOf Z "com/example/arcmill/arcmill/Trail" "level" "I" ≠ Jvm.RoadKit.slotOf Z "com/example/arcmill/arcmill/Trail" "levelStarts" "[I" := slot_ne (Or.inl (hw _ (List.mem_of_getElem? (i := 113) rfl))) (Or.inl (hw _ (List.mem_of_getElem? (i := 17) rfl))) (by decide) (t := .int) (t' := (.array .int)) (by decide) (by decide)
  have f27 : Fld Z ht18 tr "com/example/arcmill/arcmill/Trail" "level" "I" (.int (0 : Int32)) := (((((F_level.ext Et2).other Wt5 (Or.inr sn24)).ext Et6).other Wt11 (Or.inr sn25)).ext Et12).other Wt18 (Or.inr sn26)
  obtain ⟨fs, hr, hrun, hended, hW, hsame⟩ := Xt18.leave (v := none) (fun _ => rfl)
  refine ⟨_, _, pre0 _ ?_, hrun, hended, _, _, rfl, ?_, ⟨_, rfl⟩, hW, hsame.mono (by decide) (by decide)⟩
  · show Steps p.tables e below (s₁.setTop (mkF m 0 #[.val (.ref tr)] [])) _
    refine XS.aloadN X0.here hx rfl (hb hby dT_0) rfl rfl ?_
    show Steps p.tables e below (s₁.setTop (mkF m 1 #[.val (.ref tr)] [(.ref tr)])) _
    refine stt1 _ ?_
    show Steps p.tables e below (Tt1.setTop (mkF m 4 #[.val (.ref tr)] [])) _
    refine XS.aloadN Xt1.here hx rfl (hb hby dT_4) rfl rfl ?_
    show Steps p.tables e below (Tt1.setTop (mkF m 5 #[.val (.ref tr)] [(.ref tr)])) _
    refine XS.sipush Xt1.here hx rfl (hb hby dT_5) ?_
    show Steps p.tables e below (Tt1.setTop (mkF m 8 #[.val (.ref tr)] [(.int (256 : Int32)), (.ref tr)])) _
    refine stt2 _ ?_
    show Steps p.tables e below (Tt2.setTop (mkF m 11 #[.val (.ref tr)] [(.ref b1), (.ref tr)])) _
    refine stt5 _ ?_
    show Steps p.tables e below (Tt5.setTop (mkF m 14 #[.val (.ref tr)] [])) _
    refine XS.aloadN Xt5.here hx rfl (hb hby dT_14) rfl rfl ?_
    show Steps p.tables e below (Tt5.setTop (mkF m 15 #[.val (.ref tr)] [(.ref tr)])) _
    refine XS.sipush Xt5.here hx rfl (hb hby dT_15) ?_
    show Steps p.tables e below (Tt5.setTop (mkF m 18 #[.val (.ref tr)] [(.int (256 : Int32)), (.ref tr)])) _
    refine stt6 _ ?_
    show Steps p.tables e below (Tt6.setTop (mkF m 20 #[.val (.ref tr)] [(.ref b2), (.ref tr)])) _
    refine stt11 _ ?_
    show Steps p.tables e below (Tt11.setTop (mkF m 23 #[.val (.ref tr)] [])) _
    refine XS.aloadN Xt11.here hx rfl (hb hby dT_23) rfl rfl ?_
    show Steps p.tables e below (Tt11.setTop (mkF m 24 #[.val (.ref tr)] [(.ref tr)])) _
    refine XS.bipush Xt11.here hx rfl (hb hby dT_24) ?_
    show Steps p.tables e below (Tt11.setTop (mkF m 26 #[.val (.ref tr)] [(.int (64 : Int32)), (.ref tr)])) _
    refine stt12 _ ?_
    show Steps p.tables e below (Tt12.setTop (mkF m 28 #[.val (.ref tr)] [(.ref b3), (.ref tr)])) _
    refine stt18 _ ?_
    exact Xt18.returnOut hx Bd.returns (hb hby dT_31) hr
  · show Q1 Z tr h0 n0 _ Tt18.heap _
    rw [et18]
    exact ⟨rfl, Nt18, (((((((Keep.refl h0 [tr]).ext Et2).wr Wt5 (Or.inl (by simp))).ext Et6).wr Wt11 (Or.inl (by simp))).ext Et12).wr Wt18 (Or.inl (by simp))), f19, f23, f27⟩
def Q11 (Z : State) (h0 : Heap) (n0 : Nat) (v : Option Value) (h : Heap) (L : List Loc) : Prop := v = some (.long (0 : Int64)) ∧ Fr n0 L ∧ h = h0
theorem d11_0 : decode prog_51_method_5_code 0 = .ok (.lload_n 3, 1) := by decide +kernel
theorem d11_1 : decode prog_51_method_5_code 1 = .ok (.aload_n 0, 1) := by decide +kernel
theorem d11_2 : decode prog_51_method_5_code 2 = .ok (.getfield 35, 3) := by decide +kernel
theorem d11_5 : decode prog_51_method_5_code 5 = .ok (.lcmp, 1) := by decide +kernel
theorem d11_6 : decode prog_51_method_5_code 6 = .ok (.ifCond .ne 5, 3) := by decide +kernel
theorem d11_9 : decode prog_51_method_5_code 9 = .ok (.lload_n 3, 1) := by decide +kernel
theorem d11_10 : decode prog_51_method_5_code 10 = .ok (.lreturn, 1) := by decide +kernel
theorem pn_11 : plainName "com/example/arcmill/arcmill/Trail" = true := by first | (simp [plainName, overriddenIn]; done) | decide +kernel
theorem ef_11 (m : MethodId) (x0 : Addr) (x1 : Addr) (x2 : Int32) (x3 : Int64) : entryFrame m #[(.ref x0), (.ref x1), (.int x2), (.long x3)] 5 = mkF m 0 #[.val (.ref x0), .val (.ref x1), .val (.int x2), .val (.long x3), .second] [] := by first | (simp [entryFrame, mkF, argsToLocals, Value.category]; done) | rfl
set_option maxRecDepth 65536 in
set_option maxHeartbeats 40000000 in
theorem rm11_f (l : Launch) (Z : State) (a0 : Array Value) (hw : ∀ d ∈ tables_1, d.before a0 Z = true) (ws : List Jvm.Cond) (a1 : Addr) (a2 : Addr) (p3 : Int32) (q4 : Int64) (w5 : Int64) (h0 : Heap) (n0 : Nat) (Z0 : n0 ≤ h0.size) (F_epoch_a1 : Fld Z h0 a1 "com/example/arcmill/arcmill/Trail" "epoch" "J" (.long w5)) (hw5 : w5 = 0) (hc6 : (lcmpW q4 w5) = (0 : Int32)) :
    MetFree l (⟨"com/example/arcmill/arcmill/Trail", "save", "(Lcom/example/arcmill/arcmill/Trail$Restorable;IJ)J"⟩ : MethodName) (head1 (Jvm.Cond.code (⟨"com/example/arcmill/arcmill/Trail", "save", "(Lcom/example/arcmill/arcmill/Trail$Restorable;IJ)J"⟩ : MethodName) prog_51_method_5_code 5 (some .long) :: ws) ({ frames := 0, cells := 0, slots := 0, locals := 0 } : Room)) (fun a U => a = #[(.ref a1), (.ref a2), (.int p3), (.long q4)] ∧ Z.Warmed39 U.vm ∧ U.heap = h0) (fun _ _ _ _ _ => True) (fun _ U o U' => ∃ v L, o = .returned v ∧ Q11 Z h0 n0 v U'.heap L ∧ FrameEnd U o U' L ({ frames := 0, cells := 0, slots := 0, locals := 0 } : Room).cells ({ frames := 0, cells := 0, slots := 0, locals := 0 } : Room).slots) := by
  refine MetFree.of_bodySF (plainFor_of_name pn_11) hisR ?_
  intro p e s m args below meth c s₁ Bd hml0 hP hK
  obtain ⟨rfl, hZ, hh⟩ := hP
  have hx := Bd.exec
  have hby := Bd.bytes
  have hml : c.maxLocals = 5 := hml0
  have hown : s.vm.findClass "com/example/arcmill/arcmill/Trail" = some m.cls := findClass_of_methodNamed Bd.named
  have hnm := (name_of_methodNamed Bd.named Bd.method).1
  have X0 : Stand p l e ({ frames := 0, cells := 0, slots := 0, locals := 0 } : Room) s m #[(.ref a1), (.ref a2), (.int p3), (.long q4)] below meth c s₁ [] 0 0 := Stand.of_body Bd
  have e0 : s₁.heap = h0 := by rw [← hh, Bd.state]; rfl
  have N0 := Fr.nil n0
  have pre0 : ∀ t, Steps p.tables e below (s₁.setTop (mkF m 0 #[.val (.ref a1), .val (.ref a2), .val (.int p3), .val (.long q4), .second] [])) t → Steps p.tables e below (s₁.setTop (entryFrame m #[(.ref a1), (.ref a2), (.int p3), (.long q4)] 5)) t := fun t k => castTop (ef_11 m a1 a2 p3 q4) k
  obtain ⟨T6, X6, e6, st6⟩ := getF X0 hx hZ hown (host := "") (Or.inl (hw _ (List.mem_of_getElem? (i := 110) rfl))) Via.refl e0 F_epoch_a1 (g := (mkF m 2 #[.val (.ref a1), .val (.ref a2), .val (.int p3), .val (.long q4), .second] [(.ref a1), (.long q4)])) rfl rfl (hb hby d11_2)
  obtain ⟨fs, hr, hrun, hended, hW, hsame⟩ := X6.leave (v := some (.long q4)) (fun h => by rw [Bd.returns] at h; cases h)
  refine ⟨_, _, pre0 _ ?_, hrun, hended, _, _, rfl, ?_, ⟨_, rfl⟩, hW, hsame.mono (by decide) (by decide)⟩
  · show Steps p.tables e below (s₁.setTop (mkF m 0 #[.val (.ref a1), .val (.ref a2), .val (.int p3), .val (.long q4), .second] [])) _
    refine XS.lloadN X0.here hx rfl (hb hby d11_0) rfl ?_
    show Steps p.tables e below (s₁.setTop (mkF m 1 #[.val (.ref a1), .val (.ref a2), .val (.int p3), .val (.long q4), .second] [(.long q4)])) _
    refine XS.aloadN X0.here hx rfl (hb hby d11_1) rfl rfl ?_
    show Steps p.tables e below (s₁.setTop (mkF m 2 #[.val (.ref a1), .val (.ref a2), .val (.int p3), .val (.long q4), .second] [(.ref a1), (.long q4)])) _
    refine st6 _ ?_
    show Steps p.tables e below (T6.setTop (mkF m 5 #[.val (.ref a1), .val (.ref a2), .val (.int p3), .val (.long q4), .second] [(.long w5), (.long q4)])) _
    refine XS.lcmp X6.here hx rfl (hb hby d11_5) rfl ?_
    show Steps p.tables e below (T6.setTop (mkF m 6 #[.val (.ref a1), .val (.ref a2), .val (.int p3), .val (.long q4), .second] [(.int (lcmpW q4 w5))])) _
    refine XS.ifNo X6.here hx rfl (hb hby d11_6) rfl ((if0 _ _).trans (teq hc6).2) ?_
    show Steps p.tables e below (T6.setTop (mkF m 9 #[.val (.ref a1), .val (.ref a2), .val (.int p3), .val (.long q4), .second] [])) _
    refine XS.lloadN X6.here hx rfl (hb hby d11_9) rfl ?_
    show Steps p.tables e below (T6.setTop (mkF m 10 #[.val (.ref a1), .val (.ref a2), .val (.int p3), .val (.long q4), .second] [(.long q4)])) _
    exact X6.lreturnOut hx Bd.returns (hb hby d11_10) hr
  · show Q11 Z h0 n0 _ T6.heap _
    rw [e6]
    exact ⟨congrArg (fun z => some (Value.long z)) (((lw_eq _ _).mp hc6).trans hw5), N0, rfl⟩

theorem d11_11 : decode prog_51_method_5_code 11 = .ok (.aload_n 0, 1) := by decide +kernel
theorem d11_12 : decode prog_51_method_5_code 12 = .ok (.getfield 22, 3) := by decide +kernel
theorem d11_15 : decode prog_51_method_5_code 15 = .ok (.ifCond .ne 8, 3) := by decide +kernel
theorem d11_18 : decode prog_51_method_5_code 18 = .ok (.aload_n 0, 1) := by decide +kernel
theorem d11_19 : decode prog_51_method_5_code 19 = .ok (.getfield 35, 3) := by decide +kernel
theorem d11_22 : decode prog_51_method_5_code 22 = .ok (.lreturn, 1) := by decide +kernel
set_option maxRecDepth 65536 in
set_option maxHeartbeats 40000000 in
theorem rm11_tf (l : Launch) (Z : State) (a0 : Array Value) (hw : ∀ d ∈ tables_1, d.before a0 Z = true) (ws : List Jvm.Cond) (a1 : Addr) (a2 : Addr) (p3 : Int32) (q4 : Int64) (w5 : Int64) (w7 : Int32) (h0 : Heap) (n0 : Nat) (Z0 : n0 ≤ h0.size) (F_epoch_a1 : Fld Z h0 a1 "com/example/arcmill/arcmill/Trail" "epoch" "J" (.long w5)) (F_level_a1 : Fld Z h0 a1 "com/example/arcmill/arcmill/Trail" "level" "I" (.int w7)) (hw5 : w5 = 0) (hc6 : ¬ ((lcmpW q4 w5) = (0 : Int32))) (hc15 : w7 = (0 : Int32)) :
    MetFree l (⟨"com/example/arcmill/arcmill/Trail", "save", "(Lcom/example/arcmill/arcmill/Trail$Restorable;IJ)J"⟩ : MethodName) (head1 (Jvm.Cond.code (⟨"com/example/arcmill/arcmill/Trail", "save", "(Lcom/example/arcmill/arcmill/Trail$Restorable;IJ)J"⟩ : MethodName) prog_51_method_5_code 5 (some .long) :: ws) ({ frames := 0, cells := 0, slots := 0, locals := 0 } : Room)) (fun a U => a = #[(.ref a1), (.ref a2), (.int p3), (.long q4)] ∧ Z.Warmed39 U.vm ∧ U.heap = h0) (fun _ _ _ _ _ => True) (fun _ U o U' => ∃ v L, o = .returned v ∧ Q11 Z h0 n0 v U'.heap L ∧ FrameEnd U o U' L ({ frames := 0, cells := 0, slots := 0, locals := 0 } : Room).cells ({ frames := 0, cells := 0, slots := 0, locals := 0 } : Room).slots) := by
  refine MetFree.of_bodySF (plainFor_of_name pn_11) hisR ?_
  intro p e s m args below meth c s₁ Bd hml0 hP hK
  obtain ⟨rfl, hZ, hh⟩ := hP
  have hx := Bd.exec
  have hby := Bd.bytes
  have hml : c.maxLocals = 5 := hml0
  have hown : s.vm.findClass "com/example/arcmill/arcmill/Trail" = some m.cls := findClass_of_methodNamed Bd.named
  have hnm := (name_of_methodNamed Bd.named Bd.method).1
  have X0 : Stand p l e ({ frames := 0, cells := 0, slots := 0, locals := 0 } : Room) s m #[(.ref a1), (.ref a2), (.int p3), (.long q4)] below meth c s₁ [] 0 0 := Stand.of_body Bd
  have e0 : s₁.heap = h0 := by rw [← hh, Bd.state]; rfl
  have N0 := Fr.nil n0
  have pre0 : ∀ t, Steps p.tables e below (s₁.setTop (mkF m 0 #[.val (.ref a1), .val (.ref a2), .val (.int p3), .val (.long q4), .second] [])) t → Steps p.tables e below (s₁.setTop (entryFrame m #[(.ref a1), (.ref a2), (.int p3), (.long q4)] 5)) t := fun t k => castTop (ef_11 m a1 a2 p3 q4) k
  obtain ⟨T6, X6, e6, st6⟩ := getF X0 hx hZ hown (host := "") (Or.inl (hw _ (List.mem_of_getElem? (i := 110) rfl))) Via.refl e0 F_epoch_a1 (g := (mkF m 2 #[.val (.ref a1), .val (.ref a2), .val (.int p3), .val (.long q4), .second] [(.ref a1), (.long q4)])) rfl rfl (hb hby d11_2)
  obtain ⟨T8, X8, e8, st8⟩ := getF X6 hx hZ hown (host := "") (Or.inl (hw _ (List.mem_of_getElem? (i := 112) rfl))) Via.refl e6 F_level_a1 (g := (mkF m 12 #[.val (.ref a1), .val (.ref a2), .val (.int p3), .val (.long q4), .second] [(.ref a1)])) rfl rfl (hb hby d11_12)
  obtain ⟨T9, X9, e9, st9⟩ := getF X8 hx hZ hown (host := "") (Or.inl (hw _ (List.mem_of_getElem? (i := 110) rfl))) Via.refl e8 F_epoch_a1 (g := (mkF m 19 #[.val (.ref a1), .val (.ref a2), .val (.int p3), .val (.long q4), .second] [(.ref a1)])) rfl rfl (hb hby d11_19)
  obtain ⟨fs, hr, hrun, hended, hW, hsame⟩ := X9.leave (v := some (.long w5)) (fun h => by rw [Bd.returns] at h; cases h)
  refine ⟨_, _, pre0 _ ?_, hrun, hended, _, _, rfl, ?_, ⟨_, rfl⟩, hW, hsame.mono (by decide) (by decide)⟩
  · show Steps p.tables e below (s₁.setTop (mkF m 0 #[.val (.ref a1), .val (.ref a2), .val (.int p3), .val (.long q4), .second] [])) _
    refine XS.lloadN X0.here hx rfl (hb hby d11_0) rfl ?_
    show Steps p.tables e below (s₁.setTop (mkF m 1 #[.val (.ref a1), .val (.ref a2), .val (.int p3), .val (.long q4), .second] [(.long q4)])) _
    refine XS.aloadN X0.here hx rfl (hb hby d11_1) rfl rfl ?_
    show Steps p.tables e below (s₁.setTop (mkF m 2 #[.val (.ref a1), .val (.ref a2), .val (.int p3), .val (.long q4), .second] [(.ref a1), (.long q4)])) _
    refine st6 _ ?_
    show Steps p.tables e below (T6.setTop (mkF m 5 #[.val (.ref a1), .val (.ref a2), .val (.int p3), .val (.long q4), .second] [(.long w5), (.long q4)])) _
    refine XS.lcmp X6.here hx rfl (hb hby d11_5) rfl ?_
    show Steps p.tables e below (T6.setTop (mkF m 6 #[.val (.ref a1), .val (.ref a2), .val (.int p3), .val (.long q4), .second] [(.int (lcmpW q4 w5))])) _
    refine XS.ifYes X6.here hx rfl (pc0 := 6) (pc' := 11) rfl (hb hby d11_6) rfl ((if0 _ _).trans (feq hc6).2) (by decide) (by decide) ?_
    show Steps p.tables e below (T6.setTop (mkF m 11 #[.val (.ref a1), .val (.ref a2), .val (.int p3), .val (.long q4), .second] [])) _
    refine XS.aloadN X6.here hx rfl (hb hby d11_11) rfl rfl ?_
    show Steps p.tables e below (T6.setTop (mkF m 12 #[.val (.ref a1), .val (.ref a2), .val (.int p3), .val (.long q4), .second] [(.ref a1)])) _
    refine st8 _ ?_
    show Steps p.tables e below (T8.setTop (mkF m 15 #[.val (.ref a1), .val (.ref a2), .val (.int p3), .val (.long q4), .second] [(.int w7)])) _
    refine XS.ifNo X8.here hx rfl (hb hby d11_15) rfl ((if0 _ _).trans (teq hc15).2) ?_
    show Steps p.tables e below (T8.setTop (mkF m 18 #[.val (.ref a1), .val (.ref a2), .val (.int p3), .val (.long q4), .second] [])) _
    refine XS.aloadN X8.here hx rfl (hb hby d11_18) rfl rfl ?_
    show Steps p.tables e below (T8.setTop (mkF m 19 #[.val (.ref a1), .val (.ref a2), .val (.int p3), .val (.long q4), .second] [(.ref a1)])) _
    refine st9 _ ?_
    show Steps p.tables e below (T9.setTop (mkF m 22 #[.val (.ref a1), .val (.ref a2), .val (.int p3), .val (.long q4), .second] [(.long w5)])) _
    exact X9.lreturnOut hx Bd.returns (hb hby d11_22) hr
  · show Q11 Z h0 n0 _ T9.heap _
    rw [e9]
    exact ⟨congrArg (fun z => some (Value.long z)) (hw5), N0, rfl⟩

theorem rm11 (l : Launch) (Z : State) (a0 : Array Value) (hw : ∀ d ∈ tables_1, d.before a0 Z = true) (ws : List Jvm.Cond) (a1 : Addr) (a2 : Addr) (p3 : Int32) (q4 : Int64) (h0 : Heap) (n0 : Nat) (Z0 : n0 ≤ h0.size) (F_epoch_a1 : Fld Z h0 a1 "com/example/arcmill/arcmill/Trail" "epoch" "J" (.long (0 : Int64))) (F_level_a1 : Fld Z h0 a1 "com/example/arcmill/arcmill/Trail" "level" "I" (.int (0 : Int32))) :
    MetFree l (⟨"com/example/arcmill/arcmill/Trail", "save", "(Lcom/example/arcmill/arcmill/Trail$Restorable;IJ)J"⟩ : MethodName) (head1 (Jvm.Cond.code (⟨"com/example/arcmill/arcmill/Trail", "save", "(Lcom/example/arcmill/arcmill/Trail$Restorable;IJ)J"⟩ : MethodName) prog_51_method_5_code 5 (some .long) :: ws) ({ frames := 0, cells := 0, slots := 0, locals := 0 } : Room)) (fun a U => a = #[(.ref a1), (.ref a2), (.int p3), (.long q4)] ∧ Z.Warmed39 U.vm ∧ U.heap = h0) (fun _ _ _ _ _ => True) (fun _ U o U' => ∃ v L, o = .returned v ∧ Q11 Z h0 n0 v U'.heap L ∧ FrameEnd U o U' L ({ frames := 0, cells := 0, slots := 0, locals := 0 } : Room).cells ({ frames := 0, cells := 0, slots := 0, locals := 0 } : Room).slots) := by
  by_cases hc6 : (lcmpW q4 (0 : Int64)) = (0 : Int32)
  · exact rm11_f l Z a0 hw ws a1 a2 p3 q4 0 h0 n0 Z0 F_epoch_a1 rfl hc6
  · exact rm11_tf l Z a0 hw ws a1 a2 p3 q4 0 0 h0 n0 Z0 F_epoch_a1 F_level_a1 rfl hc6 rfl
theorem pd_ii : parseMethodDescriptor "(II)V" = some ⟨[.int, .int], none⟩ := by decide +kernel
theorem pd_i : parseMethodDescriptor "(I)V" = some ⟨[.int], none⟩ := by decide +kernel
theorem pd_v : parseMethodDescriptor "()V" = some ⟨[], none⟩ := by decide +kernel
theorem pd_a : parseMethodDescriptor "()[I" = some ⟨[], some (.array .int)⟩ := by decide +kernel
theorem pd_ia : parseMethodDescriptor "(I)[I" = some ⟨[.int], some (.array .int)⟩ := by decide +kernel
theorem pd_s : parseMethodDescriptor "(Lcom/example/arcmill/arcmill/Trail$Restorable;IJ)J" = some ⟨[.object "com/example/arcmill/arcmill/Trail$Restorable", .int, .long], some .long⟩ := by decide +kernel
theorem pd_c : parseMethodDescriptor "(Ljava/lang/String;I[ILcom/example/arcmill/arcmill/Trail;)V" = some ⟨[.object "java/lang/String", .int, .array .int, .object "com/example/arcmill/arcmill/Trail"], none⟩ := by decide +kernel
theorem own_self {Z s : State} {a0 args : Array Value} (hZ : Z.Warmed39 s.vm) (hw : ∀ d ∈ tables_1, d.before a0 Z = true) {y : MethodName} (hc : y.cls = "com/example/arcmill/arcmill/Variable") (wp : (Jvm.Cond.privateMethod y).before a0 Z = true) (wi : (Jvm.Cond.instanceMethod y).before a0 Z = true) (hy : y.cls ≠ "java/lang/invoke/MethodHandle" ∧ y.cls ≠ "java/lang/invoke/VarHandle") : (Jvm.Cond.selects y.cls y y).before args s = true := by
  obtain ⟨c2, r2, m2, q1, -, q3, -, kP, hkP, hkPi⟩ := Cond.selects_spec (mvT (args := args) hZ (hw _ (List.mem_of_getElem? (i := 95) rfl)))
  have hn := findClass_of_methodNamed q3
  exact Stand.selects_self_of_private (by rw [hc]; exact hn) hkP hkPi (Cond.privateMethod_at (mvP hZ wp (args := args))) (mvT hZ wi) hy
theorem dW_0 : decode prog_58_method_28_code 0 = .ok (.aload_n 0, 1) := by decide +kernel
theorem dW_1 : decode prog_58_method_28_code 1 = .ok (.getfield 41, 3) := by decide +kernel
theorem dW_4 : decode prog_58_method_28_code 4 = .ok (.iload_n 1, 1) := by decide +kernel
theorem dW_5 : decode prog_58_method_28_code 5 = .ok (.iaload, 1) := by decide +kernel
theorem dW_6 : decode prog_58_method_28_code 6 = .ok (.istore_n 3, 1) := by decide +kernel
theorem dW_7 : decode prog_58_method_28_code 7 = .ok (.aload_n 0, 1) := by decide +kernel
theorem dW_8 : decode prog_58_method_28_code 8 = .ok (.getfield 41, 3) := by decide +kernel
theorem dW_11 : decode prog_58_method_28_code 11 = .ok (.iload_n 2, 1) := by decide +kernel
theorem dW_12 : decode prog_58_method_28_code 12 = .ok (.iaload, 1) := by decide +kernel
theorem dW_13 : decode prog_58_method_28_code 13 = .ok (.istore 4, 2) := by decide +kernel
theorem dW_15 : decode prog_58_method_28_code 15 = .ok (.aload_n 0, 1) := by decide +kernel
theorem dW_16 : decode prog_58_method_28_code 16 = .ok (.getfield 41, 3) := by decide +kernel
theorem dW_19 : decode prog_58_method_28_code 19 = .ok (.iload_n 1, 1) := by decide +kernel
theorem dW_20 : decode prog_58_method_28_code 20 = .ok (.iload 4, 2) := by decide +kernel
theorem dW_22 : decode prog_58_method_28_code 22 = .ok (.iastore, 1) := by decide +kernel
theorem dW_23 : decode prog_58_method_28_code 23 = .ok (.aload_n 0, 1) := by decide +kernel
theorem dW_24 : decode prog_58_method_28_code 24 = .ok (.getfield 41, 3) := by decide +kernel
theorem dW_27 : decode prog_58_method_28_code 27 = .ok (.iload_n 2, 1) := by decide +kernel
theorem dW_28 : decode prog_58_method_28_code 28 = .ok (.iload_n 3, 1) := by decide +kernel
theorem dW_29 : decode prog_58_method_28_code 29 = .ok (.iastore, 1) := by decide +kernel
theorem dW_30 : decode prog_58_method_28_code 30 = .ok (.aload_n 0, 1) := by decide +kernel
theorem dW_31 : decode prog_58_method_28_code 31 = .ok (.getfield 44, 3) := by decide +kernel
theorem dW_34 : decode prog_58_method_28_code 34 = .ok (.iload 4, 2) := by decide +kernel
theorem dW_36 : decode prog_58_method_28_code 36 = .ok (.iload_n 1, 1) := by decide +kernel
theorem dW_37 : decode prog_58_method_28_code 37 = .ok (.iastore, 1) := by decide +kernel
theorem dW_38 : decode prog_58_method_28_code 38 = .ok (.aload_n 0, 1) := by decide +kernel
theorem dW_39 : decode prog_58_method_28_code 39 = .ok (.getfield 44, 3) := by decide +kernel
theorem dW_42 : decode prog_58_method_28_code 42 = .ok (.iload_n 3, 1) := by decide +kernel
theorem dW_43 : decode prog_58_method_28_code 43 = .ok (.iload_n 2, 1) := by decide +kernel
theorem dW_44 : decode prog_58_method_28_code 44 = .ok (.iastore, 1) := by decide +kernel
theorem dW_45 : decode prog_58_method_28_code 45 = .ok (.return_, 1) := by decide +kernel
def Q9 (Z : State) (v tr dn pl pr ws : Addr) (kd kp kr kw : ClassId) (sz : Nat) (D P : List Nat) (Wv : List Value) (n0 : Nat) (v' : Option Value) (h : Heap) (L : List Loc) : Prop := v' = none ∧ Fr n0 L ∧ own_Rep Z h v tr dn pl pr ws kd kp kr kw sz D P Wv
theorem pn_9 : plainName "com/example/arcmill/arcmill/Variable" = true := by first | (simp [plainName, overriddenIn]; done) | decide +kernel
theorem ef_9 (m : MethodId) (v : Addr) (ai bi : Nat) : entryFrame m #[(.ref v), (.int (Int32.ofNat ai)), (.int (Int32.ofNat bi))] 5 = mkF m 0 #[.val (.ref v), .val (.int (Int32.ofNat ai)), .val (.int (Int32.ofNat bi)), .unset, .unset] [] := by first | (simp [entryFrame, mkF, argsToLocals, Value.category]; done) | rfl
set_option maxRecDepth 65536 in
set_option maxHeartbeats 40000000 in
theorem rm9 (l : Launch) (Z : State) (a0 : Array Value) (hw : ∀ d ∈ tables_1, d.before a0 Z = true) (ws' : List Jvm.Cond) (v tr dn pl pr ws : Addr) (kd kp kr kw : ClassId) (sz : Nat) (D P : List Nat) (Wv : List Value) (ai bi x y : Nat) (h0 : Heap) (n0 : Nat) (Z0 : n0 ≤ h0.size) (R0 : own_Rep Z h0 v tr dn pl pr ws kd kp kr kw sz D P Wv) (gv : n0 ≤ v) (hD : D.length = 4) (hP : P.length = 4) (hai : ai < 4) (hbi : bi < 4) (hex : D.getD ai 0 = x) (hey : D.getD bi 0 = y) (hx4 : x < 4) (hy4 : y < 4) :
    MetFree l (⟨"com/example/arcmill/arcmill/Variable", "swap", "(II)V"⟩ : MethodName) (head1 (Jvm.Cond.code (⟨"com/example/arcmill/arcmill/Variable", "swap", "(II)V"⟩ : MethodName) prog_58_method_28_code 5 none :: ws') ({ frames := 0, cells := 0, slots := 0, locals := 0 } : Room)) (fun a U => a = #[(.ref v), (.int (Int32.ofNat ai)), (.int (Int32.ofNat bi))] ∧ Z.Warmed39 U.vm ∧ U.heap = h0) (fun _ _ _ _ _ => True) (fun _ U o U' => ∃ rv L, o = .returned rv ∧ Q9 Z v tr dn pl pr ws kd kp kr kw sz ((D.set ai y).set bi x) ((P.set y ai).set x bi) Wv n0 rv U'.heap L ∧ FrameEnd U o U' L ({ frames := 0, cells := 0, slots := 0, locals := 0 } : Room).cells ({ frames := 0, cells := 0, slots := 0, locals := 0 } : Room).slots) := by
  refine MetFree.of_bodySF (plainFor_of_name pn_9) hisR ?_
  intro p e s m args below meth c s₁ Bd hml0 hP hK
  obtain ⟨rfl, hZ, hh⟩ := hP
  have hx := Bd.exec
  have hby := Bd.bytes
  have hml : c.maxLocals = 5 := hml0
  have hown : s.vm.findClass "com/example/arcmill/arcmill/Variable" = some m.cls := findClass_of_methodNamed Bd.named
  have hnm := (name_of_methodNamed Bd.named Bd.method).1
  have X0 : Stand p l e ({ frames := 0, cells := 0, slots := 0, locals := 0 } : Room) s m #[(.ref v), (.int (Int32.ofNat ai)), (.int (Int32.ofNat bi))] below meth c s₁ [] 0 0 := Stand.of_body Bd
  have e0 : s₁.heap = h0 := by rw [← hh, Bd.state]; rfl
  have N0 := Fr.nil n0
  have pre0 : ∀ t, Steps p.tables e below (s₁.setTop (mkF m 0 #[.val (.ref v), .val (.int (Int32.ofNat ai)), .val (.int (Int32.ofNat bi)), .unset, .unset] [])) t → Steps p.tables e below (s₁.setTop (entryFrame m #[(.ref v), (.int (Int32.ofNat ai)), (.int (Int32.ofNat bi))] 5)) t := fun t k => castTop (ef_9 m v ai bi) k
  obtain ⟨r0, r1, r2, ⟨rsv, r3⟩, r4, r5, r6, r7, r8, r9, r10, r11, r12, ⟨rqq, r13⟩, r14, ro1, ro2, ro3, ro4, ro5⟩ := R0
  have ge_dn : n0 ≤ dn := by omega
  have ge_pl : n0 ≤ pl := by omega
  have ge_pr : n0 ≤ pr := by omega
  have ge_ws : n0 ≤ ws := by omega
  obtain ⟨Tt1, Xt1, et1, stt1⟩ := getF X0 hx hZ hown (host := "") (Or.inl (hw _ (List.mem_of_getElem? (i := 74) rfl))) Via.refl e0 r5 (g := (mkF m 1 #[.val (.ref v), .val (.int (Int32.ofNat ai)), .val (.int (Int32.ofNat bi)), .unset, .unset] [(.ref v)])) rfl rfl (hb hby dW_1)
  obtain ⟨Tt2, Xt2, et2, stt2⟩ := getF Xt1 hx hZ hown (host := "") (Or.inl (hw _ (List.mem_of_getElem? (i := 74) rfl))) Via.refl et1 r5 (g := (mkF m 8 #[.val (.ref v), .val (.int (Int32.ofNat ai)), .val (.int (Int32.ofNat bi)), .val (.int (Int32.ofNat x)), .unset] [(.ref v)])) rfl rfl (hb hby dW_8)
  obtain ⟨Tt3, Xt3, et3, stt3⟩ := getF Xt2 hx hZ hown (host := "") (Or.inl (hw _ (List.mem_of_getElem? (i := 74) rfl))) Via.refl et2 r5 (g := (mkF m 16 #[.val (.ref v), .val (.int (Int32.ofNat ai)), .val (.int (Int32.ofNat bi)), .val (.int (Int32.ofNat x)), .val (.int (Int32.ofNat y))] [(.ref v)])) rfl rfl (hb hby dW_16)
  obtain ⟨Tt4, ht4, Xt4, et4, Wt4, Vt4, stt4⟩ := own_istN Xt3 hx hZ et3 r11 ai y hai hD (g := (mkF m 22 #[.val (.ref v), .val (.int (Int32.ofNat ai)), .val (.int (Int32.ofNat bi)), .val (.int (Int32.ofNat x)), .val (.int (Int32.ofNat y))] [(.int (Int32.ofNat y)), (.int (Int32.ofNat ai)), (.ref dn)])) rfl rfl (hb hby dW_22)
  have Nt4 := Fr.snoc Xt4 N0 ge_dn
  have Zt4 : n0 ≤ ht4.size := by rw [Wt4.size]; exact Z0
  have ne_v_dn : @Ne Nat v dn := by omega
  have f5 : Fld Z ht4 v "com/example/arcmill/arcmill/Variable" "dense" "[I" (.ref dn) := r5.other Wt4 (Or.inl ne_v_dn)
  obtain ⟨Tt6, Xt6, et6, stt6⟩ := getF Xt4 hx hZ hown (host := "") (Or.inl (hw _ (List.mem_of_getElem? (i := 74) rfl))) Via.refl et4 f5 (g := (mkF m 24 #[.val (.ref v), .val (.int (Int32.ofNat ai)), .val (.int (Int32.ofNat bi)), .val (.int (Int32.ofNat x)), .val (.int (Int32.ofNat y))] [(.ref v)])) rfl rfl (hb hby dW_24)
  obtain ⟨Tt7, ht7, Xt7, et7, Wt7, Vt7, stt7⟩ := own_istN Xt6 hx hZ et6 Vt4 bi x hbi (by rw [List.length_set]; exact hD) (g := (mkF m 29 #[.val (.ref v), .val (.int (Int32.ofNat ai)), .val (.int (Int32.ofNat bi)), .val (.int (Int32.ofNat x)), .val (.int (Int32.ofNat y))] [(.int (Int32.ofNat x)), (.int (Int32.ofNat bi)), (.ref dn)])) rfl rfl (hb hby dW_29)
  have Nt7 := Fr.snoc Xt7 Nt4 ge_dn
  have Zt7 : n0 ≤ ht7.size := by rw [Wt7.size]; exact Zt4
  have f8 : Fld Z ht7 v "com/example/arcmill/arcmill/Variable" "places" "[I" (.ref pl) := (r6.other Wt4 (Or.inl ne_v_dn)).other Wt7 (Or.inl ne_v_dn)
  obtain ⟨Tt9, Xt9, et9, stt9⟩ := getF Xt7 hx hZ hown (host := "") (Or.inl (hw _ (List.mem_of_getElem? (i := 76) rfl))) Via.refl et7 f8 (g := (mkF m 31 #[.val (.ref v), .val (.int (Int32.ofNat ai)), .val (.int (Int32.ofNat bi)), .val (.int (Int32.ofNat x)), .val (.int (Int32.ofNat y))] [(.ref v)])) rfl rfl (hb hby dW_31)
  have ne_pl_dn : @Ne Nat pl dn := by omega
  have f11 : Arv Z ht7 pl kp .int (4 : Int32) (own_vs P) (.int 0) := (r12.other Wt4 ne_pl_dn).other Wt7 ne_pl_dn
  obtain ⟨Tt10, ht10, Xt10, et10, Wt10, Vt10, stt10⟩ := own_istN Xt9 hx hZ et9 f11 y ai hy4 hP (g := (mkF m 37 #[.val (.ref v), .val (.int (Int32.ofNat ai)), .val (.int (Int32.ofNat bi)), .val (.int (Int32.ofNat x)), .val (.int (Int32.ofNat y))] [(.int (Int32.ofNat ai)), (.int (Int32.ofNat y)), (.ref pl)])) rfl rfl (hb hby dW_37)
  have Nt10 := Fr.snoc Xt10 Nt7 ge_pl
  have Zt10 : n0 ≤ ht10.size := by rw [Wt10.size]; exact Zt7
  have ne_v_pl : @Ne Nat v pl := by omega
  have f12 : Fld Z ht10 v "com/example/arcmill/arcmill/Variable" "places" "[I" (.ref pl) := f8.other Wt10 (Or.inl ne_v_pl)
  obtain ⟨Tt13, Xt13, et13, stt13⟩ := getF Xt10 hx hZ hown (host := "") (Or.inl (hw _ (List.mem_of_getElem? (i := 76) rfl))) Via.refl et10 f12 (g := (mkF m 39 #[.val (.ref v), .val (.int (Int32.ofNat ai)), .val (.int (Int32.ofNat bi)), .val (.int (Int32.ofNat x)), .val (.int (Int32.ofNat y))] [(.ref v)])) rfl rfl (hb hby dW_39)
  obtain ⟨Tt14, ht14, Xt14, et14, Wt14, Vt14, stt14⟩ := own_istN Xt13 hx hZ et13 Vt10 x bi hx4 (by rw [List.length_set]; exact hP) (g := (mkF m 44 #[.val (.ref v), .val (.int (Int32.ofNat ai)), .val (.int (Int32.ofNat bi)), .val (.int (Int32.ofNat x)), .val (.int (Int32.ofNat y))] [(.int (Int32.ofNat bi)), (.int (Int32.ofNat x)), (.ref pl)])) rfl rfl (hb hby dW_44)
  have Nt14 := Fr.snoc Xt14 Nt10 ge_pl
  have Zt14 : n0 ≤ ht14.size := by rw [Wt14.size]; exact Zt10
  have f15 : Exa Z ht14 v "com/example/arcmill/arcmill/Variable" := (((r0.wr Wt4).wr Wt7).wr Wt10).wr Wt14
  have f16 : Exa Z ht14 tr "com/example/arcmill/arcmill/Trail" := (((r1.wr Wt4).wr Wt7).wr Wt10).wr Wt14
  have f17 : Fld Z ht14 v "com/example/arcmill/arcmill/Variable" "size" "I" (.int (Int32.ofNat sz)) := (((r2.other Wt4 (Or.inl ne_v_dn)).other Wt7 (Or.inl ne_v_dn)).other Wt10 (Or.inl ne_v_pl)).other Wt14 (Or.inl ne_v_pl)
  have f18 : Fld Z ht14 v "com/example/arcmill/arcmill/Variable" "sizeSavedIn" "J" (.long rsv) := (((r3.other Wt4 (Or.inl ne_v_dn)).other Wt7 (Or.inl ne_v_dn)).other Wt10 (Or.inl ne_v_pl)).other Wt14 (Or.inl ne_v_pl)
  have f19 : Fld Z ht14 v "com/example/arcmill/arcmill/Variable" "trail" "Lcom/example/arcmill/arcmill/Trail;" (.ref tr) := (((r4.other Wt4 (Or.inl ne_v_dn)).other Wt7 (Or.inl ne_v_dn)).other Wt10 (Or.inl ne_v_pl)).other Wt14 (Or.inl ne_v_pl)
  have f20 : Fld Z ht14 v "com/example/arcmill/arcmill/Variable" "dense" "[I" (.ref dn) := ((f5.other Wt7 (Or.inl ne_v_dn)).other Wt10 (Or.inl ne_v_pl)).other Wt14 (Or.inl ne_v_pl)
  have f21 : Fld Z ht14 v "com/example/arcmill/arcmill/Variable" "places" "[I" (.ref pl) := f12.other Wt14 (Or.inl ne_v_pl)
  have f22 : Fld Z ht14 v "com/example/arcmill/arcmill/Variable" "present" "[J" (.ref pr) := (((r7.other Wt4 (Or.inl ne_v_dn)).other Wt7 (Or.inl ne_v_dn)).other Wt10 (Or.inl ne_v_pl)).other Wt14 (Or.inl ne_v_pl)
  have f23 : Fld Z ht14 v "com/example/arcmill/arcmill/Variable" "workspace" "[I" (.ref ws) := (((r8.other Wt4 (Or.inl ne_v_dn)).other Wt7 (Or.inl ne_v_dn)).other Wt10 (Or.inl ne_v_pl)).other Wt14 (Or.inl ne_v_pl)
  have ne_tr_dn : @Ne Nat tr dn := by omega
  have ne_tr_pl : @Ne Nat tr pl := by omega
  have f24 : Fld Z ht14 tr "com/example/arcmill/arcmill/Trail" "epoch" "J" (.long (0 : Int64)) := (((r9.other Wt4 (Or.inl ne_tr_dn)).other Wt7 (Or.inl ne_tr_dn)).other Wt10 (Or.inl ne_tr_pl)).other Wt14 (Or.inl ne_tr_pl)
  have f25 : Fld Z ht14 tr "com/example/arcmill/arcmill/Trail" "level" "I" (.int (0 : Int32)) := (((r10.other Wt4 (Or.inl ne_tr_dn)).other Wt7 (Or.inl ne_tr_dn)).other Wt10 (Or.inl ne_tr_pl)).other Wt14 (Or.inl ne_tr_pl)
  have ne_dn_pl : @Ne Nat dn pl := by omega
  have f26 : Arv Z ht14 dn kd .int (4 : Int32) (own_vs ((D.set ai y).set bi x)) (.int 0) := (Vt7.other Wt10 ne_dn_pl).other Wt14 ne_dn_pl
  have ne_pr_dn : @Ne Nat pr dn := by omega
  have ne_pr_pl : @Ne Nat pr pl := by omega
  have f27 : Arv Z ht14 pr kr .long (1 : Int32) [(.long rqq)] (.long (0 : Int64)) := (((r13.other Wt4 ne_pr_dn).other Wt7 ne_pr_dn).other Wt10 ne_pr_pl).other Wt14 ne_pr_pl
  have ne_ws_dn : @Ne Nat ws dn := by omega
  have ne_ws_pl : @Ne Nat ws pl := by omega
  have f28 : Arv Z ht14 ws kw .int (4 : Int32) Wv (.int 0) := (((r14.other Wt4 ne_ws_dn).other Wt7 ne_ws_dn).other Wt10 ne_ws_pl).other Wt14 ne_ws_pl
  obtain ⟨fs, hr, hrun, hended, hW, hsame⟩ := Xt14.leave (v := none) (fun _ => rfl)
  refine ⟨_, _, pre0 _ ?_, hrun, hended, _, _, rfl, ?_, ⟨_, rfl⟩, hW, hsame.mono (by decide) (by decide)⟩
  · show Steps p.tables e below (s₁.setTop (mkF m 0 #[.val (.ref v), .val (.int (Int32.ofNat ai)), .val (.int (Int32.ofNat bi)), .unset, .unset] [])) _
    refine XS.aloadN X0.here hx rfl (hb hby dW_0) rfl rfl ?_
    show Steps p.tables e below (s₁.setTop (mkF m 1 #[.val (.ref v), .val (.int (Int32.ofNat ai)), .val (.int (Int32.ofNat bi)), .unset, .unset] [(.ref v)])) _
    refine stt1 _ ?_
    show Steps p.tables e below (Tt1.setTop (mkF m 4 #[.val (.ref v), .val (.int (Int32.ofNat ai)), .val (.int (Int32.ofNat bi)), .unset, .unset] [(.ref dn)])) _
    refine XS.iloadN Xt1.here hx rfl (hb hby dW_4) rfl ?_
    show Steps p.tables e below (Tt1.setTop (mkF m 5 #[.val (.ref v), .val (.int (Int32.ofNat ai)), .val (.int (Int32.ofNat bi)), .unset, .unset] [(.int (Int32.ofNat ai)), (.ref dn)])) _
    refine own_ildN Xt1 hx hZ et1 r11 ai hai hD (g := (mkF m 5 #[.val (.ref v), .val (.int (Int32.ofNat ai)), .val (.int (Int32.ofNat bi)), .unset, .unset] [(.int (Int32.ofNat ai)), (.ref dn)])) rfl rfl (hb hby dW_5) _ ?_
    show Steps p.tables e below (Tt1.setTop (mkF m 6 #[.val (.ref v), .val (.int (Int32.ofNat ai)), .val (.int (Int32.ofNat bi)), .unset, .unset] [(.int (Int32.ofNat (D.getD ai 0)))])) _
    rw [hex]
    show Steps p.tables e below (Tt1.setTop (mkF m 6 #[.val (.ref v), .val (.int (Int32.ofNat ai)), .val (.int (Int32.ofNat bi)), .unset, .unset] [(.int (Int32.ofNat x))])) _
    refine XS.istoreN Xt1.here hx rfl (hb hby dW_6) rfl (l' := #[.val (.ref v), .val (.int (Int32.ofNat ai)), .val (.int (Int32.ofNat bi)), .val (.int (Int32.ofNat x)), .unset]) rfl ?_
    show Steps p.tables e below (Tt1.setTop (mkF m 7 #[.val (.ref v), .val (.int (Int32.ofNat ai)), .val (.int (Int32.ofNat bi)), .val (.int (Int32.ofNat x)), .unset] [])) _
    refine XS.aloadN Xt1.here hx rfl (hb hby dW_7) rfl rfl ?_
    show Steps p.tables e below (Tt1.setTop (mkF m 8 #[.val (.ref v), .val (.int (Int32.ofNat ai)), .val (.int (Int32.ofNat bi)), .val (.int (Int32.ofNat x)), .unset] [(.ref v)])) _
    refine stt2 _ ?_
    show Steps p.tables e below (Tt2.setTop (mkF m 11 #[.val (.ref v), .val (.int (Int32.ofNat ai)), .val (.int (Int32.ofNat bi)), .val (.int (Int32.ofNat x)), .unset] [(.ref dn)])) _
    refine XS.iloadN Xt2.here hx rfl (hb hby dW_11) rfl ?_
    show Steps p.tables e below (Tt2.setTop (mkF m 12 #[.val (.ref v), .val (.int (Int32.ofNat ai)), .val (.int (Int32.ofNat bi)), .val (.int (Int32.ofNat x)), .unset] [(.int (Int32.ofNat bi)), (.ref dn)])) _
    refine own_ildN Xt2 hx hZ et2 r11 bi hbi hD (g := (mkF m 12 #[.val (.ref v), .val (.int (Int32.ofNat ai)), .val (.int (Int32.ofNat bi)), .val (.int (Int32.ofNat x)), .unset] [(.int (Int32.ofNat bi)), (.ref dn)])) rfl rfl (hb hby dW_12) _ ?_
    show Steps p.tables e below (Tt2.setTop (mkF m 13 #[.val (.ref v), .val (.int (Int32.ofNat ai)), .val (.int (Int32.ofNat bi)), .val (.int (Int32.ofNat x)), .unset] [(.int (Int32.ofNat (D.getD bi 0)))])) _
    rw [hey]
    show Steps p.tables e below (Tt2.setTop (mkF m 13 #[.val (.ref v), .val (.int (Int32.ofNat ai)), .val (.int (Int32.ofNat bi)), .val (.int (Int32.ofNat x)), .unset] [(.int (Int32.ofNat y))])) _
    refine XS.istore Xt2.here hx rfl (hb hby dW_13) rfl (l' := #[.val (.ref v), .val (.int (Int32.ofNat ai)), .val (.int (Int32.ofNat bi)), .val (.int (Int32.ofNat x)), .val (.int (Int32.ofNat y))]) rfl ?_
    show Steps p.tables e below (Tt2.setTop (mkF m 15 #[.val (.ref v), .val (.int (Int32.ofNat ai)), .val (.int (Int32.ofNat bi)), .val (.int (Int32.ofNat x)), .val (.int (Int32.ofNat y))] [])) _
    refine XS.aloadN Xt2.here hx rfl (hb hby dW_15) rfl rfl ?_
    show Steps p.tables e below (Tt2.setTop (mkF m 16 #[.val (.ref v), .val (.int (Int32.ofNat ai)), .val (.int (Int32.ofNat bi)), .val (.int (Int32.ofNat x)), .val (.int (Int32.ofNat y))] [(.ref v)])) _
    refine stt3 _ ?_
    show Steps p.tables e below (Tt3.setTop (mkF m 19 #[.val (.ref v), .val (.int (Int32.ofNat ai)), .val (.int (Int32.ofNat bi)), .val (.int (Int32.ofNat x)), .val (.int (Int32.ofNat y))] [(.ref dn)])) _
    refine XS.iloadN Xt3.here hx rfl (hb hby dW_19) rfl ?_
    show Steps p.tables e below (Tt3.setTop (mkF m 20 #[.val (.ref v), .val (.int (Int32.ofNat ai)), .val (.int (Int32.ofNat bi)), .val (.int (Int32.ofNat x)), .val (.int (Int32.ofNat y))] [(.int (Int32.ofNat ai)), (.ref dn)])) _
    refine XS.iload Xt3.here hx rfl (hb hby dW_20) rfl ?_
    show Steps p.tables e below (Tt3.setTop (mkF m 22 #[.val (.ref v), .val (.int (Int32.ofNat ai)), .val (.int (Int32.ofNat bi)), .val (.int (Int32.ofNat x)), .val (.int (Int32.ofNat y))] [(.int (Int32.ofNat y)), (.int (Int32.ofNat ai)), (.ref dn)])) _
    refine stt4 _ ?_
    show Steps p.tables e below (Tt4.setTop (mkF m 23 #[.val (.ref v), .val (.int (Int32.ofNat ai)), .val (.int (Int32.ofNat bi)), .val (.int (Int32.ofNat x)), .val (.int (Int32.ofNat y))] [])) _
    refine XS.aloadN Xt4.here hx rfl (hb hby dW_23) rfl rfl ?_
    show Steps p.tables e below (Tt4.setTop (mkF m 24 #[.val (.ref v), .val (.int (Int32.ofNat ai)), .val (.int (Int32.ofNat bi)), .val (.int (Int32.ofNat x)), .val (.int (Int32.ofNat y))] [(.ref v)])) _
    refine stt6 _ ?_
    show Steps p.tables e below (Tt6.setTop (mkF m 27 #[.val (.ref v), .val (.int (Int32.ofNat ai)), .val (.int (Int32.ofNat bi)), .val (.int (Int32.ofNat x)), .val (.int (Int32.ofNat y))] [(.ref dn)])) _
    refine XS.iloadN Xt6.here hx rfl (hb hby dW_27) rfl ?_
    show Steps p.tables e below (Tt6.setTop (mkF m 28 #[.val (.ref v), .val (.int (Int32.ofNat ai)), .val (.int (Int32.ofNat bi)), .val (.int (Int32.ofNat x)), .val (.int (Int32.ofNat y))] [(.int (Int32.ofNat bi)), (.ref dn)])) _
    refine XS.iloadN Xt6.here hx rfl (hb hby dW_28) rfl ?_
    show Steps p.tables e below (Tt6.setTop (mkF m 29 #[.val (.ref v), .val (.int (Int32.ofNat ai)), .val (.int (Int32.ofNat bi)), .val (.int (Int32.ofNat x)), .val (.int (Int32.ofNat y))] [(.int (Int32.ofNat x)), (.int (Int32.ofNat bi)), (.ref dn)])) _
    refine stt7 _ ?_
    show Steps p.tables e below (Tt7.setTop (mkF m 30 #[.val (.ref v), .val (.int (Int32.ofNat ai)), .val (.int (Int32.ofNat bi)), .val (.int (Int32.ofNat x)), .val (.int (Int32.ofNat y))] [])) _
    refine XS.aloadN Xt7.here hx rfl (hb hby dW_30) rfl rfl ?_
    show Steps p.tables e below (Tt7.setTop (mkF m 31 #[.val (.ref v), .val (.int (Int32.ofNat ai)), .val (.int (Int32.ofNat bi)), .val (.int (Int32.ofNat x)), .val (.int (Int32.ofNat y))] [(.ref v)])) _
    refine stt9 _ ?_
    show Steps p.tables e below (Tt9.setTop (mkF m 34 #[.val (.ref v), .val (.int (Int32.ofNat ai)), .val (.int (Int32.ofNat bi)), .val (.int (Int32.ofNat x)), .val (.int (Int32.ofNat y))] [(.ref pl)])) _
    refine XS.iload Xt9.here hx rfl (hb hby dW_34) rfl ?_
    show Steps p.tables e below (Tt9.setTop (mkF m 36 #[.val (.ref v), .val (.int (Int32.ofNat ai)), .val (.int (Int32.ofNat bi)), .val (.int (Int32.ofNat x)), .val (.int (Int32.ofNat y))] [(.int (Int32.ofNat y)), (.ref pl)])) _
    refine XS.iloadN Xt9.here hx rfl (hb hby dW_36) rfl ?_
    show Steps p.tables e below (Tt9.setTop (mkF m 37 #[.val (.ref v), .val (.int (Int32.ofNat ai)), .val (.int (Int32.ofNat bi)), .val (.int (Int32.ofNat x)), .val (.int (Int32.ofNat y))] [(.int (Int32.ofNat ai)), (.int (Int32.ofNat y)), (.ref pl)])) _
    refine stt10 _ ?_
    show Steps p.tables e below (Tt10.setTop (mkF m 38 #[.val (.ref v), .val (.int (Int32.ofNat ai)), .val (.int (Int32.ofNat bi)), .val (.int (Int32.ofNat x)), .val (.int (Int32.ofNat y))] [])) _
    refine XS.aloadN Xt10.here hx rfl (hb hby dW_38) rfl rfl ?_
    show Steps p.tables e below (Tt10.setTop (mkF m 39 #[.val (.ref v), .val (.int (Int32.ofNat ai)), .val (.int (Int32.ofNat bi)), .val (.int (Int32.ofNat x)), .val (.int (Int32.ofNat y))] [(.ref v)])) _
    refine stt13 _ ?_
    show Steps p.tables e below (Tt13.setTop (mkF m 42 #[.val (.ref v), .val (.int (Int32.ofNat ai)), .val (.int (Int32.ofNat bi)), .val (.int (Int32.ofNat x)), .val (.int (Int32.ofNat y))] [(.ref pl)])) _
    refine XS.iloadN Xt13.here hx rfl (hb hby dW_42) rfl ?_
    show Steps p.tables e below (Tt13.setTop (mkF m 43 #[.val (.ref v), .val (.int (Int32.ofNat ai)), .val (.int (Int32.ofNat bi)), .val (.int (Int32.ofNat x)), .val (.int (Int32.ofNat y))] [(.int (Int32.ofNat x)), (.ref pl)])) _
    refine XS.iloadN Xt13.here hx rfl (hb hby dW_43) rfl ?_
    show Steps p.tables e below (Tt13.setTop (mkF m 44 #[.val (.ref v), .val (.int (Int32.ofNat ai)), .val (.int (Int32.ofNat bi)), .val (.int (Int32.ofNat x)), .val (.int (Int32.ofNat y))] [(.int (Int32.ofNat bi)), (.int (Int32.ofNat x)), (.ref pl)])) _
    refine stt14 _ ?_
    exact Xt14.returnOut hx Bd.returns (hb hby dW_45) hr
  · show Q9 Z v tr dn pl pr ws kd kp kr kw sz ((D.set ai y).set bi x) ((P.set y ai).set x bi) Wv n0 _ Tt14.heap _
    rw [et14]
    exact ⟨rfl, Nt14, ⟨f15, f16, f17, ⟨_, f18⟩, f19, f20, f21, f22, f23, f24, f25, f26, Vt14, ⟨_, f27⟩, f28, ro1, ro2, ro3, ro4, ro5⟩⟩
theorem dZ_0 : decode prog_58_method_26_code 0 = .ok (.aload_n 0, 1) := by decide +kernel
theorem dZ_1 : decode prog_58_method_26_code 1 = .ok (.aload_n 0, 1) := by decide +kernel
theorem dZ_2 : decode prog_58_method_26_code 2 = .ok (.getfield 53, 3) := by decide +kernel
theorem dZ_5 : decode prog_58_method_26_code 5 = .ok (.aload_n 0, 1) := by decide +kernel
theorem dZ_6 : decode prog_58_method_26_code 6 = .ok (.aload_n 0, 1) := by decide +kernel
theorem dZ_7 : decode prog_58_method_26_code 7 = .ok (.getfield 57, 3) := by decide +kernel
theorem dZ_10 : decode prog_58_method_26_code 10 = .ok (.aload_n 0, 1) := by decide +kernel
theorem dZ_11 : decode prog_58_method_26_code 11 = .ok (.getfield 9, 3) := by decide +kernel
theorem dZ_14 : decode prog_58_method_26_code 14 = .ok (.invokevirtual 140, 3) := by decide +kernel
theorem dZ_17 : decode prog_58_method_26_code 17 = .ok (.putfield 9, 3) := by decide +kernel
theorem dZ_20 : decode prog_58_method_26_code 20 = .ok (.aload_n 0, 1) := by decide +kernel
theorem dZ_21 : decode prog_58_method_26_code 21 = .ok (.iload_n 1, 1) := by decide +kernel
theorem dZ_22 : decode prog_58_method_26_code 22 = .ok (.putfield 57, 3) := by decide +kernel
theorem dZ_25 : decode prog_58_method_26_code 25 = .ok (.return_, 1) := by decide +kernel
theorem pn_10 : plainName "com/example/arcmill/arcmill/Variable" = true := by first | (simp [plainName, overriddenIn]; done) | decide +kernel
theorem ef_10 (m : MethodId) (v : Addr) (nz : Nat) : entryFrame m #[(.ref v), (.int (Int32.ofNat nz))] 2 = mkF m 0 #[.val (.ref v), .val (.int (Int32.ofNat nz))] [] := by first | (simp [entryFrame, mkF, argsToLocals, Value.category]; done) | rfl
set_option maxRecDepth 65536 in
set_option maxHeartbeats 40000000 in
theorem rm10 (l : Launch) (Z : State) (a0 : Array Value) (hw : ∀ d ∈ tables_1, d.before a0 Z = true) (ws' : List Jvm.Cond) (v tr dn pl pr ws : Addr) (kd kp kr kw : ClassId) (sz : Nat) (D P : List Nat) (Wv : List Value) (nz : Nat) (h0 : Heap) (n0 : Nat) (Z0 : n0 ≤ h0.size) (R0 : own_Rep Z h0 v tr dn pl pr ws kd kp kr kw sz D P Wv) (gv : n0 ≤ v) :
    MetFree l (⟨"com/example/arcmill/arcmill/Variable", "setSize", "(I)V"⟩ : MethodName) (head1 (Jvm.Cond.code (⟨"com/example/arcmill/arcmill/Variable", "setSize", "(I)V"⟩ : MethodName) prog_58_method_26_code 2 none :: ws') ({ frames := 1, cells := 0, slots := 0, locals := 17 } : Room)) (fun a U => a = #[(.ref v), (.int (Int32.ofNat nz))] ∧ Z.Warmed39 U.vm ∧ U.heap = h0) (fun _ _ _ _ _ => True) (fun _ U o U' => ∃ rv L, o = .returned rv ∧ Q9 Z v tr dn pl pr ws kd kp kr kw nz D P Wv n0 rv U'.heap L ∧ FrameEnd U o U' L ({ frames := 1, cells := 0, slots := 0, locals := 17 } : Room).cells ({ frames := 1, cells := 0, slots := 0, locals := 17 } : Room).slots) := by
  refine MetFree.of_bodySF (plainFor_of_name pn_10) hisR ?_
  intro p e s m args below meth c s₁ Bd hml0 hP hK
  obtain ⟨rfl, hZ, hh⟩ := hP
  have hx := Bd.exec
  have hby := Bd.bytes
  have hml : c.maxLocals = 2 := hml0
  have hown : s.vm.findClass "com/example/arcmill/arcmill/Variable" = some m.cls := findClass_of_methodNamed Bd.named
  have hnm := (name_of_methodNamed Bd.named Bd.method).1
  have X0 : Stand p l e ({ frames := 1, cells := 0, slots := 0, locals := 17 } : Room) s m #[(.ref v), (.int (Int32.ofNat nz))] below meth c s₁ [] 0 0 := Stand.of_body Bd
  have e0 : s₁.heap = h0 := by rw [← hh, Bd.state]; rfl
  have N0 := Fr.nil n0
  have pre0 : ∀ t, Steps p.tables e below (s₁.setTop (mkF m 0 #[.val (.ref v), .val (.int (Int32.ofNat nz))] [])) t → Steps p.tables e below (s₁.setTop (entryFrame m #[(.ref v), (.int (Int32.ofNat nz))] 2)) t := fun t k => castTop (ef_10 m v nz) k
  obtain ⟨r0, r1, r2, ⟨rsv, r3⟩, r4, r5, r6, r7, r8, r9, r10, r11, r12, ⟨rqq, r13⟩, r14, ro1, ro2, ro3, ro4, ro5⟩ := R0
  have ge_dn : n0 ≤ dn := by omega
  have ge_pl : n0 ≤ pl := by omega
  have ge_pr : n0 ≤ pr := by omega
  have ge_ws : n0 ≤ ws := by omega
  obtain ⟨Tt1, Xt1, et1, stt1⟩ := getF X0 hx hZ hown (host := "") (Or.inl (hw _ (List.mem_of_getElem? (i := 81) rfl))) Via.refl e0 r4 (g := (mkF m 2 #[.val (.ref v), .val (.int (Int32.ofNat nz))] [(.ref v), (.ref v)])) rfl rfl (hb hby dZ_2)
  obtain ⟨Tt2, Xt2, et2, stt2⟩ := getF Xt1 hx hZ hown (host := "") (Or.inl (hw _ (List.mem_of_getElem? (i := 83) rfl))) Via.refl et1 r2 (g := (mkF m 7 #[.val (.ref v), .val (.int (Int32.ofNat nz))] [(.ref v), (.ref v), (.ref tr), (.ref v)])) rfl rfl (hb hby dZ_7)
  obtain ⟨Tt3, Xt3, et3, stt3⟩ := getF Xt2 hx hZ hown (host := "") (Or.inl (hw _ (List.mem_of_getElem? (i := 34) rfl))) Via.refl et2 r3 (g := (mkF m 11 #[.val (.ref v), .val (.int (Int32.ofNat nz))] [(.ref v), (.int (Int32.ofNat sz)), (.ref v), (.ref tr), (.ref v)])) rfl rfl (hb hby dZ_11)
  obtain ⟨cqt4, kqt4, qt4a, qt4b, qt4c⟩ := isOf hZ et3 r1
  obtain ⟨_, _, ⟨Tt4, Lt4, kt4, nt4⟩, -, Xt4, ⟨Lct4, hQt4, lt4, yt4, zt4⟩, stt4⟩ := Xt3.virtualBack hx (y := (⟨"com/example/arcmill/arcmill/Trail", "save", "(Lcom/example/arcmill/arcmill/Trail$Restorable;IJ)J"⟩ : MethodName)) (z := (⟨"com/example/arcmill/arcmill/Trail", "save", "(Lcom/example/arcmill/arcmill/Trail$Restorable;IJ)J"⟩ : MethodName)) hown (mvT hZ (hw _ (List.mem_of_getElem? (i := 105) rfl))) (mvT hZ (hw _ (List.mem_of_getElem? (i := 106) rfl))) (notFace_of_selects (args := #[]) (mvT hZ (hw _ (List.mem_of_getElem? (i := 108) rfl)))) (mvT hZ (hw _ (List.mem_of_getElem? (i := 108) rfl))) (mvT hZ (hw _ (List.mem_of_getElem? (i := 107) rfl))) (by decide) (backOf (W := 1) (rm11 l Z a0 hw [] tr v (Int32.ofNat sz) rsv h0 n0 Z0 r9 r10) hZ (hw _ (List.mem_of_getElem? (i := 109) rfl)) (hw _ (List.mem_of_getElem? (i := 2) rfl)) (by decide) (by decide)) qt4a qt4c (g := (mkF m 14 #[.val (.ref v), .val (.int (Int32.ofNat nz))] [(.long rsv), (.int (Int32.ofNat sz)), (.ref v), (.ref tr), (.ref v)])) rfl (by rw [hml]; rfl) (Steps.refl _) (argsL := [(.ref v), (.int (Int32.ofNat sz)), (.long rsv)]) (rest := [(.ref v)]) (lenOf pd_s rfl) rfl (by show 2 * 0 + _ ≤ _; exact Nat.le_of_eq rfl) (hb hby dZ_14) (fun _ _ => ⟨rfl, et3, (by decide : 0 + 0 ≤ _), (by decide : 0 + 0 ≤ _)⟩)
  dsimp only [Pt.U, Pt.locs, Pt.cells, Pt.slots] at Xt4 lt4 yt4 zt4 stt4 hQt4
  subst lt4 yt4 zt4
  obtain ⟨rfl, Nt4q, qt4h⟩ := hQt4
  have Nt4 := Fr.app N0 Nt4q
  obtain ⟨Tt5, ht5, Xt5, et5, Wt5, stt5⟩ := putF Xt4 hx hZ hown (host := "") (Or.inl (hw _ (List.mem_of_getElem? (i := 34) rfl))) Via.refl qt4h r3 r0 (Or.inl (hw _ (List.mem_of_getElem? (i := 35) rfl))) (hw _ (List.mem_of_getElem? (i := 19) rfl)) (ty := .long) (by decide) rfl rfl (g := (mkF m 17 #[.val (.ref v), .val (.int (Int32.ofNat nz))] [(.long (0 : Int64)), (.ref v)])) rfl rfl (hb hby dZ_17)
  have Ft5 : Fld Z ht5 v "com/example/arcmill/arcmill/Variable" "sizeSavedIn" "J" (.long (0 : Int64)) := r3.same Wt5
  have Nt5 := Fr.snoc Xt5 Nt4 gv
  have Zt5 : n0 ≤ ht5.size := by rw [Wt5.size]; exact Z0
  have sn6 : Jvm.RoadKit.slotOf Z "com/example/arcmill/arcmill/Variable" "size" "I" ≠ Jvm.RoadKit.slotOf Z "com/example/arcmill/arcmill/Variable" "sizeSavedIn" "J" := slot_ne (Or.inl (hw _ (List.mem_of_getElem? (i := 84) rfl))) (Or.inl (hw _ (List.mem_of_getElem? (i := 35) rfl))) (by decide) (t := .int) (t' := .long) (by decide) (by decide)
  have f7 : Fld Z ht5 v "com/example/arcmill/arcmill/Variable" "size" "I" (.int (Int32.ofNat sz)) := r2.other Wt5 (Or.inr sn6)
  have f8 : Exa Z ht5 v "com/example/arcmill/arcmill/Variable" := r0.wr Wt5
  obtain ⟨Tt9, ht9, Xt9, et9, Wt9, stt9⟩ := putF Xt5 hx hZ hown (host := "") (Or.inl (hw _ (List.mem_of_getElem? (i := 83) rfl))) Via.refl et5 f7 f8 (Or.inl (hw _ (List.mem_of_getElem? (i := 84) rfl))) (hw _ (List.mem_of_getElem? (i := 19) rfl)) (ty := .int) (by decide) rfl rfl (g := (mkF m 22 #[.val (.ref v), .val (.int (Int32.ofNat nz))] [(.int (Int32.ofNat nz)), (.ref v)])) rfl rfl (hb hby dZ_22)
  have Ft9 : Fld Z ht9 v "com/example/arcmill/arcmill/Variable" "size" "I" (.int (Int32.ofNat nz)) := f7.same Wt9
  have Nt9 := Fr.snoc Xt9 Nt5 gv
  have Zt9 : n0 ≤ ht9.size := by rw [Wt9.size]; exact Zt5
  have f10 : Exa Z ht9 v "com/example/arcmill/arcmill/Variable" := f8.wr Wt9
  have f11 : Exa Z ht9 tr "com/example/arcmill/arcmill/Trail" := (r1.wr Wt5).wr Wt9
  have sn12 : Jvm.RoadKit.slotOf Z "com/example/arcmill/arcmill/Variable" "sizeSavedIn" "J" ≠ Jvm.RoadKit.slotOf Z "com/example/arcmill/arcmill/Variable" "size" "I" := slot_ne (Or.inl (hw _ (List.mem_of_getElem? (i := 35) rfl))) (Or.inl (hw _ (List.mem_of_getElem? (i := 84) rfl))) (by decide) (t := .long) (t' := .int) (by decide) (by decide)
  have f13 : Fld Z ht9 v "com/example/arcmill/arcmill/Variable" "sizeSavedIn" "J" (.long (0 : Int64)) := Ft5.other Wt9 (Or.inr sn12)
  have sn14 : Jvm.RoadKit.slotOf Z "com/example/arcmill/arcmill/Variable" "trail" "Lcom/example/arcmill/arcmill/Trail;" ≠ Jvm.RoadKit.slotOf Z "com/example/arcmill/arcmill/Variable" "sizeSavedIn" "J" := slot_ne (Or.inr (hw _ (List.mem_of_getElem? (i := 82) rfl))) (Or.inl (hw _ (List.mem_of_getElem? (i := 35) rfl))) (by decide) (t := (.object "com/example/arcmill/arcmill/Trail")) (t' := .long) (by decide) (by decide)
  have sn15 : Jvm.RoadKit.slotOf Z "com/example/arcmill/arcmill/Variable" "trail" "Lcom/example/arcmill/arcmill/Trail;" ≠ Jvm.RoadKit.slotOf Z "com/example/arcmill/arcmill/Variable" "size" "I" := slot_ne (Or.inr (hw _ (List.mem_of_getElem? (i := 82) rfl))) (Or.inl (hw _ (List.mem_of_getElem? (i := 84) rfl))) (by decide) (t := (.object "com/example/arcmill/arcmill/Trail")) (t' := .int) (by decide) (by decide)
  have f16 : Fld Z ht9 v "com/example/arcmill/arcmill/Variable" "trail" "Lcom/example/arcmill/arcmill/Trail;" (.ref tr) := (r4.other Wt5 (Or.inr sn14)).other Wt9 (Or.inr sn15)
  have sn17 : Jvm.RoadKit.slotOf Z "com/example/arcmill/arcmill/Variable" "dense" "[I" ≠ Jvm.RoadKit.slotOf Z "com/example/arcmill/arcmill/Variable" "sizeSavedIn" "J" := slot_ne (Or.inr (hw _ (List.mem_of_getElem? (i := 75) rfl))) (Or.inl (hw _ (List.mem_of_getElem? (i := 35) rfl))) (by decide) (t := (.array .int)) (t' := .long) (by decide) (by decide)
  have sn18 : Jvm.RoadKit.slotOf Z "com/example/arcmill/arcmill/Variable" "dense" "[I" ≠ Jvm.RoadKit.slotOf Z "com/example/arcmill/arcmill/Variable" "size" "I" := slot_ne (Or.inr (hw _ (List.mem_of_getElem? (i := 75) rfl))) (Or.inl (hw _ (List.mem_of_getElem? (i := 84) rfl))) (by decide) (t := (.array .int)) (t' := .int) (by decide) (by decide)
  have f19 : Fld Z ht9 v "com/example/arcmill/arcmill/Variable" "dense" "[I" (.ref dn) := (r5.other Wt5 (Or.inr sn17)).other Wt9 (Or.inr sn18)
  have sn20 : Jvm.RoadKit.slotOf Z "com/example/arcmill/arcmill/Variable" "places" "[I" ≠ Jvm.RoadKit.slotOf Z "com/example/arcmill/arcmill/Variable" "sizeSavedIn" "J" := slot_ne (Or.inr (hw _ (List.mem_of_getElem? (i := 77) rfl))) (Or.inl (hw _ (List.mem_of_getElem? (i := 35) rfl))) (by decide) (t := (.array .int)) (t' := .long) (by decide) (by decide)
  have sn21 : Jvm.RoadKit.slotOf Z "com/example/arcmill/arcmill/Variable" "places" "[I" ≠ Jvm.RoadKit.slotOf Z "com/example/arcmill/arcmill/Variable" "size" "I" := slot_ne (Or.inr (hw _ (List.mem_of_getElem? (i := 77) rfl))) (Or.inl (hw _ (List.mem_of_getElem? (i := 84) rfl))) (by decide) (t := (.array .int)) (t' := .int) (by decide) (by decide)
  have f22 : Fld Z ht9 v "com/example/arcmill/arcmill/Variable" "places" "[I" (.ref pl) := (r6.other Wt5 (Or.inr sn20)).other Wt9 (Or.inr sn21)
  have sn23 : Jvm.RoadKit.slotOf Z "com/example/arcmill/arcmill/Variable" "present" "[J" ≠ Jvm.RoadKit.slotOf Z "com/example/arcmill/arcmill/Variable" "sizeSavedIn" "J" := slot_ne (Or.inr (hw _ (List.mem_of_getElem? (i := 80) rfl))) (Or.inl (hw _ (List.mem_of_getElem? (i := 35) rfl))) (by decide) (t := (.array .long)) (t' := .long) (by decide) (by decide)
  have sn24 : Jvm.RoadKit.slotOf Z "com/example/arcmill/arcmill/Variable" "present" "[J" ≠ Jvm.RoadKit.slotOf Z "com/example/arcmill/arcmill/Variable" "size" "I" := slot_ne (Or.inr (hw _ (List.mem_of_getElem? (i := 80) rfl))) (Or.inl (hw _ (List.mem_of_getElem? (i := 84) rfl))) (by decide) (t := (.array .long)) (t' := .int) (by decide) (by decide)
  have f25 : Fld Z ht9 v "com/example/arcmill/arcmill/Variable" "present" "[J" (.ref pr) := (r7.other Wt5 (Or.inr sn23)).other Wt9 (Or.inr sn24)
  have sn26 : Jvm.RoadKit.slotOf Z "com/example/arcmill/arcmill/Variable" "workspace" "[I" ≠ Jvm.RoadKit.slotOf Z "com/example/arcmill/arcmill/Variable" "sizeSavedIn" "J" := slot_ne (Or.inr (hw _ (List.mem_of_getElem? (i := 86) rfl))) (Or.inl (hw _ (List.mem_of_getElem? (i := 35) rfl))) (by decide) (t := (.array .int)) (t' := .long) (by decide) (by decide)
  have sn27 : Jvm.RoadKit.slotOf Z "com/example/arcmill/arcmill/Variable" "workspace" "[I" ≠ Jvm.RoadKit.slotOf Z "com/example/arcmill/arcmill/Variable" "size" "I" := slot_ne (Or.inr (hw _ (List.mem_of_getElem? (i := 86) rfl))) (Or.inl (hw _ (List.mem_of_getElem? (i := 84) rfl))) (by decide) (t := (.array .int)) (t' := .int) (by decide) (by decide)
  have f28 : Fld Z ht9 v "com/example/arcmill/arcmill/Variable" "workspace" "[I" (.ref ws) := (r8.other Wt5 (Or.inr sn26)).other Wt9 (Or.inr sn27)
  have ne_tr_v : @Ne Nat tr v := by omega
  have f29 : Fld Z ht9 tr "com/example/arcmill/arcmill/Trail" "epoch" "J" (.long (0 : Int64)) := (r9.other Wt5 (Or.inl ne_tr_v)).other Wt9 (Or.inl ne_tr_v)
  have f30 : Fld Z ht9 tr "com/example/arcmill/arcmill/Trail" "level" "I" (.int (0 : Int32)) := (r10.other Wt5 (Or.inl ne_tr_v)).other Wt9 (Or.inl ne_tr_v)
  have ne_dn_v : @Ne Nat dn v := by omega
  have f31 : Arv Z ht9 dn kd .int (4 : Int32) (own_vs D) (.int 0) := (r11.other Wt5 ne_dn_v).other Wt9 ne_dn_v
  have ne_pl_v : @Ne Nat pl v := by omega
  have f32 : Arv Z ht9 pl kp .int (4 : Int32) (own_vs P) (.int 0) := (r12.other Wt5 ne_pl_v).other Wt9 ne_pl_v
  have ne_pr_v : @Ne Nat pr v := by omega
  have f33 : Arv Z ht9 pr kr .long (1 : Int32) [(.long rqq)] (.long (0 : Int64)) := (r13.other Wt5 ne_pr_v).other Wt9 ne_pr_v
  have ne_ws_v : @Ne Nat ws v := by omega
  have f34 : Arv Z ht9 ws kw .int (4 : Int32) Wv (.int 0) := (r14.other Wt5 ne_ws_v).other Wt9 ne_ws_v
  obtain ⟨fs, hr, hrun, hended, hW, hsame⟩ := Xt9.leave (v := none) (fun _ => rfl)
  refine ⟨_, _, pre0 _ ?_, hrun, hended, _, _, rfl, ?_, ⟨_, rfl⟩, hW, hsame.mono (by decide) (by decide)⟩
  · show Steps p.tables e below (s₁.setTop (mkF m 0 #[.val (.ref v), .val (.int (Int32.ofNat nz))] [])) _
    refine XS.aloadN X0.here hx rfl (hb hby dZ_0) rfl rfl ?_
    show Steps p.tables e below (s₁.setTop (mkF m 1 #[.val (.ref v), .val (.int (Int32.ofNat nz))] [(.ref v)])) _
    refine XS.aloadN X0.here hx rfl (hb hby dZ_1) rfl rfl ?_
    show Steps p.tables e below (s₁.setTop (mkF m 2 #[.val (.ref v), .val (.int (Int32.ofNat nz))] [(.ref v), (.ref v)])) _
    refine stt1 _ ?_
    show Steps p.tables e below (Tt1.setTop (mkF m 5 #[.val (.ref v), .val (.int (Int32.ofNat nz))] [(.ref tr), (.ref v)])) _
    refine XS.aloadN Xt1.here hx rfl (hb hby dZ_5) rfl rfl ?_
    show Steps p.tables e below (Tt1.setTop (mkF m 6 #[.val (.ref v), .val (.int (Int32.ofNat nz))] [(.ref v), (.ref tr), (.ref v)])) _
    refine XS.aloadN Xt1.here hx rfl (hb hby dZ_6) rfl rfl ?_
    show Steps p.tables e below (Tt1.setTop (mkF m 7 #[.val (.ref v), .val (.int (Int32.ofNat nz))] [(.ref v), (.ref v), (.ref tr), (.ref v)])) _
    refine stt2 _ ?_
    show Steps p.tables e below (Tt2.setTop (mkF m 10 #[.val (.ref v), .val (.int (Int32.ofNat nz))] [(.int (Int32.ofNat sz)), (.ref v), (.ref tr), (.ref v)])) _
    refine XS.aloadN Xt2.here hx rfl (hb hby dZ_10) rfl rfl ?_
    show Steps p.tables e below (Tt2.setTop (mkF m 11 #[.val (.ref v), .val (.int (Int32.ofNat nz))] [(.ref v), (.int (Int32.ofNat sz)), (.ref v), (.ref tr), (.ref v)])) _
    refine stt3 _ ?_
    show Steps p.tables e below (Tt3.setTop (mkF m 14 #[.val (.ref v), .val (.int (Int32.ofNat nz))] [(.long rsv), (.int (Int32.ofNat sz)), (.ref v), (.ref tr), (.ref v)])) _
    refine stt4.trans ?_
    show Steps p.tables e below (Tt4.setTop (mkF m 17 #[.val (.ref v), .val (.int (Int32.ofNat nz))] [(.long (0 : Int64)), (.ref v)])) _
    refine stt5 _ ?_
    show Steps p.tables e below (Tt5.setTop (mkF m 20 #[.val (.ref v), .val (.int (Int32.ofNat nz))] [])) _
    refine XS.aloadN Xt5.here hx rfl (hb hby dZ_20) rfl rfl ?_
    show Steps p.tables e below (Tt5.setTop (mkF m 21 #[.val (.ref v), .val (.int (Int32.ofNat nz))] [(.ref v)])) _
    refine XS.iloadN Xt5.here hx rfl (hb hby dZ_21) rfl ?_
    show Steps p.tables e below (Tt5.setTop (mkF m 22 #[.val (.ref v), .val (.int (Int32.ofNat nz))] [(.int (Int32.ofNat nz)), (.ref v)])) _
    refine stt9 _ ?_
    exact Xt9.returnOut hx Bd.returns (hb hby dZ_25) hr
  · show Q9 Z v tr dn pl pr ws kd kp kr kw nz D P Wv n0 _ Tt9.heap _
    rw [et9]
    exact ⟨rfl, Nt9, ⟨f10, f11, Ft9, ⟨_, f13⟩, f16, f19, f22, f25, f28, f29, f30, f31, f32, ⟨_, f33⟩, f34, ro1, ro2, ro3, ro4, ro5⟩⟩
theorem dR_0 : decode prog_58_method_24_code 0 = .ok (.aload_n 0, 1) := by decide +kernel
theorem dR_1 : decode prog_58_method_24_code 1 = .ok (.getfield 57, 3) := by decide +kernel
theorem dR_4 : decode prog_58_method_24_code 4 = .ok (.istore_n 2, 1) := by decide +kernel
theorem dR_5 : decode prog_58_method_24_code 5 = .ok (.aload_n 0, 1) := by decide +kernel
theorem dR_6 : decode prog_58_method_24_code 6 = .ok (.getfield 44, 3) := by decide +kernel
theorem dR_9 : decode prog_58_method_24_code 9 = .ok (.iload_n 1, 1) := by decide +kernel
theorem dR_10 : decode prog_58_method_24_code 10 = .ok (.iaload, 1) := by decide +kernel
theorem dR_11 : decode prog_58_method_24_code 11 = .ok (.istore_n 3, 1) := by decide +kernel
theorem dR_12 : decode prog_58_method_24_code 12 = .ok (.iload_n 3, 1) := by decide +kernel
theorem dR_13 : decode prog_58_method_24_code 13 = .ok (.iload_n 2, 1) := by decide +kernel
theorem dR_14 : decode prog_58_method_24_code 14 = .ok (.if_icmp .lt 4, 3) := by decide +kernel
theorem dR_17 : decode prog_58_method_24_code 17 = .ok (.return_, 1) := by decide +kernel
theorem dR_18 : decode prog_58_method_24_code 18 = .ok (.aload_n 0, 1) := by decide +kernel
theorem dR_19 : decode prog_58_method_24_code 19 = .ok (.iload_n 3, 1) := by decide +kernel
theorem dR_20 : decode prog_58_method_24_code 20 = .ok (.iload_n 2, 1) := by decide +kernel
theorem dR_21 : decode prog_58_method_24_code 21 = .ok (.iconst 1, 1) := by decide +kernel
theorem dR_22 : decode prog_58_method_24_code 22 = .ok (.isub, 1) := by decide +kernel
theorem dR_23 : decode prog_58_method_24_code 23 = .ok (.invokevirtual 133, 3) := by decide +kernel
theorem dR_26 : decode prog_58_method_24_code 26 = .ok (.aload_n 0, 1) := by decide +kernel
theorem dR_27 : decode prog_58_method_24_code 27 = .ok (.iload_n 2, 1) := by decide +kernel
theorem dR_28 : decode prog_58_method_24_code 28 = .ok (.iconst 1, 1) := by decide +kernel
theorem dR_29 : decode prog_58_method_24_code 29 = .ok (.isub, 1) := by decide +kernel
theorem dR_30 : decode prog_58_method_24_code 30 = .ok (.invokevirtual 137, 3) := by decide +kernel
theorem dR_33 : decode prog_58_method_24_code 33 = .ok (.aload_n 0, 1) := by decide +kernel
theorem dR_34 : decode prog_58_method_24_code 34 = .ok (.getfield 49, 3) := by decide +kernel
theorem dR_37 : decode prog_58_method_24_code 37 = .ok (.iload_n 1, 1) := by decide +kernel
theorem dR_38 : decode prog_58_method_24_code 38 = .ok (.bipush 64, 2) := by decide +kernel
theorem dR_40 : decode prog_58_method_24_code 40 = .ok (.idiv, 1) := by decide +kernel
theorem dR_41 : decode prog_58_method_24_code 41 = .ok (.dup2, 1) := by decide +kernel
theorem dR_42 : decode prog_58_method_24_code 42 = .ok (.laload, 1) := by decide +kernel
theorem dR_43 : decode prog_58_method_24_code 43 = .ok (.lconst 1, 1) := by decide +kernel
theorem dR_44 : decode prog_58_method_24_code 44 = .ok (.iload_n 1, 1) := by decide +kernel
theorem dR_45 : decode prog_58_method_24_code 45 = .ok (.lshl, 1) := by decide +kernel
theorem dR_46 : decode prog_58_method_24_code 46 = .ok (.ldc2_w 7, 3) := by decide +kernel
theorem dR_49 : decode prog_58_method_24_code 49 = .ok (.lxor, 1) := by decide +kernel
theorem dR_50 : decode prog_58_method_24_code 50 = .ok (.land, 1) := by decide +kernel
theorem dR_51 : decode prog_58_method_24_code 51 = .ok (.lastore, 1) := by decide +kernel
theorem dR_52 : decode prog_58_method_24_code 52 = .ok (.return_, 1) := by decide +kernel
theorem pn_8 : plainName "com/example/arcmill/arcmill/Variable" = true := by first | (simp [plainName, overriddenIn]; done) | decide +kernel
theorem ef_8 (m : MethodId) (v : Addr) (ix : Nat) : entryFrame m #[(.ref v), (.int (Int32.ofNat ix))] 4 = mkF m 0 #[.val (.ref v), .val (.int (Int32.ofNat ix)), .unset, .unset] [] := by first | (simp [entryFrame, mkF, argsToLocals, Value.category]; done) | rfl
set_option maxRecDepth 65536 in
set_option maxHeartbeats 40000000 in
theorem rm8 (l : Launch) (Z : State) (a0 : Array Value) (hw : ∀ d ∈ tables_1, d.before a0 Z = true) (ws' : List Jvm.Cond) (v tr dn pl pr ws : Addr) (kd kp kr kw : ClassId) (sz : Nat) (D P : List Nat) (Wv : List Value) (ix pp x y : Nat) (h0 : Heap) (n0 : Nat) (Z0 : n0 ≤ h0.size) (R0 : own_Rep Z h0 v tr dn pl pr ws kd kp kr kw sz D P Wv) (gv : n0 ≤ v) (hD : D.length = 4) (hP : P.length = 4) (hix : ix < 4) (hpp : P.getD ix 0 = pp) (hps : pp < sz) (hs4 : sz ≤ 4) (hex : D.getD pp 0 = x) (hey : D.getD (sz - 1) 0 = y) (hx4 : x < 4) (hy4 : y < 4) :
    MetFree l (⟨"com/example/arcmill/arcmill/Variable", "remove", "(I)V"⟩ : MethodName) (head1 (Jvm.Cond.code (⟨"com/example/arcmill/arcmill/Variable", "remove", "(I)V"⟩ : MethodName) prog_58_method_24_code 4 none :: ws') ({ frames := 2, cells := 0, slots := 0, locals := 30 } : Room)) (fun a U => a = #[(.ref v), (.int (Int32.ofNat ix))] ∧ Z.Warmed39 U.vm ∧ U.heap = h0) (fun _ _ _ _ _ => True) (fun _ U o U' => ∃ rv L, o = .returned rv ∧ Q9 Z v tr dn pl pr ws kd kp kr kw (sz - 1) ((D.set pp y).set (sz - 1) x) ((P.set y pp).set x (sz - 1)) Wv n0 rv U'.heap L ∧ FrameEnd U o U' L ({ frames := 2, cells := 0, slots := 0, locals := 30 } : Room).cells ({ frames := 2, cells := 0, slots := 0, locals := 30 } : Room).slots) := by
  refine MetFree.of_bodySF (plainFor_of_name pn_8) hisR ?_
  intro p e s m args below meth c s₁ Bd hml0 hP hK
  obtain ⟨rfl, hZ, hh⟩ := hP
  have hx := Bd.exec
  have hby := Bd.bytes
  have hml : c.maxLocals = 4 := hml0
  have hown : s.vm.findClass "com/example/arcmill/arcmill/Variable" = some m.cls := findClass_of_methodNamed Bd.named
  have hnm := (name_of_methodNamed Bd.named Bd.method).1
  have X0 : Stand p l e ({ frames := 2, cells := 0, slots := 0, locals := 30 } : Room) s m #[(.ref v), (.int (Int32.ofNat ix))] below meth c s₁ [] 0 0 := Stand.of_body Bd
  have e0 : s₁.heap = h0 := by rw [← hh, Bd.state]; rfl
  have N0 := Fr.nil n0
  have pre0 : ∀ t, Steps p.tables e below (s₁.setTop (mkF m 0 #[.val (.ref v), .val (.int (Int32.ofNat ix)), .unset, .unset] [])) t → Steps p.tables e below (s₁.setTop (entryFrame m #[(.ref v), (.int (Int32.ofNat ix))] 4)) t := fun t k => castTop (ef_8 m v ix) k
  obtain ⟨r0, r1, r2, ⟨rsv, r3⟩, r4, r5, r6, r7, r8, r9, r10, r11, r12, ⟨rqq, r13⟩, r14, ro1, ro2, ro3, ro4, ro5⟩ := R0
  have ge_dn : n0 ≤ dn := by omega
  have ge_pl : n0 ≤ pl := by omega
  have ge_pr : n0 ≤ pr := by omega
  have ge_ws : n0 ≤ ws := by omega
  obtain ⟨Tt1, Xt1, et1, stt1⟩ := getF X0 hx hZ hown (host := "") (Or.inl (hw _ (List.mem_of_getElem? (i := 83) rfl))) Via.refl e0 r2 (g := (mkF m 1 #[.val (.ref v), .val (.int (Int32.ofNat ix)), .unset, .unset] [(.ref v)])) rfl rfl (hb hby dR_1)
  obtain ⟨Tt2, Xt2, et2, stt2⟩ := getF Xt1 hx hZ hown (host := "") (Or.inl (hw _ (List.mem_of_getElem? (i := 76) rfl))) Via.refl et1 r6 (g := (mkF m 6 #[.val (.ref v), .val (.int (Int32.ofNat ix)), .val (.int (Int32.ofNat sz)), .unset] [(.ref v)])) rfl rfl (hb hby dR_6)
  have R4 : own_Rep Z h0 v tr dn pl pr ws kd kp kr kw sz D P Wv := ⟨r0, r1, r2, ⟨_, r3⟩, r4, r5, r6, r7, r8, r9, r10, r11, r12, ⟨_, r13⟩, r14, ro1, ro2, ro3, ro4, ro5⟩
  obtain ⟨cqt3, qt3, qt3'⟩ := r0.cell
  obtain ⟨_, _, ⟨Tt3, Lt3, kt3, nt3⟩, -, Xt3, ⟨Lct3, hQt3, lt3, yt3, zt3⟩, stt3⟩ := Xt2.privateBack hx (y := (⟨"com/example/arcmill/arcmill/Variable", "swap", "(II)V"⟩ : MethodName)) hown (mvT hZ (hw _ (List.mem_of_getElem? (i := 97) rfl))) (mvT hZ (hw _ (List.mem_of_getElem? (i := 98) rfl))) (own_self hZ hw (y := (⟨"com/example/arcmill/arcmill/Variable", "swap", "(II)V"⟩ : MethodName)) rfl (hw _ (List.mem_of_getElem? (i := 99) rfl)) (hw _ (List.mem_of_getElem? (i := 98) rfl)) (by decide)) (Cond.privateMethod_at (mvP hZ (hw _ (List.mem_of_getElem? (i := 99) rfl)) (args := #[]))) (mvT hZ (hw _ (List.mem_of_getElem? (i := 100) rfl))) (by decide) (backOf (W := 0) (rm9 l Z a0 hw [] v tr dn pl pr ws kd kp kr kw sz D P Wv pp (sz - 1) x y h0 n0 Z0 R4 gv hD hP (by omega) (by omega) hex hey hx4 hy4) hZ (hw _ (List.mem_of_getElem? (i := 100) rfl)) (hw _ (List.mem_of_getElem? (i := 20) rfl)) (by decide) (by decide)) (g := (mkF m 23 #[.val (.ref v), .val (.int (Int32.ofNat ix)), .val (.int (Int32.ofNat sz)), .val (.int (Int32.ofNat pp))] [(.int (Int32.ofNat (sz - 1))), (.int (Int32.ofNat pp)), (.ref v)])) rfl (by rw [hml]; rfl) (Steps.refl _) (a := v) (by rw [et2]; exact qt3) qt3' (argsL := [(.int (Int32.ofNat pp)), (.int (Int32.ofNat (sz - 1)))]) (rest := []) (lenOf pd_ii rfl) rfl (by show 2 * 0 + _ ≤ _; exact Nat.le_of_eq rfl) (hb hby dR_23) (fun _ _ => ⟨rfl, et2, (by decide : 0 + 0 ≤ _), (by decide : 0 + 0 ≤ _)⟩)
  dsimp only [Pt.U, Pt.locs, Pt.cells, Pt.slots] at Xt3 lt3 yt3 zt3 stt3 hQt3
  subst lt3 yt3 zt3
  obtain ⟨rfl, Nt3q, Rt3⟩ := hQt3
  have Nt3 := Fr.app N0 Nt3q
  obtain ⟨u0, u1, u2, ⟨usv, u3⟩, u4, u5, u6, u7, u8, u9, u10, u11, u12, ⟨uqq, u13⟩, u14, uo1, uo2, uo3, uo4, uo5⟩ := Rt3
  have ZA : n0 ≤ Tt3.heap.size := Nat.le_of_lt (Nat.lt_of_le_of_lt gv u0.lt)
  have R6 : own_Rep Z Tt3.heap v tr dn pl pr ws kd kp kr kw sz ((D.set pp y).set (sz - 1) x) ((P.set y pp).set x (sz - 1)) Wv := ⟨u0, u1, u2, ⟨_, u3⟩, u4, u5, u6, u7, u8, u9, u10, u11, u12, ⟨_, u13⟩, u14, uo1, uo2, uo3, uo4, uo5⟩
  obtain ⟨cqt5, qt5, qt5'⟩ := u0.cell
  obtain ⟨_, _, ⟨Tt5, Lt5, kt5, nt5⟩, -, Xt5, ⟨Lct5, hQt5, lt5, yt5, zt5⟩, stt5⟩ := Xt3.privateBack hx (y := (⟨"com/example/arcmill/arcmill/Variable", "setSize", "(I)V"⟩ : MethodName)) hown (mvT hZ (hw _ (List.mem_of_getElem? (i := 101) rfl))) (mvT hZ (hw _ (List.mem_of_getElem? (i := 102) rfl))) (own_self hZ hw (y := (⟨"com/example/arcmill/arcmill/Variable", "setSize", "(I)V"⟩ : MethodName)) rfl (hw _ (List.mem_of_getElem? (i := 103) rfl)) (hw _ (List.mem_of_getElem? (i := 102) rfl)) (by decide)) (Cond.privateMethod_at (mvP hZ (hw _ (List.mem_of_getElem? (i := 103) rfl)) (args := #[]))) (mvT hZ (hw _ (List.mem_of_getElem? (i := 104) rfl))) (by decide) (backOf (W := 0) (rm10 l Z a0 hw [] v tr dn pl pr ws kd kp kr kw sz ((D.set pp y).set (sz - 1) x) ((P.set y pp).set x (sz - 1)) Wv (sz - 1) Tt3.heap n0 ZA R6 gv) hZ (hw _ (List.mem_of_getElem? (i := 104) rfl)) (hw _ (List.mem_of_getElem? (i := 20) rfl)) (by decide) (by decide)) (g := (mkF m 30 #[.val (.ref v), .val (.int (Int32.ofNat ix)), .val (.int (Int32.ofNat sz)), .val (.int (Int32.ofNat pp))] [(.int (Int32.ofNat (sz - 1))), (.ref v)])) rfl (by rw [hml]; rfl) (Steps.refl _) (a := v) qt5 qt5' (argsL := [(.int (Int32.ofNat (sz - 1)))]) (rest := []) (lenOf pd_i rfl) rfl (by show 2 * 0 + _ ≤ _; exact Nat.le_of_eq rfl) (hb hby dR_30) (fun _ _ => ⟨rfl, rfl, (by decide : 0 + 0 ≤ _), (by decide : 0 + 0 ≤ _)⟩)
  dsimp only [Pt.U, Pt.locs, Pt.cells, Pt.slots] at Xt5 lt5 yt5 zt5 stt5 hQt5
  subst lt5 yt5 zt5
  obtain ⟨rfl, Nt5q, Rt5⟩ := hQt5
  have Nt5 := Fr.app Nt3 Nt5q
  obtain ⟨x_0, x_1, x_2, ⟨x_sv, x_3⟩, x_4, x_5, x_6, x_7, x_8, x_9, x_10, x_11, x_12, ⟨x_qq, x_13⟩, x_14, x_o1, x_o2, x_o3, x_o4, x_o5⟩ := Rt5
  have ZB : n0 ≤ Tt5.heap.size := Nat.le_of_lt (Nat.lt_of_le_of_lt gv x_0.lt)
  obtain ⟨Tt7, Xt7, et7, stt7⟩ := getF Xt5 hx hZ hown (host := "") (Or.inl (hw _ (List.mem_of_getElem? (i := 79) rfl))) Via.refl rfl x_7 (g := (mkF m 34 #[.val (.ref v), .val (.int (Int32.ofNat ix)), .val (.int (Int32.ofNat sz)), .val (.int (Int32.ofNat pp))] [(.ref v)])) rfl rfl (hb hby dR_34)
  obtain ⟨Tt8, ht8, Xt8, et8, Wt8, Vt8', stt8⟩ := own_lst Xt7 hx hZ et7 x_13 0 (by decide) (by decide) (by decide) (Nat.le_of_ble_eq_true rfl) (g := (mkF m 51 #[.val (.ref v), .val (.int (Int32.ofNat ix)), .val (.int (Int32.ofNat sz)), .val (.int (Int32.ofNat pp))] [(.long (x_qq &&& (((1 : Int64) <<< ((Int32.ofNat ix) &&& 0x3f).toInt64) ^^^ (-1 : Int64)))), (.int (0 : Int32)), (.ref pr)])) rfl rfl (hb hby dR_51)
  have Nt8 := Fr.snoc Xt8 Nt5 ge_pr
  have Zt8 : n0 ≤ ht8.size := by rw [Wt8.size]; exact ZB
  obtain ⟨zt8, Vt8⟩ : ∃ z : Int64, Arv Z ht8 pr kr .long (1 : Int32) [(.long z)] (.long (0 : Int64)) := ⟨_, Vt8'⟩
  have f9 : Exa Z ht8 v "com/example/arcmill/arcmill/Variable" := x_0.wr Wt8
  have f10 : Exa Z ht8 tr "com/example/arcmill/arcmill/Trail" := x_1.wr Wt8
  have ne_v_pr : @Ne Nat v pr := by omega
  have f11 : Fld Z ht8 v "com/example/arcmill/arcmill/Variable" "size" "I" (.int (Int32.ofNat (sz - 1))) := x_2.other Wt8 (Or.inl ne_v_pr)
  have f12 : Fld Z ht8 v "com/example/arcmill/arcmill/Variable" "sizeSavedIn" "J" (.long x_sv) := x_3.other Wt8 (Or.inl ne_v_pr)
  have f13 : Fld Z ht8 v "com/example/arcmill/arcmill/Variable" "trail" "Lcom/example/arcmill/arcmill/Trail;" (.ref tr) := x_4.other Wt8 (Or.inl ne_v_pr)
  have f14 : Fld Z ht8 v "com/example/arcmill/arcmill/Variable" "dense" "[I" (.ref dn) := x_5.other Wt8 (Or.inl ne_v_pr)
  have f15 : Fld Z ht8 v "com/example/arcmill/arcmill/Variable" "places" "[I" (.ref pl) := x_6.other Wt8 (Or.inl ne_v_pr)
  have f16 : Fld Z ht8 v "com/example/arcmill/arcmill/Variable" "present" "[J" (.ref pr) := x_7.other Wt8 (Or.inl ne_v_pr)
  have f17 : Fld Z ht8 v "com/example/arcmill/arcmill/Variable" "workspace" "[I" (.ref ws) := x_8.other Wt8 (Or.inl ne_v_pr)
  have ne_tr_pr : @Ne Nat tr pr := by omega
  have f18 : Fld Z ht8 tr "com/example/arcmill/arcmill/Trail" "epoch" "J" (.long (0 : Int64)) := x_9.other Wt8 (Or.inl ne_tr_pr)
  have f19 : Fld Z ht8 tr "com/example/arcmill/arcmill/Trail" "level" "I" (.int (0 : Int32)) := x_10.other Wt8 (Or.inl ne_tr_pr)
  have ne_dn_pr : @Ne Nat dn pr := by omega
  have f20 : Arv Z ht8 dn kd .int (4 : Int32) (own_vs ((D.set pp y).set (sz - 1) x)) (.int 0) := x_11.other Wt8 ne_dn_pr
  have ne_pl_pr : @Ne Nat pl pr := by omega
  have f21 : Arv Z ht8 pl kp .int (4 : Int32) (own_vs ((P.set y pp).set x (sz - 1))) (.int 0) := x_12.other Wt8 ne_pl_pr
  have ne_ws_pr : @Ne Nat ws pr := by omega
  have f22 : Arv Z ht8 ws kw .int (4 : Int32) Wv (.int 0) := x_14.other Wt8 ne_ws_pr
  obtain ⟨fs, hr, hrun, hended, hW, hsame⟩ := Xt8.leave (v := none) (fun _ => rfl)
  refine ⟨_, _, pre0 _ ?_, hrun, hended, _, _, rfl, ?_, ⟨_, rfl⟩, hW, hsame.mono (by decide) (by decide)⟩
  · show Steps p.tables e below (s₁.setTop (mkF m 0 #[.val (.ref v), .val (.int (Int32.ofNat ix)), .unset, .unset] [])) _
    refine XS.aloadN X0.here hx rfl (hb hby dR_0) rfl rfl ?_
    show Steps p.tables e below (s₁.setTop (mkF m 1 #[.val (.ref v), .val (.int (Int32.ofNat ix)), .unset, .unset] [(.ref v)])) _
    refine stt1 _ ?_
    show Steps p.tables e below (Tt1.setTop (mkF m 4 #[.val (.ref v), .val (.int (Int32.ofNat ix)), .unset, .unset] [(.int (Int32.ofNat sz))])) _
    refine XS.istoreN Xt1.here hx rfl (hb hby dR_4) rfl (l' := #[.val (.ref v), .val (.int (Int32.ofNat ix)), .val (.int (Int32.ofNat sz)), .unset]) rfl ?_
    show Steps p.tables e below (Tt1.setTop (mkF m 5 #[.val (.ref v), .val (.int (Int32.ofNat ix)), .val (.int (Int32.ofNat sz)), .unset] [])) _
    refine XS.aloadN Xt1.here hx rfl (hb hby dR_5) rfl rfl ?_
    show Steps p.tables e below (Tt1.setTop (mkF m 6 #[.val (.ref v), .val (.int (Int32.ofNat ix)), .val (.int (Int32.ofNat sz)), .unset] [(.ref v)])) _
    refine stt2 _ ?_
    show Steps p.tables e below (Tt2.setTop (mkF m 9 #[.val (.ref v), .val (.int (Int32.ofNat ix)), .val (.int (Int32.ofNat sz)), .unset] [(.ref pl)])) _
    refine XS.iloadN Xt2.here hx rfl (hb hby dR_9) rfl ?_
    show Steps p.tables e below (Tt2.setTop (mkF m 10 #[.val (.ref v), .val (.int (Int32.ofNat ix)), .val (.int (Int32.ofNat sz)), .unset] [(.int (Int32.ofNat ix)), (.ref pl)])) _
    refine own_ildN Xt2 hx hZ et2 r12 ix hix hP (g := (mkF m 10 #[.val (.ref v), .val (.int (Int32.ofNat ix)), .val (.int (Int32.ofNat sz)), .unset] [(.int (Int32.ofNat ix)), (.ref pl)])) rfl rfl (hb hby dR_10) _ ?_
    show Steps p.tables e below (Tt2.setTop (mkF m 11 #[.val (.ref v), .val (.int (Int32.ofNat ix)), .val (.int (Int32.ofNat sz)), .unset] [(.int (Int32.ofNat (P.getD ix 0)))])) _
    rw [hpp]
    show Steps p.tables e below (Tt2.setTop (mkF m 11 #[.val (.ref v), .val (.int (Int32.ofNat ix)), .val (.int (Int32.ofNat sz)), .unset] [(.int (Int32.ofNat pp))])) _
    refine XS.istoreN Xt2.here hx rfl (hb hby dR_11) rfl (l' := #[.val (.ref v), .val (.int (Int32.ofNat ix)), .val (.int (Int32.ofNat sz)), .val (.int (Int32.ofNat pp))]) rfl ?_
    show Steps p.tables e below (Tt2.setTop (mkF m 12 #[.val (.ref v), .val (.int (Int32.ofNat ix)), .val (.int (Int32.ofNat sz)), .val (.int (Int32.ofNat pp))] [])) _
    refine XS.iloadN Xt2.here hx rfl (hb hby dR_12) rfl ?_
    show Steps p.tables e below (Tt2.setTop (mkF m 13 #[.val (.ref v), .val (.int (Int32.ofNat ix)), .val (.int (Int32.ofNat sz)), .val (.int (Int32.ofNat pp))] [(.int (Int32.ofNat pp))])) _
    refine XS.iloadN Xt2.here hx rfl (hb hby dR_13) rfl ?_
    show Steps p.tables e below (Tt2.setTop (mkF m 14 #[.val (.ref v), .val (.int (Int32.ofNat ix)), .val (.int (Int32.ofNat sz)), .val (.int (Int32.ofNat pp))] [(.int (Int32.ofNat sz)), (.int (Int32.ofNat pp))])) _
    refine XS.icmpYes Xt2.here hx rfl (pc0 := 14) (pc' := 18) rfl (hb hby dR_14) rfl (tlt ((own_ilt (by omega) (by omega)).mpr hps : (Int32.ofNat pp) < (Int32.ofNat sz))).1 (by decide) (by decide) ?_
    show Steps p.tables e below (Tt2.setTop (mkF m 18 #[.val (.ref v), .val (.int (Int32.ofNat ix)), .val (.int (Int32.ofNat sz)), .val (.int (Int32.ofNat pp))] [])) _
    refine XS.aloadN Xt2.here hx rfl (hb hby dR_18) rfl rfl ?_
    show Steps p.tables e below (Tt2.setTop (mkF m 19 #[.val (.ref v), .val (.int (Int32.ofNat ix)), .val (.int (Int32.ofNat sz)), .val (.int (Int32.ofNat pp))] [(.ref v)])) _
    refine XS.iloadN Xt2.here hx rfl (hb hby dR_19) rfl ?_
    show Steps p.tables e below (Tt2.setTop (mkF m 20 #[.val (.ref v), .val (.int (Int32.ofNat ix)), .val (.int (Int32.ofNat sz)), .val (.int (Int32.ofNat pp))] [(.int (Int32.ofNat pp)), (.ref v)])) _
    refine XS.iloadN Xt2.here hx rfl (hb hby dR_20) rfl ?_
    show Steps p.tables e below (Tt2.setTop (mkF m 21 #[.val (.ref v), .val (.int (Int32.ofNat ix)), .val (.int (Int32.ofNat sz)), .val (.int (Int32.ofNat pp))] [(.int (Int32.ofNat sz)), (.int (Int32.ofNat pp)), (.ref v)])) _
    refine XS.iconst Xt2.here hx rfl (hb hby dR_21) ?_
    show Steps p.tables e below (Tt2.setTop (mkF m 22 #[.val (.ref v), .val (.int (Int32.ofNat ix)), .val (.int (Int32.ofNat sz)), .val (.int (Int32.ofNat pp))] [(.int (1 : Int32)), (.int (Int32.ofNat sz)), (.int (Int32.ofNat pp)), (.ref v)])) _
    refine XS.isub Xt2.here hx rfl (hb hby dR_22) rfl ?_
    show Steps p.tables e below (Tt2.setTop (mkF m 23 #[.val (.ref v), .val (.int (Int32.ofNat ix)), .val (.int (Int32.ofNat sz)), .val (.int (Int32.ofNat pp))] [(.int ((Int32.ofNat sz) - (1 : Int32))), (.int (Int32.ofNat pp)), (.ref v)])) _
    rw [own_down (by omega) (by omega)]
    show Steps p.tables e below (Tt2.setTop (mkF m 23 #[.val (.ref v), .val (.int (Int32.ofNat ix)), .val (.int (Int32.ofNat sz)), .val (.int (Int32.ofNat pp))] [(.int (Int32.ofNat (sz - 1))), (.int (Int32.ofNat pp)), (.ref v)])) _
    refine stt3.trans ?_
    show Steps p.tables e below (Tt3.setTop (mkF m 26 #[.val (.ref v), .val (.int (Int32.ofNat ix)), .val (.int (Int32.ofNat sz)), .val (.int (Int32.ofNat pp))] [])) _
    refine XS.aloadN Xt3.here hx rfl (hb hby dR_26) rfl rfl ?_
    show Steps p.tables e below (Tt3.setTop (mkF m 27 #[.val (.ref v), .val (.int (Int32.ofNat ix)), .val (.int (Int32.ofNat sz)), .val (.int (Int32.ofNat pp))] [(.ref v)])) _
    refine XS.iloadN Xt3.here hx rfl (hb hby dR_27) rfl ?_
    show Steps p.tables e below (Tt3.setTop (mkF m 28 #[.val (.ref v), .val (.int (Int32.ofNat ix)), .val (.int (Int32.ofNat sz)), .val (.int (Int32.ofNat pp))] [(.int (Int32.ofNat sz)), (.ref v)])) _
    refine XS.iconst Xt3.here hx rfl (hb hby dR_28) ?_
    show Steps p.tables e below (Tt3.setTop (mkF m 29 #[.val (.ref v), .val (.int (Int32.ofNat ix)), .val (.int (Int32.ofNat sz)), .val (.int (Int32.ofNat pp))] [(.int (1 : Int32)), (.int (Int32.ofNat sz)), (.ref v)])) _
    refine XS.isub Xt3.here hx rfl (hb hby dR_29) rfl ?_
    show Steps p.tables e below (Tt3.setTop (mkF m 30 #[.val (.ref v), .val (.int (Int32.ofNat ix)), .val (.int (Int32.ofNat sz)), .val (.int (Int32.ofNat pp))] [(.int ((Int32.ofNat sz) - (1 : Int32))), (.ref v)])) _
    rw [own_down (by omega) (by omega)]
    show Steps p.tables e below (Tt3.setTop (mkF m 30 #[.val (.ref v), .val (.int (Int32.ofNat ix)), .val (.int (Int32.ofNat sz)), .val (.int (Int32.ofNat pp))] [(.int (Int32.ofNat (sz - 1))), (.ref v)])) _
    refine stt5.trans ?_
    show Steps p.tables e below (Tt5.setTop (mkF m 33 #[.val (.ref v), .val (.int (Int32.ofNat ix)), .val (.int (Int32.ofNat sz)), .val (.int (Int32.ofNat pp))] [])) _
    refine XS.aloadN Xt5.here hx rfl (hb hby dR_33) rfl rfl ?_
    show Steps p.tables e below (Tt5.setTop (mkF m 34 #[.val (.ref v), .val (.int (Int32.ofNat ix)), .val (.int (Int32.ofNat sz)), .val (.int (Int32.ofNat pp))] [(.ref v)])) _
    refine stt7 _ ?_
    show Steps p.tables e below (Tt7.setTop (mkF m 37 #[.val (.ref v), .val (.int (Int32.ofNat ix)), .val (.int (Int32.ofNat sz)), .val (.int (Int32.ofNat pp))] [(.ref pr)])) _
    refine XS.iloadN Xt7.here hx rfl (hb hby dR_37) rfl ?_
    show Steps p.tables e below (Tt7.setTop (mkF m 38 #[.val (.ref v), .val (.int (Int32.ofNat ix)), .val (.int (Int32.ofNat sz)), .val (.int (Int32.ofNat pp))] [(.int (Int32.ofNat ix)), (.ref pr)])) _
    refine XS.bipush Xt7.here hx rfl (hb hby dR_38) ?_
    show Steps p.tables e below (Tt7.setTop (mkF m 40 #[.val (.ref v), .val (.int (Int32.ofNat ix)), .val (.int (Int32.ofNat sz)), .val (.int (Int32.ofNat pp))] [(.int (64 : Int32)), (.int (Int32.ofNat ix)), (.ref pr)])) _
    refine XS.idiv Xt7.here hx rfl (hb hby dR_40) rfl (by decide) ?_
    show Steps p.tables e below (Tt7.setTop (mkF m 41 #[.val (.ref v), .val (.int (Int32.ofNat ix)), .val (.int (Int32.ofNat sz)), .val (.int (Int32.ofNat pp))] [(.int ((Int32.ofNat ix) / (64 : Int32))), (.ref pr)])) _
    rw [own_div (by omega)]
    show Steps p.tables e below (Tt7.setTop (mkF m 41 #[.val (.ref v), .val (.int (Int32.ofNat ix)), .val (.int (Int32.ofNat sz)), .val (.int (Int32.ofNat pp))] [(.int (0 : Int32)), (.ref pr)])) _
    refine XT.dup2 Xt7.here hx rfl (hb hby dR_41) rfl rfl rfl ?_
    show Steps p.tables e below (Tt7.setTop (mkF m 42 #[.val (.ref v), .val (.int (Int32.ofNat ix)), .val (.int (Int32.ofNat sz)), .val (.int (Int32.ofNat pp))] [(.int (0 : Int32)), (.ref pr), (.int (0 : Int32)), (.ref pr)])) _
    refine own_lld Xt7 hx hZ et7 x_13 0 (by decide) (by decide) (by decide) rfl (g := (mkF m 42 #[.val (.ref v), .val (.int (Int32.ofNat ix)), .val (.int (Int32.ofNat sz)), .val (.int (Int32.ofNat pp))] [(.int (0 : Int32)), (.ref pr), (.int (0 : Int32)), (.ref pr)])) rfl rfl (hb hby dR_42) _ ?_
    show Steps p.tables e below (Tt7.setTop (mkF m 43 #[.val (.ref v), .val (.int (Int32.ofNat ix)), .val (.int (Int32.ofNat sz)), .val (.int (Int32.ofNat pp))] [(.long x_qq), (.int (0 : Int32)), (.ref pr)])) _
    refine XS.lconst Xt7.here hx rfl (hb hby dR_43) ?_
    show Steps p.tables e below (Tt7.setTop (mkF m 44 #[.val (.ref v), .val (.int (Int32.ofNat ix)), .val (.int (Int32.ofNat sz)), .val (.int (Int32.ofNat pp))] [(.long (1 : Int64)), (.long x_qq), (.int (0 : Int32)), (.ref pr)])) _
    refine XS.iloadN Xt7.here hx rfl (hb hby dR_44) rfl ?_
    show Steps p.tables e below (Tt7.setTop (mkF m 45 #[.val (.ref v), .val (.int (Int32.ofNat ix)), .val (.int (Int32.ofNat sz)), .val (.int (Int32.ofNat pp))] [(.int (Int32.ofNat ix)), (.long (1 : Int64)), (.long x_qq), (.int (0 : Int32)), (.ref pr)])) _
    refine XS.lshl Xt7.here hx rfl (hb hby dR_45) rfl ?_
    show Steps p.tables e below (Tt7.setTop (mkF m 46 #[.val (.ref v), .val (.int (Int32.ofNat ix)), .val (.int (Int32.ofNat sz)), .val (.int (Int32.ofNat pp))] [(.long ((1 : Int64) <<< ((Int32.ofNat ix) &&& 0x3f).toInt64)), (.long x_qq), (.int (0 : Int32)), (.ref pr)])) _
    refine Xt7.ldc2Long hx hown (mvT hZ (hw _ (List.mem_of_getElem? (i := 33) rfl))) (g := (mkF m 46 #[.val (.ref v), .val (.int (Int32.ofNat ix)), .val (.int (Int32.ofNat sz)), .val (.int (Int32.ofNat pp))] [(.long ((1 : Int64) <<< ((Int32.ofNat ix) &&& 0x3f).toInt64)), (.long x_qq), (.int (0 : Int32)), (.ref pr)])) rfl (hb hby dR_46) _ ?_
    show Steps p.tables e below (Tt7.setTop (mkF m 49 #[.val (.ref v), .val (.int (Int32.ofNat ix)), .val (.int (Int32.ofNat sz)), .val (.int (Int32.ofNat pp))] [(.long (-1 : Int64)), (.long ((1 : Int64) <<< ((Int32.ofNat ix) &&& 0x3f).toInt64)), (.long x_qq), (.int (0 : Int32)), (.ref pr)])) _
    refine XS.lxor Xt7.here hx rfl (hb hby dR_49) rfl ?_
    show Steps p.tables e below (Tt7.setTop (mkF m 50 #[.val (.ref v), .val (.int (Int32.ofNat ix)), .val (.int (Int32.ofNat sz)), .val (.int (Int32.ofNat pp))] [(.long (((1 : Int64) <<< ((Int32.ofNat ix) &&& 0x3f).toInt64) ^^^ (-1 : Int64))), (.long x_qq), (.int (0 : Int32)), (.ref pr)])) _
    refine XS.land Xt7.here hx rfl (hb hby dR_50) rfl ?_
    show Steps p.tables e below (Tt7.setTop (mkF m 51 #[.val (.ref v), .val (.int (Int32.ofNat ix)), .val (.int (Int32.ofNat sz)), .val (.int (Int32.ofNat pp))] [(.long (x_qq &&& (((1 : Int64) <<< ((Int32.ofNat ix) &&& 0x3f).toInt64) ^^^ (-1 : Int64)))), (.int (0 : Int32)), (.ref pr)])) _
    refine stt8 _ ?_
    exact Xt8.returnOut hx Bd.returns (hb hby dR_52) hr
  · show Q9 Z v tr dn pl pr ws kd kp kr kw (sz - 1) ((D.set pp y).set (sz - 1) x) ((P.set y pp).set x (sz - 1)) Wv n0 _ Tt8.heap _
    rw [et8]
    exact ⟨rfl, Nt8, ⟨f9, f10, f11, ⟨_, f12⟩, f13, f14, f15, f16, f17, f18, f19, f20, f21, ⟨_, Vt8⟩, f22, x_o1, x_o2, x_o3, x_o4, x_o5⟩⟩
theorem d7_0 : decode prog_58_method_12_code 0 = .ok (.aload_n 0, 1) := by decide +kernel
theorem d7_1 : decode prog_58_method_12_code 1 = .ok (.getfield 60, 3) := by decide +kernel
theorem d7_4 : decode prog_58_method_12_code 4 = .ok (.areturn, 1) := by decide +kernel
theorem pn_7 : plainName "com/example/arcmill/arcmill/Variable" = true := by first | (simp [plainName, overriddenIn]; done) | decide +kernel
theorem ef_7 (m : MethodId) (x0 : Addr) : entryFrame m #[(.ref x0)] 1 = mkF m 0 #[.val (.ref x0)] [] := by first | (simp [entryFrame, mkF, argsToLocals, Value.category]; done) | rfl
def Q7 (Z : State) (a1 : Addr) (w2 : Addr) (h0 : Heap) (n0 : Nat) (v : Option Value) (h : Heap) (L : List Loc) : Prop := v = some (.ref w2) ∧ Fr n0 L ∧ h = h0
set_option maxRecDepth 65536 in
set_option maxHeartbeats 40000000 in
theorem rm7 (l : Launch) (Z : State) (a0 : Array Value) (hw : ∀ d ∈ tables_1, d.before a0 Z = true) (ws : List Jvm.Cond) (a1 : Addr) (w2 : Addr) (h0 : Heap) (n0 : Nat) (Z0 : n0 ≤ h0.size) (F_workspace_a1 : Fld Z h0 a1 "com/example/arcmill/arcmill/Variable" "workspace" "[I" (.ref w2)) :
    MetFree l (⟨"com/example/arcmill/arcmill/Variable", "workspace", "()[I"⟩ : MethodName) (head1 (Jvm.Cond.code (⟨"com/example/arcmill/arcmill/Variable", "workspace", "()[I"⟩ : MethodName) prog_58_method_12_code 1 (some (.array .int)) :: ws) ({ frames := 0, cells := 0, slots := 0, locals := 0 } : Room)) (fun a U => a = #[(.ref a1)] ∧ Z.Warmed39 U.vm ∧ U.heap = h0) (fun _ _ _ _ _ => True) (fun _ U o U' => ∃ v L, o = .returned v ∧ Q7 Z a1 w2 h0 n0 v U'.heap L ∧ FrameEnd U o U' L ({ frames := 0, cells := 0, slots := 0, locals := 0 } : Room).cells ({ frames := 0, cells := 0, slots := 0, locals := 0 } : Room).slots) := by
  refine MetFree.of_bodySF (plainFor_of_name pn_7) hisR ?_
  intro p e s m args below meth c s₁ Bd hml0 hP hK
  obtain ⟨rfl, hZ, hh⟩ := hP
  have hx := Bd.exec
  have hby := Bd.bytes
  have hml : c.maxLocals = 1 := hml0
  have hown : s.vm.findClass "com/example/arcmill/arcmill/Variable" = some m.cls := findClass_of_methodNamed Bd.named
  have hnm := (name_of_methodNamed Bd.named Bd.method).1
  have X0 : Stand p l e ({ frames := 0, cells := 0, slots := 0, locals := 0 } : Room) s m #[(.ref a1)] below meth c s₁ [] 0 0 := Stand.of_body Bd
  have e0 : s₁.heap = h0 := by rw [← hh, Bd.state]; rfl
  have N0 := Fr.nil n0
  have pre0 : ∀ t, Steps p.tables e below (s₁.setTop (mkF m 0 #[.val (.ref a1)] [])) t → Steps p.tables e below (s₁.setTop (entryFrame m #[(.ref a1)] 1)) t := fun t k => castTop (ef_7 m a1) k
  obtain ⟨T3, X3, e3, st3⟩ := getF X0 hx hZ hown (host := "") (Or.inl (hw _ (List.mem_of_getElem? (i := 85) rfl))) Via.refl e0 F_workspace_a1 (g := (mkF m 1 #[.val (.ref a1)] [(.ref a1)])) rfl rfl (hb hby d7_1)
  obtain ⟨fs, hr, hrun, hended, hW, hsame⟩ := X3.leave (v := some (.ref w2)) (fun h => by rw [Bd.returns] at h; cases h)
  refine ⟨_, _, pre0 _ ?_, hrun, hended, _, _, rfl, ?_, ⟨_, rfl⟩, hW, hsame.mono (by decide) (by decide)⟩
  · show Steps p.tables e below (s₁.setTop (mkF m 0 #[.val (.ref a1)] [])) _
    refine XS.aloadN X0.here hx rfl (hb hby d7_0) rfl rfl ?_
    show Steps p.tables e below (s₁.setTop (mkF m 1 #[.val (.ref a1)] [(.ref a1)])) _
    refine st3 _ ?_
    show Steps p.tables e below (T3.setTop (mkF m 4 #[.val (.ref a1)] [(.ref w2)])) _
    jvm_step X3.here [X3.here.top, hx, (hb hby d7_4), X3.method', Bd.returns, Value.isRef, FieldType.isReference]
    first | (intro acts; rw [hr _ acts rfl rfl rfl]) | rw [hr _ _ rfl rfl rfl]
    exact Steps.refl _
  · show Q7 Z a1 w2 h0 n0 _ T3.heap _
    rw [e3]
    exact ⟨rfl, N0, rfl⟩

theorem dX_0 : decode prog_58_method_13_code 0 = .ok (.aload_n 0, 1) := by decide +kernel
theorem dX_1 : decode prog_58_method_13_code 1 = .ok (.getfield 57, 3) := by decide +kernel
theorem dX_4 : decode prog_58_method_13_code 4 = .ok (.istore_n 2, 1) := by decide +kernel
theorem dX_5 : decode prog_58_method_13_code 5 = .ok (.iconst 0, 1) := by decide +kernel
theorem dX_6 : decode prog_58_method_13_code 6 = .ok (.istore_n 3, 1) := by decide +kernel
theorem dX_7 : decode prog_58_method_13_code 7 = .ok (.iload_n 3, 1) := by decide +kernel
theorem dX_8 : decode prog_58_method_13_code 8 = .ok (.iload_n 2, 1) := by decide +kernel
theorem dX_9 : decode prog_58_method_13_code 9 = .ok (.if_icmp .ge 21, 3) := by decide +kernel
theorem dX_12 : decode prog_58_method_13_code 12 = .ok (.aload_n 0, 1) := by decide +kernel
theorem dX_13 : decode prog_58_method_13_code 13 = .ok (.getfield 60, 3) := by decide +kernel
theorem dX_16 : decode prog_58_method_13_code 16 = .ok (.aload_n 0, 1) := by decide +kernel
theorem dX_17 : decode prog_58_method_13_code 17 = .ok (.getfield 41, 3) := by decide +kernel
theorem dX_20 : decode prog_58_method_13_code 20 = .ok (.iload_n 3, 1) := by decide +kernel
theorem dX_21 : decode prog_58_method_13_code 21 = .ok (.iaload, 1) := by decide +kernel
theorem dX_22 : decode prog_58_method_13_code 22 = .ok (.iload_n 1, 1) := by decide +kernel
theorem dX_23 : decode prog_58_method_13_code 23 = .ok (.iastore, 1) := by decide +kernel
theorem dX_24 : decode prog_58_method_13_code 24 = .ok (.iinc 3 1, 3) := by decide +kernel
theorem dX_27 : decode prog_58_method_13_code 27 = .ok (.goto (-20), 3) := by decide +kernel
theorem dX_30 : decode prog_58_method_13_code 30 = .ok (.aload_n 0, 1) := by decide +kernel
theorem dX_31 : decode prog_58_method_13_code 31 = .ok (.getfield 60, 3) := by decide +kernel
theorem dX_34 : decode prog_58_method_13_code 34 = .ok (.areturn, 1) := by decide +kernel
set_option maxRecDepth 65536 in
set_option maxHeartbeats 4000000 in
theorem own_turn {p : Program} {l : Launch} {e : Env} {R : Room} {s : State} {m : MethodId} {args : Array Value} {below : List Frame} {meth : Method} {c : Code} {cells slots : Nat} {Z : State} {a0 : Array Value} {n0 : Nat} (v tr dn pl pr ws : Addr) (kd kp kr kw : ClassId) (sz : Nat) (D P : List Nat) (Wv : List Value) (en : Int32) (hw : ∀ d ∈ tables_1, d.before a0 Z = true) (hx : p.tables.exec = Jvm.exec) (hZ : Z.Warmed39 s.vm) (hby : c.code = prog_58_method_13_code) (hown : s.vm.findClass "com/example/arcmill/arcmill/Variable" = some m.cls) (gv : n0 ≤ v) (i : Nat) (his : i < sz) (hs4 : sz ≤ 4) (hD : D.length = 4) (hWl : Wv.length = 4) (hd4 : D.getD i 0 < 4) {T : State} {h0 : Heap} {locs : List Loc} (X0 : Stand p l e R s m args below meth c T locs cells slots) (e0 : T.heap = h0) (N0 : Fr n0 locs) (R0 : own_Rep Z h0 v tr dn pl pr ws kd kp kr kw sz D P Wv) :
    ∃ T' h' locs', Stand p l e R s m args below meth c T' locs' cells slots ∧ T'.heap = h' ∧ Fr n0 locs' ∧ own_Rep Z h' v tr dn pl pr ws kd kp kr kw sz D P (Wv.set (D.getD i 0) (.int en)) ∧ ∀ t, Steps p.tables e below (T'.setTop (mkF m 7 #[.val (.ref v), .val (.int en), .val (.int (Int32.ofNat sz)), .val (.int (Int32.ofNat (i + 1)))] [])) t → Steps p.tables e below (T.setTop (mkF m 7 #[.val (.ref v), .val (.int en), .val (.int (Int32.ofNat sz)), .val (.int (Int32.ofNat i))] [])) t := by
  have Z0 : n0 ≤ h0.size := by obtain ⟨q, -⟩ := R0; exact Nat.le_of_lt (Nat.lt_of_le_of_lt gv q.lt)
  obtain ⟨r0, r1, r2, ⟨rsv, r3⟩, r4, r5, r6, r7, r8, r9, r10, r11, r12, ⟨rqq, r13⟩, r14, ro1, ro2, ro3, ro4, ro5⟩ := R0
  have ge_dn : n0 ≤ dn := by omega
  have ge_pl : n0 ≤ pl := by omega
  have ge_pr : n0 ≤ pr := by omega
  have ge_ws : n0 ≤ ws := by omega
  obtain ⟨Tt1, Xt1, et1, stt1⟩ := getF X0 hx hZ hown (host := "") (Or.inl (hw _ (List.mem_of_getElem? (i := 85) rfl))) Via.refl e0 r8 (g := (mkF m 13 #[.val (.ref v), .val (.int en), .val (.int (Int32.ofNat sz)), .val (.int (Int32.ofNat i))] [(.ref v)])) rfl rfl (hb hby dX_13)
  obtain ⟨Tt2, Xt2, et2, stt2⟩ := getF Xt1 hx hZ hown (host := "") (Or.inl (hw _ (List.mem_of_getElem? (i := 74) rfl))) Via.refl et1 r5 (g := (mkF m 17 #[.val (.ref v), .val (.int en), .val (.int (Int32.ofNat sz)), .val (.int (Int32.ofNat i))] [(.ref v), (.ref ws)])) rfl rfl (hb hby dX_17)
  obtain ⟨Tt3, ht3, Xt3, et3, Wt3, Vt3, stt3⟩ := own_istW Xt2 hx hZ et2 r14 (D.getD i 0) hd4 hWl (g := (mkF m 23 #[.val (.ref v), .val (.int en), .val (.int (Int32.ofNat sz)), .val (.int (Int32.ofNat i))] [(.int en), (.int (Int32.ofNat (D.getD i 0))), (.ref ws)])) rfl rfl (hb hby dX_23)
  have Nt3 := Fr.snoc Xt3 N0 ge_ws
  have Zt3 : n0 ≤ ht3.size := by rw [Wt3.size]; exact Z0
  have f4 : Exa Z ht3 v "com/example/arcmill/arcmill/Variable" := r0.wr Wt3
  have f5 : Exa Z ht3 tr "com/example/arcmill/arcmill/Trail" := r1.wr Wt3
  have ne_v_ws : @Ne Nat v ws := by omega
  have f6 : Fld Z ht3 v "com/example/arcmill/arcmill/Variable" "size" "I" (.int (Int32.ofNat sz)) := r2.other Wt3 (Or.inl ne_v_ws)
  have f7 : Fld Z ht3 v "com/example/arcmill/arcmill/Variable" "sizeSavedIn" "J" (.long rsv) := r3.other Wt3 (Or.inl ne_v_ws)
  have f8 : Fld Z ht3 v "com/example/arcmill/arcmill/Variable" "trail" "Lcom/example/arcmill/arcmill/Trail;" (.ref tr) := r4.other Wt3 (Or.inl ne_v_ws)
  have f9 : Fld Z ht3 v "com/example/arcmill/arcmill/Variable" "dense" "[I" (.ref dn) := r5.other Wt3 (Or.inl ne_v_ws)
  have f10 : Fld Z ht3 v "com/example/arcmill/arcmill/Variable" "places" "[I" (.ref pl) := r6.other Wt3 (Or.inl ne_v_ws)
  have f11 : Fld Z ht3 v "com/example/arcmill/arcmill/Variable" "present" "[J" (.ref pr) := r7.other Wt3 (Or.inl ne_v_ws)
  have f12 : Fld Z ht3 v "com/example/arcmill/arcmill/Variable" "workspace" "[I" (.ref ws) := r8.other Wt3 (Or.inl ne_v_ws)
  have ne_tr_ws : @Ne Nat tr ws := by omega
  have f13 : Fld Z ht3 tr "com/example/arcmill/arcmill/Trail" "epoch" "J" (.long (0 : Int64)) := r9.other Wt3 (Or.inl ne_tr_ws)
  have f14 : Fld Z ht3 tr "com/example/arcmill/arcmill/Trail" "level" "I" (.int (0 : Int32)) := r10.other Wt3 (Or.inl ne_tr_ws)
  have ne_dn_ws : @Ne Nat dn ws := by omega
  have f15 : Arv Z ht3 dn kd .int (4 : Int32) (own_vs D) (.int 0) := r11.other Wt3 ne_dn_ws
  have ne_pl_ws : @Ne Nat pl ws := by omega
  have f16 : Arv Z ht3 pl kp .int (4 : Int32) (own_vs P) (.int 0) := r12.other Wt3 ne_pl_ws
  have ne_pr_ws : @Ne Nat pr ws := by omega
  have f17 : Arv Z ht3 pr kr .long (1 : Int32) [(.long rqq)] (.long (0 : Int64)) := r13.other Wt3 ne_pr_ws
  refine ⟨Tt3, _, _, Xt3, et3, Nt3, ⟨f4, f5, f6, ⟨_, f7⟩, f8, f9, f10, f11, f12, f13, f14, f15, f16, ⟨_, f17⟩, Vt3, ro1, ro2, ro3, ro4, ro5⟩, fun t kt => ?_⟩
  show Steps p.tables e below (T.setTop (mkF m 7 #[.val (.ref v), .val (.int en), .val (.int (Int32.ofNat sz)), .val (.int (Int32.ofNat i))] [])) _
  refine XS.iloadN X0.here hx rfl (hb hby dX_7) rfl ?_
  show Steps p.tables e below (T.setTop (mkF m 8 #[.val (.ref v), .val (.int en), .val (.int (Int32.ofNat sz)), .val (.int (Int32.ofNat i))] [(.int (Int32.ofNat i))])) _
  refine XS.iloadN X0.here hx rfl (hb hby dX_8) rfl ?_
  show Steps p.tables e below (T.setTop (mkF m 9 #[.val (.ref v), .val (.int en), .val (.int (Int32.ofNat sz)), .val (.int (Int32.ofNat i))] [(.int (Int32.ofNat sz)), (.int (Int32.ofNat i))])) _
  refine XS.icmpNo X0.here hx rfl (hb hby dX_9) rfl (tlt ((own_ilt (by omega) (by omega)).mpr his : (Int32.ofNat i) < (Int32.ofNat sz))).2.1 ?_
  show Steps p.tables e below (T.setTop (mkF m 12 #[.val (.ref v), .val (.int en), .val (.int (Int32.ofNat sz)), .val (.int (Int32.ofNat i))] [])) _
  refine XS.aloadN X0.here hx rfl (hb hby dX_12) rfl rfl ?_
  show Steps p.tables e below (T.setTop (mkF m 13 #[.val (.ref v), .val (.int en), .val (.int (Int32.ofNat sz)), .val (.int (Int32.ofNat i))] [(.ref v)])) _
  refine stt1 _ ?_
  show Steps p.tables e below (Tt1.setTop (mkF m 16 #[.val (.ref v), .val (.int en), .val (.int (Int32.ofNat sz)), .val (.int (Int32.ofNat i))] [(.ref ws)])) _
  refine XS.aloadN Xt1.here hx rfl (hb hby dX_16) rfl rfl ?_
  show Steps p.tables e below (Tt1.setTop (mkF m 17 #[.val (.ref v), .val (.int en), .val (.int (Int32.ofNat sz)), .val (.int (Int32.ofNat i))] [(.ref v), (.ref ws)])) _
  refine stt2 _ ?_
  show Steps p.tables e below (Tt2.setTop (mkF m 20 #[.val (.ref v), .val (.int en), .val (.int (Int32.ofNat sz)), .val (.int (Int32.ofNat i))] [(.ref dn), (.ref ws)])) _
  refine XS.iloadN Xt2.here hx rfl (hb hby dX_20) rfl ?_
  show Steps p.tables e below (Tt2.setTop (mkF m 21 #[.val (.ref v), .val (.int en), .val (.int (Int32.ofNat sz)), .val (.int (Int32.ofNat i))] [(.int (Int32.ofNat i)), (.ref dn), (.ref ws)])) _
  refine own_ildN Xt2 hx hZ et2 r11 i (by omega) hD (g := (mkF m 21 #[.val (.ref v), .val (.int en), .val (.int (Int32.ofNat sz)), .val (.int (Int32.ofNat i))] [(.int (Int32.ofNat i)), (.ref dn), (.ref ws)])) rfl rfl (hb hby dX_21) _ ?_
  show Steps p.tables e below (Tt2.setTop (mkF m 22 #[.val (.ref v), .val (.int en), .val (.int (Int32.ofNat sz)), .val (.int (Int32.ofNat i))] [(.int (Int32.ofNat (D.getD i 0))), (.ref ws)])) _
  refine XS.iloadN Xt2.here hx rfl (hb hby dX_22) rfl ?_
  show Steps p.tables e below (Tt2.setTop (mkF m 23 #[.val (.ref v), .val (.int en), .val (.int (Int32.ofNat sz)), .val (.int (Int32.ofNat i))] [(.int en), (.int (Int32.ofNat (D.getD i 0))), (.ref ws)])) _
  refine stt3 _ ?_
  show Steps p.tables e below (Tt3.setTop (mkF m 24 #[.val (.ref v), .val (.int en), .val (.int (Int32.ofNat sz)), .val (.int (Int32.ofNat i))] [])) _
  refine XS.iinc Xt3.here hx rfl (hb hby dX_24) rfl (l' := #[.val (.ref v), .val (.int en), .val (.int (Int32.ofNat sz)), .val (.int ((Int32.ofNat i) + (1 : Int32)))]) rfl ?_
  show Steps p.tables e below (Tt3.setTop (mkF m 27 #[.val (.ref v), .val (.int en), .val (.int (Int32.ofNat sz)), .val (.int ((Int32.ofNat i) + (1 : Int32)))] [])) _
  refine XS.goto Xt3.here hx rfl (pc0 := 27) (pc' := 7) rfl (hb hby dX_27) (by decide) (by decide) ?_
  rw [own_up]
  exact kt
set_option maxRecDepth 65536 in
set_option maxHeartbeats 4000000 in
theorem own_loop {p : Program} {l : Launch} {e : Env} {R : Room} {s : State} {m : MethodId} {args : Array Value} {below : List Frame} {meth : Method} {c : Code} {cells slots : Nat} {Z : State} {a0 : Array Value} {n0 : Nat} (v tr dn pl pr ws : Addr) (kd kp kr kw : ClassId) (sz : Nat) (D P : List Nat) (Wv : List Value) (en : Int32) (hw : ∀ d ∈ tables_1, d.before a0 Z = true) (hx : p.tables.exec = Jvm.exec) (hZ : Z.Warmed39 s.vm) (hby : c.code = prog_58_method_13_code) (hown : s.vm.findClass "com/example/arcmill/arcmill/Variable" = some m.cls) (gv : n0 ≤ v) (hs4 : sz ≤ 4) (hD : D.length = 4) (hWl : Wv.length = 4) (hd4 : ∀ i, i < 4 → D.getD i 0 < 4) : ∀ k i, i + k = sz → ∀ {T : State} {h0 : Heap} {locs : List Loc}, Stand p l e R s m args below meth c T locs cells slots → T.heap = h0 → Fr n0 locs → own_Rep Z h0 v tr dn pl pr ws kd kp kr kw sz D P (own_fill (D.take i) en Wv) →
    ∃ T' h' locs', Stand p l e R s m args below meth c T' locs' cells slots ∧ T'.heap = h' ∧ Fr n0 locs' ∧ own_Rep Z h' v tr dn pl pr ws kd kp kr kw sz D P (own_fill (D.take sz) en Wv) ∧ ∀ t, Steps p.tables e below (T'.setTop (mkF m 30 #[.val (.ref v), .val (.int en), .val (.int (Int32.ofNat sz)), .val (.int (Int32.ofNat sz))] [])) t → Steps p.tables e below (T.setTop (mkF m 7 #[.val (.ref v), .val (.int en), .val (.int (Int32.ofNat sz)), .val (.int (Int32.ofNat i))] [])) t := by
  intro k
  induction k with
  | zero =>
    intro i hi T h0 locs X0 e0 N0 R0
    obtain rfl : i = sz := by omega
    refine ⟨T, h0, locs, X0, e0, N0, R0, fun t kt => ?_⟩
    show Steps p.tables e below (T.setTop (mkF m 7 #[.val (.ref v), .val (.int en), .val (.int (Int32.ofNat i)), .val (.int (Int32.ofNat i))] [])) _
    refine XS.iloadN X0.here hx rfl (hb hby dX_7) rfl ?_
    show Steps p.tables e below (T.setTop (mkF m 8 #[.val (.ref v), .val (.int en), .val (.int (Int32.ofNat i)), .val (.int (Int32.ofNat i))] [(.int (Int32.ofNat i))])) _
    refine XS.iloadN X0.here hx rfl (hb hby dX_8) rfl ?_
    show Steps p.tables e below (T.setTop (mkF m 9 #[.val (.ref v), .val (.int en), .val (.int (Int32.ofNat i)), .val (.int (Int32.ofNat i))] [(.int (Int32.ofNat i)), (.int (Int32.ofNat i))])) _
    refine XS.icmpYes X0.here hx rfl (pc0 := 9) (pc' := 30) rfl (hb hby dX_9) rfl (flt (fun q => absurd ((own_ilt (by omega) (by omega)).mp q) (Nat.lt_irrefl _) : ¬ ((Int32.ofNat i) < (Int32.ofNat i)))).2.1 (by decide) (by decide) ?_
    exact kt
  | succ k ih =>
    intro i hi T h0 locs X0 e0 N0 R0
    obtain ⟨T1, h1, l1, X1, e1, N1, R1, st1⟩ := own_turn v tr dn pl pr ws kd kp kr kw sz D P _ en hw hx hZ hby hown gv i (by omega) hs4 hD (by rw [own_fl]; exact hWl) (hd4 i (by omega)) X0 e0 N0 R0
    rw [own_step D i (by omega)] at R1
    obtain ⟨T2, h2, l2, X2, e2, N2, R2, st2⟩ := ih (i + 1) (by omega) X1 e1 N1 R1
    exact ⟨T2, h2, l2, X2, e2, N2, R2, fun t kt => st1 t (st2 t kt)⟩
def Q12 (Z : State) (v tr dn pl pr ws : Addr) (kd kp kr kw : ClassId) (sz : Nat) (D P : List Nat) (Wv : List Value) (n0 : Nat) (v' : Option Value) (h : Heap) (L : List Loc) : Prop := v' = some (.ref ws) ∧ Fr n0 L ∧ own_Rep Z h v tr dn pl pr ws kd kp kr kw sz D P Wv
theorem pn_12 : plainName "com/example/arcmill/arcmill/Variable" = true := by first | (simp [plainName, overriddenIn]; done) | decide +kernel
theorem ef_12 (m : MethodId) (v : Addr) (en : Int32) : entryFrame m #[(.ref v), (.int en)] 4 = mkF m 0 #[.val (.ref v), .val (.int en), .unset, .unset] [] := by first | (simp [entryFrame, mkF, argsToLocals, Value.category]; done) | rfl
set_option maxRecDepth 65536 in
set_option maxHeartbeats 40000000 in
theorem rm12 (l : Launch) (Z : State) (a0 : Array Value) (hw : ∀ d ∈ tables_1, d.before a0 Z = true) (ws' : List Jvm.Cond) (v tr dn pl pr ws : Addr) (kd kp kr kw : ClassId) (sz : Nat) (D P : List Nat) (Wv : List Value) (en : Int32) (h0 : Heap) (n0 : Nat) (Z0 : n0 ≤ h0.size) (R0 : own_Rep Z h0 v tr dn pl pr ws kd kp kr kw sz D P Wv) (gv : n0 ≤ v) (hs4 : sz ≤ 4) (hD : D.length = 4) (hWl : Wv.length = 4) (hd4 : ∀ i, i < 4 → D.getD i 0 < 4) :
    MetFree l (⟨"com/example/arcmill/arcmill/Variable", "resetWorkspace", "(I)[I"⟩ : MethodName) (head1 (Jvm.Cond.code (⟨"com/example/arcmill/arcmill/Variable", "resetWorkspace", "(I)[I"⟩ : MethodName) prog_58_method_13_code 4 (some (.array .int)) :: ws') ({ frames := 0, cells := 0, slots := 0, locals := 0 } : Room)) (fun a U => a = #[(.ref v), (.int en)] ∧ Z.Warmed39 U.vm ∧ U.heap = h0) (fun _ _ _ _ _ => True) (fun _ U o U' => ∃ rv L, o = .returned rv ∧ Q12 Z v tr dn pl pr ws kd kp kr kw sz D P (own_fill (D.take sz) en Wv) n0 rv U'.heap L ∧ FrameEnd U o U' L ({ frames := 0, cells := 0, slots := 0, locals := 0 } : Room).cells ({ frames := 0, cells := 0, slots := 0, locals := 0 } : Room).slots) := by
  refine MetFree.of_bodySF (plainFor_of_name pn_12) hisR ?_
  intro p e s m args below meth c s₁ Bd hml0 hP hK
  obtain ⟨rfl, hZ, hh⟩ := hP
  have hx := Bd.exec
  have hby := Bd.bytes
  have hml : c.maxLocals = 4 := hml0
  have hown : s.vm.findClass "com/example/arcmill/arcmill/Variable" = some m.cls := findClass_of_methodNamed Bd.named
  have hnm := (name_of_methodNamed Bd.named Bd.method).1
  have X0 : Stand p l e ({ frames := 0, cells := 0, slots := 0, locals := 0 } : Room) s m #[(.ref v), (.int en)] below meth c s₁ [] 0 0 := Stand.of_body Bd
  have e0 : s₁.heap = h0 := by rw [← hh, Bd.state]; rfl
  have N0 := Fr.nil n0
  have pre0 : ∀ t, Steps p.tables e below (s₁.setTop (mkF m 0 #[.val (.ref v), .val (.int en), .unset, .unset] [])) t → Steps p.tables e below (s₁.setTop (entryFrame m #[(.ref v), (.int en)] 4)) t := fun t k => castTop (ef_12 m v en) k
  have R0' := R0
  obtain ⟨r0, r1, r2, ⟨rsv, r3⟩, r4, r5, r6, r7, r8, r9, r10, r11, r12, ⟨rqq, r13⟩, r14, ro1, ro2, ro3, ro4, ro5⟩ := R0'
  obtain ⟨Tt1, Xt1, et1, stt1⟩ := getF X0 hx hZ hown (host := "") (Or.inl (hw _ (List.mem_of_getElem? (i := 83) rfl))) Via.refl e0 r2 (g := (mkF m 1 #[.val (.ref v), .val (.int en), .unset, .unset] [(.ref v)])) rfl rfl (hb hby dX_1)
  obtain ⟨TL, hL, lL, XL, eL, NL, RL, stL⟩ := own_loop v tr dn pl pr ws kd kp kr kw sz D P Wv en hw hx hZ hby hown gv hs4 hD hWl hd4 sz 0 (by omega) Xt1 et1 N0 R0
  have RL' := RL
  obtain ⟨u0, u1, u2, ⟨usv, u3⟩, u4, u5, u6, u7, u8, u9, u10, u11, u12, ⟨uqq, u13⟩, u14, uo1, uo2, uo3, uo4, uo5⟩ := RL'
  obtain ⟨Tt2, Xt2, et2, stt2⟩ := getF XL hx hZ hown (host := "") (Or.inl (hw _ (List.mem_of_getElem? (i := 85) rfl))) Via.refl eL u8 (g := (mkF m 31 #[.val (.ref v), .val (.int en), .val (.int (Int32.ofNat sz)), .val (.int (Int32.ofNat sz))] [(.ref v)])) rfl rfl (hb hby dX_31)
  obtain ⟨fs, hr, hrun, hended, hW, hsame⟩ := Xt2.leave (v := some (.ref ws)) (fun h => by rw [Bd.returns] at h; cases h)
  refine ⟨_, _, pre0 _ ?_, hrun, hended, _, _, rfl, ?_, ⟨_, rfl⟩, hW, hsame.mono (by decide) (by decide)⟩
  · show Steps p.tables e below (s₁.setTop (mkF m 0 #[.val (.ref v), .val (.int en), .unset, .unset] [])) _
    refine XS.aloadN X0.here hx rfl (hb hby dX_0) rfl rfl ?_
    show Steps p.tables e below (s₁.setTop (mkF m 1 #[.val (.ref v), .val (.int en), .unset, .unset] [(.ref v)])) _
    refine stt1 _ ?_
    show Steps p.tables e below (Tt1.setTop (mkF m 4 #[.val (.ref v), .val (.int en), .unset, .unset] [(.int (Int32.ofNat sz))])) _
    refine XS.istoreN Xt1.here hx rfl (hb hby dX_4) rfl (l' := #[.val (.ref v), .val (.int en), .val (.int (Int32.ofNat sz)), .unset]) rfl ?_
    show Steps p.tables e below (Tt1.setTop (mkF m 5 #[.val (.ref v), .val (.int en), .val (.int (Int32.ofNat sz)), .unset] [])) _
    refine XS.iconst Xt1.here hx rfl (hb hby dX_5) ?_
    show Steps p.tables e below (Tt1.setTop (mkF m 6 #[.val (.ref v), .val (.int en), .val (.int (Int32.ofNat sz)), .unset] [(.int (0 : Int32))])) _
    refine XS.istoreN Xt1.here hx rfl (hb hby dX_6) rfl (l' := #[.val (.ref v), .val (.int en), .val (.int (Int32.ofNat sz)), .val (.int (0 : Int32))]) rfl ?_
    show Steps p.tables e below (Tt1.setTop (mkF m 7 #[.val (.ref v), .val (.int en), .val (.int (Int32.ofNat sz)), .val (.int (0 : Int32))] [])) _
    refine stL _ ?_
    show Steps p.tables e below (TL.setTop (mkF m 30 #[.val (.ref v), .val (.int en), .val (.int (Int32.ofNat sz)), .val (.int (Int32.ofNat sz))] [])) _
    refine XS.aloadN XL.here hx rfl (hb hby dX_30) rfl rfl ?_
    show Steps p.tables e below (TL.setTop (mkF m 31 #[.val (.ref v), .val (.int en), .val (.int (Int32.ofNat sz)), .val (.int (Int32.ofNat sz))] [(.ref v)])) _
    refine stt2 _ ?_
    jvm_step Xt2.here [Xt2.here.top, hx, (hb hby dX_34), Xt2.method', Bd.returns, Value.isRef, FieldType.isReference]
    first | (intro acts; rw [hr _ acts rfl rfl rfl]) | rw [hr _ _ rfl rfl rfl]
    exact Steps.refl _
  · show Q12 Z v tr dn pl pr ws kd kp kr kw sz D P (own_fill (D.take sz) en Wv) n0 _ Tt2.heap _
    rw [et2]
    exact ⟨rfl, NL, RL⟩
theorem dV_0 : decode prog_58_method_1_code 0 = .ok (.aload_n 0, 1) := by decide +kernel
theorem dV_1 : decode prog_58_method_1_code 1 = .ok (.invokespecial 1, 3) := by decide +kernel
theorem dV_4 : decode prog_58_method_1_code 4 = .ok (.aload_n 0, 1) := by decide +kernel
theorem dV_5 : decode prog_58_method_1_code 5 = .ok (.ldc2_w 7, 3) := by decide +kernel
theorem dV_8 : decode prog_58_method_1_code 8 = .ok (.putfield 9, 3) := by decide +kernel
theorem dV_11 : decode prog_58_method_1_code 11 = .ok (.aload_n 0, 1) := by decide +kernel
theorem dV_12 : decode prog_58_method_1_code 12 = .ok (.new 15, 3) := by decide +kernel
theorem dV_15 : decode prog_58_method_1_code 15 = .ok (.dup, 1) := by decide +kernel
theorem dV_16 : decode prog_58_method_1_code 16 = .ok (.invokespecial 17, 3) := by decide +kernel
theorem dV_19 : decode prog_58_method_1_code 19 = .ok (.putfield 18, 3) := by decide +kernel
theorem dV_22 : decode prog_58_method_1_code 22 = .ok (.aload_n 0, 1) := by decide +kernel
theorem dV_23 : decode prog_58_method_1_code 23 = .ok (.iconst 4, 1) := by decide +kernel
theorem dV_24 : decode prog_58_method_1_code 24 = .ok (.newarray .int, 2) := by decide +kernel
theorem dV_26 : decode prog_58_method_1_code 26 = .ok (.putfield 22, 3) := by decide +kernel
theorem dV_29 : decode prog_58_method_1_code 29 = .ok (.aload_n 0, 1) := by decide +kernel
theorem dV_30 : decode prog_58_method_1_code 30 = .ok (.iconst 4, 1) := by decide +kernel
theorem dV_31 : decode prog_58_method_1_code 31 = .ok (.anewarray 10, 3) := by decide +kernel
theorem dV_34 : decode prog_58_method_1_code 34 = .ok (.putfield 26, 3) := by decide +kernel
theorem dV_37 : decode prog_58_method_1_code 37 = .ok (.aload_n 0, 1) := by decide +kernel
theorem dV_38 : decode prog_58_method_1_code 38 = .ok (.aload_n 1, 1) := by decide +kernel
theorem dV_39 : decode prog_58_method_1_code 39 = .ok (.putfield 30, 3) := by decide +kernel
theorem dV_42 : decode prog_58_method_1_code 42 = .ok (.aload_n 0, 1) := by decide +kernel
theorem dV_43 : decode prog_58_method_1_code 43 = .ok (.iload_n 2, 1) := by decide +kernel
theorem dV_44 : decode prog_58_method_1_code 44 = .ok (.putfield 34, 3) := by decide +kernel
theorem dV_47 : decode prog_58_method_1_code 47 = .ok (.aload_n 0, 1) := by decide +kernel
theorem dV_48 : decode prog_58_method_1_code 48 = .ok (.aload_n 3, 1) := by decide +kernel
theorem dV_49 : decode prog_58_method_1_code 49 = .ok (.putfield 38, 3) := by decide +kernel
theorem dV_52 : decode prog_58_method_1_code 52 = .ok (.aload_n 0, 1) := by decide +kernel
theorem dV_53 : decode prog_58_method_1_code 53 = .ok (.aload_n 3, 1) := by decide +kernel
theorem dV_54 : decode prog_58_method_1_code 54 = .ok (.arraylength, 1) := by decide +kernel
theorem dV_55 : decode prog_58_method_1_code 55 = .ok (.newarray .int, 2) := by decide +kernel
theorem dV_57 : decode prog_58_method_1_code 57 = .ok (.putfield 41, 3) := by decide +kernel
theorem dV_60 : decode prog_58_method_1_code 60 = .ok (.aload_n 0, 1) := by decide +kernel
theorem dV_61 : decode prog_58_method_1_code 61 = .ok (.aload_n 3, 1) := by decide +kernel
theorem dV_62 : decode prog_58_method_1_code 62 = .ok (.arraylength, 1) := by decide +kernel
theorem dV_63 : decode prog_58_method_1_code 63 = .ok (.newarray .int, 2) := by decide +kernel
theorem dV_65 : decode prog_58_method_1_code 65 = .ok (.putfield 44, 3) := by decide +kernel
theorem dV_68 : decode prog_58_method_1_code 68 = .ok (.iconst 0, 1) := by decide +kernel
theorem dV_69 : decode prog_58_method_1_code 69 = .ok (.istore 5, 2) := by decide +kernel
theorem dV_71 : decode prog_58_method_1_code 71 = .ok (.iload 5, 2) := by decide +kernel
theorem dV_73 : decode prog_58_method_1_code 73 = .ok (.aload_n 3, 1) := by decide +kernel
theorem dV_74 : decode prog_58_method_1_code 74 = .ok (.arraylength, 1) := by decide +kernel
theorem dV_75 : decode prog_58_method_1_code 75 = .ok (.if_icmp .ge 27, 3) := by decide +kernel
theorem dV_78 : decode prog_58_method_1_code 78 = .ok (.aload_n 0, 1) := by decide +kernel
theorem dV_79 : decode prog_58_method_1_code 79 = .ok (.getfield 41, 3) := by decide +kernel
theorem dV_82 : decode prog_58_method_1_code 82 = .ok (.iload 5, 2) := by decide +kernel
theorem dV_84 : decode prog_58_method_1_code 84 = .ok (.iload 5, 2) := by decide +kernel
theorem dV_86 : decode prog_58_method_1_code 86 = .ok (.iastore, 1) := by decide +kernel
theorem dV_87 : decode prog_58_method_1_code 87 = .ok (.aload_n 0, 1) := by decide +kernel
theorem dV_88 : decode prog_58_method_1_code 88 = .ok (.getfield 44, 3) := by decide +kernel
theorem dV_91 : decode prog_58_method_1_code 91 = .ok (.iload 5, 2) := by decide +kernel
theorem dV_93 : decode prog_58_method_1_code 93 = .ok (.iload 5, 2) := by decide +kernel
theorem dV_95 : decode prog_58_method_1_code 95 = .ok (.iastore, 1) := by decide +kernel
theorem dV_96 : decode prog_58_method_1_code 96 = .ok (.iinc 5 1, 3) := by decide +kernel
theorem dV_99 : decode prog_58_method_1_code 99 = .ok (.goto (-28), 3) := by decide +kernel
theorem dV_102 : decode prog_58_method_1_code 102 = .ok (.aload_n 0, 1) := by decide +kernel
theorem dV_103 : decode prog_58_method_1_code 103 = .ok (.aload_n 3, 1) := by decide +kernel
theorem dV_104 : decode prog_58_method_1_code 104 = .ok (.arraylength, 1) := by decide +kernel
theorem dV_105 : decode prog_58_method_1_code 105 = .ok (.bipush 64, 2) := by decide +kernel
theorem dV_107 : decode prog_58_method_1_code 107 = .ok (.iadd, 1) := by decide +kernel
theorem dV_108 : decode prog_58_method_1_code 108 = .ok (.iconst 1, 1) := by decide +kernel
theorem dV_109 : decode prog_58_method_1_code 109 = .ok (.isub, 1) := by decide +kernel
theorem dV_110 : decode prog_58_method_1_code 110 = .ok (.bipush 64, 2) := by decide +kernel
theorem dV_112 : decode prog_58_method_1_code 112 = .ok (.idiv, 1) := by decide +kernel
theorem dV_113 : decode prog_58_method_1_code 113 = .ok (.newarray .long, 2) := by decide +kernel
theorem dV_115 : decode prog_58_method_1_code 115 = .ok (.putfield 49, 3) := by decide +kernel
theorem dV_118 : decode prog_58_method_1_code 118 = .ok (.iconst 0, 1) := by decide +kernel
theorem dV_119 : decode prog_58_method_1_code 119 = .ok (.istore 5, 2) := by decide +kernel
theorem dV_121 : decode prog_58_method_1_code 121 = .ok (.iload 5, 2) := by decide +kernel
theorem dV_123 : decode prog_58_method_1_code 123 = .ok (.aload_n 3, 1) := by decide +kernel
theorem dV_124 : decode prog_58_method_1_code 124 = .ok (.arraylength, 1) := by decide +kernel
theorem dV_125 : decode prog_58_method_1_code 125 = .ok (.if_icmp .ge 26, 3) := by decide +kernel
theorem dV_128 : decode prog_58_method_1_code 128 = .ok (.aload_n 0, 1) := by decide +kernel
theorem dV_129 : decode prog_58_method_1_code 129 = .ok (.getfield 49, 3) := by decide +kernel
theorem dV_132 : decode prog_58_method_1_code 132 = .ok (.iload 5, 2) := by decide +kernel
theorem dV_134 : decode prog_58_method_1_code 134 = .ok (.bipush 64, 2) := by decide +kernel
theorem dV_136 : decode prog_58_method_1_code 136 = .ok (.idiv, 1) := by decide +kernel
theorem dV_137 : decode prog_58_method_1_code 137 = .ok (.dup2, 1) := by decide +kernel
theorem dV_138 : decode prog_58_method_1_code 138 = .ok (.laload, 1) := by decide +kernel
theorem dV_139 : decode prog_58_method_1_code 139 = .ok (.lconst 1, 1) := by decide +kernel
theorem dV_140 : decode prog_58_method_1_code 140 = .ok (.iload 5, 2) := by decide +kernel
theorem dV_142 : decode prog_58_method_1_code 142 = .ok (.lshl, 1) := by decide +kernel
theorem dV_143 : decode prog_58_method_1_code 143 = .ok (.lor, 1) := by decide +kernel
theorem dV_144 : decode prog_58_method_1_code 144 = .ok (.lastore, 1) := by decide +kernel
theorem dV_145 : decode prog_58_method_1_code 145 = .ok (.iinc 5 1, 3) := by decide +kernel
theorem dV_148 : decode prog_58_method_1_code 148 = .ok (.goto (-27), 3) := by decide +kernel
theorem dV_151 : decode prog_58_method_1_code 151 = .ok (.aload_n 0, 1) := by decide +kernel
theorem dV_152 : decode prog_58_method_1_code 152 = .ok (.aload 4, 2) := by decide +kernel
theorem dV_154 : decode prog_58_method_1_code 154 = .ok (.putfield 53, 3) := by decide +kernel
theorem dV_157 : decode prog_58_method_1_code 157 = .ok (.aload_n 0, 1) := by decide +kernel
theorem dV_158 : decode prog_58_method_1_code 158 = .ok (.aload_n 3, 1) := by decide +kernel
theorem dV_159 : decode prog_58_method_1_code 159 = .ok (.arraylength, 1) := by decide +kernel
theorem dV_160 : decode prog_58_method_1_code 160 = .ok (.putfield 57, 3) := by decide +kernel
theorem dV_163 : decode prog_58_method_1_code 163 = .ok (.aload_n 0, 1) := by decide +kernel
theorem dV_164 : decode prog_58_method_1_code 164 = .ok (.aload_n 3, 1) := by decide +kernel
theorem dV_165 : decode prog_58_method_1_code 165 = .ok (.arraylength, 1) := by decide +kernel
theorem dV_166 : decode prog_58_method_1_code 166 = .ok (.newarray .int, 2) := by decide +kernel
theorem dV_168 : decode prog_58_method_1_code 168 = .ok (.putfield 60, 3) := by decide +kernel
theorem dV_171 : decode prog_58_method_1_code 171 = .ok (.return_, 1) := by decide +kernel
def Q3 (Z : State) (v tr : Addr) (h0 : Heap) (n0 : Nat) (v' : Option Value) (h : Heap) (L : List Loc) : Prop := v' = none ∧ Fr n0 L ∧ ∃ (dn pl pr ws : Addr) (kd kp kr kw : ClassId), h0.size ≤ dn ∧ own_Rep Z h v tr dn pl pr ws kd kp kr kw 4 [0, 1, 2, 3] [0, 1, 2, 3] [(.int (0 : Int32)), (.int (0 : Int32)), (.int (0 : Int32)), (.int (0 : Int32))]
theorem pn_3 : plainName "com/example/arcmill/arcmill/Variable" = true := by first | (simp [plainName, overriddenIn]; done) | decide +kernel
theorem ef_3 (m : MethodId) (v sr : Addr) (ix : Int32) (va tr : Addr) : entryFrame m #[(.ref v), (.ref sr), (.int ix), (.ref va), (.ref tr)] 6 = mkF m 0 #[.val (.ref v), .val (.ref sr), .val (.int ix), .val (.ref va), .val (.ref tr), .unset] [] := by first | (simp [entryFrame, mkF, argsToLocals, Value.category]; done) | rfl
set_option maxRecDepth 65536 in
set_option maxHeartbeats 40000000 in
theorem rm3 (l : Launch) (Z : State) (a0 : Array Value) (hw : ∀ d ∈ tables_1, d.before a0 Z = true) (ws' : List Jvm.Cond) (v sr : Addr) (ix : Int32) (va tr w3 : Addr) (ka : ClassId) (lv : List Value) (h0 : Heap) (n0 : Nat) (Z0 : n0 ≤ h0.size) (gv : n0 ≤ v) (S0 : Sta Z Z.heap "java/util/ArrayList" "DEFAULTCAPACITY_EMPTY_ELEMENTDATA" "[Ljava/lang/Object;" (.ref w3)) (hO : Old Z n0 h0) (E0 : Exa Z h0 v "com/example/arcmill/arcmill/Variable") (T0 : Exa Z h0 tr "com/example/arcmill/arcmill/Trail") (F_epoch : Fld Z h0 tr "com/example/arcmill/arcmill/Trail" "epoch" "J" (.long (0 : Int64))) (F_level : Fld Z h0 tr "com/example/arcmill/arcmill/Trail" "level" "I" (.int (0 : Int32))) (A0 : Arv Z h0 va ka .int (4 : Int32) lv (.int (0 : Int32))) (o1 : @LT.lt Nat _ tr va) (o2 : @LT.lt Nat _ va v) (F_sizeSavedIn : Fld Z h0 v "com/example/arcmill/arcmill/Variable" "sizeSavedIn" "J" (.long (0 : Int64))) (F_constraints : Fld Z h0 v "com/example/arcmill/arcmill/Variable" "constraints" "Ljava/util/List;" .null) (F_constraintIndexes : Fld Z h0 v "com/example/arcmill/arcmill/Variable" "constraintIndexes" "[I" .null) (F_partners : Fld Z h0 v "com/example/arcmill/arcmill/Variable" "partners" "[Lcom/example/arcmill/arcmill/Variable;" .null) (F_name : Fld Z h0 v "com/example/arcmill/arcmill/Variable" "name" "Ljava/lang/String;" .null) (F_index : Fld Z h0 v "com/example/arcmill/arcmill/Variable" "index" "I" (.int (0 : Int32))) (F_values : Fld Z h0 v "com/example/arcmill/arcmill/Variable" "values" "[I" .null) (F_dense : Fld Z h0 v "com/example/arcmill/arcmill/Variable" "dense" "[I" .null) (F_places : Fld Z h0 v "com/example/arcmill/arcmill/Variable" "places" "[I" .null) (F_present : Fld Z h0 v "com/example/arcmill/arcmill/Variable" "present" "[J" .null) (F_trail : Fld Z h0 v "com/example/arcmill/arcmill/Variable" "trail" "Lcom/example/arcmill/arcmill/Trail;" .null) (F_size : Fld Z h0 v "com/example/arcmill/arcmill/Variable" "size" "I" (.int (0 : Int32))) (F_workspace : Fld Z h0 v "com/example/arcmill/arcmill/Variable" "workspace" "[I" .null) :
    MetFree l (⟨"com/example/arcmill/arcmill/Variable", "<init>", "(Ljava/lang/String;I[ILcom/example/arcmill/arcmill/Trail;)V"⟩ : MethodName) (head1 (Jvm.Cond.code (⟨"com/example/arcmill/arcmill/Variable", "<init>", "(Ljava/lang/String;I[ILcom/example/arcmill/arcmill/Trail;)V"⟩ : MethodName) prog_58_method_1_code 6 none :: ws') ({ frames := 4, cells := 7, slots := 24, locals := 50 } : Room)) (fun a U => a = #[(.ref v), (.ref sr), (.int ix), (.ref va), (.ref tr)] ∧ Z.Warmed39 U.vm ∧ U.heap = h0) (fun _ _ _ _ _ => True) (fun _ U o U' => ∃ rv L, o = .returned rv ∧ Q3 Z v tr h0 n0 rv U'.heap L ∧ FrameEnd U o U' L ({ frames := 4, cells := 7, slots := 24, locals := 50 } : Room).cells ({ frames := 4, cells := 7, slots := 24, locals := 50 } : Room).slots) := by
  refine MetFree.of_bodySF (plainFor_of_name pn_3) hisR ?_
  intro p e s m args below meth c s₁ Bd hml0 hP hK
  obtain ⟨rfl, hZ, hh⟩ := hP
  have hx := Bd.exec
  have hby := Bd.bytes
  have hml : c.maxLocals = 6 := hml0
  have hown : s.vm.findClass "com/example/arcmill/arcmill/Variable" = some m.cls := findClass_of_methodNamed Bd.named
  have hnm := (name_of_methodNamed Bd.named Bd.method).1
  have X0 : Stand p l e ({ frames := 4, cells := 7, slots := 24, locals := 50 } : Room) s m #[(.ref v), (.ref sr), (.int ix), (.ref va), (.ref tr)] below meth c s₁ [] 0 0 := Stand.of_body Bd
  have e0 : s₁.heap = h0 := by rw [← hh, Bd.state]; rfl
  have N0 := Fr.nil n0
  have pre0 : ∀ t, Steps p.tables e below (s₁.setTop (mkF m 0 #[.val (.ref v), .val (.ref sr), .val (.int ix), .val (.ref va), .val (.ref tr), .unset] [])) t → Steps p.tables e below (s₁.setTop (entryFrame m #[(.ref v), (.ref sr), (.int ix), (.ref va), (.ref tr)] 6)) t := fun t k => castTop (ef_3 m v sr ix va tr) k
  have Y0 : h0.size ≤ h0.size := Nat.le_refl _
  obtain ⟨Tt1, Xt1, et1, stt1⟩ := initO X0 hx hZ hown (hw _ (List.mem_of_getElem? (i := 32) rfl)) (hw _ (List.mem_of_getElem? (i := 7) rfl)) (hw _ (List.mem_of_getElem? (i := 8) rfl)) e0 (g := (mkF m 1 #[.val (.ref v), .val (.ref sr), .val (.int ix), .val (.ref va), .val (.ref tr), .unset] [(.ref v)])) rfl (by rw [hml]; rfl) rfl (hb hby dV_1) (by decide) (W := 0) (by show 2 * 0 + _ ≤ _; exact Nat.le_of_eq rfl) (by decide)
  obtain ⟨Tt2, ht2, Xt2, et2, Wt2, stt2⟩ := putF Xt1 hx hZ hown (host := "") (Or.inl (hw _ (List.mem_of_getElem? (i := 34) rfl))) Via.refl et1 F_sizeSavedIn E0 (Or.inl (hw _ (List.mem_of_getElem? (i := 35) rfl))) (hw _ (List.mem_of_getElem? (i := 19) rfl)) (ty := .long) (by decide) rfl rfl (g := (mkF m 8 #[.val (.ref v), .val (.ref sr), .val (.int ix), .val (.ref va), .val (.ref tr), .unset] [(.long (-1 : Int64)), (.ref v)])) rfl rfl (hb hby dV_8)
  have Ft2 : Fld Z ht2 v "com/example/arcmill/arcmill/Variable" "sizeSavedIn" "J" (.long (-1 : Int64)) := F_sizeSavedIn.same Wt2
  have Nt2 := Fr.snoc Xt2 N0 gv
  have Zt2 : n0 ≤ ht2.size := by rw [Wt2.size]; exact Z0
  have Yt2 : h0.size ≤ ht2.size := by rw [Wt2.size]; exact Y0
  obtain ⟨Tt3, ht3, Xt3, et3, Et3, At3, Dt3, -, stt3⟩ := newO Xt2 hx hZ hown (hw _ (List.mem_of_getElem? (i := 36) rfl)) (hw _ (List.mem_of_getElem? (i := 37) rfl)) (hw _ (List.mem_of_getElem? (i := 38) rfl)) et2 (g := (mkF m 12 #[.val (.ref v), .val (.ref sr), .val (.int ix), .val (.ref va), .val (.ref tr), .unset] [(.ref v)])) rfl (hb hby dV_12) (by decide) (by decide)
  obtain ⟨al, gt3⟩ : ∃ z, z = ht2.size := ⟨_, rfl⟩
  rw [← gt3] at At3 Dt3 stt3
  have f4 : Exa Z ht2 v "com/example/arcmill/arcmill/Variable" := E0.wr Wt2
  have lt_v_al : @LT.lt Nat _ v al := Nat.lt_of_lt_of_le f4.lt (Nat.le_of_eq gt3.symm)
  have ge_al : n0 ≤ al := Nat.le_trans Zt2 (Nat.le_of_eq gt3.symm)
  have Zt3 : n0 ≤ ht3.size := Nat.le_trans Zt2 Et3.1
  have sh_al : h0.size ≤ al := Nat.le_trans Yt2 (Nat.le_of_eq gt3.symm)
  have Yt3 : h0.size ≤ ht3.size := Nat.le_trans Yt2 Et3.1
  have f5 : Fld Z ht3 al "java/util/AbstractList" "modCount" "I" (.int (0 : Int32)) := Dt3 (Or.inl (hw _ (List.mem_of_getElem? (i := 56) rfl))) (ty := .int) (by decide)
  have f6 : Fld Z ht3 al "java/util/ArrayList" "elementData" "[Ljava/lang/Object;" .null := Dt3 (Or.inl (hw _ (List.mem_of_getElem? (i := 59) rfl))) (ty := (.array (.object "java/lang/Object"))) (by decide)
  have f8 : Old Z n0 ht3 := (hO.wr Wt2 gv).ext Et3
  obtain ⟨_, _, ⟨Tt7, Lt7, kt7, nt7⟩, -, Xt7, ⟨Lct7, hQt7, lt7, yt7, zt7⟩, stt7⟩ := Xt3.specialBack hx (y := (⟨"java/util/ArrayList", "<init>", "()V"⟩ : MethodName)) rfl hown (mvT hZ (hw _ (List.mem_of_getElem? (i := 39) rfl))) (mvT hZ (hw _ (List.mem_of_getElem? (i := 40) rfl))) (mvT hZ (hw _ (List.mem_of_getElem? (i := 41) rfl))) (by decide) (backOf (W := 2) (rm4 l Z a0 hw [] al w3 .null (.int (0 : Int32)) ht3 n0 Zt3 S0 f8 At3 f6 ge_al f5) hZ (hw _ (List.mem_of_getElem? (i := 41) rfl)) (hw _ (List.mem_of_getElem? (i := 38) rfl)) (by decide) (by decide)) (g := (mkF m 16 #[.val (.ref v), .val (.ref sr), .val (.int ix), .val (.ref va), .val (.ref tr), .unset] [(.ref al), (.ref al), (.ref v)])) rfl (by rw [hml]; rfl) (Steps.refl _) (a := al) (argsL := []) (rest := [(.ref al), (.ref v)]) (lenOf pd_v rfl) rfl (by show 2 * 0 + _ ≤ _; exact Nat.le_of_eq rfl) (hb hby dV_16) (fun _ _ => ⟨rfl, et3, (by decide : 1 + 0 ≤ _), (by decide : 3 + 0 ≤ _)⟩)
  dsimp only [Pt.U, Pt.locs, Pt.cells, Pt.slots] at Xt7 lt7 yt7 zt7 stt7 hQt7
  subst lt7 yt7 zt7
  obtain ⟨rfl, Nt7q, Kt7⟩ := hQt7
  have Nt7 := Fr.app Nt2 Nt7q
  have Zt7 : n0 ≤ Tt7.heap.size := Nat.le_trans Zt3 Kt7.1
  have Yt7 : h0.size ≤ Tt7.heap.size := Nat.le_trans Yt3 Kt7.1
  have sn9 : Jvm.RoadKit.slotOf Z "com/example/arcmill/arcmill/Variable" "constraints" "Ljava/util/List;" ≠ Jvm.RoadKit.slotOf Z "com/example/arcmill/arcmill/Variable" "sizeSavedIn" "J" := slot_ne (Or.inr (hw _ (List.mem_of_getElem? (i := 61) rfl))) (Or.inl (hw _ (List.mem_of_getElem? (i := 35) rfl))) (by decide) (t := (.object "java/util/List")) (t' := .long) (by decide) (by decide)
  have ne_v_al : @Ne Nat v al := by omega
  have f10 : Fld Z Tt7.heap v "com/example/arcmill/arcmill/Variable" "constraints" "Ljava/util/List;" .null := ((F_constraints.other Wt2 (Or.inr sn9)).ext Et3).keep Kt7 (fun q => ne_v_al (List.mem_singleton.mp q))
  have f11 : Exa Z Tt7.heap v "com/example/arcmill/arcmill/Variable" := (f4.ext Et3).keep Kt7
  obtain ⟨Tt12, ht12, Xt12, et12, Wt12, stt12⟩ := putF Xt7 hx hZ hown (host := "") (Or.inl (hw _ (List.mem_of_getElem? (i := 60) rfl))) Via.refl rfl f10 f11 (Or.inr ⟨(hw _ (List.mem_of_getElem? (i := 61) rfl)), rfl, hnm⟩) (hw _ (List.mem_of_getElem? (i := 19) rfl)) (ty := (.object "java/util/List")) (by decide) rfl rfl (g := (mkF m 19 #[.val (.ref v), .val (.ref sr), .val (.int ix), .val (.ref va), .val (.ref tr), .unset] [(.ref al), (.ref v)])) rfl rfl (hb hby dV_19)
  have Ft12 : Fld Z ht12 v "com/example/arcmill/arcmill/Variable" "constraints" "Ljava/util/List;" (.ref al) := f10.same Wt12
  have Nt12 := Fr.snoc Xt12 Nt7 gv
  have Zt12 : n0 ≤ ht12.size := by rw [Wt12.size]; exact Zt7
  have Yt12 : h0.size ≤ ht12.size := by rw [Wt12.size]; exact Yt7
  obtain ⟨Tt13, ht13, kt13, Xt13, et13, Et13, At13, stt13⟩ := newP Xt12 hx hZ (hw _ (List.mem_of_getElem? (i := 13) rfl)) et12 (g := (mkF m 24 #[.val (.ref v), .val (.ref sr), .val (.int ix), .val (.ref va), .val (.ref tr), .unset] [(.int (4 : Int32)), (.ref v)])) rfl (hb hby dV_24) rfl (by decide) (cap := 4) (by decide) (by decide) (by decide) (by decide)
  obtain ⟨ci, gt13⟩ : ∃ z, z = ht12.size := ⟨_, rfl⟩
  rw [← gt13] at At13 stt13
  have f14 : Exa Z ht12 al "java/util/ArrayList" := (At3.keep Kt7).wr Wt12
  have lt_al_ci : @LT.lt Nat _ al ci := Nat.lt_of_lt_of_le f14.lt (Nat.le_of_eq gt13.symm)
  have ge_ci : n0 ≤ ci := Nat.le_trans Zt12 (Nat.le_of_eq gt13.symm)
  have Zt13 : n0 ≤ ht13.size := Nat.le_trans Zt12 Et13.1
  have sh_ci : h0.size ≤ ci := Nat.le_trans Yt12 (Nat.le_of_eq gt13.symm)
  have Yt13 : h0.size ≤ ht13.size := Nat.le_trans Yt12 Et13.1
  have Vt13 : Arv Z ht13 ci kt13 .int (4 : Int32) [(.int (0 : Int32)), (.int (0 : Int32)), (.int (0 : Int32)), (.int (0 : Int32))] (.int (0 : Int32)) := (Arv.new At13 (by decide)).pad (pad_rep [] (.int (0 : Int32)) 4)
  have sn15 : Jvm.RoadKit.slotOf Z "com/example/arcmill/arcmill/Variable" "constraintIndexes" "[I" ≠ Jvm.RoadKit.slotOf Z "com/example/arcmill/arcmill/Variable" "sizeSavedIn" "J" := slot_ne (Or.inl (hw _ (List.mem_of_getElem? (i := 63) rfl))) (Or.inl (hw _ (List.mem_of_getElem? (i := 35) rfl))) (by decide) (t := (.array .int)) (t' := .long) (by decide) (by decide)
  have sn16 : Jvm.RoadKit.slotOf Z "com/example/arcmill/arcmill/Variable" "constraintIndexes" "[I" ≠ Jvm.RoadKit.slotOf Z "com/example/arcmill/arcmill/Variable" "constraints" "Ljava/util/List;" := slot_ne (Or.inl (hw _ (List.mem_of_getElem? (i := 63) rfl))) (Or.inr (hw _ (List.mem_of_getElem? (i := 61) rfl))) (by decide) (t := (.array .int)) (t' := (.object "java/util/List")) (by decide) (by decide)
  have f17 : Fld Z ht13 v "com/example/arcmill/arcmill/Variable" "constraintIndexes" "[I" .null := ((((F_constraintIndexes.other Wt2 (Or.inr sn15)).ext Et3).keep Kt7 (fun q => ne_v_al (List.mem_singleton.mp q))).other Wt12 (Or.inr sn16)).ext Et13
  have f18 : Exa Z ht13 v "com/example/arcmill/arcmill/Variable" := (f11.wr Wt12).ext Et13
  obtain ⟨Tt19, ht19, Xt19, et19, Wt19, stt19⟩ := putF Xt13 hx hZ hown (host := "") (Or.inl (hw _ (List.mem_of_getElem? (i := 62) rfl))) Via.refl et13 f17 f18 (Or.inl (hw _ (List.mem_of_getElem? (i := 63) rfl))) (hw _ (List.mem_of_getElem? (i := 19) rfl)) (ty := (.array .int)) (by decide) rfl rfl (g := (mkF m 26 #[.val (.ref v), .val (.ref sr), .val (.int ix), .val (.ref va), .val (.ref tr), .unset] [(.ref ci), (.ref v)])) rfl rfl (hb hby dV_26)
  have Ft19 : Fld Z ht19 v "com/example/arcmill/arcmill/Variable" "constraintIndexes" "[I" (.ref ci) := f17.same Wt19
  have Nt19 := Fr.snoc Xt19 Nt12 gv
  have Zt19 : n0 ≤ ht19.size := by rw [Wt19.size]; exact Zt13
  have Yt19 : h0.size ≤ ht19.size := by rw [Wt19.size]; exact Yt13
  obtain ⟨Tt20, ht20, kt20, Xt20, et20, Et20, At20, Ot20, stt20⟩ := newR Xt19 hx hZ hown (hw _ (List.mem_of_getElem? (i := 64) rfl)) (hw _ (List.mem_of_getElem? (i := 65) rfl)) et19 (g := (mkF m 31 #[.val (.ref v), .val (.ref sr), .val (.int ix), .val (.ref va), .val (.ref tr), .unset] [(.int (4 : Int32)), (.ref v)])) rfl (hb hby dV_31) rfl (by decide) (cap := 4) (by decide) (by decide) (by decide) (by decide)
  obtain ⟨pt, gt20⟩ : ∃ z, z = ht19.size := ⟨_, rfl⟩
  rw [← gt20] at At20 stt20
  have ne_ci_v : @Ne Nat ci v := by omega
  have f21 : Arv Z ht19 ci kt13 .int (4 : Int32) [(.int (0 : Int32)), (.int (0 : Int32)), (.int (0 : Int32)), (.int (0 : Int32))] (.int (0 : Int32)) := Vt13.other Wt19 ne_ci_v
  have lt_ci_pt : @LT.lt Nat _ ci pt := Nat.lt_of_lt_of_le f21.lt (Nat.le_of_eq gt20.symm)
  have ge_pt : n0 ≤ pt := Nat.le_trans Zt19 (Nat.le_of_eq gt20.symm)
  have Zt20 : n0 ≤ ht20.size := Nat.le_trans Zt19 Et20.1
  have sh_pt : h0.size ≤ pt := Nat.le_trans Yt19 (Nat.le_of_eq gt20.symm)
  have Yt20 : h0.size ≤ ht20.size := Nat.le_trans Yt19 Et20.1
  have Vt20 := Arv.new At20 (by decide)
  have sn22 : Jvm.RoadKit.slotOf Z "com/example/arcmill/arcmill/Variable" "partners" "[Lcom/example/arcmill/arcmill/Variable;" ≠ Jvm.RoadKit.slotOf Z "com/example/arcmill/arcmill/Variable" "sizeSavedIn" "J" := slot_ne (Or.inl (hw _ (List.mem_of_getElem? (i := 67) rfl))) (Or.inl (hw _ (List.mem_of_getElem? (i := 35) rfl))) (by decide) (t := (.array (.object "com/example/arcmill/arcmill/Variable"))) (t' := .long) (by decide) (by decide)
  have sn23 : Jvm.RoadKit.slotOf Z "com/example/arcmill/arcmill/Variable" "partners" "[Lcom/example/arcmill/arcmill/Variable;" ≠ Jvm.RoadKit.slotOf Z "com/example/arcmill/arcmill/Variable" "constraints" "Ljava/util/List;" := slot_ne (Or.inl (hw _ (List.mem_of_getElem? (i := 67) rfl))) (Or.inr (hw _ (List.mem_of_getElem? (i := 61) rfl))) (by decide) (t := (.array (.object "com/example/arcmill/arcmill/Variable"))) (t' := (.object "java/util/List")) (by decide) (by decide)
  have sn24 : Jvm.RoadKit.slotOf Z "com/example/arcmill/arcmill/Variable" "partners" "[Lcom/example/arcmill/arcmill/Variable;" ≠ Jvm.RoadKit.slotOf Z "com/example/arcmill/arcmill/Variable" "constraintIndexes" "[I" := slot_ne (Or.inl (hw _ (List.mem_of_getElem? (i := 67) rfl))) (Or.inl (hw _ (List.mem_of_getElem? (i := 63) rfl))) (by decide) (t := (.array (.object "com/example/arcmill/arcmill/Variable"))) (t' := (.array .int)) (by decide) (by decide)
  have f25 : Fld Z ht20 v "com/example/arcmill/arcmill/Variable" "partners" "[Lcom/example/arcmill/arcmill/Variable;" .null := ((((((F_partners.other Wt2 (Or.inr sn22)).ext Et3).keep Kt7 (fun q => ne_v_al (List.mem_singleton.mp q))).other Wt12 (Or.inr sn23)).ext Et13).other Wt19 (Or.inr sn24)).ext Et20
  have f26 : Exa Z ht20 v "com/example/arcmill/arcmill/Variable" := (f18.wr Wt19).ext Et20
  obtain ⟨Tt27, ht27, Xt27, et27, Wt27, stt27⟩ := putF Xt20 hx hZ hown (host := "") (Or.inl (hw _ (List.mem_of_getElem? (i := 66) rfl))) Via.refl et20 f25 f26 (Or.inl (hw _ (List.mem_of_getElem? (i := 67) rfl))) (hw _ (List.mem_of_getElem? (i := 19) rfl)) (ty := (.array (.object "com/example/arcmill/arcmill/Variable"))) (by decide) rfl rfl (g := (mkF m 34 #[.val (.ref v), .val (.ref sr), .val (.int ix), .val (.ref va), .val (.ref tr), .unset] [(.ref pt), (.ref v)])) rfl rfl (hb hby dV_34)
  have Ft27 : Fld Z ht27 v "com/example/arcmill/arcmill/Variable" "partners" "[Lcom/example/arcmill/arcmill/Variable;" (.ref pt) := f25.same Wt27
  have Nt27 := Fr.snoc Xt27 Nt19 gv
  have Zt27 : n0 ≤ ht27.size := by rw [Wt27.size]; exact Zt20
  have Yt27 : h0.size ≤ ht27.size := by rw [Wt27.size]; exact Yt20
  have sn28 : Jvm.RoadKit.slotOf Z "com/example/arcmill/arcmill/Variable" "name" "Ljava/lang/String;" ≠ Jvm.RoadKit.slotOf Z "com/example/arcmill/arcmill/Variable" "sizeSavedIn" "J" := slot_ne (Or.inr (hw _ (List.mem_of_getElem? (i := 69) rfl))) (Or.inl (hw _ (List.mem_of_getElem? (i := 35) rfl))) (by decide) (t := (.object "java/lang/String")) (t' := .long) (by decide) (by decide)
  have sn29 : Jvm.RoadKit.slotOf Z "com/example/arcmill/arcmill/Variable" "name" "Ljava/lang/String;" ≠ Jvm.RoadKit.slotOf Z "com/example/arcmill/arcmill/Variable" "constraints" "Ljava/util/List;" := slot_ne (Or.inr (hw _ (List.mem_of_getElem? (i := 69) rfl))) (Or.inr (hw _ (List.mem_of_getElem? (i := 61) rfl))) (by decide) (t := (.object "java/lang/String")) (t' := (.object "java/util/List")) (by decide) (by decide)
  have sn30 : Jvm.RoadKit.slotOf Z "com/example/arcmill/arcmill/Variable" "name" "Ljava/lang/String;" ≠ Jvm.RoadKit.slotOf Z "com/example/arcmill/arcmill/Variable" "constraintIndexes" "[I" := slot_ne (Or.inr (hw _ (List.mem_of_getElem? (i := 69) rfl))) (Or.inl (hw _ (List.mem_of_getElem? (i := 63) rfl))) (by decide) (t := (.object "java/lang/String")) (t' := (.array .int)) (by decide) (by decide)
  have sn31 : Jvm.RoadKit.slotOf Z "com/example/arcmill/arcmill/Variable" "name" "Ljava/lang/String;" ≠ Jvm.RoadKit.slotOf Z "com/example/arcmill/arcmill/Variable" "partners" "[Lcom/example/arcmill/arcmill/Variable;" := slot_ne (Or.inr (hw _ (List.mem_of_getElem? (i := 69) rfl))) (Or.inl (hw _ (List.mem_of_getElem? (i := 67) rfl))) (by decide) (t := (.object "java/lang/String")) (t' := (.array (.object "com/example/arcmill/arcmill/Variable"))) (by decide) (by decide)
  have f32 : Fld Z ht27 v "com/example/arcmill/arcmill/Variable" "name" "Ljava/lang/String;" .null := (((((((F_name.other Wt2 (Or.inr sn28)).ext Et3).keep Kt7 (fun q => ne_v_al (List.mem_singleton.mp q))).other Wt12 (Or.inr sn29)).ext Et13).other Wt19 (Or.inr sn30)).ext Et20).other Wt27 (Or.inr sn31)
  have f33 : Exa Z ht27 v "com/example/arcmill/arcmill/Variable" := f26.wr Wt27
  obtain ⟨Tt34, ht34, Xt34, et34, Wt34, stt34⟩ := putF Xt27 hx hZ hown (host := "") (Or.inl (hw _ (List.mem_of_getElem? (i := 68) rfl))) Via.refl et27 f32 f33 (Or.inr ⟨(hw _ (List.mem_of_getElem? (i := 69) rfl)), rfl, hnm⟩) (hw _ (List.mem_of_getElem? (i := 19) rfl)) (ty := (.object "java/lang/String")) (by decide) rfl rfl (g := (mkF m 39 #[.val (.ref v), .val (.ref sr), .val (.int ix), .val (.ref va), .val (.ref tr), .unset] [(.ref sr), (.ref v)])) rfl rfl (hb hby dV_39)
  have Ft34 : Fld Z ht34 v "com/example/arcmill/arcmill/Variable" "name" "Ljava/lang/String;" (.ref sr) := f32.same Wt34
  have Nt34 := Fr.snoc Xt34 Nt27 gv
  have Zt34 : n0 ≤ ht34.size := by rw [Wt34.size]; exact Zt27
  have Yt34 : h0.size ≤ ht34.size := by rw [Wt34.size]; exact Yt27
  have sn35 : Jvm.RoadKit.slotOf Z "com/example/arcmill/arcmill/Variable" "index" "I" ≠ Jvm.RoadKit.slotOf Z "com/example/arcmill/arcmill/Variable" "sizeSavedIn" "J" := slot_ne (Or.inr (hw _ (List.mem_of_getElem? (i := 71) rfl))) (Or.inl (hw _ (List.mem_of_getElem? (i := 35) rfl))) (by decide) (t := .int) (t' := .long) (by decide) (by decide)
  have sn36 : Jvm.RoadKit.slotOf Z "com/example/arcmill/arcmill/Variable" "index" "I" ≠ Jvm.RoadKit.slotOf Z "com/example/arcmill/arcmill/Variable" "constraints" "Ljava/util/List;" := slot_ne (Or.inr (hw _ (List.mem_of_getElem? (i := 71) rfl))) (Or.inr (hw _ (List.mem_of_getElem? (i := 61) rfl))) (by decide) (t := .int) (t' := (.object "java/util/List")) (by decide) (by decide)
  have sn37 : Jvm.RoadKit.slotOf Z "com/example/arcmill/arcmill/Variable" "index" "I" ≠ Jvm.RoadKit.slotOf Z "com/example/arcmill/arcmill/Variable" "constraintIndexes" "[I" := slot_ne (Or.inr (hw _ (List.mem_of_getElem? (i := 71) rfl))) (Or.inl (hw _ (List.mem_of_getElem? (i := 63) rfl))) (by decide) (t := .int) (t' := (.array .int)) (by decide) (by decide)
  have sn38 : Jvm.RoadKit.slotOf Z "com/example/arcmill/arcmill/Variable" "index" "I" ≠ Jvm.RoadKit.slotOf Z "com/example/arcmill/arcmill/Variable" "partners" "[Lcom/example/arcmill/arcmill/Variable;" := slot_ne (Or.inr (hw _ (List.mem_of_getElem? (i := 71) rfl))) (Or.inl (hw _ (List.mem_of_getElem? (i := 67) rfl))) (by decide) (t := .int) (t' := (.array (.object "com/example/arcmill/arcmill/Variable"))) (by decide) (by decide)
  have sn39 : Jvm.RoadKit.slotOf Z "com/example/arcmill/arcmill/Variable" "index" "I" ≠ Jvm.RoadKit.slotOf Z "com/example/arcmill/arcmill/Variable" "name" "Ljava/lang/String;" := slot_ne (Or.inr (hw _ (List.mem_of_getElem? (i := 71) rfl))) (Or.inr (hw _ (List.mem_of_getElem? (i := 69) rfl))) (by decide) (t := .int) (t' := (.object "java/lang/String")) (by decide) (by decide)
  have f40 : Fld Z ht34 v "com/example/arcmill/arcmill/Variable" "index" "I" (.int (0 : Int32)) := ((((((((F_index.other Wt2 (Or.inr sn35)).ext Et3).keep Kt7 (fun q => ne_v_al (List.mem_singleton.mp q))).other Wt12 (Or.inr sn36)).ext Et13).other Wt19 (Or.inr sn37)).ext Et20).other Wt27 (Or.inr sn38)).other Wt34 (Or.inr sn39)
  have f41 : Exa Z ht34 v "com/example/arcmill/arcmill/Variable" := f33.wr Wt34
  obtain ⟨Tt42, ht42, Xt42, et42, Wt42, stt42⟩ := putF Xt34 hx hZ hown (host := "") (Or.inl (hw _ (List.mem_of_getElem? (i := 70) rfl))) Via.refl et34 f40 f41 (Or.inr ⟨(hw _ (List.mem_of_getElem? (i := 71) rfl)), rfl, hnm⟩) (hw _ (List.mem_of_getElem? (i := 19) rfl)) (ty := .int) (by decide) rfl rfl (g := (mkF m 44 #[.val (.ref v), .val (.ref sr), .val (.int ix), .val (.ref va), .val (.ref tr), .unset] [(.int ix), (.ref v)])) rfl rfl (hb hby dV_44)
  have Ft42 : Fld Z ht42 v "com/example/arcmill/arcmill/Variable" "index" "I" (.int ix) := f40.same Wt42
  have Nt42 := Fr.snoc Xt42 Nt34 gv
  have Zt42 : n0 ≤ ht42.size := by rw [Wt42.size]; exact Zt34
  have Yt42 : h0.size ≤ ht42.size := by rw [Wt42.size]; exact Yt34
  have sn43 : Jvm.RoadKit.slotOf Z "com/example/arcmill/arcmill/Variable" "values" "[I" ≠ Jvm.RoadKit.slotOf Z "com/example/arcmill/arcmill/Variable" "sizeSavedIn" "J" := slot_ne (Or.inr (hw _ (List.mem_of_getElem? (i := 73) rfl))) (Or.inl (hw _ (List.mem_of_getElem? (i := 35) rfl))) (by decide) (t := (.array .int)) (t' := .long) (by decide) (by decide)
  have sn44 : Jvm.RoadKit.slotOf Z "com/example/arcmill/arcmill/Variable" "values" "[I" ≠ Jvm.RoadKit.slotOf Z "com/example/arcmill/arcmill/Variable" "constraints" "Ljava/util/List;" := slot_ne (Or.inr (hw _ (List.mem_of_getElem? (i := 73) rfl))) (Or.inr (hw _ (List.mem_of_getElem? (i := 61) rfl))) (by decide) (t := (.array .int)) (t' := (.object "java/util/List")) (by decide) (by decide)
  have sn45 : Jvm.RoadKit.slotOf Z "com/example/arcmill/arcmill/Variable" "values" "[I" ≠ Jvm.RoadKit.slotOf Z "com/example/arcmill/arcmill/Variable" "constraintIndexes" "[I" := slot_ne (Or.inr (hw _ (List.mem_of_getElem? (i := 73) rfl))) (Or.inl (hw _ (List.mem_of_getElem? (i := 63) rfl))) (by decide) (t := (.array .int)) (t' := (.array .int)) (by decide) (by decide)
  have sn46 : Jvm.RoadKit.slotOf Z "com/example/arcmill/arcmill/Variable" "values" "[I" ≠ Jvm.RoadKit.slotOf Z "com/example/arcmill/arcmill/Variable" "partners" "[Lcom/example/arcmill/arcmill/Variable;" := slot_ne (Or.inr (hw _ (List.mem_of_getElem? (i := 73) rfl))) (Or.inl (hw _ (List.mem_of_getElem? (i := 67) rfl))) (by decide) (t := (.array .int)) (t' := (.array (.object "com/example/arcmill/arcmill/Variable"))) (by decide) (by decide)
  have sn47 : Jvm.RoadKit.slotOf Z "com/example/arcmill/arcmill/Variable" "values" "[I" ≠ Jvm.RoadKit.slotOf Z "com/example/arcmill/arcmill/Variable" "name" "Ljava/lang/String;" := slot_ne (Or.inr (hw _ (List.mem_of_getElem? (i := 73) rfl))) (Or.inr (hw _ (List.mem_of_getElem? (i := 69) rfl))) (by decide) (t := (.array .int)) (t' := (.object "java/lang/String")) (by decide) (by decide)
  have sn48 : Jvm.RoadKit.slotOf Z "com/example/arcmill/arcmill/Variable" "values" "[I" ≠ Jvm.RoadKit.slotOf Z "com/example/arcmill/arcmill/Variable" "index" "I" := slot_ne (Or.inr (hw _ (List.mem_of_getElem? (i := 73) rfl))) (Or.inr (hw _ (List.mem_of_getElem? (i := 71) rfl))) (by decide) (t := (.array .int)) (t' := .int) (by decide) (by decide)
  have f49 : Fld Z ht42 v "com/example/arcmill/arcmill/Variable" "values" "[I" .null := (((((((((F_values.other Wt2 (Or.inr sn43)).ext Et3).keep Kt7 (fun q => ne_v_al (List.mem_singleton.mp q))).other Wt12 (Or.inr sn44)).ext Et13).other Wt19 (Or.inr sn45)).ext Et20).other Wt27 (Or.inr sn46)).other Wt34 (Or.inr sn47)).other Wt42 (Or.inr sn48)
  have f50 : Exa Z ht42 v "com/example/arcmill/arcmill/Variable" := f41.wr Wt42
  obtain ⟨Tt51, ht51, Xt51, et51, Wt51, stt51⟩ := putF Xt42 hx hZ hown (host := "") (Or.inl (hw _ (List.mem_of_getElem? (i := 72) rfl))) Via.refl et42 f49 f50 (Or.inr ⟨(hw _ (List.mem_of_getElem? (i := 73) rfl)), rfl, hnm⟩) (hw _ (List.mem_of_getElem? (i := 19) rfl)) (ty := (.array .int)) (by decide) rfl rfl (g := (mkF m 49 #[.val (.ref v), .val (.ref sr), .val (.int ix), .val (.ref va), .val (.ref tr), .unset] [(.ref va), (.ref v)])) rfl rfl (hb hby dV_49)
  have Ft51 : Fld Z ht51 v "com/example/arcmill/arcmill/Variable" "values" "[I" (.ref va) := f49.same Wt51
  have Nt51 := Fr.snoc Xt51 Nt42 gv
  have Zt51 : n0 ≤ ht51.size := by rw [Wt51.size]; exact Zt42
  have Yt51 : h0.size ≤ ht51.size := by rw [Wt51.size]; exact Yt42
  have ne_va_v : @Ne Nat va v := by omega
  have ne_va_al : @Ne Nat va al := by omega
  have f52 : Arv Z ht51 va ka .int (4 : Int32) lv (.int (0 : Int32)) := ((((((((((A0.other Wt2 ne_va_v).ext Et3).keep Kt7 (fun q => ne_va_al (List.mem_singleton.mp q))).other Wt12 ne_va_v).ext Et13).other Wt19 ne_va_v).ext Et20).other Wt27 ne_va_v).other Wt34 ne_va_v).other Wt42 ne_va_v).other Wt51 ne_va_v
  obtain ⟨Tt53, ht53, kt53, Xt53, et53, Et53, At53, stt53⟩ := newP Xt51 hx hZ (hw _ (List.mem_of_getElem? (i := 13) rfl)) et51 (g := (mkF m 55 #[.val (.ref v), .val (.ref sr), .val (.int ix), .val (.ref va), .val (.ref tr), .unset] [(.int (4 : Int32)), (.ref v)])) rfl (hb hby dV_55) rfl (by decide) (cap := 4) (by decide) (by decide) (by decide) (by decide)
  obtain ⟨dn, gt53⟩ : ∃ z, z = ht51.size := ⟨_, rfl⟩
  rw [← gt53] at At53 stt53
  have ne_pt_v : @Ne Nat pt v := by omega
  have f54 : Arv Z ht51 pt kt20 (.object "com/example/arcmill/arcmill/Variable") (4 : Int32) [] (defaultValue (.object "com/example/arcmill/arcmill/Variable")) := (((Vt20.other Wt27 ne_pt_v).other Wt34 ne_pt_v).other Wt42 ne_pt_v).other Wt51 ne_pt_v
  have lt_pt_dn : @LT.lt Nat _ pt dn := Nat.lt_of_lt_of_le f54.lt (Nat.le_of_eq gt53.symm)
  have ge_dn : n0 ≤ dn := Nat.le_trans Zt51 (Nat.le_of_eq gt53.symm)
  have Zt53 : n0 ≤ ht53.size := Nat.le_trans Zt51 Et53.1
  have sh_dn : h0.size ≤ dn := Nat.le_trans Yt51 (Nat.le_of_eq gt53.symm)
  have Yt53 : h0.size ≤ ht53.size := Nat.le_trans Yt51 Et53.1
  have Vt53 : Arv Z ht53 dn kt53 .int (4 : Int32) [(.int (0 : Int32)), (.int (0 : Int32)), (.int (0 : Int32)), (.int (0 : Int32))] (.int (0 : Int32)) := (Arv.new At53 (by decide)).pad (pad_rep [] (.int (0 : Int32)) 4)
  have sn55 : Jvm.RoadKit.slotOf Z "com/example/arcmill/arcmill/Variable" "dense" "[I" ≠ Jvm.RoadKit.slotOf Z "com/example/arcmill/arcmill/Variable" "sizeSavedIn" "J" := slot_ne (Or.inr (hw _ (List.mem_of_getElem? (i := 75) rfl))) (Or.inl (hw _ (List.mem_of_getElem? (i := 35) rfl))) (by decide) (t := (.array .int)) (t' := .long) (by decide) (by decide)
  have sn56 : Jvm.RoadKit.slotOf Z "com/example/arcmill/arcmill/Variable" "dense" "[I" ≠ Jvm.RoadKit.slotOf Z "com/example/arcmill/arcmill/Variable" "constraints" "Ljava/util/List;" := slot_ne (Or.inr (hw _ (List.mem_of_getElem? (i := 75) rfl))) (Or.inr (hw _ (List.mem_of_getElem? (i := 61) rfl))) (by decide) (t := (.array .int)) (t' := (.object "java/util/List")) (by decide) (by decide)
  have sn57 : Jvm.RoadKit.slotOf Z "com/example/arcmill/arcmill/Variable" "dense" "[I" ≠ Jvm.RoadKit.slotOf Z "com/example/arcmill/arcmill/Variable" "constraintIndexes" "[I" := slot_ne (Or.inr (hw _ (List.mem_of_getElem? (i := 75) rfl))) (Or.inl (hw _ (List.mem_of_getElem? (i := 63) rfl))) (by decide) (t := (.array .int)) (t' := (.array .int)) (by decide) (by decide)
  have sn58 : Jvm.RoadKit.slotOf Z "com/example/arcmill/arcmill/Variable" "dense" "[I" ≠ Jvm.RoadKit.slotOf Z "com/example/arcmill/arcmill/Variable" "partners" "[Lcom/example/arcmill/arcmill/Variable;" := slot_ne (Or.inr (hw _ (List.mem_of_getElem? (i := 75) rfl))) (Or.inl (hw _ (List.mem_of_getElem? (i := 67) rfl))) (by decide) (t := (.array .int)) (t' := (.array (.object "com/example/arcmill/arcmill/Variable"))) (by decide) (by decide)
  have sn59 : Jvm.RoadKit.slotOf Z "com/example/arcmill/arcmill/Variable" "dense" "[I" ≠ Jvm.RoadKit.slotOf Z "com/example/arcmill/arcmill/Variable" "name" "Ljava/lang/String;" := slot_ne (Or.inr (hw _ (List.mem_of_getElem? (i := 75) rfl))) (Or.inr (hw _ (List.mem_of_getElem? (i := 69) rfl))) (by decide) (t := (.array .int)) (t' := (.object "java/lang/String")) (by decide) (by decide)
  have sn60 : Jvm.RoadKit.slotOf Z "com/example/arcmill/arcmill/Variable" "dense" "[I" ≠ Jvm.RoadKit.slotOf Z "com/example/arcmill/arcmill/Variable" "index" "I" := slot_ne (Or.inr (hw _ (List.mem_of_getElem? (i := 75) rfl))) (Or.inr (hw _ (List.mem_of_getElem? (i := 71) rfl))) (by decide) (t := (.array .int)) (t' := .int) (by decide) (by decide)
  have sn61 : Jvm.RoadKit.slotOf Z "com/example/arcmill/arcmill/Variable" "dense" "[I" ≠ Jvm.RoadKit.slotOf Z "com/example/arcmill/arcmill/Variable" "values" "[I" := slot_ne (Or.inr (hw _ (List.mem_of_getElem? (i := 75) rfl))) (Or.inr (hw _ (List.mem_of_getElem? (i := 73) rfl))) (by decide) (t := (.array .int)) (t' := (.array .int)) (by decide) (by decide)
  have f62 : Fld Z ht53 v "com/example/arcmill/arcmill/Variable" "dense" "[I" .null := (((((((((((F_dense.other Wt2 (Or.inr sn55)).ext Et3).keep Kt7 (fun q => ne_v_al (List.mem_singleton.mp q))).other Wt12 (Or.inr sn56)).ext Et13).other Wt19 (Or.inr sn57)).ext Et20).other Wt27 (Or.inr sn58)).other Wt34 (Or.inr sn59)).other Wt42 (Or.inr sn60)).other Wt51 (Or.inr sn61)).ext Et53
  have f63 : Exa Z ht53 v "com/example/arcmill/arcmill/Variable" := (f50.wr Wt51).ext Et53
  obtain ⟨Tt64, ht64, Xt64, et64, Wt64, stt64⟩ := putF Xt53 hx hZ hown (host := "") (Or.inl (hw _ (List.mem_of_getElem? (i := 74) rfl))) Via.refl et53 f62 f63 (Or.inr ⟨(hw _ (List.mem_of_getElem? (i := 75) rfl)), rfl, hnm⟩) (hw _ (List.mem_of_getElem? (i := 19) rfl)) (ty := (.array .int)) (by decide) rfl rfl (g := (mkF m 57 #[.val (.ref v), .val (.ref sr), .val (.int ix), .val (.ref va), .val (.ref tr), .unset] [(.ref dn), (.ref v)])) rfl rfl (hb hby dV_57)
  have Ft64 : Fld Z ht64 v "com/example/arcmill/arcmill/Variable" "dense" "[I" (.ref dn) := f62.same Wt64
  have Nt64 := Fr.snoc Xt64 Nt51 gv
  have Zt64 : n0 ≤ ht64.size := by rw [Wt64.size]; exact Zt53
  have Yt64 : h0.size ≤ ht64.size := by rw [Wt64.size]; exact Yt53
  have f65 : Arv Z ht64 va ka .int (4 : Int32) lv (.int (0 : Int32)) := (f52.ext Et53).other Wt64 ne_va_v
  obtain ⟨Tt66, ht66, kt66, Xt66, et66, Et66, At66, stt66⟩ := newP Xt64 hx hZ (hw _ (List.mem_of_getElem? (i := 13) rfl)) et64 (g := (mkF m 63 #[.val (.ref v), .val (.ref sr), .val (.int ix), .val (.ref va), .val (.ref tr), .unset] [(.int (4 : Int32)), (.ref v)])) rfl (hb hby dV_63) rfl (by decide) (cap := 4) (by decide) (by decide) (by decide) (by decide)
  obtain ⟨pl, gt66⟩ : ∃ z, z = ht64.size := ⟨_, rfl⟩
  rw [← gt66] at At66 stt66
  have ne_dn_v : @Ne Nat dn v := by omega
  have f67 : Arv Z ht64 dn kt53 .int (4 : Int32) [(.int (0 : Int32)), (.int (0 : Int32)), (.int (0 : Int32)), (.int (0 : Int32))] (.int (0 : Int32)) := Vt53.other Wt64 ne_dn_v
  have lt_dn_pl : @LT.lt Nat _ dn pl := Nat.lt_of_lt_of_le f67.lt (Nat.le_of_eq gt66.symm)
  have ge_pl : n0 ≤ pl := Nat.le_trans Zt64 (Nat.le_of_eq gt66.symm)
  have Zt66 : n0 ≤ ht66.size := Nat.le_trans Zt64 Et66.1
  have sh_pl : h0.size ≤ pl := Nat.le_trans Yt64 (Nat.le_of_eq gt66.symm)
  have Yt66 : h0.size ≤ ht66.size := Nat.le_trans Yt64 Et66.1
  have Vt66 : Arv Z ht66 pl kt66 .int (4 : Int32) [(.int (0 : Int32)), (.int (0 : Int32)), (.int (0 : Int32)), (.int (0 : Int32))] (.int (0 : Int32)) := (Arv.new At66 (by decide)).pad (pad_rep [] (.int (0 : Int32)) 4)
  have sn68 : Jvm.RoadKit.slotOf Z "com/example/arcmill/arcmill/Variable" "places" "[I" ≠ Jvm.RoadKit.slotOf Z "com/example/arcmill/arcmill/Variable" "sizeSavedIn" "J" := slot_ne (Or.inr (hw _ (List.mem_of_getElem? (i := 77) rfl))) (Or.inl (hw _ (List.mem_of_getElem? (i := 35) rfl))) (by decide) (t := (.array .int)) (t' := .long) (by decide) (by decide)
  have sn69 : Jvm.RoadKit.slotOf Z "com/example/arcmill/arcmill/Variable" "places" "[I" ≠ Jvm.RoadKit.slotOf Z "com/example/arcmill/arcmill/Variable" "constraints" "Ljava/util/List;" := slot_ne (Or.inr (hw _ (List.mem_of_getElem? (i := 77) rfl))) (Or.inr (hw _ (List.mem_of_getElem? (i := 61) rfl))) (by decide) (t := (.array .int)) (t' := (.object "java/util/List")) (by decide) (by decide)
  have sn70 : Jvm.RoadKit.slotOf Z "com/example/arcmill/arcmill/Variable" "places" "[I" ≠ Jvm.RoadKit.slotOf Z "com/example/arcmill/arcmill/Variable" "constraintIndexes" "[I" := slot_ne (Or.inr (hw _ (List.mem_of_getElem? (i := 77) rfl))) (Or.inl (hw _ (List.mem_of_getElem? (i := 63) rfl))) (by decide) (t := (.array .int)) (t' := (.array .int)) (by decide) (by decide)
  have sn71 : Jvm.RoadKit.slotOf Z "com/example/arcmill/arcmill/Variable" "places" "[I" ≠ Jvm.RoadKit.slotOf Z "com/example/arcmill/arcmill/Variable" "partners" "[Lcom/example/arcmill/arcmill/Variable;" := slot_ne (Or.inr (hw _ (List.mem_of_getElem? (i := 77) rfl))) (Or.inl (hw _ (List.mem_of_getElem? (i := 67) rfl))) (by decide) (t := (.array .int)) (t' := (.array (.object "com/example/arcmill/arcmill/Variable"))) (by decide) (by decide)
  have sn72 : Jvm.RoadKit.slotOf Z "com/example/arcmill/arcmill/Variable" "places" "[I" ≠ Jvm.RoadKit.slotOf Z "com/example/arcmill/arcmill/Variable" "name" "Ljava/lang/String;" := slot_ne (Or.inr (hw _ (List.mem_of_getElem? (i := 77) rfl))) (Or.inr (hw _ (List.mem_of_getElem? (i := 69) rfl))) (by decide) (t := (.array .int)) (t' := (.object "java/lang/String")) (by decide) (by decide)
  have sn73 : Jvm.RoadKit.slotOf Z "com/example/arcmill/arcmill/Variable" "places" "[I" ≠ Jvm.RoadKit.slotOf Z "com/example/arcmill/arcmill/Variable" "index" "I" := slot_ne (Or.inr (hw _ (List.mem_of_getElem? (i := 77) rfl))) (Or.inr (hw _ (List.mem_of_getElem? (i := 71) rfl))) (by decide) (t := (.array .int)) (t' := .int) (by decide) (by decide)
  have sn74 : Jvm.RoadKit.slotOf Z "com/example/arcmill/arcmill/Variable" "places" "[I" ≠ Jvm.RoadKit.slotOf Z "com/example/arcmill/arcmill/Variable" "values" "[I" := slot_ne (Or.inr (hw _ (List.mem_of_getElem? (i := 77) rfl))) (Or.inr (hw _ (List.mem_of_getElem? (i := 73) rfl))) (by decide) (t := (.array .int)) (t' := (.array .int)) (by decide) (by decide)
  have sn75 : Jvm.RoadKit.slotOf Z "com/example/arcmill/arcmill/Variable" "places" "[I" ≠ Jvm.RoadKit.slotOf Z "com/example/arcmill/arcmill/Variable" "dense" "[I" := slot_ne (Or.inr (hw _ (List.mem_of_getElem? (i := 77) rfl))) (Or.inr (hw _ (List.mem_of_getElem? (i := 75) rfl))) (by decide) (t := (.array .int)) (t' := (.array .int)) (by decide) (by decide)
  have f76 : Fld Z ht66 v "com/example/arcmill/arcmill/Variable" "places" "[I" .null := (((((((((((((F_places.other Wt2 (Or.inr sn68)).ext Et3).keep Kt7 (fun q => ne_v_al (List.mem_singleton.mp q))).other Wt12 (Or.inr sn69)).ext Et13).other Wt19 (Or.inr sn70)).ext Et20).other Wt27 (Or.inr sn71)).other Wt34 (Or.inr sn72)).other Wt42 (Or.inr sn73)).other Wt51 (Or.inr sn74)).ext Et53).other Wt64 (Or.inr sn75)).ext Et66
  have f77 : Exa Z ht66 v "com/example/arcmill/arcmill/Variable" := (f63.wr Wt64).ext Et66
  obtain ⟨Tt78, ht78, Xt78, et78, Wt78, stt78⟩ := putF Xt66 hx hZ hown (host := "") (Or.inl (hw _ (List.mem_of_getElem? (i := 76) rfl))) Via.refl et66 f76 f77 (Or.inr ⟨(hw _ (List.mem_of_getElem? (i := 77) rfl)), rfl, hnm⟩) (hw _ (List.mem_of_getElem? (i := 19) rfl)) (ty := (.array .int)) (by decide) rfl rfl (g := (mkF m 65 #[.val (.ref v), .val (.ref sr), .val (.int ix), .val (.ref va), .val (.ref tr), .unset] [(.ref pl), (.ref v)])) rfl rfl (hb hby dV_65)
  have Ft78 : Fld Z ht78 v "com/example/arcmill/arcmill/Variable" "places" "[I" (.ref pl) := f76.same Wt78
  have Nt78 := Fr.snoc Xt78 Nt64 gv
  have Zt78 : n0 ≤ ht78.size := by rw [Wt78.size]; exact Zt66
  have Yt78 : h0.size ≤ ht78.size := by rw [Wt78.size]; exact Yt66
  have f79 : Arv Z ht78 va ka .int (4 : Int32) lv (.int (0 : Int32)) := (f65.ext Et66).other Wt78 ne_va_v
  have sn80 : Jvm.RoadKit.slotOf Z "com/example/arcmill/arcmill/Variable" "dense" "[I" ≠ Jvm.RoadKit.slotOf Z "com/example/arcmill/arcmill/Variable" "places" "[I" := slot_ne (Or.inr (hw _ (List.mem_of_getElem? (i := 75) rfl))) (Or.inr (hw _ (List.mem_of_getElem? (i := 77) rfl))) (by decide) (t := (.array .int)) (t' := (.array .int)) (by decide) (by decide)
  have f81 : Fld Z ht78 v "com/example/arcmill/arcmill/Variable" "dense" "[I" (.ref dn) := (Ft64.ext Et66).other Wt78 (Or.inr sn80)
  obtain ⟨Tt82, Xt82, et82, stt82⟩ := getF Xt78 hx hZ hown (host := "") (Or.inl (hw _ (List.mem_of_getElem? (i := 74) rfl))) Via.refl et78 f81 (g := (mkF m 79 #[.val (.ref v), .val (.ref sr), .val (.int ix), .val (.ref va), .val (.ref tr), .val (.int (0 : Int32))] [(.ref v)])) rfl rfl (hb hby dV_79)
  have f84 : Arv Z ht78 dn kt53 .int (4 : Int32) [(.int (0 : Int32)), (.int (0 : Int32)), (.int (0 : Int32)), (.int (0 : Int32))] (.int (0 : Int32)) := (f67.ext Et66).other Wt78 ne_dn_v
  obtain ⟨Tt83, ht83, Xt83, et83, Wt83, Vt83', stt83⟩ := own_ist Xt82 hx hZ et82 f84 0 (by decide) (by decide) (by decide) (Nat.le_of_ble_eq_true rfl) (g := (mkF m 86 #[.val (.ref v), .val (.ref sr), .val (.int ix), .val (.ref va), .val (.ref tr), .val (.int (0 : Int32))] [(.int (0 : Int32)), (.int (0 : Int32)), (.ref dn)])) rfl rfl (hb hby dV_86)
  have Nt83 := Fr.snoc Xt83 Nt78 ge_dn
  have Zt83 : n0 ≤ ht83.size := by rw [Wt83.size]; exact Zt78
  have Yt83 : h0.size ≤ ht83.size := by rw [Wt83.size]; exact Yt78
  have Vt83 : Arv Z ht83 dn kt53 .int (4 : Int32) [(.int (0 : Int32)), (.int (0 : Int32)), (.int (0 : Int32)), (.int (0 : Int32))] (.int (0 : Int32)) := Vt83'
  have ne_v_dn : @Ne Nat v dn := by omega
  have f85 : Fld Z ht83 v "com/example/arcmill/arcmill/Variable" "places" "[I" (.ref pl) := Ft78.other Wt83 (Or.inl ne_v_dn)
  obtain ⟨Tt86, Xt86, et86, stt86⟩ := getF Xt83 hx hZ hown (host := "") (Or.inl (hw _ (List.mem_of_getElem? (i := 76) rfl))) Via.refl et83 f85 (g := (mkF m 88 #[.val (.ref v), .val (.ref sr), .val (.int ix), .val (.ref va), .val (.ref tr), .val (.int (0 : Int32))] [(.ref v)])) rfl rfl (hb hby dV_88)
  have ne_pl_v : @Ne Nat pl v := by omega
  have ne_pl_dn : @Ne Nat pl dn := by omega
  have f88 : Arv Z ht83 pl kt66 .int (4 : Int32) [(.int (0 : Int32)), (.int (0 : Int32)), (.int (0 : Int32)), (.int (0 : Int32))] (.int (0 : Int32)) := (Vt66.other Wt78 ne_pl_v).other Wt83 ne_pl_dn
  obtain ⟨Tt87, ht87, Xt87, et87, Wt87, Vt87', stt87⟩ := own_ist Xt86 hx hZ et86 f88 0 (by decide) (by decide) (by decide) (Nat.le_of_ble_eq_true rfl) (g := (mkF m 95 #[.val (.ref v), .val (.ref sr), .val (.int ix), .val (.ref va), .val (.ref tr), .val (.int (0 : Int32))] [(.int (0 : Int32)), (.int (0 : Int32)), (.ref pl)])) rfl rfl (hb hby dV_95)
  have Nt87 := Fr.snoc Xt87 Nt83 ge_pl
  have Zt87 : n0 ≤ ht87.size := by rw [Wt87.size]; exact Zt83
  have Yt87 : h0.size ≤ ht87.size := by rw [Wt87.size]; exact Yt83
  have Vt87 : Arv Z ht87 pl kt66 .int (4 : Int32) [(.int (0 : Int32)), (.int (0 : Int32)), (.int (0 : Int32)), (.int (0 : Int32))] (.int (0 : Int32)) := Vt87'
  have ne_va_dn : @Ne Nat va dn := by omega
  have ne_va_pl : @Ne Nat va pl := by omega
  have f89 : Arv Z ht87 va ka .int (4 : Int32) lv (.int (0 : Int32)) := (f79.other Wt83 ne_va_dn).other Wt87 ne_va_pl
  have ne_v_pl : @Ne Nat v pl := by omega
  have f90 : Fld Z ht87 v "com/example/arcmill/arcmill/Variable" "dense" "[I" (.ref dn) := (f81.other Wt83 (Or.inl ne_v_dn)).other Wt87 (Or.inl ne_v_pl)
  obtain ⟨Tt91, Xt91, et91, stt91⟩ := getF Xt87 hx hZ hown (host := "") (Or.inl (hw _ (List.mem_of_getElem? (i := 74) rfl))) Via.refl et87 f90 (g := (mkF m 79 #[.val (.ref v), .val (.ref sr), .val (.int ix), .val (.ref va), .val (.ref tr), .val (.int (1 : Int32))] [(.ref v)])) rfl rfl (hb hby dV_79)
  have ne_dn_pl : @Ne Nat dn pl := by omega
  have f93 : Arv Z ht87 dn kt53 .int (4 : Int32) [(.int (0 : Int32)), (.int (0 : Int32)), (.int (0 : Int32)), (.int (0 : Int32))] (.int (0 : Int32)) := Vt83.other Wt87 ne_dn_pl
  obtain ⟨Tt92, ht92, Xt92, et92, Wt92, Vt92', stt92⟩ := own_ist Xt91 hx hZ et91 f93 1 (by decide) (by decide) (by decide) (Nat.le_of_ble_eq_true rfl) (g := (mkF m 86 #[.val (.ref v), .val (.ref sr), .val (.int ix), .val (.ref va), .val (.ref tr), .val (.int (1 : Int32))] [(.int (1 : Int32)), (.int (1 : Int32)), (.ref dn)])) rfl rfl (hb hby dV_86)
  have Nt92 := Fr.snoc Xt92 Nt87 ge_dn
  have Zt92 : n0 ≤ ht92.size := by rw [Wt92.size]; exact Zt87
  have Yt92 : h0.size ≤ ht92.size := by rw [Wt92.size]; exact Yt87
  have Vt92 : Arv Z ht92 dn kt53 .int (4 : Int32) [(.int (0 : Int32)), (.int (1 : Int32)), (.int (0 : Int32)), (.int (0 : Int32))] (.int (0 : Int32)) := Vt92'
  have f94 : Fld Z ht92 v "com/example/arcmill/arcmill/Variable" "places" "[I" (.ref pl) := (f85.other Wt87 (Or.inl ne_v_pl)).other Wt92 (Or.inl ne_v_dn)
  obtain ⟨Tt95, Xt95, et95, stt95⟩ := getF Xt92 hx hZ hown (host := "") (Or.inl (hw _ (List.mem_of_getElem? (i := 76) rfl))) Via.refl et92 f94 (g := (mkF m 88 #[.val (.ref v), .val (.ref sr), .val (.int ix), .val (.ref va), .val (.ref tr), .val (.int (1 : Int32))] [(.ref v)])) rfl rfl (hb hby dV_88)
  have f97 : Arv Z ht92 pl kt66 .int (4 : Int32) [(.int (0 : Int32)), (.int (0 : Int32)), (.int (0 : Int32)), (.int (0 : Int32))] (.int (0 : Int32)) := Vt87.other Wt92 ne_pl_dn
  obtain ⟨Tt96, ht96, Xt96, et96, Wt96, Vt96', stt96⟩ := own_ist Xt95 hx hZ et95 f97 1 (by decide) (by decide) (by decide) (Nat.le_of_ble_eq_true rfl) (g := (mkF m 95 #[.val (.ref v), .val (.ref sr), .val (.int ix), .val (.ref va), .val (.ref tr), .val (.int (1 : Int32))] [(.int (1 : Int32)), (.int (1 : Int32)), (.ref pl)])) rfl rfl (hb hby dV_95)
  have Nt96 := Fr.snoc Xt96 Nt92 ge_pl
  have Zt96 : n0 ≤ ht96.size := by rw [Wt96.size]; exact Zt92
  have Yt96 : h0.size ≤ ht96.size := by rw [Wt96.size]; exact Yt92
  have Vt96 : Arv Z ht96 pl kt66 .int (4 : Int32) [(.int (0 : Int32)), (.int (1 : Int32)), (.int (0 : Int32)), (.int (0 : Int32))] (.int (0 : Int32)) := Vt96'
  have f98 : Arv Z ht96 va ka .int (4 : Int32) lv (.int (0 : Int32)) := (f89.other Wt92 ne_va_dn).other Wt96 ne_va_pl
  have f99 : Fld Z ht96 v "com/example/arcmill/arcmill/Variable" "dense" "[I" (.ref dn) := (f90.other Wt92 (Or.inl ne_v_dn)).other Wt96 (Or.inl ne_v_pl)
  obtain ⟨Tt100, Xt100, et100, stt100⟩ := getF Xt96 hx hZ hown (host := "") (Or.inl (hw _ (List.mem_of_getElem? (i := 74) rfl))) Via.refl et96 f99 (g := (mkF m 79 #[.val (.ref v), .val (.ref sr), .val (.int ix), .val (.ref va), .val (.ref tr), .val (.int (2 : Int32))] [(.ref v)])) rfl rfl (hb hby dV_79)
  have f102 : Arv Z ht96 dn kt53 .int (4 : Int32) [(.int (0 : Int32)), (.int (1 : Int32)), (.int (0 : Int32)), (.int (0 : Int32))] (.int (0 : Int32)) := Vt92.other Wt96 ne_dn_pl
  obtain ⟨Tt101, ht101, Xt101, et101, Wt101, Vt101', stt101⟩ := own_ist Xt100 hx hZ et100 f102 2 (by decide) (by decide) (by decide) (Nat.le_of_ble_eq_true rfl) (g := (mkF m 86 #[.val (.ref v), .val (.ref sr), .val (.int ix), .val (.ref va), .val (.ref tr), .val (.int (2 : Int32))] [(.int (2 : Int32)), (.int (2 : Int32)), (.ref dn)])) rfl rfl (hb hby dV_86)
  have Nt101 := Fr.snoc Xt101 Nt96 ge_dn
  have Zt101 : n0 ≤ ht101.size := by rw [Wt101.size]; exact Zt96
  have Yt101 : h0.size ≤ ht101.size := by rw [Wt101.size]; exact Yt96
  have Vt101 : Arv Z ht101 dn kt53 .int (4 : Int32) [(.int (0 : Int32)), (.int (1 : Int32)), (.int (2 : Int32)), (.int (0 : Int32))] (.int (0 : Int32)) := Vt101'
  have f103 : Fld Z ht101 v "com/example/arcmill/arcmill/Variable" "places" "[I" (.ref pl) := (f94.other Wt96 (Or.inl ne_v_pl)).other Wt101 (Or.inl ne_v_dn)
  obtain ⟨Tt104, Xt104, et104, stt104⟩ := getF Xt101 hx hZ hown (host := "") (Or.inl (hw _ (List.mem_of_getElem? (i := 76) rfl))) Via.refl et101 f103 (g := (mkF m 88 #[.val (.ref v), .val (.ref sr), .val (.int ix), .val (.ref va), .val (.ref tr), .val (.int (2 : Int32))] [(.ref v)])) rfl rfl (hb hby dV_88)
  have f106 : Arv Z ht101 pl kt66 .int (4 : Int32) [(.int (0 : Int32)), (.int (1 : Int32)), (.int (0 : Int32)), (.int (0 : Int32))] (.int (0 : Int32)) := Vt96.other Wt101 ne_pl_dn
  obtain ⟨Tt105, ht105, Xt105, et105, Wt105, Vt105', stt105⟩ := own_ist Xt104 hx hZ et104 f106 2 (by decide) (by decide) (by decide) (Nat.le_of_ble_eq_true rfl) (g := (mkF m 95 #[.val (.ref v), .val (.ref sr), .val (.int ix), .val (.ref va), .val (.ref tr), .val (.int (2 : Int32))] [(.int (2 : Int32)), (.int (2 : Int32)), (.ref pl)])) rfl rfl (hb hby dV_95)
  have Nt105 := Fr.snoc Xt105 Nt101 ge_pl
  have Zt105 : n0 ≤ ht105.size := by rw [Wt105.size]; exact Zt101
  have Yt105 : h0.size ≤ ht105.size := by rw [Wt105.size]; exact Yt101
  have Vt105 : Arv Z ht105 pl kt66 .int (4 : Int32) [(.int (0 : Int32)), (.int (1 : Int32)), (.int (2 : Int32)), (.int (0 : Int32))] (.int (0 : Int32)) := Vt105'
  have f107 : Arv Z ht105 va ka .int (4 : Int32) lv (.int (0 : Int32)) := (f98.other Wt101 ne_va_dn).other Wt105 ne_va_pl
  have f108 : Fld Z ht105 v "com/example/arcmill/arcmill/Variable" "dense" "[I" (.ref dn) := (f99.other Wt101 (Or.inl ne_v_dn)).other Wt105 (Or.inl ne_v_pl)
  obtain ⟨Tt109, Xt109, et109, stt109⟩ := getF Xt105 hx hZ hown (host := "") (Or.inl (hw _ (List.mem_of_getElem? (i := 74) rfl))) Via.refl et105 f108 (g := (mkF m 79 #[.val (.ref v), .val (.ref sr), .val (.int ix), .val (.ref va), .val (.ref tr), .val (.int (3 : Int32))] [(.ref v)])) rfl rfl (hb hby dV_79)
  have f111 : Arv Z ht105 dn kt53 .int (4 : Int32) [(.int (0 : Int32)), (.int (1 : Int32)), (.int (2 : Int32)), (.int (0 : Int32))] (.int (0 : Int32)) := Vt101.other Wt105 ne_dn_pl
  obtain ⟨Tt110, ht110, Xt110, et110, Wt110, Vt110', stt110⟩ := own_ist Xt109 hx hZ et109 f111 3 (by decide) (by decide) (by decide) (Nat.le_of_ble_eq_true rfl) (g := (mkF m 86 #[.val (.ref v), .val (.ref sr), .val (.int ix), .val (.ref va), .val (.ref tr), .val (.int (3 : Int32))] [(.int (3 : Int32)), (.int (3 : Int32)), (.ref dn)])) rfl rfl (hb hby dV_86)
  have Nt110 := Fr.snoc Xt110 Nt105 ge_dn
  have Zt110 : n0 ≤ ht110.size := by rw [Wt110.size]; exact Zt105
  have Yt110 : h0.size ≤ ht110.size := by rw [Wt110.size]; exact Yt105
  have Vt110 : Arv Z ht110 dn kt53 .int (4 : Int32) [(.int (0 : Int32)), (.int (1 : Int32)), (.int (2 : Int32)), (.int (3 : Int32))] (.int (0 : Int32)) := Vt110'
  have f112 : Fld Z ht110 v "com/example/arcmill/arcmill/Variable" "places" "[I" (.ref pl) := (f103.other Wt105 (Or.inl ne_v_pl)).other Wt110 (Or.inl ne_v_dn)
  obtain ⟨Tt113, Xt113, et113, stt113⟩ := getF Xt110 hx hZ hown (host := "") (Or.inl (hw _ (List.mem_of_getElem? (i := 76) rfl))) Via.refl et110 f112 (g := (mkF m 88 #[.val (.ref v), .val (.ref sr), .val (.int ix), .val (.ref va), .val (.ref tr), .val (.int (3 : Int32))] [(.ref v)])) rfl rfl (hb hby dV_88)
  have f115 : Arv Z ht110 pl kt66 .int (4 : Int32) [(.int (0 : Int32)), (.int (1 : Int32)), (.int (2 : Int32)), (.int (0 : Int32))] (.int (0 : Int32)) := Vt105.other Wt110 ne_pl_dn
  obtain ⟨Tt114, ht114, Xt114, et114, Wt114, Vt114', stt114⟩ := own_ist Xt113 hx hZ et113 f115 3 (by decide) (by decide) (by decide) (Nat.le_of_ble_eq_true rfl) (g := (mkF m 95 #[.val (.ref v), .val (.ref sr), .val (.int ix), .val (.ref va), .val (.ref tr), .val (.int (3 : Int32))] [(.int (3 : Int32)), (.int (3 : Int32)), (.ref pl)])) rfl rfl (hb hby dV_95)
  have Nt114 := Fr.snoc Xt114 Nt110 ge_pl
  have Zt114 : n0 ≤ ht114.size := by rw [Wt114.size]; exact Zt110
  have Yt114 : h0.size ≤ ht114.size := by rw [Wt114.size]; exact Yt110
  have Vt114 : Arv Z ht114 pl kt66 .int (4 : Int32) [(.int (0 : Int32)), (.int (1 : Int32)), (.int (2 : Int32)), (.int (3 : Int32))] (.int (0 : Int32)) := Vt114'
  have f116 : Arv Z ht114 va ka .int (4 : Int32) lv (.int (0 : Int32)) := (f107.other Wt110 ne_va_dn).other Wt114 ne_va_pl
  obtain ⟨Tt117, ht117, kt117, Xt117, et117, Et117, At117, stt117⟩ := newP Xt114 hx hZ (hw _ (List.mem_of_getElem? (i := 78) rfl)) et114 (g := (mkF m 113 #[.val (.ref v), .val (.ref sr), .val (.int ix), .val (.ref va), .val (.ref tr), .val (.int (4 : Int32))] [(.int (1 : Int32)), (.ref v)])) rfl (hb hby dV_113) rfl (by decide) (cap := 1) (by decide) (by decide) (by decide) (by decide)
  obtain ⟨pr, gt117⟩ : ∃ z, z = ht114.size := ⟨_, rfl⟩
  rw [← gt117] at At117 stt117
  have lt_pl_pr : @LT.lt Nat _ pl pr := Nat.lt_of_lt_of_le Vt114.lt (Nat.le_of_eq gt117.symm)
  have ge_pr : n0 ≤ pr := Nat.le_trans Zt114 (Nat.le_of_eq gt117.symm)
  have Zt117 : n0 ≤ ht117.size := Nat.le_trans Zt114 Et117.1
  have sh_pr : h0.size ≤ pr := Nat.le_trans Yt114 (Nat.le_of_eq gt117.symm)
  have Yt117 : h0.size ≤ ht117.size := Nat.le_trans Yt114 Et117.1
  have Vt117 : Arv Z ht117 pr kt117 .long (1 : Int32) [(.long (0 : Int64))] (.long (0 : Int64)) := (Arv.new At117 (by decide)).pad (pad_rep [] (.long (0 : Int64)) 1)
  have sn118 : Jvm.RoadKit.slotOf Z "com/example/arcmill/arcmill/Variable" "present" "[J" ≠ Jvm.RoadKit.slotOf Z "com/example/arcmill/arcmill/Variable" "sizeSavedIn" "J" := slot_ne (Or.inr (hw _ (List.mem_of_getElem? (i := 80) rfl))) (Or.inl (hw _ (List.mem_of_getElem? (i := 35) rfl))) (by decide) (t := (.array .long)) (t' := .long) (by decide) (by decide)
  have sn119 : Jvm.RoadKit.slotOf Z "com/example/arcmill/arcmill/Variable" "present" "[J" ≠ Jvm.RoadKit.slotOf Z "com/example/arcmill/arcmill/Variable" "constraints" "Ljava/util/List;" := slot_ne (Or.inr (hw _ (List.mem_of_getElem? (i := 80) rfl))) (Or.inr (hw _ (List.mem_of_getElem? (i := 61) rfl))) (by decide) (t := (.array .long)) (t' := (.object "java/util/List")) (by decide) (by decide)
  have sn120 : Jvm.RoadKit.slotOf Z "com/example/arcmill/arcmill/Variable" "present" "[J" ≠ Jvm.RoadKit.slotOf Z "com/example/arcmill/arcmill/Variable" "constraintIndexes" "[I" := slot_ne (Or.inr (hw _ (List.mem_of_getElem? (i := 80) rfl))) (Or.inl (hw _ (List.mem_of_getElem? (i := 63) rfl))) (by decide) (t := (.array .long)) (t' := (.array .int)) (by decide) (by decide)
  have sn121 : Jvm.RoadKit.slotOf Z "com/example/arcmill/arcmill/Variable" "present" "[J" ≠ Jvm.RoadKit.slotOf Z "com/example/arcmill/arcmill/Variable" "partners" "[Lcom/example/arcmill/arcmill/Variable;" := slot_ne (Or.inr (hw _ (List.mem_of_getElem? (i := 80) rfl))) (Or.inl (hw _ (List.mem_of_getElem? (i := 67) rfl))) (by decide) (t := (.array .long)) (t' := (.array (.object "com/example/arcmill/arcmill/Variable"))) (by decide) (by decide)
  have sn122 : Jvm.RoadKit.slotOf Z "com/example/arcmill/arcmill/Variable" "present" "[J" ≠ Jvm.RoadKit.slotOf Z "com/example/arcmill/arcmill/Variable" "name" "Ljava/lang/String;" := slot_ne (Or.inr (hw _ (List.mem_of_getElem? (i := 80) rfl))) (Or.inr (hw _ (List.mem_of_getElem? (i := 69) rfl))) (by decide) (t := (.array .long)) (t' := (.object "java/lang/String")) (by decide) (by decide)
  have sn123 : Jvm.RoadKit.slotOf Z "com/example/arcmill/arcmill/Variable" "present" "[J" ≠ Jvm.RoadKit.slotOf Z "com/example/arcmill/arcmill/Variable" "index" "I" := slot_ne (Or.inr (hw _ (List.mem_of_getElem? (i := 80) rfl))) (Or.inr (hw _ (List.mem_of_getElem? (i := 71) rfl))) (by decide) (t := (.array .long)) (t' := .int) (by decide) (by decide)
  have sn124 : Jvm.RoadKit.slotOf Z "com/example/arcmill/arcmill/Variable" "present" "[J" ≠ Jvm.RoadKit.slotOf Z "com/example/arcmill/arcmill/Variable" "values" "[I" := slot_ne (Or.inr (hw _ (List.mem_of_getElem? (i := 80) rfl))) (Or.inr (hw _ (List.mem_of_getElem? (i := 73) rfl))) (by decide) (t := (.array .long)) (t' := (.array .int)) (by decide) (by decide)
  have sn125 : Jvm.RoadKit.slotOf Z "com/example/arcmill/arcmill/Variable" "present" "[J" ≠ Jvm.RoadKit.slotOf Z "com/example/arcmill/arcmill/Variable" "dense" "[I" := slot_ne (Or.inr (hw _ (List.mem_of_getElem? (i := 80) rfl))) (Or.inr (hw _ (List.mem_of_getElem? (i := 75) rfl))) (by decide) (t := (.array .long)) (t' := (.array .int)) (by decide) (by decide)
  have sn126 : Jvm.RoadKit.slotOf Z "com/example/arcmill/arcmill/Variable" "present" "[J" ≠ Jvm.RoadKit.slotOf Z "com/example/arcmill/arcmill/Variable" "places" "[I" := slot_ne (Or.inr (hw _ (List.mem_of_getElem? (i := 80) rfl))) (Or.inr (hw _ (List.mem_of_getElem? (i := 77) rfl))) (by decide) (t := (.array .long)) (t' := (.array .int)) (by decide) (by decide)
  have f127 : Fld Z ht117 v "com/example/arcmill/arcmill/Variable" "present" "[J" .null := (((((((((((((((((((((((F_present.other Wt2 (Or.inr sn118)).ext Et3).keep Kt7 (fun q => ne_v_al (List.mem_singleton.mp q))).other Wt12 (Or.inr sn119)).ext Et13).other Wt19 (Or.inr sn120)).ext Et20).other Wt27 (Or.inr sn121)).other Wt34 (Or.inr sn122)).other Wt42 (Or.inr sn123)).other Wt51 (Or.inr sn124)).ext Et53).other Wt64 (Or.inr sn125)).ext Et66).other Wt78 (Or.inr sn126)).other Wt83 (Or.inl ne_v_dn)).other Wt87 (Or.inl ne_v_pl)).other Wt92 (Or.inl ne_v_dn)).other Wt96 (Or.inl ne_v_pl)).other Wt101 (Or.inl ne_v_dn)).other Wt105 (Or.inl ne_v_pl)).other Wt110 (Or.inl ne_v_dn)).other Wt114 (Or.inl ne_v_pl)).ext Et117
  have f128 : Exa Z ht117 v "com/example/arcmill/arcmill/Variable" := (((((((((f77.wr Wt78).wr Wt83).wr Wt87).wr Wt92).wr Wt96).wr Wt101).wr Wt105).wr Wt110).wr Wt114).ext Et117
  obtain ⟨Tt129, ht129, Xt129, et129, Wt129, stt129⟩ := putF Xt117 hx hZ hown (host := "") (Or.inl (hw _ (List.mem_of_getElem? (i := 79) rfl))) Via.refl et117 f127 f128 (Or.inr ⟨(hw _ (List.mem_of_getElem? (i := 80) rfl)), rfl, hnm⟩) (hw _ (List.mem_of_getElem? (i := 19) rfl)) (ty := (.array .long)) (by decide) rfl rfl (g := (mkF m 115 #[.val (.ref v), .val (.ref sr), .val (.int ix), .val (.ref va), .val (.ref tr), .val (.int (4 : Int32))] [(.ref pr), (.ref v)])) rfl rfl (hb hby dV_115)
  have Ft129 : Fld Z ht129 v "com/example/arcmill/arcmill/Variable" "present" "[J" (.ref pr) := f127.same Wt129
  have Nt129 := Fr.snoc Xt129 Nt114 gv
  have Zt129 : n0 ≤ ht129.size := by rw [Wt129.size]; exact Zt117
  have Yt129 : h0.size ≤ ht129.size := by rw [Wt129.size]; exact Yt117
  have f130 : Arv Z ht129 va ka .int (4 : Int32) lv (.int (0 : Int32)) := (f116.ext Et117).other Wt129 ne_va_v
  obtain ⟨Tt131, Xt131, et131, stt131⟩ := getF Xt129 hx hZ hown (host := "") (Or.inl (hw _ (List.mem_of_getElem? (i := 79) rfl))) Via.refl et129 Ft129 (g := (mkF m 129 #[.val (.ref v), .val (.ref sr), .val (.int ix), .val (.ref va), .val (.ref tr), .val (.int (0 : Int32))] [(.ref v)])) rfl rfl (hb hby dV_129)
  have ne_pr_v : @Ne Nat pr v := by omega
  have f132 : Arv Z ht129 pr kt117 .long (1 : Int32) [(.long (0 : Int64))] (.long (0 : Int64)) := Vt117.other Wt129 ne_pr_v
  obtain ⟨Tt133, ht133, Xt133, et133, Wt133, Vt133', stt133⟩ := own_lst Xt131 hx hZ et131 f132 0 (by decide) (by decide) (by decide) (Nat.le_of_ble_eq_true rfl) (g := (mkF m 144 #[.val (.ref v), .val (.ref sr), .val (.int ix), .val (.ref va), .val (.ref tr), .val (.int (0 : Int32))] [(.long ((0 : Int64) ||| ((1 : Int64) <<< ((0 : Int32) &&& 0x3f).toInt64))), (.int (0 : Int32)), (.ref pr)])) rfl rfl (hb hby dV_144)
  have Nt133 := Fr.snoc Xt133 Nt129 ge_pr
  have Zt133 : n0 ≤ ht133.size := by rw [Wt133.size]; exact Zt129
  have Yt133 : h0.size ≤ ht133.size := by rw [Wt133.size]; exact Yt129
  obtain ⟨zt133, Vt133⟩ : ∃ z : Int64, Arv Z ht133 pr kt117 .long (1 : Int32) [(.long z)] (.long (0 : Int64)) := ⟨_, Vt133'⟩
  have ne_va_pr : @Ne Nat va pr := by omega
  have f134 : Arv Z ht133 va ka .int (4 : Int32) lv (.int (0 : Int32)) := f130.other Wt133 ne_va_pr
  have ne_v_pr : @Ne Nat v pr := by omega
  have f135 : Fld Z ht133 v "com/example/arcmill/arcmill/Variable" "present" "[J" (.ref pr) := Ft129.other Wt133 (Or.inl ne_v_pr)
  obtain ⟨Tt136, Xt136, et136, stt136⟩ := getF Xt133 hx hZ hown (host := "") (Or.inl (hw _ (List.mem_of_getElem? (i := 79) rfl))) Via.refl et133 f135 (g := (mkF m 129 #[.val (.ref v), .val (.ref sr), .val (.int ix), .val (.ref va), .val (.ref tr), .val (.int (1 : Int32))] [(.ref v)])) rfl rfl (hb hby dV_129)
  obtain ⟨Tt137, ht137, Xt137, et137, Wt137, Vt137', stt137⟩ := own_lst Xt136 hx hZ et136 Vt133 0 (by decide) (by decide) (by decide) (Nat.le_of_ble_eq_true rfl) (g := (mkF m 144 #[.val (.ref v), .val (.ref sr), .val (.int ix), .val (.ref va), .val (.ref tr), .val (.int (1 : Int32))] [(.long (zt133 ||| ((1 : Int64) <<< ((1 : Int32) &&& 0x3f).toInt64))), (.int (0 : Int32)), (.ref pr)])) rfl rfl (hb hby dV_144)
  have Nt137 := Fr.snoc Xt137 Nt133 ge_pr
  have Zt137 : n0 ≤ ht137.size := by rw [Wt137.size]; exact Zt133
  have Yt137 : h0.size ≤ ht137.size := by rw [Wt137.size]; exact Yt133
  obtain ⟨zt137, Vt137⟩ : ∃ z : Int64, Arv Z ht137 pr kt117 .long (1 : Int32) [(.long z)] (.long (0 : Int64)) := ⟨_, Vt137'⟩
  have f138 : Arv Z ht137 va ka .int (4 : Int32) lv (.int (0 : Int32)) := f134.other Wt137 ne_va_pr
  have f139 : Fld Z ht137 v "com/example/arcmill/arcmill/Variable" "present" "[J" (.ref pr) := f135.other Wt137 (Or.inl ne_v_pr)
  obtain ⟨Tt140, Xt140, et140, stt140⟩ := getF Xt137 hx hZ hown (host := "") (Or.inl (hw _ (List.mem_of_getElem? (i := 79) rfl))) Via.refl et137 f139 (g := (mkF m 129 #[.val (.ref v), .val (.ref sr), .val (.int ix), .val (.ref va), .val (.ref tr), .val (.int (2 : Int32))] [(.ref v)])) rfl rfl (hb hby dV_129)
  obtain ⟨Tt141, ht141, Xt141, et141, Wt141, Vt141', stt141⟩ := own_lst Xt140 hx hZ et140 Vt137 0 (by decide) (by decide) (by decide) (Nat.le_of_ble_eq_true rfl) (g := (mkF m 144 #[.val (.ref v), .val (.ref sr), .val (.int ix), .val (.ref va), .val (.ref tr), .val (.int (2 : Int32))] [(.long (zt137 ||| ((1 : Int64) <<< ((2 : Int32) &&& 0x3f).toInt64))), (.int (0 : Int32)), (.ref pr)])) rfl rfl (hb hby dV_144)
  have Nt141 := Fr.snoc Xt141 Nt137 ge_pr
  have Zt141 : n0 ≤ ht141.size := by rw [Wt141.size]; exact Zt137
  have Yt141 : h0.size ≤ ht141.size := by rw [Wt141.size]; exact Yt137
  obtain ⟨zt141, Vt141⟩ : ∃ z : Int64, Arv Z ht141 pr kt117 .long (1 : Int32) [(.long z)] (.long (0 : Int64)) := ⟨_, Vt141'⟩
  have f142 : Arv Z ht141 va ka .int (4 : Int32) lv (.int (0 : Int32)) := f138.other Wt141 ne_va_pr
  have f143 : Fld Z ht141 v "com/example/arcmill/arcmill/Variable" "present" "[J" (.ref pr) := f139.other Wt141 (Or.inl ne_v_pr)
  obtain ⟨Tt144, Xt144, et144, stt144⟩ := getF Xt141 hx hZ hown (host := "") (Or.inl (hw _ (List.mem_of_getElem? (i := 79) rfl))) Via.refl et141 f143 (g := (mkF m 129 #[.val (.ref v), .val (.ref sr), .val (.int ix), .val (.ref va), .val (.ref tr), .val (.int (3 : Int32))] [(.ref v)])) rfl rfl (hb hby dV_129)
  obtain ⟨Tt145, ht145, Xt145, et145, Wt145, Vt145', stt145⟩ := own_lst Xt144 hx hZ et144 Vt141 0 (by decide) (by decide) (by decide) (Nat.le_of_ble_eq_true rfl) (g := (mkF m 144 #[.val (.ref v), .val (.ref sr), .val (.int ix), .val (.ref va), .val (.ref tr), .val (.int (3 : Int32))] [(.long (zt141 ||| ((1 : Int64) <<< ((3 : Int32) &&& 0x3f).toInt64))), (.int (0 : Int32)), (.ref pr)])) rfl rfl (hb hby dV_144)
  have Nt145 := Fr.snoc Xt145 Nt141 ge_pr
  have Zt145 : n0 ≤ ht145.size := by rw [Wt145.size]; exact Zt141
  have Yt145 : h0.size ≤ ht145.size := by rw [Wt145.size]; exact Yt141
  obtain ⟨zt145, Vt145⟩ : ∃ z : Int64, Arv Z ht145 pr kt117 .long (1 : Int32) [(.long z)] (.long (0 : Int64)) := ⟨_, Vt145'⟩
  have f146 : Arv Z ht145 va ka .int (4 : Int32) lv (.int (0 : Int32)) := f142.other Wt145 ne_va_pr
  have sn147 : Jvm.RoadKit.slotOf Z "com/example/arcmill/arcmill/Variable" "trail" "Lcom/example/arcmill/arcmill/Trail;" ≠ Jvm.RoadKit.slotOf Z "com/example/arcmill/arcmill/Variable" "sizeSavedIn" "J" := slot_ne (Or.inr (hw _ (List.mem_of_getElem? (i := 82) rfl))) (Or.inl (hw _ (List.mem_of_getElem? (i := 35) rfl))) (by decide) (t := (.object "com/example/arcmill/arcmill/Trail")) (t' := .long) (by decide) (by decide)
  have sn148 : Jvm.RoadKit.slotOf Z "com/example/arcmill/arcmill/Variable" "trail" "Lcom/example/arcmill/arcmill/Trail;" ≠ Jvm.RoadKit.slotOf Z "com/example/arcmill/arcmill/Variable" "constraints" "Ljava/util/List;" := slot_ne (Or.inr (hw _ (List.mem_of_getElem? (i := 82) rfl))) (Or.inr (hw _ (List.mem_of_getElem? (i := 61) rfl))) (by decide) (t := (.object "com/example/arcmill/arcmill/Trail")) (t' := (.object "java/util/List")) (by decide) (by decide)
  have sn149 : Jvm.RoadKit.slotOf Z "com/example/arcmill/arcmill/Variable" "trail" "Lcom/example/arcmill/arcmill/Trail;" ≠ Jvm.RoadKit.slotOf Z "com/example/arcmill/arcmill/Variable" "constraintIndexes" "[I" := slot_ne (Or.inr (hw _ (List.mem_of_getElem? (i := 82) rfl))) (Or.inl (hw _ (List.mem_of_getElem? (i := 63) rfl))) (by decide) (t := (.object "com/example/arcmill/arcmill/Trail")) (t' := (.array .int)) (by decide) (by decide)
  have sn150 : Jvm.RoadKit.slotOf Z "com/example/arcmill/arcmill/Variable" "trail" "Lcom/example/arcmill/arcmill/Trail;" ≠ Jvm.RoadKit.slotOf Z "com/example/arcmill/arcmill/Variable" "partners" "[Lcom/example/arcmill/arcmill/Variable;" := slot_ne (Or.inr (hw _ (List.mem_of_getElem? (i := 82) rfl))) (Or.inl (hw _ (List.mem_of_getElem? (i := 67) rfl))) (by decide) (t := (.object "com/example/arcmill/arcmill/Trail")) (t' := (.array (.object "com/example/arcmill/arcmill/Variable"))) (by decide) (by decide)
  have sn151 : Jvm.RoadKit.slotOf Z "com/example/arcmill/arcmill/Variable" "trail" "Lcom/example/arcmill/arcmill/Trail;" ≠ Jvm.RoadKit.slotOf Z "com/example/arcmill/arcmill/Variable" "name" "Ljava/lang/String;" := slot_ne (Or.inr (hw _ (List.mem_of_getElem? (i := 82) rfl))) (Or.inr (hw _ (List.mem_of_getElem? (i := 69) rfl))) (by decide) (t := (.object "com/example/arcmill/arcmill/Trail")) (t' := (.object "java/lang/String")) (by decide) (by decide)
  have sn152 : Jvm.RoadKit.slotOf Z "com/example/arcmill/arcmill/Variable" "trail" "Lcom/example/arcmill/arcmill/Trail;" ≠ Jvm.RoadKit.slotOf Z "com/example/arcmill/arcmill/Variable" "index" "I" := slot_ne (Or.inr (hw _ (List.mem_of_getElem? (i := 82) rfl))) (Or.inr (hw _ (List.mem_of_getElem? (i := 71) rfl))) (by decide) (t := (.object "com/example/arcmill/arcmill/Trail")) (t' := .int) (by decide) (by decide)
  have sn153 : Jvm.RoadKit.slotOf Z "com/example/arcmill/arcmill/Variable" "trail" "Lcom/example/arcmill/arcmill/Trail;" ≠ Jvm.RoadKit.slotOf Z "com/example/arcmill/arcmill/Variable" "values" "[I" := slot_ne (Or.inr (hw _ (List.mem_of_getElem? (i := 82) rfl))) (Or.inr (hw _ (List.mem_of_getElem? (i := 73) rfl))) (by decide) (t := (.object "com/example/arcmill/arcmill/Trail")) (t' := (.array .int)) (by decide) (by decide)
  have sn154 : Jvm.RoadKit.slotOf Z "com/example/arcmill/arcmill/Variable" "trail" "Lcom/example/arcmill/arcmill/Trail;" ≠ Jvm.RoadKit.slotOf Z "com/example/arcmill/arcmill/Variable" "dense" "[I" := slot_ne (Or.inr (hw _ (List.mem_of_getElem? (i := 82) rfl))) (Or.inr (hw _ (List.mem_of_getElem? (i := 75) rfl))) (by decide) (t := (.object "com/example/arcmill/arcmill/Trail")) (t' := (.array .int)) (by decide) (by decide)
  have sn155 : Jvm.RoadKit.slotOf Z "com/example/arcmill/arcmill/Variable" "trail" "Lcom/example/arcmill/arcmill/Trail;" ≠ Jvm.RoadKit.slotOf Z "com/example/arcmill/arcmill/Variable" "places" "[I" := slot_ne (Or.inr (hw _ (List.mem_of_getElem? (i := 82) rfl))) (Or.inr (hw _ (List.mem_of_getElem? (i := 77) rfl))) (by decide) (t := (.object "com/example/arcmill/arcmill/Trail")) (t' := (.array .int)) (by decide) (by decide)
  have sn156 : Jvm.RoadKit.slotOf Z "com/example/arcmill/arcmill/Variable" "trail" "Lcom/example/arcmill/arcmill/Trail;" ≠ Jvm.RoadKit.slotOf Z "com/example/arcmill/arcmill/Variable" "present" "[J" := slot_ne (Or.inr (hw _ (List.mem_of_getElem? (i := 82) rfl))) (Or.inr (hw _ (List.mem_of_getElem? (i := 80) rfl))) (by decide) (t := (.object "com/example/arcmill/arcmill/Trail")) (t' := (.array .long)) (by decide) (by decide)
  have f157 : Fld Z ht145 v "com/example/arcmill/arcmill/Variable" "trail" "Lcom/example/arcmill/arcmill/Trail;" .null := ((((((((((((((((((((((((((((F_trail.other Wt2 (Or.inr sn147)).ext Et3).keep Kt7 (fun q => ne_v_al (List.mem_singleton.mp q))).other Wt12 (Or.inr sn148)).ext Et13).other Wt19 (Or.inr sn149)).ext Et20).other Wt27 (Or.inr sn150)).other Wt34 (Or.inr sn151)).other Wt42 (Or.inr sn152)).other Wt51 (Or.inr sn153)).ext Et53).other Wt64 (Or.inr sn154)).ext Et66).other Wt78 (Or.inr sn155)).other Wt83 (Or.inl ne_v_dn)).other Wt87 (Or.inl ne_v_pl)).other Wt92 (Or.inl ne_v_dn)).other Wt96 (Or.inl ne_v_pl)).other Wt101 (Or.inl ne_v_dn)).other Wt105 (Or.inl ne_v_pl)).other Wt110 (Or.inl ne_v_dn)).other Wt114 (Or.inl ne_v_pl)).ext Et117).other Wt129 (Or.inr sn156)).other Wt133 (Or.inl ne_v_pr)).other Wt137 (Or.inl ne_v_pr)).other Wt141 (Or.inl ne_v_pr)).other Wt145 (Or.inl ne_v_pr)
  have f158 : Exa Z ht145 v "com/example/arcmill/arcmill/Variable" := ((((f128.wr Wt129).wr Wt133).wr Wt137).wr Wt141).wr Wt145
  obtain ⟨Tt159, ht159, Xt159, et159, Wt159, stt159⟩ := putF Xt145 hx hZ hown (host := "") (Or.inl (hw _ (List.mem_of_getElem? (i := 81) rfl))) Via.refl et145 f157 f158 (Or.inr ⟨(hw _ (List.mem_of_getElem? (i := 82) rfl)), rfl, hnm⟩) (hw _ (List.mem_of_getElem? (i := 19) rfl)) (ty := (.object "com/example/arcmill/arcmill/Trail")) (by decide) rfl rfl (g := (mkF m 154 #[.val (.ref v), .val (.ref sr), .val (.int ix), .val (.ref va), .val (.ref tr), .val (.int (4 : Int32))] [(.ref tr), (.ref v)])) rfl rfl (hb hby dV_154)
  have Ft159 : Fld Z ht159 v "com/example/arcmill/arcmill/Variable" "trail" "Lcom/example/arcmill/arcmill/Trail;" (.ref tr) := f157.same Wt159
  have Nt159 := Fr.snoc Xt159 Nt145 gv
  have Zt159 : n0 ≤ ht159.size := by rw [Wt159.size]; exact Zt145
  have Yt159 : h0.size ≤ ht159.size := by rw [Wt159.size]; exact Yt145
  have f160 : Arv Z ht159 va ka .int (4 : Int32) lv (.int (0 : Int32)) := f146.other Wt159 ne_va_v
  have sn161 : Jvm.RoadKit.slotOf Z "com/example/arcmill/arcmill/Variable" "size" "I" ≠ Jvm.RoadKit.slotOf Z "com/example/arcmill/arcmill/Variable" "sizeSavedIn" "J" := slot_ne (Or.inl (hw _ (List.mem_of_getElem? (i := 84) rfl))) (Or.inl (hw _ (List.mem_of_getElem? (i := 35) rfl))) (by decide) (t := .int) (t' := .long) (by decide) (by decide)
  have sn162 : Jvm.RoadKit.slotOf Z "com/example/arcmill/arcmill/Variable" "size" "I" ≠ Jvm.RoadKit.slotOf Z "com/example/arcmill/arcmill/Variable" "constraints" "Ljava/util/List;" := slot_ne (Or.inl (hw _ (List.mem_of_getElem? (i := 84) rfl))) (Or.inr (hw _ (List.mem_of_getElem? (i := 61) rfl))) (by decide) (t := .int) (t' := (.object "java/util/List")) (by decide) (by decide)
  have sn163 : Jvm.RoadKit.slotOf Z "com/example/arcmill/arcmill/Variable" "size" "I" ≠ Jvm.RoadKit.slotOf Z "com/example/arcmill/arcmill/Variable" "constraintIndexes" "[I" := slot_ne (Or.inl (hw _ (List.mem_of_getElem? (i := 84) rfl))) (Or.inl (hw _ (List.mem_of_getElem? (i := 63) rfl))) (by decide) (t := .int) (t' := (.array .int)) (by decide) (by decide)
  have sn164 : Jvm.RoadKit.slotOf Z "com/example/arcmill/arcmill/Variable" "size" "I" ≠ Jvm.RoadKit.slotOf Z "com/example/arcmill/arcmill/Variable" "partners" "[Lcom/example/arcmill/arcmill/Variable;" := slot_ne (Or.inl (hw _ (List.mem_of_getElem? (i := 84) rfl))) (Or.inl (hw _ (List.mem_of_getElem? (i := 67) rfl))) (by decide) (t := .int) (t' := (.array (.object "com/example/arcmill/arcmill/Variable"))) (by decide) (by decide)
  have sn165 : Jvm.RoadKit.slotOf Z "com/example/arcmill/arcmill/Variable" "size" "I" ≠ Jvm.RoadKit.slotOf Z "com/example/arcmill/arcmill/Variable" "name" "Ljava/lang/String;" := slot_ne (Or.inl (hw _ (List.mem_of_getElem? (i := 84) rfl))) (Or.inr (hw _ (List.mem_of_getElem? (i := 69) rfl))) (by decide) (t := .int) (t' := (.object "java/lang/String")) (by decide) (by decide)
  have sn166 : Jvm.RoadKit.slotOf Z "com/example/arcmill/arcmill/Variable" "size" "I" ≠ Jvm.RoadKit.slotOf Z "com/example/arcmill/arcmill/Variable" "index" "I" := slot_ne (Or.inl (hw _ (List.mem_of_getElem? (i := 84) rfl))) (Or.inr (hw _ (List.mem_of_getElem? (i := 71) rfl))) (by decide) (t := .int) (t' := .int) (by decide) (by decide)
  have sn167 : Jvm.RoadKit.slotOf Z "com/example/arcmill/arcmill/Variable" "size" "I" ≠ Jvm.RoadKit.slotOf Z "com/example/arcmill/arcmill/Variable" "values" "[I" := slot_ne (Or.inl (hw _ (List.mem_of_getElem? (i := 84) rfl))) (Or.inr (hw _ (List.mem_of_getElem? (i := 73) rfl))) (by decide) (t := .int) (t' := (.array .int)) (by decide) (by decide)
  have sn168 : Jvm.RoadKit.slotOf Z "com/example/arcmill/arcmill/Variable" "size" "I" ≠ Jvm.RoadKit.slotOf Z "com/example/arcmill/arcmill/Variable" "dense" "[I" := slot_ne (Or.inl (hw _ (List.mem_of_getElem? (i := 84) rfl))) (Or.inr (hw _ (List.mem_of_getElem? (i := 75) rfl))) (by decide) (t := .int) (t' := (.array .int)) (by decide) (by decide)
  have sn169 : Jvm.RoadKit.slotOf Z "com/example/arcmill/arcmill/Variable" "size" "I" ≠ Jvm.RoadKit.slotOf Z "com/example/arcmill/arcmill/Variable" "places" "[I" := slot_ne (Or.inl (hw _ (List.mem_of_getElem? (i := 84) rfl))) (Or.inr (hw _ (List.mem_of_getElem? (i := 77) rfl))) (by decide) (t := .int) (t' := (.array .int)) (by decide) (by decide)
  have sn170 : Jvm.RoadKit.slotOf Z "com/example/arcmill/arcmill/Variable" "size" "I" ≠ Jvm.RoadKit.slotOf Z "com/example/arcmill/arcmill/Variable" "present" "[J" := slot_ne (Or.inl (hw _ (List.mem_of_getElem? (i := 84) rfl))) (Or.inr (hw _ (List.mem_of_getElem? (i := 80) rfl))) (by decide) (t := .int) (t' := (.array .long)) (by decide) (by decide)
  have sn171 : Jvm.RoadKit.slotOf Z "com/example/arcmill/arcmill/Variable" "size" "I" ≠ Jvm.RoadKit.slotOf Z "com/example/arcmill/arcmill/Variable" "trail" "Lcom/example/arcmill/arcmill/Trail;" := slot_ne (Or.inl (hw _ (List.mem_of_getElem? (i := 84) rfl))) (Or.inr (hw _ (List.mem_of_getElem? (i := 82) rfl))) (by decide) (t := .int) (t' := (.object "com/example/arcmill/arcmill/Trail")) (by decide) (by decide)
  have f172 : Fld Z ht159 v "com/example/arcmill/arcmill/Variable" "size" "I" (.int (0 : Int32)) := (((((((((((((((((((((((((((((F_size.other Wt2 (Or.inr sn161)).ext Et3).keep Kt7 (fun q => ne_v_al (List.mem_singleton.mp q))).other Wt12 (Or.inr sn162)).ext Et13).other Wt19 (Or.inr sn163)).ext Et20).other Wt27 (Or.inr sn164)).other Wt34 (Or.inr sn165)).other Wt42 (Or.inr sn166)).other Wt51 (Or.inr sn167)).ext Et53).other Wt64 (Or.inr sn168)).ext Et66).other Wt78 (Or.inr sn169)).other Wt83 (Or.inl ne_v_dn)).other Wt87 (Or.inl ne_v_pl)).other Wt92 (Or.inl ne_v_dn)).other Wt96 (Or.inl ne_v_pl)).other Wt101 (Or.inl ne_v_dn)).other Wt105 (Or.inl ne_v_pl)).other Wt110 (Or.inl ne_v_dn)).other Wt114 (Or.inl ne_v_pl)).ext Et117).other Wt129 (Or.inr sn170)).other Wt133 (Or.inl ne_v_pr)).other Wt137 (Or.inl ne_v_pr)).other Wt141 (Or.inl ne_v_pr)).other Wt145 (Or.inl ne_v_pr)).other Wt159 (Or.inr sn171)
  have f173 : Exa Z ht159 v "com/example/arcmill/arcmill/Variable" := f158.wr Wt159
  obtain ⟨Tt174, ht174, Xt174, et174, Wt174, stt174⟩ := putF Xt159 hx hZ hown (host := "") (Or.inl (hw _ (List.mem_of_getElem? (i := 83) rfl))) Via.refl et159 f172 f173 (Or.inl (hw _ (List.mem_of_getElem? (i := 84) rfl))) (hw _ (List.mem_of_getElem? (i := 19) rfl)) (ty := .int) (by decide) rfl rfl (g := (mkF m 160 #[.val (.ref v), .val (.ref sr), .val (.int ix), .val (.ref va), .val (.ref tr), .val (.int (4 : Int32))] [(.int (4 : Int32)), (.ref v)])) rfl rfl (hb hby dV_160)
  have Ft174 : Fld Z ht174 v "com/example/arcmill/arcmill/Variable" "size" "I" (.int (4 : Int32)) := f172.same Wt174
  have Nt174 := Fr.snoc Xt174 Nt159 gv
  have Zt174 : n0 ≤ ht174.size := by rw [Wt174.size]; exact Zt159
  have Yt174 : h0.size ≤ ht174.size := by rw [Wt174.size]; exact Yt159
  have f175 : Arv Z ht174 va ka .int (4 : Int32) lv (.int (0 : Int32)) := f160.other Wt174 ne_va_v
  obtain ⟨Tt176, ht176, kt176, Xt176, et176, Et176, At176, stt176⟩ := newP Xt174 hx hZ (hw _ (List.mem_of_getElem? (i := 13) rfl)) et174 (g := (mkF m 166 #[.val (.ref v), .val (.ref sr), .val (.int ix), .val (.ref va), .val (.ref tr), .val (.int (4 : Int32))] [(.int (4 : Int32)), (.ref v)])) rfl (hb hby dV_166) rfl (by decide) (cap := 4) (by decide) (by decide) (by decide) (by decide)
  obtain ⟨ws, gt176⟩ : ∃ z, z = ht174.size := ⟨_, rfl⟩
  rw [← gt176] at At176 stt176
  have f177 : Arv Z ht174 pr kt117 .long (1 : Int32) [(.long zt145)] (.long (0 : Int64)) := (Vt145.other Wt159 ne_pr_v).other Wt174 ne_pr_v
  have lt_pr_ws : @LT.lt Nat _ pr ws := Nat.lt_of_lt_of_le f177.lt (Nat.le_of_eq gt176.symm)
  have ge_ws : n0 ≤ ws := Nat.le_trans Zt174 (Nat.le_of_eq gt176.symm)
  have Zt176 : n0 ≤ ht176.size := Nat.le_trans Zt174 Et176.1
  have sh_ws : h0.size ≤ ws := Nat.le_trans Yt174 (Nat.le_of_eq gt176.symm)
  have Yt176 : h0.size ≤ ht176.size := Nat.le_trans Yt174 Et176.1
  have Vt176 : Arv Z ht176 ws kt176 .int (4 : Int32) [(.int (0 : Int32)), (.int (0 : Int32)), (.int (0 : Int32)), (.int (0 : Int32))] (.int (0 : Int32)) := (Arv.new At176 (by decide)).pad (pad_rep [] (.int (0 : Int32)) 4)
  have sn178 : Jvm.RoadKit.slotOf Z "com/example/arcmill/arcmill/Variable" "workspace" "[I" ≠ Jvm.RoadKit.slotOf Z "com/example/arcmill/arcmill/Variable" "sizeSavedIn" "J" := slot_ne (Or.inr (hw _ (List.mem_of_getElem? (i := 86) rfl))) (Or.inl (hw _ (List.mem_of_getElem? (i := 35) rfl))) (by decide) (t := (.array .int)) (t' := .long) (by decide) (by decide)
  have sn179 : Jvm.RoadKit.slotOf Z "com/example/arcmill/arcmill/Variable" "workspace" "[I" ≠ Jvm.RoadKit.slotOf Z "com/example/arcmill/arcmill/Variable" "constraints" "Ljava/util/List;" := slot_ne (Or.inr (hw _ (List.mem_of_getElem? (i := 86) rfl))) (Or.inr (hw _ (List.mem_of_getElem? (i := 61) rfl))) (by decide) (t := (.array .int)) (t' := (.object "java/util/List")) (by decide) (by decide)
  have sn180 : Jvm.RoadKit.slotOf Z "com/example/arcmill/arcmill/Variable" "workspace" "[I" ≠ Jvm.RoadKit.slotOf Z "com/example/arcmill/arcmill/Variable" "constraintIndexes" "[I" := slot_ne (Or.inr (hw _ (List.mem_of_getElem? (i := 86) rfl))) (Or.inl (hw _ (List.mem_of_getElem? (i := 63) rfl))) (by decide) (t := (.array .int)) (t' := (.array .int)) (by decide) (by decide)
  have sn181 : Jvm.RoadKit.slotOf Z "com/example/arcmill/arcmill/Variable" "workspace" "[I" ≠ Jvm.RoadKit.slotOf Z "com/example/arcmill/arcmill/Variable" "partners" "[Lcom/example/arcmill/arcmill/Variable;" := slot_ne (Or.inr (hw _ (List.mem_of_getElem? (i := 86) rfl))) (Or.inl (hw _ (List.mem_of_getElem? (i := 67) rfl))) (by decide) (t := (.array .int)) (t' := (.array (.object "com/example/arcmill/arcmill/Variable"))) (by decide) (by decide)
  have sn182 : Jvm.RoadKit.slotOf Z "com/example/arcmill/arcmill/Variable" "workspace" "[I" ≠ Jvm.RoadKit.slotOf Z "com/example/arcmill/arcmill/Variable" "name" "Ljava/lang/String;" := slot_ne (Or.inr (hw _ (List.mem_of_getElem? (i := 86) rfl))) (Or.inr (hw _ (List.mem_of_getElem? (i := 69) rfl))) (by decide) (t := (.array .int)) (t' := (.object "java/lang/String")) (by decide) (by decide)
  have sn183 : Jvm.RoadKit.slotOf Z "com/example/arcmill/arcmill/Variable" "workspace" "[I" ≠ Jvm.RoadKit.slotOf Z "com/example/arcmill/arcmill/Variable" "index" "I" := slot_ne (Or.inr (hw _ (List.mem_of_getElem? (i := 86) rfl))) (Or.inr (hw _ (List.mem_of_getElem? (i := 71) rfl))) (by decide) (t := (.array .int)) (t' := .int) (by decide) (by decide)
  have sn184 : Jvm.RoadKit.slotOf Z "com/example/arcmill/arcmill/Variable" "workspace" "[I" ≠ Jvm.RoadKit.slotOf Z "com/example/arcmill/arcmill/Variable" "values" "[I" := slot_ne (Or.inr (hw _ (List.mem_of_getElem? (i := 86) rfl))) (Or.inr (hw _ (List.mem_of_getElem? (i := 73) rfl))) (by decide) (t := (.array .int)) (t' := (.array .int)) (by decide) (by decide)
  have sn185 : Jvm.RoadKit.slotOf Z "com/example/arcmill/arcmill/Variable" "workspace" "[I" ≠ Jvm.RoadKit.slotOf Z "com/example/arcmill/arcmill/Variable" "dense" "[I" := slot_ne (Or.inr (hw _ (List.mem_of_getElem? (i := 86) rfl))) (Or.inr (hw _ (List.mem_of_getElem? (i := 75) rfl))) (by decide) (t := (.array .int)) (t' := (.array .int)) (by decide) (by decide)
  have sn186 : Jvm.RoadKit.slotOf Z "com/example/arcmill/arcmill/Variable" "workspace" "[I" ≠ Jvm.RoadKit.slotOf Z "com/example/arcmill/arcmill/Variable" "places" "[I" := slot_ne (Or.inr (hw _ (List.mem_of_getElem? (i := 86) rfl))) (Or.inr (hw _ (List.mem_of_getElem? (i := 77) rfl))) (by decide) (t := (.array .int)) (t' := (.array .int)) (by decide) (by decide)
  have sn187 : Jvm.RoadKit.slotOf Z "com/example/arcmill/arcmill/Variable" "workspace" "[I" ≠ Jvm.RoadKit.slotOf Z "com/example/arcmill/arcmill/Variable" "present" "[J" := slot_ne (Or.inr (hw _ (List.mem_of_getElem? (i := 86) rfl))) (Or.inr (hw _ (List.mem_of_getElem? (i := 80) rfl))) (by decide) (t := (.array .int)) (t' := (.array .long)) (by decide) (by decide)
  have sn188 : Jvm.RoadKit.slotOf Z "com/example/arcmill/arcmill/Variable" "workspace" "[I" ≠ Jvm.RoadKit.slotOf Z "com/example/arcmill/arcmill/Variable" "trail" "Lcom/example/arcmill/arcmill/Trail;" := slot_ne (Or.inr (hw _ (List.mem_of_getElem? (i := 86) rfl))) (Or.inr (hw _ (List.mem_of_getElem? (i := 82) rfl))) (by decide) (t := (.array .int)) (t' := (.object "com/example/arcmill/arcmill/Trail")) (by decide) (by decide)
  have sn189 : Jvm.RoadKit.slotOf Z "com/example/arcmill/arcmill/Variable" "workspace" "[I" ≠ Jvm.RoadKit.slotOf Z "com/example/arcmill/arcmill/Variable" "size" "I" := slot_ne (Or.inr (hw _ (List.mem_of_getElem? (i := 86) rfl))) (Or.inl (hw _ (List.mem_of_getElem? (i := 84) rfl))) (by decide) (t := (.array .int)) (t' := .int) (by decide) (by decide)
  have f190 : Fld Z ht176 v "com/example/arcmill/arcmill/Variable" "workspace" "[I" .null := (((((((((((((((((((((((((((((((F_workspace.other Wt2 (Or.inr sn178)).ext Et3).keep Kt7 (fun q => ne_v_al (List.mem_singleton.mp q))).other Wt12 (Or.inr sn179)).ext Et13).other Wt19 (Or.inr sn180)).ext Et20).other Wt27 (Or.inr sn181)).other Wt34 (Or.inr sn182)).other Wt42 (Or.inr sn183)).other Wt51 (Or.inr sn184)).ext Et53).other Wt64 (Or.inr sn185)).ext Et66).other Wt78 (Or.inr sn186)).other Wt83 (Or.inl ne_v_dn)).other Wt87 (Or.inl ne_v_pl)).other Wt92 (Or.inl ne_v_dn)).other Wt96 (Or.inl ne_v_pl)).other Wt101 (Or.inl ne_v_dn)).other Wt105 (Or.inl ne_v_pl)).other Wt110 (Or.inl ne_v_dn)).other Wt114 (Or.inl ne_v_pl)).ext Et117).other Wt129 (Or.inr sn187)).other Wt133 (Or.inl ne_v_pr)).other Wt137 (Or.inl ne_v_pr)).other Wt141 (Or.inl ne_v_pr)).other Wt145 (Or.inl ne_v_pr)).other Wt159 (Or.inr sn188)).other Wt174 (Or.inr sn189)).ext Et176
  have f191 : Exa Z ht176 v "com/example/arcmill/arcmill/Variable" := (f173.wr Wt174).ext Et176
  obtain ⟨Tt192, ht192, Xt192, et192, Wt192, stt192⟩ := putF Xt176 hx hZ hown (host := "") (Or.inl (hw _ (List.mem_of_getElem? (i := 85) rfl))) Via.refl et176 f190 f191 (Or.inr ⟨(hw _ (List.mem_of_getElem? (i := 86) rfl)), rfl, hnm⟩) (hw _ (List.mem_of_getElem? (i := 19) rfl)) (ty := (.array .int)) (by decide) rfl rfl (g := (mkF m 168 #[.val (.ref v), .val (.ref sr), .val (.int ix), .val (.ref va), .val (.ref tr), .val (.int (4 : Int32))] [(.ref ws), (.ref v)])) rfl rfl (hb hby dV_168)
  have Ft192 : Fld Z ht192 v "com/example/arcmill/arcmill/Variable" "workspace" "[I" (.ref ws) := f190.same Wt192
  have Nt192 := Fr.snoc Xt192 Nt174 gv
  have Zt192 : n0 ≤ ht192.size := by rw [Wt192.size]; exact Zt176
  have Yt192 : h0.size ≤ ht192.size := by rw [Wt192.size]; exact Yt176
  have f193 : Exa Z ht192 v "com/example/arcmill/arcmill/Variable" := f191.wr Wt192
  have f194 : Exa Z ht192 tr "com/example/arcmill/arcmill/Trail" := ((((((((((((((((((((((((((((((((T0.wr Wt2).ext Et3).keep Kt7).wr Wt12).ext Et13).wr Wt19).ext Et20).wr Wt27).wr Wt34).wr Wt42).wr Wt51).ext Et53).wr Wt64).ext Et66).wr Wt78).wr Wt83).wr Wt87).wr Wt92).wr Wt96).wr Wt101).wr Wt105).wr Wt110).wr Wt114).ext Et117).wr Wt129).wr Wt133).wr Wt137).wr Wt141).wr Wt145).wr Wt159).wr Wt174).ext Et176).wr Wt192
  have sn195 : Jvm.RoadKit.slotOf Z "com/example/arcmill/arcmill/Variable" "size" "I" ≠ Jvm.RoadKit.slotOf Z "com/example/arcmill/arcmill/Variable" "workspace" "[I" := slot_ne (Or.inl (hw _ (List.mem_of_getElem? (i := 84) rfl))) (Or.inr (hw _ (List.mem_of_getElem? (i := 86) rfl))) (by decide) (t := .int) (t' := (.array .int)) (by decide) (by decide)
  have f196 : Fld Z ht192 v "com/example/arcmill/arcmill/Variable" "size" "I" (.int (4 : Int32)) := (Ft174.ext Et176).other Wt192 (Or.inr sn195)
  have sn197 : Jvm.RoadKit.slotOf Z "com/example/arcmill/arcmill/Variable" "sizeSavedIn" "J" ≠ Jvm.RoadKit.slotOf Z "com/example/arcmill/arcmill/Variable" "constraints" "Ljava/util/List;" := slot_ne (Or.inl (hw _ (List.mem_of_getElem? (i := 35) rfl))) (Or.inr (hw _ (List.mem_of_getElem? (i := 61) rfl))) (by decide) (t := .long) (t' := (.object "java/util/List")) (by decide) (by decide)
  have sn198 : Jvm.RoadKit.slotOf Z "com/example/arcmill/arcmill/Variable" "sizeSavedIn" "J" ≠ Jvm.RoadKit.slotOf Z "com/example/arcmill/arcmill/Variable" "constraintIndexes" "[I" := slot_ne (Or.inl (hw _ (List.mem_of_getElem? (i := 35) rfl))) (Or.inl (hw _ (List.mem_of_getElem? (i := 63) rfl))) (by decide) (t := .long) (t' := (.array .int)) (by decide) (by decide)
  have sn199 : Jvm.RoadKit.slotOf Z "com/example/arcmill/arcmill/Variable" "sizeSavedIn" "J" ≠ Jvm.RoadKit.slotOf Z "com/example/arcmill/arcmill/Variable" "partners" "[Lcom/example/arcmill/arcmill/Variable;" := slot_ne (Or.inl (hw _ (List.mem_of_getElem? (i := 35) rfl))) (Or.inl (hw _ (List.mem_of_getElem? (i := 67) rfl))) (by decide) (t := .long) (t' := (.array (.object "com/example/arcmill/arcmill/Variable"))) (by decide) (by decide)
  have sn200 : Jvm.RoadKit.slotOf Z "com/example/arcmill/arcmill/Variable" "sizeSavedIn" "J" ≠ Jvm.RoadKit.slotOf Z "com/example/arcmill/arcmill/Variable" "name" "Ljava/lang/String;" := slot_ne (Or.inl (hw _ (List.mem_of_getElem? (i := 35) rfl))) (Or.inr (hw _ (List.mem_of_getElem? (i := 69) rfl))) (by decide) (t := .long) (t' := (.object "java/lang/String")) (by decide) (by decide)
  have sn201 : Jvm.RoadKit.slotOf Z "com/example/arcmill/arcmill/Variable" "sizeSavedIn" "J" ≠ Jvm.RoadKit.slotOf Z "com/example/arcmill/arcmill/Variable" "index" "I" := slot_ne (Or.inl (hw _ (List.mem_of_getElem? (i := 35) rfl))) (Or.inr (hw _ (List.mem_of_getElem? (i := 71) rfl))) (by decide) (t := .long) (t' := .int) (by decide) (by decide)
  have sn202 : Jvm.RoadKit.slotOf Z "com/example/arcmill/arcmill/Variable" "sizeSavedIn" "J" ≠ Jvm.RoadKit.slotOf Z "com/example/arcmill/arcmill/Variable" "values" "[I" := slot_ne (Or.inl (hw _ (List.mem_of_getElem? (i := 35) rfl))) (Or.inr (hw _ (List.mem_of_getElem? (i := 73) rfl))) (by decide) (t := .long) (t' := (.array .int)) (by decide) (by decide)
  have sn203 : Jvm.RoadKit.slotOf Z "com/example/arcmill/arcmill/Variable" "sizeSavedIn" "J" ≠ Jvm.RoadKit.slotOf Z "com/example/arcmill/arcmill/Variable" "dense" "[I" := slot_ne (Or.inl (hw _ (List.mem_of_getElem? (i := 35) rfl))) (Or.inr (hw _ (List.mem_of_getElem? (i := 75) rfl))) (by decide) (t := .long) (t' := (.array .int)) (by decide) (by decide)
  have sn204 : Jvm.RoadKit.slotOf Z "com/example/arcmill/arcmill/Variable" "sizeSavedIn" "J" ≠ Jvm.RoadKit.slotOf Z "com/example/arcmill/arcmill/Variable" "places" "[I" := slot_ne (Or.inl (hw _ (List.mem_of_getElem? (i := 35) rfl))) (Or.inr (hw _ (List.mem_of_getElem? (i := 77) rfl))) (by decide) (t := .long) (t' := (.array .int)) (by decide) (by decide)
  have sn205 : Jvm.RoadKit.slotOf Z "com/example/arcmill/arcmill/Variable" "sizeSavedIn" "J" ≠ Jvm.RoadKit.slotOf Z "com/example/arcmill/arcmill/Variable" "present" "[J" := slot_ne (Or.inl (hw _ (List.mem_of_getElem? (i := 35) rfl))) (Or.inr (hw _ (List.mem_of_getElem? (i := 80) rfl))) (by decide) (t := .long) (t' := (.array .long)) (by decide) (by decide)
  have sn206 : Jvm.RoadKit.slotOf Z "com/example/arcmill/arcmill/Variable" "sizeSavedIn" "J" ≠ Jvm.RoadKit.slotOf Z "com/example/arcmill/arcmill/Variable" "trail" "Lcom/example/arcmill/arcmill/Trail;" := slot_ne (Or.inl (hw _ (List.mem_of_getElem? (i := 35) rfl))) (Or.inr (hw _ (List.mem_of_getElem? (i := 82) rfl))) (by decide) (t := .long) (t' := (.object "com/example/arcmill/arcmill/Trail")) (by decide) (by decide)
  have sn207 : Jvm.RoadKit.slotOf Z "com/example/arcmill/arcmill/Variable" "sizeSavedIn" "J" ≠ Jvm.RoadKit.slotOf Z "com/example/arcmill/arcmill/Variable" "size" "I" := slot_ne (Or.inl (hw _ (List.mem_of_getElem? (i := 35) rfl))) (Or.inl (hw _ (List.mem_of_getElem? (i := 84) rfl))) (by decide) (t := .long) (t' := .int) (by decide) (by decide)
  have sn208 : Jvm.RoadKit.slotOf Z "com/example/arcmill/arcmill/Variable" "sizeSavedIn" "J" ≠ Jvm.RoadKit.slotOf Z "com/example/arcmill/arcmill/Variable" "workspace" "[I" := slot_ne (Or.inl (hw _ (List.mem_of_getElem? (i := 35) rfl))) (Or.inr (hw _ (List.mem_of_getElem? (i := 86) rfl))) (by decide) (t := .long) (t' := (.array .int)) (by decide) (by decide)
  have f209 : Fld Z ht192 v "com/example/arcmill/arcmill/Variable" "sizeSavedIn" "J" (.long (-1 : Int64)) := (((((((((((((((((((((((((((((((Ft2.ext Et3).keep Kt7 (fun q => ne_v_al (List.mem_singleton.mp q))).other Wt12 (Or.inr sn197)).ext Et13).other Wt19 (Or.inr sn198)).ext Et20).other Wt27 (Or.inr sn199)).other Wt34 (Or.inr sn200)).other Wt42 (Or.inr sn201)).other Wt51 (Or.inr sn202)).ext Et53).other Wt64 (Or.inr sn203)).ext Et66).other Wt78 (Or.inr sn204)).other Wt83 (Or.inl ne_v_dn)).other Wt87 (Or.inl ne_v_pl)).other Wt92 (Or.inl ne_v_dn)).other Wt96 (Or.inl ne_v_pl)).other Wt101 (Or.inl ne_v_dn)).other Wt105 (Or.inl ne_v_pl)).other Wt110 (Or.inl ne_v_dn)).other Wt114 (Or.inl ne_v_pl)).ext Et117).other Wt129 (Or.inr sn205)).other Wt133 (Or.inl ne_v_pr)).other Wt137 (Or.inl ne_v_pr)).other Wt141 (Or.inl ne_v_pr)).other Wt145 (Or.inl ne_v_pr)).other Wt159 (Or.inr sn206)).other Wt174 (Or.inr sn207)).ext Et176).other Wt192 (Or.inr sn208)
  have sn210 : Jvm.RoadKit.slotOf Z "com/example/arcmill/arcmill/Variable" "trail" "Lcom/example/arcmill/arcmill/Trail;" ≠ Jvm.RoadKit.slotOf Z "com/example/arcmill/arcmill/Variable" "size" "I" := slot_ne (Or.inr (hw _ (List.mem_of_getElem? (i := 82) rfl))) (Or.inl (hw _ (List.mem_of_getElem? (i := 84) rfl))) (by decide) (t := (.object "com/example/arcmill/arcmill/Trail")) (t' := .int) (by decide) (by decide)
  have sn211 : Jvm.RoadKit.slotOf Z "com/example/arcmill/arcmill/Variable" "trail" "Lcom/example/arcmill/arcmill/Trail;" ≠ Jvm.RoadKit.slotOf Z "com/example/arcmill/arcmill/Variable" "workspace" "[I" := slot_ne (Or.inr (hw _ (List.mem_of_getElem? (i := 82) rfl))) (Or.inr (hw _ (List.mem_of_getElem? (i := 86) rfl))) (by decide) (t := (.object "com/example/arcmill/arcmill/Trail")) (t' := (.array .int)) (by decide) (by decide)
  have f212 : Fld Z ht192 v "com/example/arcmill/arcmill/Variable" "trail" "Lcom/example/arcmill/arcmill/Trail;" (.ref tr) := ((Ft159.other Wt174 (Or.inr sn210)).ext Et176).other Wt192 (Or.inr sn211)
  have sn213 : Jvm.RoadKit.slotOf Z "com/example/arcmill/arcmill/Variable" "dense" "[I" ≠ Jvm.RoadKit.slotOf Z "com/example/arcmill/arcmill/Variable" "present" "[J" := slot_ne (Or.inr (hw _ (List.mem_of_getElem? (i := 75) rfl))) (Or.inr (hw _ (List.mem_of_getElem? (i := 80) rfl))) (by decide) (t := (.array .int)) (t' := (.array .long)) (by decide) (by decide)
  have sn214 : Jvm.RoadKit.slotOf Z "com/example/arcmill/arcmill/Variable" "dense" "[I" ≠ Jvm.RoadKit.slotOf Z "com/example/arcmill/arcmill/Variable" "trail" "Lcom/example/arcmill/arcmill/Trail;" := slot_ne (Or.inr (hw _ (List.mem_of_getElem? (i := 75) rfl))) (Or.inr (hw _ (List.mem_of_getElem? (i := 82) rfl))) (by decide) (t := (.array .int)) (t' := (.object "com/example/arcmill/arcmill/Trail")) (by decide) (by decide)
  have sn215 : Jvm.RoadKit.slotOf Z "com/example/arcmill/arcmill/Variable" "dense" "[I" ≠ Jvm.RoadKit.slotOf Z "com/example/arcmill/arcmill/Variable" "size" "I" := slot_ne (Or.inr (hw _ (List.mem_of_getElem? (i := 75) rfl))) (Or.inl (hw _ (List.mem_of_getElem? (i := 84) rfl))) (by decide) (t := (.array .int)) (t' := .int) (by decide) (by decide)
  have sn216 : Jvm.RoadKit.slotOf Z "com/example/arcmill/arcmill/Variable" "dense" "[I" ≠ Jvm.RoadKit.slotOf Z "com/example/arcmill/arcmill/Variable" "workspace" "[I" := slot_ne (Or.inr (hw _ (List.mem_of_getElem? (i := 75) rfl))) (Or.inr (hw _ (List.mem_of_getElem? (i := 86) rfl))) (by decide) (t := (.array .int)) (t' := (.array .int)) (by decide) (by decide)
  have f217 : Fld Z ht192 v "com/example/arcmill/arcmill/Variable" "dense" "[I" (.ref dn) := (((((((((((f108.other Wt110 (Or.inl ne_v_dn)).other Wt114 (Or.inl ne_v_pl)).ext Et117).other Wt129 (Or.inr sn213)).other Wt133 (Or.inl ne_v_pr)).other Wt137 (Or.inl ne_v_pr)).other Wt141 (Or.inl ne_v_pr)).other Wt145 (Or.inl ne_v_pr)).other Wt159 (Or.inr sn214)).other Wt174 (Or.inr sn215)).ext Et176).other Wt192 (Or.inr sn216)
  have sn218 : Jvm.RoadKit.slotOf Z "com/example/arcmill/arcmill/Variable" "places" "[I" ≠ Jvm.RoadKit.slotOf Z "com/example/arcmill/arcmill/Variable" "present" "[J" := slot_ne (Or.inr (hw _ (List.mem_of_getElem? (i := 77) rfl))) (Or.inr (hw _ (List.mem_of_getElem? (i := 80) rfl))) (by decide) (t := (.array .int)) (t' := (.array .long)) (by decide) (by decide)
  have sn219 : Jvm.RoadKit.slotOf Z "com/example/arcmill/arcmill/Variable" "places" "[I" ≠ Jvm.RoadKit.slotOf Z "com/example/arcmill/arcmill/Variable" "trail" "Lcom/example/arcmill/arcmill/Trail;" := slot_ne (Or.inr (hw _ (List.mem_of_getElem? (i := 77) rfl))) (Or.inr (hw _ (List.mem_of_getElem? (i := 82) rfl))) (by decide) (t := (.array .int)) (t' := (.object "com/example/arcmill/arcmill/Trail")) (by decide) (by decide)
  have sn220 : Jvm.RoadKit.slotOf Z "com/example/arcmill/arcmill/Variable" "places" "[I" ≠ Jvm.RoadKit.slotOf Z "com/example/arcmill/arcmill/Variable" "size" "I" := slot_ne (Or.inr (hw _ (List.mem_of_getElem? (i := 77) rfl))) (Or.inl (hw _ (List.mem_of_getElem? (i := 84) rfl))) (by decide) (t := (.array .int)) (t' := .int) (by decide) (by decide)
  have sn221 : Jvm.RoadKit.slotOf Z "com/example/arcmill/arcmill/Variable" "places" "[I" ≠ Jvm.RoadKit.slotOf Z "com/example/arcmill/arcmill/Variable" "workspace" "[I" := slot_ne (Or.inr (hw _ (List.mem_of_getElem? (i := 77) rfl))) (Or.inr (hw _ (List.mem_of_getElem? (i := 86) rfl))) (by decide) (t := (.array .int)) (t' := (.array .int)) (by decide) (by decide)
  have f222 : Fld Z ht192 v "com/example/arcmill/arcmill/Variable" "places" "[I" (.ref pl) := ((((((((((f112.other Wt114 (Or.inl ne_v_pl)).ext Et117).other Wt129 (Or.inr sn218)).other Wt133 (Or.inl ne_v_pr)).other Wt137 (Or.inl ne_v_pr)).other Wt141 (Or.inl ne_v_pr)).other Wt145 (Or.inl ne_v_pr)).other Wt159 (Or.inr sn219)).other Wt174 (Or.inr sn220)).ext Et176).other Wt192 (Or.inr sn221)
  have sn223 : Jvm.RoadKit.slotOf Z "com/example/arcmill/arcmill/Variable" "present" "[J" ≠ Jvm.RoadKit.slotOf Z "com/example/arcmill/arcmill/Variable" "trail" "Lcom/example/arcmill/arcmill/Trail;" := slot_ne (Or.inr (hw _ (List.mem_of_getElem? (i := 80) rfl))) (Or.inr (hw _ (List.mem_of_getElem? (i := 82) rfl))) (by decide) (t := (.array .long)) (t' := (.object "com/example/arcmill/arcmill/Trail")) (by decide) (by decide)
  have sn224 : Jvm.RoadKit.slotOf Z "com/example/arcmill/arcmill/Variable" "present" "[J" ≠ Jvm.RoadKit.slotOf Z "com/example/arcmill/arcmill/Variable" "size" "I" := slot_ne (Or.inr (hw _ (List.mem_of_getElem? (i := 80) rfl))) (Or.inl (hw _ (List.mem_of_getElem? (i := 84) rfl))) (by decide) (t := (.array .long)) (t' := .int) (by decide) (by decide)
  have sn225 : Jvm.RoadKit.slotOf Z "com/example/arcmill/arcmill/Variable" "present" "[J" ≠ Jvm.RoadKit.slotOf Z "com/example/arcmill/arcmill/Variable" "workspace" "[I" := slot_ne (Or.inr (hw _ (List.mem_of_getElem? (i := 80) rfl))) (Or.inr (hw _ (List.mem_of_getElem? (i := 86) rfl))) (by decide) (t := (.array .long)) (t' := (.array .int)) (by decide) (by decide)
  have f226 : Fld Z ht192 v "com/example/arcmill/arcmill/Variable" "present" "[J" (.ref pr) := ((((f143.other Wt145 (Or.inl ne_v_pr)).other Wt159 (Or.inr sn223)).other Wt174 (Or.inr sn224)).ext Et176).other Wt192 (Or.inr sn225)
  have ne_tr_v : @Ne Nat tr v := by omega
  have ne_tr_al : @Ne Nat tr al := by omega
  have ne_tr_dn : @Ne Nat tr dn := by omega
  have ne_tr_pl : @Ne Nat tr pl := by omega
  have ne_tr_pr : @Ne Nat tr pr := by omega
  have f227 : Fld Z ht192 tr "com/example/arcmill/arcmill/Trail" "epoch" "J" (.long (0 : Int64)) := ((((((((((((((((((((((((((((((((F_epoch.other Wt2 (Or.inl ne_tr_v)).ext Et3).keep Kt7 (fun q => ne_tr_al (List.mem_singleton.mp q))).other Wt12 (Or.inl ne_tr_v)).ext Et13).other Wt19 (Or.inl ne_tr_v)).ext Et20).other Wt27 (Or.inl ne_tr_v)).other Wt34 (Or.inl ne_tr_v)).other Wt42 (Or.inl ne_tr_v)).other Wt51 (Or.inl ne_tr_v)).ext Et53).other Wt64 (Or.inl ne_tr_v)).ext Et66).other Wt78 (Or.inl ne_tr_v)).other Wt83 (Or.inl ne_tr_dn)).other Wt87 (Or.inl ne_tr_pl)).other Wt92 (Or.inl ne_tr_dn)).other Wt96 (Or.inl ne_tr_pl)).other Wt101 (Or.inl ne_tr_dn)).other Wt105 (Or.inl ne_tr_pl)).other Wt110 (Or.inl ne_tr_dn)).other Wt114 (Or.inl ne_tr_pl)).ext Et117).other Wt129 (Or.inl ne_tr_v)).other Wt133 (Or.inl ne_tr_pr)).other Wt137 (Or.inl ne_tr_pr)).other Wt141 (Or.inl ne_tr_pr)).other Wt145 (Or.inl ne_tr_pr)).other Wt159 (Or.inl ne_tr_v)).other Wt174 (Or.inl ne_tr_v)).ext Et176).other Wt192 (Or.inl ne_tr_v)
  have f228 : Fld Z ht192 tr "com/example/arcmill/arcmill/Trail" "level" "I" (.int (0 : Int32)) := ((((((((((((((((((((((((((((((((F_level.other Wt2 (Or.inl ne_tr_v)).ext Et3).keep Kt7 (fun q => ne_tr_al (List.mem_singleton.mp q))).other Wt12 (Or.inl ne_tr_v)).ext Et13).other Wt19 (Or.inl ne_tr_v)).ext Et20).other Wt27 (Or.inl ne_tr_v)).other Wt34 (Or.inl ne_tr_v)).other Wt42 (Or.inl ne_tr_v)).other Wt51 (Or.inl ne_tr_v)).ext Et53).other Wt64 (Or.inl ne_tr_v)).ext Et66).other Wt78 (Or.inl ne_tr_v)).other Wt83 (Or.inl ne_tr_dn)).other Wt87 (Or.inl ne_tr_pl)).other Wt92 (Or.inl ne_tr_dn)).other Wt96 (Or.inl ne_tr_pl)).other Wt101 (Or.inl ne_tr_dn)).other Wt105 (Or.inl ne_tr_pl)).other Wt110 (Or.inl ne_tr_dn)).other Wt114 (Or.inl ne_tr_pl)).ext Et117).other Wt129 (Or.inl ne_tr_v)).other Wt133 (Or.inl ne_tr_pr)).other Wt137 (Or.inl ne_tr_pr)).other Wt141 (Or.inl ne_tr_pr)).other Wt145 (Or.inl ne_tr_pr)).other Wt159 (Or.inl ne_tr_v)).other Wt174 (Or.inl ne_tr_v)).ext Et176).other Wt192 (Or.inl ne_tr_v)
  have ne_dn_pr : @Ne Nat dn pr := by omega
  have f229 : Arv Z ht192 dn kt53 .int (4 : Int32) [(.int (0 : Int32)), (.int (1 : Int32)), (.int (2 : Int32)), (.int (3 : Int32))] (.int (0 : Int32)) := ((((((((((Vt110.other Wt114 ne_dn_pl).ext Et117).other Wt129 ne_dn_v).other Wt133 ne_dn_pr).other Wt137 ne_dn_pr).other Wt141 ne_dn_pr).other Wt145 ne_dn_pr).other Wt159 ne_dn_v).other Wt174 ne_dn_v).ext Et176).other Wt192 ne_dn_v
  have ne_pl_pr : @Ne Nat pl pr := by omega
  have f230 : Arv Z ht192 pl kt66 .int (4 : Int32) [(.int (0 : Int32)), (.int (1 : Int32)), (.int (2 : Int32)), (.int (3 : Int32))] (.int (0 : Int32)) := (((((((((Vt114.ext Et117).other Wt129 ne_pl_v).other Wt133 ne_pl_pr).other Wt137 ne_pl_pr).other Wt141 ne_pl_pr).other Wt145 ne_pl_pr).other Wt159 ne_pl_v).other Wt174 ne_pl_v).ext Et176).other Wt192 ne_pl_v
  have f231 : Arv Z ht192 pr kt117 .long (1 : Int32) [(.long zt145)] (.long (0 : Int64)) := (f177.ext Et176).other Wt192 ne_pr_v
  have ne_ws_v : @Ne Nat ws v := by omega
  have f232 : Arv Z ht192 ws kt176 .int (4 : Int32) [(.int (0 : Int32)), (.int (0 : Int32)), (.int (0 : Int32)), (.int (0 : Int32))] (.int (0 : Int32)) := Vt176.other Wt192 ne_ws_v
  obtain ⟨fs, hr, hrun, hended, hW, hsame⟩ := Xt192.leave (v := none) (fun _ => rfl)
  refine ⟨_, _, pre0 _ ?_, hrun, hended, _, _, rfl, ?_, ⟨_, rfl⟩, hW, hsame.mono (by decide) (by decide)⟩
  · show Steps p.tables e below (s₁.setTop (mkF m 0 #[.val (.ref v), .val (.ref sr), .val (.int ix), .val (.ref va), .val (.ref tr), .unset] [])) _
    refine XS.aloadN X0.here hx rfl (hb hby dV_0) rfl rfl ?_
    show Steps p.tables e below (s₁.setTop (mkF m 1 #[.val (.ref v), .val (.ref sr), .val (.int ix), .val (.ref va), .val (.ref tr), .unset] [(.ref v)])) _
    refine stt1 _ ?_
    show Steps p.tables e below (Tt1.setTop (mkF m 4 #[.val (.ref v), .val (.ref sr), .val (.int ix), .val (.ref va), .val (.ref tr), .unset] [])) _
    refine XS.aloadN Xt1.here hx rfl (hb hby dV_4) rfl rfl ?_
    show Steps p.tables e below (Tt1.setTop (mkF m 5 #[.val (.ref v), .val (.ref sr), .val (.int ix), .val (.ref va), .val (.ref tr), .unset] [(.ref v)])) _
    refine Xt1.ldc2Long hx hown (mvT hZ (hw _ (List.mem_of_getElem? (i := 33) rfl))) (g := (mkF m 5 #[.val (.ref v), .val (.ref sr), .val (.int ix), .val (.ref va), .val (.ref tr), .unset] [(.ref v)])) rfl (hb hby dV_5) _ ?_
    show Steps p.tables e below (Tt1.setTop (mkF m 8 #[.val (.ref v), .val (.ref sr), .val (.int ix), .val (.ref va), .val (.ref tr), .unset] [(.long (-1 : Int64)), (.ref v)])) _
    refine stt2 _ ?_
    show Steps p.tables e below (Tt2.setTop (mkF m 11 #[.val (.ref v), .val (.ref sr), .val (.int ix), .val (.ref va), .val (.ref tr), .unset] [])) _
    refine XS.aloadN Xt2.here hx rfl (hb hby dV_11) rfl rfl ?_
    show Steps p.tables e below (Tt2.setTop (mkF m 12 #[.val (.ref v), .val (.ref sr), .val (.int ix), .val (.ref va), .val (.ref tr), .unset] [(.ref v)])) _
    refine stt3 _ ?_
    show Steps p.tables e below (Tt3.setTop (mkF m 15 #[.val (.ref v), .val (.ref sr), .val (.int ix), .val (.ref va), .val (.ref tr), .unset] [(.ref al), (.ref v)])) _
    refine XS.dup Xt3.here hx rfl (hb hby dV_15) rfl rfl ?_
    show Steps p.tables e below (Tt3.setTop (mkF m 16 #[.val (.ref v), .val (.ref sr), .val (.int ix), .val (.ref va), .val (.ref tr), .unset] [(.ref al), (.ref al), (.ref v)])) _
    refine stt7.trans ?_
    show Steps p.tables e below (Tt7.setTop (mkF m 19 #[.val (.ref v), .val (.ref sr), .val (.int ix), .val (.ref va), .val (.ref tr), .unset] [(.ref al), (.ref v)])) _
    refine stt12 _ ?_
    show Steps p.tables e below (Tt12.setTop (mkF m 22 #[.val (.ref v), .val (.ref sr), .val (.int ix), .val (.ref va), .val (.ref tr), .unset] [])) _
    refine XS.aloadN Xt12.here hx rfl (hb hby dV_22) rfl rfl ?_
    show Steps p.tables e below (Tt12.setTop (mkF m 23 #[.val (.ref v), .val (.ref sr), .val (.int ix), .val (.ref va), .val (.ref tr), .unset] [(.ref v)])) _
    refine XS.iconst Xt12.here hx rfl (hb hby dV_23) ?_
    show Steps p.tables e below (Tt12.setTop (mkF m 24 #[.val (.ref v), .val (.ref sr), .val (.int ix), .val (.ref va), .val (.ref tr), .unset] [(.int (4 : Int32)), (.ref v)])) _
    refine stt13 _ ?_
    show Steps p.tables e below (Tt13.setTop (mkF m 26 #[.val (.ref v), .val (.ref sr), .val (.int ix), .val (.ref va), .val (.ref tr), .unset] [(.ref ci), (.ref v)])) _
    refine stt19 _ ?_
    show Steps p.tables e below (Tt19.setTop (mkF m 29 #[.val (.ref v), .val (.ref sr), .val (.int ix), .val (.ref va), .val (.ref tr), .unset] [])) _
    refine XS.aloadN Xt19.here hx rfl (hb hby dV_29) rfl rfl ?_
    show Steps p.tables e below (Tt19.setTop (mkF m 30 #[.val (.ref v), .val (.ref sr), .val (.int ix), .val (.ref va), .val (.ref tr), .unset] [(.ref v)])) _
    refine XS.iconst Xt19.here hx rfl (hb hby dV_30) ?_
    show Steps p.tables e below (Tt19.setTop (mkF m 31 #[.val (.ref v), .val (.ref sr), .val (.int ix), .val (.ref va), .val (.ref tr), .unset] [(.int (4 : Int32)), (.ref v)])) _
    refine stt20 _ ?_
    show Steps p.tables e below (Tt20.setTop (mkF m 34 #[.val (.ref v), .val (.ref sr), .val (.int ix), .val (.ref va), .val (.ref tr), .unset] [(.ref pt), (.ref v)])) _
    refine stt27 _ ?_
    show Steps p.tables e below (Tt27.setTop (mkF m 37 #[.val (.ref v), .val (.ref sr), .val (.int ix), .val (.ref va), .val (.ref tr), .unset] [])) _
    refine XS.aloadN Xt27.here hx rfl (hb hby dV_37) rfl rfl ?_
    show Steps p.tables e below (Tt27.setTop (mkF m 38 #[.val (.ref v), .val (.ref sr), .val (.int ix), .val (.ref va), .val (.ref tr), .unset] [(.ref v)])) _
    refine XS.aloadN Xt27.here hx rfl (hb hby dV_38) rfl rfl ?_
    show Steps p.tables e below (Tt27.setTop (mkF m 39 #[.val (.ref v), .val (.ref sr), .val (.int ix), .val (.ref va), .val (.ref tr), .unset] [(.ref sr), (.ref v)])) _
    refine stt34 _ ?_
    show Steps p.tables e below (Tt34.setTop (mkF m 42 #[.val (.ref v), .val (.ref sr), .val (.int ix), .val (.ref va), .val (.ref tr), .unset] [])) _
    refine XS.aloadN Xt34.here hx rfl (hb hby dV_42) rfl rfl ?_
    show Steps p.tables e below (Tt34.setTop (mkF m 43 #[.val (.ref v), .val (.ref sr), .val (.int ix), .val (.ref va), .val (.ref tr), .unset] [(.ref v)])) _
    refine XS.iloadN Xt34.here hx rfl (hb hby dV_43) rfl ?_
    show Steps p.tables e below (Tt34.setTop (mkF m 44 #[.val (.ref v), .val (.ref sr), .val (.int ix), .val (.ref va), .val (.ref tr), .unset] [(.int ix), (.ref v)])) _
    refine stt42 _ ?_
    show Steps p.tables e below (Tt42.setTop (mkF m 47 #[.val (.ref v), .val (.ref sr), .val (.int ix), .val (.ref va), .val (.ref tr), .unset] [])) _
    refine XS.aloadN Xt42.here hx rfl (hb hby dV_47) rfl rfl ?_
    show Steps p.tables e below (Tt42.setTop (mkF m 48 #[.val (.ref v), .val (.ref sr), .val (.int ix), .val (.ref va), .val (.ref tr), .unset] [(.ref v)])) _
    refine XS.aloadN Xt42.here hx rfl (hb hby dV_48) rfl rfl ?_
    show Steps p.tables e below (Tt42.setTop (mkF m 49 #[.val (.ref v), .val (.ref sr), .val (.int ix), .val (.ref va), .val (.ref tr), .unset] [(.ref va), (.ref v)])) _
    refine stt51 _ ?_
    show Steps p.tables e below (Tt51.setTop (mkF m 52 #[.val (.ref v), .val (.ref sr), .val (.int ix), .val (.ref va), .val (.ref tr), .unset] [])) _
    refine XS.aloadN Xt51.here hx rfl (hb hby dV_52) rfl rfl ?_
    show Steps p.tables e below (Tt51.setTop (mkF m 53 #[.val (.ref v), .val (.ref sr), .val (.int ix), .val (.ref va), .val (.ref tr), .unset] [(.ref v)])) _
    refine XS.aloadN Xt51.here hx rfl (hb hby dV_53) rfl rfl ?_
    show Steps p.tables e below (Tt51.setTop (mkF m 54 #[.val (.ref v), .val (.ref sr), .val (.int ix), .val (.ref va), .val (.ref tr), .unset] [(.ref va), (.ref v)])) _
    refine own_len Xt51 hx hZ et51 f52 (g := (mkF m 54 #[.val (.ref v), .val (.ref sr), .val (.int ix), .val (.ref va), .val (.ref tr), .unset] [(.ref va), (.ref v)])) rfl rfl (hb hby dV_54) _ ?_
    show Steps p.tables e below (Tt51.setTop (mkF m 55 #[.val (.ref v), .val (.ref sr), .val (.int ix), .val (.ref va), .val (.ref tr), .unset] [(.int (4 : Int32)), (.ref v)])) _
    refine stt53 _ ?_
    show Steps p.tables e below (Tt53.setTop (mkF m 57 #[.val (.ref v), .val (.ref sr), .val (.int ix), .val (.ref va), .val (.ref tr), .unset] [(.ref dn), (.ref v)])) _
    refine stt64 _ ?_
    show Steps p.tables e below (Tt64.setTop (mkF m 60 #[.val (.ref v), .val (.ref sr), .val (.int ix), .val (.ref va), .val (.ref tr), .unset] [])) _
    refine XS.aloadN Xt64.here hx rfl (hb hby dV_60) rfl rfl ?_
    show Steps p.tables e below (Tt64.setTop (mkF m 61 #[.val (.ref v), .val (.ref sr), .val (.int ix), .val (.ref va), .val (.ref tr), .unset] [(.ref v)])) _
    refine XS.aloadN Xt64.here hx rfl (hb hby dV_61) rfl rfl ?_
    show Steps p.tables e below (Tt64.setTop (mkF m 62 #[.val (.ref v), .val (.ref sr), .val (.int ix), .val (.ref va), .val (.ref tr), .unset] [(.ref va), (.ref v)])) _
    refine own_len Xt64 hx hZ et64 f65 (g := (mkF m 62 #[.val (.ref v), .val (.ref sr), .val (.int ix), .val (.ref va), .val (.ref tr), .unset] [(.ref va), (.ref v)])) rfl rfl (hb hby dV_62) _ ?_
    show Steps p.tables e below (Tt64.setTop (mkF m 63 #[.val (.ref v), .val (.ref sr), .val (.int ix), .val (.ref va), .val (.ref tr), .unset] [(.int (4 : Int32)), (.ref v)])) _
    refine stt66 _ ?_
    show Steps p.tables e below (Tt66.setTop (mkF m 65 #[.val (.ref v), .val (.ref sr), .val (.int ix), .val (.ref va), .val (.ref tr), .unset] [(.ref pl), (.ref v)])) _
    refine stt78 _ ?_
    show Steps p.tables e below (Tt78.setTop (mkF m 68 #[.val (.ref v), .val (.ref sr), .val (.int ix), .val (.ref va), .val (.ref tr), .unset] [])) _
    refine XS.iconst Xt78.here hx rfl (hb hby dV_68) ?_
    show Steps p.tables e below (Tt78.setTop (mkF m 69 #[.val (.ref v), .val (.ref sr), .val (.int ix), .val (.ref va), .val (.ref tr), .unset] [(.int (0 : Int32))])) _
    refine XS.istore Xt78.here hx rfl (hb hby dV_69) rfl (l' := #[.val (.ref v), .val (.ref sr), .val (.int ix), .val (.ref va), .val (.ref tr), .val (.int (0 : Int32))]) rfl ?_
    show Steps p.tables e below (Tt78.setTop (mkF m 71 #[.val (.ref v), .val (.ref sr), .val (.int ix), .val (.ref va), .val (.ref tr), .val (.int (0 : Int32))] [])) _
    refine XS.iload Xt78.here hx rfl (hb hby dV_71) rfl ?_
    show Steps p.tables e below (Tt78.setTop (mkF m 73 #[.val (.ref v), .val (.ref sr), .val (.int ix), .val (.ref va), .val (.ref tr), .val (.int (0 : Int32))] [(.int (0 : Int32))])) _
    refine XS.aloadN Xt78.here hx rfl (hb hby dV_73) rfl rfl ?_
    show Steps p.tables e below (Tt78.setTop (mkF m 74 #[.val (.ref v), .val (.ref sr), .val (.int ix), .val (.ref va), .val (.ref tr), .val (.int (0 : Int32))] [(.ref va), (.int (0 : Int32))])) _
    refine own_len Xt78 hx hZ et78 f79 (g := (mkF m 74 #[.val (.ref v), .val (.ref sr), .val (.int ix), .val (.ref va), .val (.ref tr), .val (.int (0 : Int32))] [(.ref va), (.int (0 : Int32))])) rfl rfl (hb hby dV_74) _ ?_
    show Steps p.tables e below (Tt78.setTop (mkF m 75 #[.val (.ref v), .val (.ref sr), .val (.int ix), .val (.ref va), .val (.ref tr), .val (.int (0 : Int32))] [(.int (4 : Int32)), (.int (0 : Int32))])) _
    refine XS.icmpNo Xt78.here hx rfl (hb hby dV_75) rfl (tlt (by decide : (0 : Int32) < (4 : Int32))).2.1 ?_
    show Steps p.tables e below (Tt78.setTop (mkF m 78 #[.val (.ref v), .val (.ref sr), .val (.int ix), .val (.ref va), .val (.ref tr), .val (.int (0 : Int32))] [])) _
    refine XS.aloadN Xt78.here hx rfl (hb hby dV_78) rfl rfl ?_
    show Steps p.tables e below (Tt78.setTop (mkF m 79 #[.val (.ref v), .val (.ref sr), .val (.int ix), .val (.ref va), .val (.ref tr), .val (.int (0 : Int32))] [(.ref v)])) _
    refine stt82 _ ?_
    show Steps p.tables e below (Tt82.setTop (mkF m 82 #[.val (.ref v), .val (.ref sr), .val (.int ix), .val (.ref va), .val (.ref tr), .val (.int (0 : Int32))] [(.ref dn)])) _
    refine XS.iload Xt82.here hx rfl (hb hby dV_82) rfl ?_
    show Steps p.tables e below (Tt82.setTop (mkF m 84 #[.val (.ref v), .val (.ref sr), .val (.int ix), .val (.ref va), .val (.ref tr), .val (.int (0 : Int32))] [(.int (0 : Int32)), (.ref dn)])) _
    refine XS.iload Xt82.here hx rfl (hb hby dV_84) rfl ?_
    show Steps p.tables e below (Tt82.setTop (mkF m 86 #[.val (.ref v), .val (.ref sr), .val (.int ix), .val (.ref va), .val (.ref tr), .val (.int (0 : Int32))] [(.int (0 : Int32)), (.int (0 : Int32)), (.ref dn)])) _
    refine stt83 _ ?_
    show Steps p.tables e below (Tt83.setTop (mkF m 87 #[.val (.ref v), .val (.ref sr), .val (.int ix), .val (.ref va), .val (.ref tr), .val (.int (0 : Int32))] [])) _
    refine XS.aloadN Xt83.here hx rfl (hb hby dV_87) rfl rfl ?_
    show Steps p.tables e below (Tt83.setTop (mkF m 88 #[.val (.ref v), .val (.ref sr), .val (.int ix), .val (.ref va), .val (.ref tr), .val (.int (0 : Int32))] [(.ref v)])) _
    refine stt86 _ ?_
    show Steps p.tables e below (Tt86.setTop (mkF m 91 #[.val (.ref v), .val (.ref sr), .val (.int ix), .val (.ref va), .val (.ref tr), .val (.int (0 : Int32))] [(.ref pl)])) _
    refine XS.iload Xt86.here hx rfl (hb hby dV_91) rfl ?_
    show Steps p.tables e below (Tt86.setTop (mkF m 93 #[.val (.ref v), .val (.ref sr), .val (.int ix), .val (.ref va), .val (.ref tr), .val (.int (0 : Int32))] [(.int (0 : Int32)), (.ref pl)])) _
    refine XS.iload Xt86.here hx rfl (hb hby dV_93) rfl ?_
    show Steps p.tables e below (Tt86.setTop (mkF m 95 #[.val (.ref v), .val (.ref sr), .val (.int ix), .val (.ref va), .val (.ref tr), .val (.int (0 : Int32))] [(.int (0 : Int32)), (.int (0 : Int32)), (.ref pl)])) _
    refine stt87 _ ?_
    show Steps p.tables e below (Tt87.setTop (mkF m 96 #[.val (.ref v), .val (.ref sr), .val (.int ix), .val (.ref va), .val (.ref tr), .val (.int (0 : Int32))] [])) _
    refine XS.iinc Xt87.here hx rfl (hb hby dV_96) rfl (l' := #[.val (.ref v), .val (.ref sr), .val (.int ix), .val (.ref va), .val (.ref tr), .val (.int (1 : Int32))]) rfl ?_
    show Steps p.tables e below (Tt87.setTop (mkF m 99 #[.val (.ref v), .val (.ref sr), .val (.int ix), .val (.ref va), .val (.ref tr), .val (.int (1 : Int32))] [])) _
    refine XS.goto Xt87.here hx rfl (pc0 := 99) (pc' := 71) rfl (hb hby dV_99) (by decide) (by decide) ?_
    show Steps p.tables e below (Tt87.setTop (mkF m 71 #[.val (.ref v), .val (.ref sr), .val (.int ix), .val (.ref va), .val (.ref tr), .val (.int (1 : Int32))] [])) _
    refine XS.iload Xt87.here hx rfl (hb hby dV_71) rfl ?_
    show Steps p.tables e below (Tt87.setTop (mkF m 73 #[.val (.ref v), .val (.ref sr), .val (.int ix), .val (.ref va), .val (.ref tr), .val (.int (1 : Int32))] [(.int (1 : Int32))])) _
    refine XS.aloadN Xt87.here hx rfl (hb hby dV_73) rfl rfl ?_
    show Steps p.tables e below (Tt87.setTop (mkF m 74 #[.val (.ref v), .val (.ref sr), .val (.int ix), .val (.ref va), .val (.ref tr), .val (.int (1 : Int32))] [(.ref va), (.int (1 : Int32))])) _
    refine own_len Xt87 hx hZ et87 f89 (g := (mkF m 74 #[.val (.ref v), .val (.ref sr), .val (.int ix), .val (.ref va), .val (.ref tr), .val (.int (1 : Int32))] [(.ref va), (.int (1 : Int32))])) rfl rfl (hb hby dV_74) _ ?_
    show Steps p.tables e below (Tt87.setTop (mkF m 75 #[.val (.ref v), .val (.ref sr), .val (.int ix), .val (.ref va), .val (.ref tr), .val (.int (1 : Int32))] [(.int (4 : Int32)), (.int (1 : Int32))])) _
    refine XS.icmpNo Xt87.here hx rfl (hb hby dV_75) rfl (tlt (by decide : (1 : Int32) < (4 : Int32))).2.1 ?_
    show Steps p.tables e below (Tt87.setTop (mkF m 78 #[.val (.ref v), .val (.ref sr), .val (.int ix), .val (.ref va), .val (.ref tr), .val (.int (1 : Int32))] [])) _
    refine XS.aloadN Xt87.here hx rfl (hb hby dV_78) rfl rfl ?_
    show Steps p.tables e below (Tt87.setTop (mkF m 79 #[.val (.ref v), .val (.ref sr), .val (.int ix), .val (.ref va), .val (.ref tr), .val (.int (1 : Int32))] [(.ref v)])) _
    refine stt91 _ ?_
    show Steps p.tables e below (Tt91.setTop (mkF m 82 #[.val (.ref v), .val (.ref sr), .val (.int ix), .val (.ref va), .val (.ref tr), .val (.int (1 : Int32))] [(.ref dn)])) _
    refine XS.iload Xt91.here hx rfl (hb hby dV_82) rfl ?_
    show Steps p.tables e below (Tt91.setTop (mkF m 84 #[.val (.ref v), .val (.ref sr), .val (.int ix), .val (.ref va), .val (.ref tr), .val (.int (1 : Int32))] [(.int (1 : Int32)), (.ref dn)])) _
    refine XS.iload Xt91.here hx rfl (hb hby dV_84) rfl ?_
    show Steps p.tables e below (Tt91.setTop (mkF m 86 #[.val (.ref v), .val (.ref sr), .val (.int ix), .val (.ref va), .val (.ref tr), .val (.int (1 : Int32))] [(.int (1 : Int32)), (.int (1 : Int32)), (.ref dn)])) _
    refine stt92 _ ?_
    show Steps p.tables e below (Tt92.setTop (mkF m 87 #[.val (.ref v), .val (.ref sr), .val (.int ix), .val (.ref va), .val (.ref tr), .val (.int (1 : Int32))] [])) _
    refine XS.aloadN Xt92.here hx rfl (hb hby dV_87) rfl rfl ?_
    show Steps p.tables e below (Tt92.setTop (mkF m 88 #[.val (.ref v), .val (.ref sr), .val (.int ix), .val (.ref va), .val (.ref tr), .val (.int (1 : Int32))] [(.ref v)])) _
    refine stt95 _ ?_
    show Steps p.tables e below (Tt95.setTop (mkF m 91 #[.val (.ref v), .val (.ref sr), .val (.int ix), .val (.ref va), .val (.ref tr), .val (.int (1 : Int32))] [(.ref pl)])) _
    refine XS.iload Xt95.here hx rfl (hb hby dV_91) rfl ?_
    show Steps p.tables e below (Tt95.setTop (mkF m 93 #[.val (.ref v), .val (.ref sr), .val (.int ix), .val (.ref va), .val (.ref tr), .val (.int (1 : Int32))] [(.int (1 : Int32)), (.ref pl)])) _
    refine XS.iload Xt95.here hx rfl (hb hby dV_93) rfl ?_
    show Steps p.tables e below (Tt95.setTop (mkF m 95 #[.val (.ref v), .val (.ref sr), .val (.int ix), .val (.ref va), .val (.ref tr), .val (.int (1 : Int32))] [(.int (1 : Int32)), (.int (1 : Int32)), (.ref pl)])) _
    refine stt96 _ ?_
    show Steps p.tables e below (Tt96.setTop (mkF m 96 #[.val (.ref v), .val (.ref sr), .val (.int ix), .val (.ref va), .val (.ref tr), .val (.int (1 : Int32))] [])) _
    refine XS.iinc Xt96.here hx rfl (hb hby dV_96) rfl (l' := #[.val (.ref v), .val (.ref sr), .val (.int ix), .val (.ref va), .val (.ref tr), .val (.int (2 : Int32))]) rfl ?_
    show Steps p.tables e below (Tt96.setTop (mkF m 99 #[.val (.ref v), .val (.ref sr), .val (.int ix), .val (.ref va), .val (.ref tr), .val (.int (2 : Int32))] [])) _
    refine XS.goto Xt96.here hx rfl (pc0 := 99) (pc' := 71) rfl (hb hby dV_99) (by decide) (by decide) ?_
    show Steps p.tables e below (Tt96.setTop (mkF m 71 #[.val (.ref v), .val (.ref sr), .val (.int ix), .val (.ref va), .val (.ref tr), .val (.int (2 : Int32))] [])) _
    refine XS.iload Xt96.here hx rfl (hb hby dV_71) rfl ?_
    show Steps p.tables e below (Tt96.setTop (mkF m 73 #[.val (.ref v), .val (.ref sr), .val (.int ix), .val (.ref va), .val (.ref tr), .val (.int (2 : Int32))] [(.int (2 : Int32))])) _
    refine XS.aloadN Xt96.here hx rfl (hb hby dV_73) rfl rfl ?_
    show Steps p.tables e below (Tt96.setTop (mkF m 74 #[.val (.ref v), .val (.ref sr), .val (.int ix), .val (.ref va), .val (.ref tr), .val (.int (2 : Int32))] [(.ref va), (.int (2 : Int32))])) _
    refine own_len Xt96 hx hZ et96 f98 (g := (mkF m 74 #[.val (.ref v), .val (.ref sr), .val (.int ix), .val (.ref va), .val (.ref tr), .val (.int (2 : Int32))] [(.ref va), (.int (2 : Int32))])) rfl rfl (hb hby dV_74) _ ?_
    show Steps p.tables e below (Tt96.setTop (mkF m 75 #[.val (.ref v), .val (.ref sr), .val (.int ix), .val (.ref va), .val (.ref tr), .val (.int (2 : Int32))] [(.int (4 : Int32)), (.int (2 : Int32))])) _
    refine XS.icmpNo Xt96.here hx rfl (hb hby dV_75) rfl (tlt (by decide : (2 : Int32) < (4 : Int32))).2.1 ?_
    show Steps p.tables e below (Tt96.setTop (mkF m 78 #[.val (.ref v), .val (.ref sr), .val (.int ix), .val (.ref va), .val (.ref tr), .val (.int (2 : Int32))] [])) _
    refine XS.aloadN Xt96.here hx rfl (hb hby dV_78) rfl rfl ?_
    show Steps p.tables e below (Tt96.setTop (mkF m 79 #[.val (.ref v), .val (.ref sr), .val (.int ix), .val (.ref va), .val (.ref tr), .val (.int (2 : Int32))] [(.ref v)])) _
    refine stt100 _ ?_
    show Steps p.tables e below (Tt100.setTop (mkF m 82 #[.val (.ref v), .val (.ref sr), .val (.int ix), .val (.ref va), .val (.ref tr), .val (.int (2 : Int32))] [(.ref dn)])) _
    refine XS.iload Xt100.here hx rfl (hb hby dV_82) rfl ?_
    show Steps p.tables e below (Tt100.setTop (mkF m 84 #[.val (.ref v), .val (.ref sr), .val (.int ix), .val (.ref va), .val (.ref tr), .val (.int (2 : Int32))] [(.int (2 : Int32)), (.ref dn)])) _
    refine XS.iload Xt100.here hx rfl (hb hby dV_84) rfl ?_
    show Steps p.tables e below (Tt100.setTop (mkF m 86 #[.val (.ref v), .val (.ref sr), .val (.int ix), .val (.ref va), .val (.ref tr), .val (.int (2 : Int32))] [(.int (2 : Int32)), (.int (2 : Int32)), (.ref dn)])) _
    refine stt101 _ ?_
    show Steps p.tables e below (Tt101.setTop (mkF m 87 #[.val (.ref v), .val (.ref sr), .val (.int ix), .val (.ref va), .val (.ref tr), .val (.int (2 : Int32))] [])) _
    refine XS.aloadN Xt101.here hx rfl (hb hby dV_87) rfl rfl ?_
    show Steps p.tables e below (Tt101.setTop (mkF m 88 #[.val (.ref v), .val (.ref sr), .val (.int ix), .val (.ref va), .val (.ref tr), .val (.int (2 : Int32))] [(.ref v)])) _
    refine stt104 _ ?_
    show Steps p.tables e below (Tt104.setTop (mkF m 91 #[.val (.ref v), .val (.ref sr), .val (.int ix), .val (.ref va), .val (.ref tr), .val (.int (2 : Int32))] [(.ref pl)])) _
    refine XS.iload Xt104.here hx rfl (hb hby dV_91) rfl ?_
    show Steps p.tables e below (Tt104.setTop (mkF m 93 #[.val (.ref v), .val (.ref sr), .val (.int ix), .val (.ref va), .val (.ref tr), .val (.int (2 : Int32))] [(.int (2 : Int32)), (.ref pl)])) _
    refine XS.iload Xt104.here hx rfl (hb hby dV_93) rfl ?_
    show Steps p.tables e below (Tt104.setTop (mkF m 95 #[.val (.ref v), .val (.ref sr), .val (.int ix), .val (.ref va), .val (.ref tr), .val (.int (2 : Int32))] [(.int (2 : Int32)), (.int (2 : Int32)), (.ref pl)])) _
    refine stt105 _ ?_
    show Steps p.tables e below (Tt105.setTop (mkF m 96 #[.val (.ref v), .val (.ref sr), .val (.int ix), .val (.ref va), .val (.ref tr), .val (.int (2 : Int32))] [])) _
    refine XS.iinc Xt105.here hx rfl (hb hby dV_96) rfl (l' := #[.val (.ref v), .val (.ref sr), .val (.int ix), .val (.ref va), .val (.ref tr), .val (.int (3 : Int32))]) rfl ?_
    show Steps p.tables e below (Tt105.setTop (mkF m 99 #[.val (.ref v), .val (.ref sr), .val (.int ix), .val (.ref va), .val (.ref tr), .val (.int (3 : Int32))] [])) _
    refine XS.goto Xt105.here hx rfl (pc0 := 99) (pc' := 71) rfl (hb hby dV_99) (by decide) (by decide) ?_
    show Steps p.tables e below (Tt105.setTop (mkF m 71 #[.val (.ref v), .val (.ref sr), .val (.int ix), .val (.ref va), .val (.ref tr), .val (.int (3 : Int32))] [])) _
    refine XS.iload Xt105.here hx rfl (hb hby dV_71) rfl ?_
    show Steps p.tables e below (Tt105.setTop (mkF m 73 #[.val (.ref v), .val (.ref sr), .val (.int ix), .val (.ref va), .val (.ref tr), .val (.int (3 : Int32))] [(.int (3 : Int32))])) _
    refine XS.aloadN Xt105.here hx rfl (hb hby dV_73) rfl rfl ?_
    show Steps p.tables e below (Tt105.setTop (mkF m 74 #[.val (.ref v), .val (.ref sr), .val (.int ix), .val (.ref va), .val (.ref tr), .val (.int (3 : Int32))] [(.ref va), (.int (3 : Int32))])) _
    refine own_len Xt105 hx hZ et105 f107 (g := (mkF m 74 #[.val (.ref v), .val (.ref sr), .val (.int ix), .val (.ref va), .val (.ref tr), .val (.int (3 : Int32))] [(.ref va), (.int (3 : Int32))])) rfl rfl (hb hby dV_74) _ ?_
    show Steps p.tables e below (Tt105.setTop (mkF m 75 #[.val (.ref v), .val (.ref sr), .val (.int ix), .val (.ref va), .val (.ref tr), .val (.int (3 : Int32))] [(.int (4 : Int32)), (.int (3 : Int32))])) _
    refine XS.icmpNo Xt105.here hx rfl (hb hby dV_75) rfl (tlt (by decide : (3 : Int32) < (4 : Int32))).2.1 ?_
    show Steps p.tables e below (Tt105.setTop (mkF m 78 #[.val (.ref v), .val (.ref sr), .val (.int ix), .val (.ref va), .val (.ref tr), .val (.int (3 : Int32))] [])) _
    refine XS.aloadN Xt105.here hx rfl (hb hby dV_78) rfl rfl ?_
    show Steps p.tables e below (Tt105.setTop (mkF m 79 #[.val (.ref v), .val (.ref sr), .val (.int ix), .val (.ref va), .val (.ref tr), .val (.int (3 : Int32))] [(.ref v)])) _
    refine stt109 _ ?_
    show Steps p.tables e below (Tt109.setTop (mkF m 82 #[.val (.ref v), .val (.ref sr), .val (.int ix), .val (.ref va), .val (.ref tr), .val (.int (3 : Int32))] [(.ref dn)])) _
    refine XS.iload Xt109.here hx rfl (hb hby dV_82) rfl ?_
    show Steps p.tables e below (Tt109.setTop (mkF m 84 #[.val (.ref v), .val (.ref sr), .val (.int ix), .val (.ref va), .val (.ref tr), .val (.int (3 : Int32))] [(.int (3 : Int32)), (.ref dn)])) _
    refine XS.iload Xt109.here hx rfl (hb hby dV_84) rfl ?_
    show Steps p.tables e below (Tt109.setTop (mkF m 86 #[.val (.ref v), .val (.ref sr), .val (.int ix), .val (.ref va), .val (.ref tr), .val (.int (3 : Int32))] [(.int (3 : Int32)), (.int (3 : Int32)), (.ref dn)])) _
    refine stt110 _ ?_
    show Steps p.tables e below (Tt110.setTop (mkF m 87 #[.val (.ref v), .val (.ref sr), .val (.int ix), .val (.ref va), .val (.ref tr), .val (.int (3 : Int32))] [])) _
    refine XS.aloadN Xt110.here hx rfl (hb hby dV_87) rfl rfl ?_
    show Steps p.tables e below (Tt110.setTop (mkF m 88 #[.val (.ref v), .val (.ref sr), .val (.int ix), .val (.ref va), .val (.ref tr), .val (.int (3 : Int32))] [(.ref v)])) _
    refine stt113 _ ?_
    show Steps p.tables e below (Tt113.setTop (mkF m 91 #[.val (.ref v), .val (.ref sr), .val (.int ix), .val (.ref va), .val (.ref tr), .val (.int (3 : Int32))] [(.ref pl)])) _
    refine XS.iload Xt113.here hx rfl (hb hby dV_91) rfl ?_
    show Steps p.tables e below (Tt113.setTop (mkF m 93 #[.val (.ref v), .val (.ref sr), .val (.int ix), .val (.ref va), .val (.ref tr), .val (.int (3 : Int32))] [(.int (3 : Int32)), (.ref pl)])) _
    refine XS.iload Xt113.here hx rfl (hb hby dV_93) rfl ?_
    show Steps p.tables e below (Tt113.setTop (mkF m 95 #[.val (.ref v), .val (.ref sr), .val (.int ix), .val (.ref va), .val (.ref tr), .val (.int (3 : Int32))] [(.int (3 : Int32)), (.int (3 : Int32)), (.ref pl)])) _
    refine stt114 _ ?_
    show Steps p.tables e below (Tt114.setTop (mkF m 96 #[.val (.ref v), .val (.ref sr), .val (.int ix), .val (.ref va), .val (.ref tr), .val (.int (3 : Int32))] [])) _
    refine XS.iinc Xt114.here hx rfl (hb hby dV_96) rfl (l' := #[.val (.ref v), .val (.ref sr), .val (.int ix), .val (.ref va), .val (.ref tr), .val (.int (4 : Int32))]) rfl ?_
    show Steps p.tables e below (Tt114.setTop (mkF m 99 #[.val (.ref v), .val (.ref sr), .val (.int ix), .val (.ref va), .val (.ref tr), .val (.int (4 : Int32))] [])) _
    refine XS.goto Xt114.here hx rfl (pc0 := 99) (pc' := 71) rfl (hb hby dV_99) (by decide) (by decide) ?_
    show Steps p.tables e below (Tt114.setTop (mkF m 71 #[.val (.ref v), .val (.ref sr), .val (.int ix), .val (.ref va), .val (.ref tr), .val (.int (4 : Int32))] [])) _
    refine XS.iload Xt114.here hx rfl (hb hby dV_71) rfl ?_
    show Steps p.tables e below (Tt114.setTop (mkF m 73 #[.val (.ref v), .val (.ref sr), .val (.int ix), .val (.ref va), .val (.ref tr), .val (.int (4 : Int32))] [(.int (4 : Int32))])) _
    refine XS.aloadN Xt114.here hx rfl (hb hby dV_73) rfl rfl ?_
    show Steps p.tables e below (Tt114.setTop (mkF m 74 #[.val (.ref v), .val (.ref sr), .val (.int ix), .val (.ref va), .val (.ref tr), .val (.int (4 : Int32))] [(.ref va), (.int (4 : Int32))])) _
    refine own_len Xt114 hx hZ et114 f116 (g := (mkF m 74 #[.val (.ref v), .val (.ref sr), .val (.int ix), .val (.ref va), .val (.ref tr), .val (.int (4 : Int32))] [(.ref va), (.int (4 : Int32))])) rfl rfl (hb hby dV_74) _ ?_
    show Steps p.tables e below (Tt114.setTop (mkF m 75 #[.val (.ref v), .val (.ref sr), .val (.int ix), .val (.ref va), .val (.ref tr), .val (.int (4 : Int32))] [(.int (4 : Int32)), (.int (4 : Int32))])) _
    refine XS.icmpYes Xt114.here hx rfl (pc0 := 75) (pc' := 102) rfl (hb hby dV_75) rfl (flt (by decide : ¬ ((4 : Int32) < (4 : Int32)))).2.1 (by decide) (by decide) ?_
    show Steps p.tables e below (Tt114.setTop (mkF m 102 #[.val (.ref v), .val (.ref sr), .val (.int ix), .val (.ref va), .val (.ref tr), .val (.int (4 : Int32))] [])) _
    refine XS.aloadN Xt114.here hx rfl (hb hby dV_102) rfl rfl ?_
    show Steps p.tables e below (Tt114.setTop (mkF m 103 #[.val (.ref v), .val (.ref sr), .val (.int ix), .val (.ref va), .val (.ref tr), .val (.int (4 : Int32))] [(.ref v)])) _
    refine XS.aloadN Xt114.here hx rfl (hb hby dV_103) rfl rfl ?_
    show Steps p.tables e below (Tt114.setTop (mkF m 104 #[.val (.ref v), .val (.ref sr), .val (.int ix), .val (.ref va), .val (.ref tr), .val (.int (4 : Int32))] [(.ref va), (.ref v)])) _
    refine own_len Xt114 hx hZ et114 f116 (g := (mkF m 104 #[.val (.ref v), .val (.ref sr), .val (.int ix), .val (.ref va), .val (.ref tr), .val (.int (4 : Int32))] [(.ref va), (.ref v)])) rfl rfl (hb hby dV_104) _ ?_
    show Steps p.tables e below (Tt114.setTop (mkF m 105 #[.val (.ref v), .val (.ref sr), .val (.int ix), .val (.ref va), .val (.ref tr), .val (.int (4 : Int32))] [(.int (4 : Int32)), (.ref v)])) _
    refine XS.bipush Xt114.here hx rfl (hb hby dV_105) ?_
    show Steps p.tables e below (Tt114.setTop (mkF m 107 #[.val (.ref v), .val (.ref sr), .val (.int ix), .val (.ref va), .val (.ref tr), .val (.int (4 : Int32))] [(.int (64 : Int32)), (.int (4 : Int32)), (.ref v)])) _
    refine XS.iadd Xt114.here hx rfl (hb hby dV_107) rfl ?_
    show Steps p.tables e below (Tt114.setTop (mkF m 108 #[.val (.ref v), .val (.ref sr), .val (.int ix), .val (.ref va), .val (.ref tr), .val (.int (4 : Int32))] [(.int (68 : Int32)), (.ref v)])) _
    refine XS.iconst Xt114.here hx rfl (hb hby dV_108) ?_
    show Steps p.tables e below (Tt114.setTop (mkF m 109 #[.val (.ref v), .val (.ref sr), .val (.int ix), .val (.ref va), .val (.ref tr), .val (.int (4 : Int32))] [(.int (1 : Int32)), (.int (68 : Int32)), (.ref v)])) _
    refine XS.isub Xt114.here hx rfl (hb hby dV_109) rfl ?_
    show Steps p.tables e below (Tt114.setTop (mkF m 110 #[.val (.ref v), .val (.ref sr), .val (.int ix), .val (.ref va), .val (.ref tr), .val (.int (4 : Int32))] [(.int (67 : Int32)), (.ref v)])) _
    refine XS.bipush Xt114.here hx rfl (hb hby dV_110) ?_
    show Steps p.tables e below (Tt114.setTop (mkF m 112 #[.val (.ref v), .val (.ref sr), .val (.int ix), .val (.ref va), .val (.ref tr), .val (.int (4 : Int32))] [(.int (64 : Int32)), (.int (67 : Int32)), (.ref v)])) _
    refine XS.idiv Xt114.here hx rfl (hb hby dV_112) rfl (by decide) ?_
    show Steps p.tables e below (Tt114.setTop (mkF m 113 #[.val (.ref v), .val (.ref sr), .val (.int ix), .val (.ref va), .val (.ref tr), .val (.int (4 : Int32))] [(.int (1 : Int32)), (.ref v)])) _
    refine stt117 _ ?_
    show Steps p.tables e below (Tt117.setTop (mkF m 115 #[.val (.ref v), .val (.ref sr), .val (.int ix), .val (.ref va), .val (.ref tr), .val (.int (4 : Int32))] [(.ref pr), (.ref v)])) _
    refine stt129 _ ?_
    show Steps p.tables e below (Tt129.setTop (mkF m 118 #[.val (.ref v), .val (.ref sr), .val (.int ix), .val (.ref va), .val (.ref tr), .val (.int (4 : Int32))] [])) _
    refine XS.iconst Xt129.here hx rfl (hb hby dV_118) ?_
    show Steps p.tables e below (Tt129.setTop (mkF m 119 #[.val (.ref v), .val (.ref sr), .val (.int ix), .val (.ref va), .val (.ref tr), .val (.int (4 : Int32))] [(.int (0 : Int32))])) _
    refine XS.istore Xt129.here hx rfl (hb hby dV_119) rfl (l' := #[.val (.ref v), .val (.ref sr), .val (.int ix), .val (.ref va), .val (.ref tr), .val (.int (0 : Int32))]) rfl ?_
    show Steps p.tables e below (Tt129.setTop (mkF m 121 #[.val (.ref v), .val (.ref sr), .val (.int ix), .val (.ref va), .val (.ref tr), .val (.int (0 : Int32))] [])) _
    refine XS.iload Xt129.here hx rfl (hb hby dV_121) rfl ?_
    show Steps p.tables e below (Tt129.setTop (mkF m 123 #[.val (.ref v), .val (.ref sr), .val (.int ix), .val (.ref va), .val (.ref tr), .val (.int (0 : Int32))] [(.int (0 : Int32))])) _
    refine XS.aloadN Xt129.here hx rfl (hb hby dV_123) rfl rfl ?_
    show Steps p.tables e below (Tt129.setTop (mkF m 124 #[.val (.ref v), .val (.ref sr), .val (.int ix), .val (.ref va), .val (.ref tr), .val (.int (0 : Int32))] [(.ref va), (.int (0 : Int32))])) _
    refine own_len Xt129 hx hZ et129 f130 (g := (mkF m 124 #[.val (.ref v), .val (.ref sr), .val (.int ix), .val (.ref va), .val (.ref tr), .val (.int (0 : Int32))] [(.ref va), (.int (0 : Int32))])) rfl rfl (hb hby dV_124) _ ?_
    show Steps p.tables e below (Tt129.setTop (mkF m 125 #[.val (.ref v), .val (.ref sr), .val (.int ix), .val (.ref va), .val (.ref tr), .val (.int (0 : Int32))] [(.int (4 : Int32)), (.int (0 : Int32))])) _
    refine XS.icmpNo Xt129.here hx rfl (hb hby dV_125) rfl (tlt (by decide : (0 : Int32) < (4 : Int32))).2.1 ?_
    show Steps p.tables e below (Tt129.setTop (mkF m 128 #[.val (.ref v), .val (.ref sr), .val (.int ix), .val (.ref va), .val (.ref tr), .val (.int (0 : Int32))] [])) _
    refine XS.aloadN Xt129.here hx rfl (hb hby dV_128) rfl rfl ?_
    show Steps p.tables e below (Tt129.setTop (mkF m 129 #[.val (.ref v), .val (.ref sr), .val (.int ix), .val (.ref va), .val (.ref tr), .val (.int (0 : Int32))] [(.ref v)])) _
    refine stt131 _ ?_
    show Steps p.tables e below (Tt131.setTop (mkF m 132 #[.val (.ref v), .val (.ref sr), .val (.int ix), .val (.ref va), .val (.ref tr), .val (.int (0 : Int32))] [(.ref pr)])) _
    refine XS.iload Xt131.here hx rfl (hb hby dV_132) rfl ?_
    show Steps p.tables e below (Tt131.setTop (mkF m 134 #[.val (.ref v), .val (.ref sr), .val (.int ix), .val (.ref va), .val (.ref tr), .val (.int (0 : Int32))] [(.int (0 : Int32)), (.ref pr)])) _
    refine XS.bipush Xt131.here hx rfl (hb hby dV_134) ?_
    show Steps p.tables e below (Tt131.setTop (mkF m 136 #[.val (.ref v), .val (.ref sr), .val (.int ix), .val (.ref va), .val (.ref tr), .val (.int (0 : Int32))] [(.int (64 : Int32)), (.int (0 : Int32)), (.ref pr)])) _
    refine XS.idiv Xt131.here hx rfl (hb hby dV_136) rfl (by decide) ?_
    show Steps p.tables e below (Tt131.setTop (mkF m 137 #[.val (.ref v), .val (.ref sr), .val (.int ix), .val (.ref va), .val (.ref tr), .val (.int (0 : Int32))] [(.int (0 : Int32)), (.ref pr)])) _
    refine XT.dup2 Xt131.here hx rfl (hb hby dV_137) rfl rfl rfl ?_
    show Steps p.tables e below (Tt131.setTop (mkF m 138 #[.val (.ref v), .val (.ref sr), .val (.int ix), .val (.ref va), .val (.ref tr), .val (.int (0 : Int32))] [(.int (0 : Int32)), (.ref pr), (.int (0 : Int32)), (.ref pr)])) _
    refine own_lld Xt131 hx hZ et131 f132 0 (by decide) (by decide) (by decide) rfl (g := (mkF m 138 #[.val (.ref v), .val (.ref sr), .val (.int ix), .val (.ref va), .val (.ref tr), .val (.int (0 : Int32))] [(.int (0 : Int32)), (.ref pr), (.int (0 : Int32)), (.ref pr)])) rfl rfl (hb hby dV_138) _ ?_
    show Steps p.tables e below (Tt131.setTop (mkF m 139 #[.val (.ref v), .val (.ref sr), .val (.int ix), .val (.ref va), .val (.ref tr), .val (.int (0 : Int32))] [(.long (0 : Int64)), (.int (0 : Int32)), (.ref pr)])) _
    refine XS.lconst Xt131.here hx rfl (hb hby dV_139) ?_
    show Steps p.tables e below (Tt131.setTop (mkF m 140 #[.val (.ref v), .val (.ref sr), .val (.int ix), .val (.ref va), .val (.ref tr), .val (.int (0 : Int32))] [(.long (1 : Int64)), (.long (0 : Int64)), (.int (0 : Int32)), (.ref pr)])) _
    refine XS.iload Xt131.here hx rfl (hb hby dV_140) rfl ?_
    show Steps p.tables e below (Tt131.setTop (mkF m 142 #[.val (.ref v), .val (.ref sr), .val (.int ix), .val (.ref va), .val (.ref tr), .val (.int (0 : Int32))] [(.int (0 : Int32)), (.long (1 : Int64)), (.long (0 : Int64)), (.int (0 : Int32)), (.ref pr)])) _
    refine XS.lshl Xt131.here hx rfl (hb hby dV_142) rfl ?_
    show Steps p.tables e below (Tt131.setTop (mkF m 143 #[.val (.ref v), .val (.ref sr), .val (.int ix), .val (.ref va), .val (.ref tr), .val (.int (0 : Int32))] [(.long ((1 : Int64) <<< ((0 : Int32) &&& 0x3f).toInt64)), (.long (0 : Int64)), (.int (0 : Int32)), (.ref pr)])) _
    refine XS.lor Xt131.here hx rfl (hb hby dV_143) rfl ?_
    show Steps p.tables e below (Tt131.setTop (mkF m 144 #[.val (.ref v), .val (.ref sr), .val (.int ix), .val (.ref va), .val (.ref tr), .val (.int (0 : Int32))] [(.long ((0 : Int64) ||| ((1 : Int64) <<< ((0 : Int32) &&& 0x3f).toInt64))), (.int (0 : Int32)), (.ref pr)])) _
    refine stt133 _ ?_
    show Steps p.tables e below (Tt133.setTop (mkF m 145 #[.val (.ref v), .val (.ref sr), .val (.int ix), .val (.ref va), .val (.ref tr), .val (.int (0 : Int32))] [])) _
    refine XS.iinc Xt133.here hx rfl (hb hby dV_145) rfl (l' := #[.val (.ref v), .val (.ref sr), .val (.int ix), .val (.ref va), .val (.ref tr), .val (.int (1 : Int32))]) rfl ?_
    show Steps p.tables e below (Tt133.setTop (mkF m 148 #[.val (.ref v), .val (.ref sr), .val (.int ix), .val (.ref va), .val (.ref tr), .val (.int (1 : Int32))] [])) _
    refine XS.goto Xt133.here hx rfl (pc0 := 148) (pc' := 121) rfl (hb hby dV_148) (by decide) (by decide) ?_
    show Steps p.tables e below (Tt133.setTop (mkF m 121 #[.val (.ref v), .val (.ref sr), .val (.int ix), .val (.ref va), .val (.ref tr), .val (.int (1 : Int32))] [])) _
    refine XS.iload Xt133.here hx rfl (hb hby dV_121) rfl ?_
    show Steps p.tables e below (Tt133.setTop (mkF m 123 #[.val (.ref v), .val (.ref sr), .val (.int ix), .val (.ref va), .val (.ref tr), .val (.int (1 : Int32))] [(.int (1 : Int32))])) _
    refine XS.aloadN Xt133.here hx rfl (hb hby dV_123) rfl rfl ?_
    show Steps p.tables e below (Tt133.setTop (mkF m 124 #[.val (.ref v), .val (.ref sr), .val (.int ix), .val (.ref va), .val (.ref tr), .val (.int (1 : Int32))] [(.ref va), (.int (1 : Int32))])) _
    refine own_len Xt133 hx hZ et133 f134 (g := (mkF m 124 #[.val (.ref v), .val (.ref sr), .val (.int ix), .val (.ref va), .val (.ref tr), .val (.int (1 : Int32))] [(.ref va), (.int (1 : Int32))])) rfl rfl (hb hby dV_124) _ ?_
    show Steps p.tables e below (Tt133.setTop (mkF m 125 #[.val (.ref v), .val (.ref sr), .val (.int ix), .val (.ref va), .val (.ref tr), .val (.int (1 : Int32))] [(.int (4 : Int32)), (.int (1 : Int32))])) _
    refine XS.icmpNo Xt133.here hx rfl (hb hby dV_125) rfl (tlt (by decide : (1 : Int32) < (4 : Int32))).2.1 ?_
    show Steps p.tables e below (Tt133.setTop (mkF m 128 #[.val (.ref v), .val (.ref sr), .val (.int ix), .val (.ref va), .val (.ref tr), .val (.int (1 : Int32))] [])) _
    refine XS.aloadN Xt133.here hx rfl (hb hby dV_128) rfl rfl ?_
    show Steps p.tables e below (Tt133.setTop (mkF m 129 #[.val (.ref v), .val (.ref sr), .val (.int ix), .val (.ref va), .val (.ref tr), .val (.int (1 : Int32))] [(.ref v)])) _
    refine stt136 _ ?_
    show Steps p.tables e below (Tt136.setTop (mkF m 132 #[.val (.ref v), .val (.ref sr), .val (.int ix), .val (.ref va), .val (.ref tr), .val (.int (1 : Int32))] [(.ref pr)])) _
    refine XS.iload Xt136.here hx rfl (hb hby dV_132) rfl ?_
    show Steps p.tables e below (Tt136.setTop (mkF m 134 #[.val (.ref v), .val (.ref sr), .val (.int ix), .val (.ref va), .val (.ref tr), .val (.int (1 : Int32))] [(.int (1 : Int32)), (.ref pr)])) _
    refine XS.bipush Xt136.here hx rfl (hb hby dV_134) ?_
    show Steps p.tables e below (Tt136.setTop (mkF m 136 #[.val (.ref v), .val (.ref sr), .val (.int ix), .val (.ref va), .val (.ref tr), .val (.int (1 : Int32))] [(.int (64 : Int32)), (.int (1 : Int32)), (.ref pr)])) _
    refine XS.idiv Xt136.here hx rfl (hb hby dV_136) rfl (by decide) ?_
    show Steps p.tables e below (Tt136.setTop (mkF m 137 #[.val (.ref v), .val (.ref sr), .val (.int ix), .val (.ref va), .val (.ref tr), .val (.int (1 : Int32))] [(.int (0 : Int32)), (.ref pr)])) _
    refine XT.dup2 Xt136.here hx rfl (hb hby dV_137) rfl rfl rfl ?_
    show Steps p.tables e below (Tt136.setTop (mkF m 138 #[.val (.ref v), .val (.ref sr), .val (.int ix), .val (.ref va), .val (.ref tr), .val (.int (1 : Int32))] [(.int (0 : Int32)), (.ref pr), (.int (0 : Int32)), (.ref pr)])) _
    refine own_lld Xt136 hx hZ et136 Vt133 0 (by decide) (by decide) (by decide) rfl (g := (mkF m 138 #[.val (.ref v), .val (.ref sr), .val (.int ix), .val (.ref va), .val (.ref tr), .val (.int (1 : Int32))] [(.int (0 : Int32)), (.ref pr), (.int (0 : Int32)), (.ref pr)])) rfl rfl (hb hby dV_138) _ ?_
    show Steps p.tables e below (Tt136.setTop (mkF m 139 #[.val (.ref v), .val (.ref sr), .val (.int ix), .val (.ref va), .val (.ref tr), .val (.int (1 : Int32))] [(.long zt133), (.int (0 : Int32)), (.ref pr)])) _
    refine XS.lconst Xt136.here hx rfl (hb hby dV_139) ?_
    show Steps p.tables e below (Tt136.setTop (mkF m 140 #[.val (.ref v), .val (.ref sr), .val (.int ix), .val (.ref va), .val (.ref tr), .val (.int (1 : Int32))] [(.long (1 : Int64)), (.long zt133), (.int (0 : Int32)), (.ref pr)])) _
    refine XS.iload Xt136.here hx rfl (hb hby dV_140) rfl ?_
    show Steps p.tables e below (Tt136.setTop (mkF m 142 #[.val (.ref v), .val (.ref sr), .val (.int ix), .val (.ref va), .val (.ref tr), .val (.int (1 : Int32))] [(.int (1 : Int32)), (.long (1 : Int64)), (.long zt133), (.int (0 : Int32)), (.ref pr)])) _
    refine XS.lshl Xt136.here hx rfl (hb hby dV_142) rfl ?_
    show Steps p.tables e below (Tt136.setTop (mkF m 143 #[.val (.ref v), .val (.ref sr), .val (.int ix), .val (.ref va), .val (.ref tr), .val (.int (1 : Int32))] [(.long ((1 : Int64) <<< ((1 : Int32) &&& 0x3f).toInt64)), (.long zt133), (.int (0 : Int32)), (.ref pr)])) _
    refine XS.lor Xt136.here hx rfl (hb hby dV_143) rfl ?_
    show Steps p.tables e below (Tt136.setTop (mkF m 144 #[.val (.ref v), .val (.ref sr), .val (.int ix), .val (.ref va), .val (.ref tr), .val (.int (1 : Int32))] [(.long (zt133 ||| ((1 : Int64) <<< ((1 : Int32) &&& 0x3f).toInt64))), (.int (0 : Int32)), (.ref pr)])) _
    refine stt137 _ ?_
    show Steps p.tables e below (Tt137.setTop (mkF m 145 #[.val (.ref v), .val (.ref sr), .val (.int ix), .val (.ref va), .val (.ref tr), .val (.int (1 : Int32))] [])) _
    refine XS.iinc Xt137.here hx rfl (hb hby dV_145) rfl (l' := #[.val (.ref v), .val (.ref sr), .val (.int ix), .val (.ref va), .val (.ref tr), .val (.int (2 : Int32))]) rfl ?_
    show Steps p.tables e below (Tt137.setTop (mkF m 148 #[.val (.ref v), .val (.ref sr), .val (.int ix), .val (.ref va), .val (.ref tr), .val (.int (2 : Int32))] [])) _
    refine XS.goto Xt137.here hx rfl (pc0 := 148) (pc' := 121) rfl (hb hby dV_148) (by decide) (by decide) ?_
    show Steps p.tables e below (Tt137.setTop (mkF m 121 #[.val (.ref v), .val (.ref sr), .val (.int ix), .val (.ref va), .val (.ref tr), .val (.int (2 : Int32))] [])) _
    refine XS.iload Xt137.here hx rfl (hb hby dV_121) rfl ?_
    show Steps p.tables e below (Tt137.setTop (mkF m 123 #[.val (.ref v), .val (.ref sr), .val (.int ix), .val (.ref va), .val (.ref tr), .val (.int (2 : Int32))] [(.int (2 : Int32))])) _
    refine XS.aloadN Xt137.here hx rfl (hb hby dV_123) rfl rfl ?_
    show Steps p.tables e below (Tt137.setTop (mkF m 124 #[.val (.ref v), .val (.ref sr), .val (.int ix), .val (.ref va), .val (.ref tr), .val (.int (2 : Int32))] [(.ref va), (.int (2 : Int32))])) _
    refine own_len Xt137 hx hZ et137 f138 (g := (mkF m 124 #[.val (.ref v), .val (.ref sr), .val (.int ix), .val (.ref va), .val (.ref tr), .val (.int (2 : Int32))] [(.ref va), (.int (2 : Int32))])) rfl rfl (hb hby dV_124) _ ?_
    show Steps p.tables e below (Tt137.setTop (mkF m 125 #[.val (.ref v), .val (.ref sr), .val (.int ix), .val (.ref va), .val (.ref tr), .val (.int (2 : Int32))] [(.int (4 : Int32)), (.int (2 : Int32))])) _
    refine XS.icmpNo Xt137.here hx rfl (hb hby dV_125) rfl (tlt (by decide : (2 : Int32) < (4 : Int32))).2.1 ?_
    show Steps p.tables e below (Tt137.setTop (mkF m 128 #[.val (.ref v), .val (.ref sr), .val (.int ix), .val (.ref va), .val (.ref tr), .val (.int (2 : Int32))] [])) _
    refine XS.aloadN Xt137.here hx rfl (hb hby dV_128) rfl rfl ?_
    show Steps p.tables e below (Tt137.setTop (mkF m 129 #[.val (.ref v), .val (.ref sr), .val (.int ix), .val (.ref va), .val (.ref tr), .val (.int (2 : Int32))] [(.ref v)])) _
    refine stt140 _ ?_
    show Steps p.tables e below (Tt140.setTop (mkF m 132 #[.val (.ref v), .val (.ref sr), .val (.int ix), .val (.ref va), .val (.ref tr), .val (.int (2 : Int32))] [(.ref pr)])) _
    refine XS.iload Xt140.here hx rfl (hb hby dV_132) rfl ?_
    show Steps p.tables e below (Tt140.setTop (mkF m 134 #[.val (.ref v), .val (.ref sr), .val (.int ix), .val (.ref va), .val (.ref tr), .val (.int (2 : Int32))] [(.int (2 : Int32)), (.ref pr)])) _
    refine XS.bipush Xt140.here hx rfl (hb hby dV_134) ?_
    show Steps p.tables e below (Tt140.setTop (mkF m 136 #[.val (.ref v), .val (.ref sr), .val (.int ix), .val (.ref va), .val (.ref tr), .val (.int (2 : Int32))] [(.int (64 : Int32)), (.int (2 : Int32)), (.ref pr)])) _
    refine XS.idiv Xt140.here hx rfl (hb hby dV_136) rfl (by decide) ?_
    show Steps p.tables e below (Tt140.setTop (mkF m 137 #[.val (.ref v), .val (.ref sr), .val (.int ix), .val (.ref va), .val (.ref tr), .val (.int (2 : Int32))] [(.int (0 : Int32)), (.ref pr)])) _
    refine XT.dup2 Xt140.here hx rfl (hb hby dV_137) rfl rfl rfl ?_
    show Steps p.tables e below (Tt140.setTop (mkF m 138 #[.val (.ref v), .val (.ref sr), .val (.int ix), .val (.ref va), .val (.ref tr), .val (.int (2 : Int32))] [(.int (0 : Int32)), (.ref pr), (.int (0 : Int32)), (.ref pr)])) _
    refine own_lld Xt140 hx hZ et140 Vt137 0 (by decide) (by decide) (by decide) rfl (g := (mkF m 138 #[.val (.ref v), .val (.ref sr), .val (.int ix), .val (.ref va), .val (.ref tr), .val (.int (2 : Int32))] [(.int (0 : Int32)), (.ref pr), (.int (0 : Int32)), (.ref pr)])) rfl rfl (hb hby dV_138) _ ?_
    show Steps p.tables e below (Tt140.setTop (mkF m 139 #[.val (.ref v), .val (.ref sr), .val (.int ix), .val (.ref va), .val (.ref tr), .val (.int (2 : Int32))] [(.long zt137), (.int (0 : Int32)), (.ref pr)])) _
    refine XS.lconst Xt140.here hx rfl (hb hby dV_139) ?_
    show Steps p.tables e below (Tt140.setTop (mkF m 140 #[.val (.ref v), .val (.ref sr), .val (.int ix), .val (.ref va), .val (.ref tr), .val (.int (2 : Int32))] [(.long (1 : Int64)), (.long zt137), (.int (0 : Int32)), (.ref pr)])) _
    refine XS.iload Xt140.here hx rfl (hb hby dV_140) rfl ?_
    show Steps p.tables e below (Tt140.setTop (mkF m 142 #[.val (.ref v), .val (.ref sr), .val (.int ix), .val (.ref va), .val (.ref tr), .val (.int (2 : Int32))] [(.int (2 : Int32)), (.long (1 : Int64)), (.long zt137), (.int (0 : Int32)), (.ref pr)])) _
    refine XS.lshl Xt140.here hx rfl (hb hby dV_142) rfl ?_
    show Steps p.tables e below (Tt140.setTop (mkF m 143 #[.val (.ref v), .val (.ref sr), .val (.int ix), .val (.ref va), .val (.ref tr), .val (.int (2 : Int32))] [(.long ((1 : Int64) <<< ((2 : Int32) &&& 0x3f).toInt64)), (.long zt137), (.int (0 : Int32)), (.ref pr)])) _
    refine XS.lor Xt140.here hx rfl (hb hby dV_143) rfl ?_
    show Steps p.tables e below (Tt140.setTop (mkF m 144 #[.val (.ref v), .val (.ref sr), .val (.int ix), .val (.ref va), .val (.ref tr), .val (.int (2 : Int32))] [(.long (zt137 ||| ((1 : Int64) <<< ((2 : Int32) &&& 0x3f).toInt64))), (.int (0 : Int32)), (.ref pr)])) _
    refine stt141 _ ?_
    show Steps p.tables e below (Tt141.setTop (mkF m 145 #[.val (.ref v), .val (.ref sr), .val (.int ix), .val (.ref va), .val (.ref tr), .val (.int (2 : Int32))] [])) _
    refine XS.iinc Xt141.here hx rfl (hb hby dV_145) rfl (l' := #[.val (.ref v), .val (.ref sr), .val (.int ix), .val (.ref va), .val (.ref tr), .val (.int (3 : Int32))]) rfl ?_
    show Steps p.tables e below (Tt141.setTop (mkF m 148 #[.val (.ref v), .val (.ref sr), .val (.int ix), .val (.ref va), .val (.ref tr), .val (.int (3 : Int32))] [])) _
    refine XS.goto Xt141.here hx rfl (pc0 := 148) (pc' := 121) rfl (hb hby dV_148) (by decide) (by decide) ?_
    show Steps p.tables e below (Tt141.setTop (mkF m 121 #[.val (.ref v), .val (.ref sr), .val (.int ix), .val (.ref va), .val (.ref tr), .val (.int (3 : Int32))] [])) _
    refine XS.iload Xt141.here hx rfl (hb hby dV_121) rfl ?_
    show Steps p.tables e below (Tt141.setTop (mkF m 123 #[.val (.ref v), .val (.ref sr), .val (.int ix), .val (.ref va), .val (.ref tr), .val (.int (3 : Int32))] [(.int (3 : Int32))])) _
    refine XS.aloadN Xt141.here hx rfl (hb hby dV_123) rfl rfl ?_
    show Steps p.tables e below (Tt141.setTop (mkF m 124 #[.val (.ref v), .val (.ref sr), .val (.int ix), .val (.ref va), .val (.ref tr), .val (.int (3 : Int32))] [(.ref va), (.int (3 : Int32))])) _
    refine own_len Xt141 hx hZ et141 f142 (g := (mkF m 124 #[.val (.ref v), .val (.ref sr), .val (.int ix), .val (.ref va), .val (.ref tr), .val (.int (3 : Int32))] [(.ref va), (.int (3 : Int32))])) rfl rfl (hb hby dV_124) _ ?_
    show Steps p.tables e below (Tt141.setTop (mkF m 125 #[.val (.ref v), .val (.ref sr), .val (.int ix), .val (.ref va), .val (.ref tr), .val (.int (3 : Int32))] [(.int (4 : Int32)), (.int (3 : Int32))])) _
    refine XS.icmpNo Xt141.here hx rfl (hb hby dV_125) rfl (tlt (by decide : (3 : Int32) < (4 : Int32))).2.1 ?_
    show Steps p.tables e below (Tt141.setTop (mkF m 128 #[.val (.ref v), .val (.ref sr), .val (.int ix), .val (.ref va), .val (.ref tr), .val (.int (3 : Int32))] [])) _
    refine XS.aloadN Xt141.here hx rfl (hb hby dV_128) rfl rfl ?_
    show Steps p.tables e below (Tt141.setTop (mkF m 129 #[.val (.ref v), .val (.ref sr), .val (.int ix), .val (.ref va), .val (.ref tr), .val (.int (3 : Int32))] [(.ref v)])) _
    refine stt144 _ ?_
    show Steps p.tables e below (Tt144.setTop (mkF m 132 #[.val (.ref v), .val (.ref sr), .val (.int ix), .val (.ref va), .val (.ref tr), .val (.int (3 : Int32))] [(.ref pr)])) _
    refine XS.iload Xt144.here hx rfl (hb hby dV_132) rfl ?_
    show Steps p.tables e below (Tt144.setTop (mkF m 134 #[.val (.ref v), .val (.ref sr), .val (.int ix), .val (.ref va), .val (.ref tr), .val (.int (3 : Int32))] [(.int (3 : Int32)), (.ref pr)])) _
    refine XS.bipush Xt144.here hx rfl (hb hby dV_134) ?_
    show Steps p.tables e below (Tt144.setTop (mkF m 136 #[.val (.ref v), .val (.ref sr), .val (.int ix), .val (.ref va), .val (.ref tr), .val (.int (3 : Int32))] [(.int (64 : Int32)), (.int (3 : Int32)), (.ref pr)])) _
    refine XS.idiv Xt144.here hx rfl (hb hby dV_136) rfl (by decide) ?_
    show Steps p.tables e below (Tt144.setTop (mkF m 137 #[.val (.ref v), .val (.ref sr), .val (.int ix), .val (.ref va), .val (.ref tr), .val (.int (3 : Int32))] [(.int (0 : Int32)), (.ref pr)])) _
    refine XT.dup2 Xt144.here hx rfl (hb hby dV_137) rfl rfl rfl ?_
    show Steps p.tables e below (Tt144.setTop (mkF m 138 #[.val (.ref v), .val (.ref sr), .val (.int ix), .val (.ref va), .val (.ref tr), .val (.int (3 : Int32))] [(.int (0 : Int32)), (.ref pr), (.int (0 : Int32)), (.ref pr)])) _
    refine own_lld Xt144 hx hZ et144 Vt141 0 (by decide) (by decide) (by decide) rfl (g := (mkF m 138 #[.val (.ref v), .val (.ref sr), .val (.int ix), .val (.ref va), .val (.ref tr), .val (.int (3 : Int32))] [(.int (0 : Int32)), (.ref pr), (.int (0 : Int32)), (.ref pr)])) rfl rfl (hb hby dV_138) _ ?_
    show Steps p.tables e below (Tt144.setTop (mkF m 139 #[.val (.ref v), .val (.ref sr), .val (.int ix), .val (.ref va), .val (.ref tr), .val (.int (3 : Int32))] [(.long zt141), (.int (0 : Int32)), (.ref pr)])) _
    refine XS.lconst Xt144.here hx rfl (hb hby dV_139) ?_
    show Steps p.tables e below (Tt144.setTop (mkF m 140 #[.val (.ref v), .val (.ref sr), .val (.int ix), .val (.ref va), .val (.ref tr), .val (.int (3 : Int32))] [(.long (1 : Int64)), (.long zt141), (.int (0 : Int32)), (.ref pr)])) _
    refine XS.iload Xt144.here hx rfl (hb hby dV_140) rfl ?_
    show Steps p.tables e below (Tt144.setTop (mkF m 142 #[.val (.ref v), .val (.ref sr), .val (.int ix), .val (.ref va), .val (.ref tr), .val (.int (3 : Int32))] [(.int (3 : Int32)), (.long (1 : Int64)), (.long zt141), (.int (0 : Int32)), (.ref pr)])) _
    refine XS.lshl Xt144.here hx rfl (hb hby dV_142) rfl ?_
    show Steps p.tables e below (Tt144.setTop (mkF m 143 #[.val (.ref v), .val (.ref sr), .val (.int ix), .val (.ref va), .val (.ref tr), .val (.int (3 : Int32))] [(.long ((1 : Int64) <<< ((3 : Int32) &&& 0x3f).toInt64)), (.long zt141), (.int (0 : Int32)), (.ref pr)])) _
    refine XS.lor Xt144.here hx rfl (hb hby dV_143) rfl ?_
    show Steps p.tables e below (Tt144.setTop (mkF m 144 #[.val (.ref v), .val (.ref sr), .val (.int ix), .val (.ref va), .val (.ref tr), .val (.int (3 : Int32))] [(.long (zt141 ||| ((1 : Int64) <<< ((3 : Int32) &&& 0x3f).toInt64))), (.int (0 : Int32)), (.ref pr)])) _
    refine stt145 _ ?_
    show Steps p.tables e below (Tt145.setTop (mkF m 145 #[.val (.ref v), .val (.ref sr), .val (.int ix), .val (.ref va), .val (.ref tr), .val (.int (3 : Int32))] [])) _
    refine XS.iinc Xt145.here hx rfl (hb hby dV_145) rfl (l' := #[.val (.ref v), .val (.ref sr), .val (.int ix), .val (.ref va), .val (.ref tr), .val (.int (4 : Int32))]) rfl ?_
    show Steps p.tables e below (Tt145.setTop (mkF m 148 #[.val (.ref v), .val (.ref sr), .val (.int ix), .val (.ref va), .val (.ref tr), .val (.int (4 : Int32))] [])) _
    refine XS.goto Xt145.here hx rfl (pc0 := 148) (pc' := 121) rfl (hb hby dV_148) (by decide) (by decide) ?_
    show Steps p.tables e below (Tt145.setTop (mkF m 121 #[.val (.ref v), .val (.ref sr), .val (.int ix), .val (.ref va), .val (.ref tr), .val (.int (4 : Int32))] [])) _
    refine XS.iload Xt145.here hx rfl (hb hby dV_121) rfl ?_
    show Steps p.tables e below (Tt145.setTop (mkF m 123 #[.val (.ref v), .val (.ref sr), .val (.int ix), .val (.ref va), .val (.ref tr), .val (.int (4 : Int32))] [(.int (4 : Int32))])) _
    refine XS.aloadN Xt145.here hx rfl (hb hby dV_123) rfl rfl ?_
    show Steps p.tables e below (Tt145.setTop (mkF m 124 #[.val (.ref v), .val (.ref sr), .val (.int ix), .val (.ref va), .val (.ref tr), .val (.int (4 : Int32))] [(.ref va), (.int (4 : Int32))])) _
    refine own_len Xt145 hx hZ et145 f146 (g := (mkF m 124 #[.val (.ref v), .val (.ref sr), .val (.int ix), .val (.ref va), .val (.ref tr), .val (.int (4 : Int32))] [(.ref va), (.int (4 : Int32))])) rfl rfl (hb hby dV_124) _ ?_
    show Steps p.tables e below (Tt145.setTop (mkF m 125 #[.val (.ref v), .val (.ref sr), .val (.int ix), .val (.ref va), .val (.ref tr), .val (.int (4 : Int32))] [(.int (4 : Int32)), (.int (4 : Int32))])) _
    refine XS.icmpYes Xt145.here hx rfl (pc0 := 125) (pc' := 151) rfl (hb hby dV_125) rfl (flt (by decide : ¬ ((4 : Int32) < (4 : Int32)))).2.1 (by decide) (by decide) ?_
    show Steps p.tables e below (Tt145.setTop (mkF m 151 #[.val (.ref v), .val (.ref sr), .val (.int ix), .val (.ref va), .val (.ref tr), .val (.int (4 : Int32))] [])) _
    refine XS.aloadN Xt145.here hx rfl (hb hby dV_151) rfl rfl ?_
    show Steps p.tables e below (Tt145.setTop (mkF m 152 #[.val (.ref v), .val (.ref sr), .val (.int ix), .val (.ref va), .val (.ref tr), .val (.int (4 : Int32))] [(.ref v)])) _
    refine XS.aload Xt145.here hx rfl (hb hby dV_152) rfl rfl ?_
    show Steps p.tables e below (Tt145.setTop (mkF m 154 #[.val (.ref v), .val (.ref sr), .val (.int ix), .val (.ref va), .val (.ref tr), .val (.int (4 : Int32))] [(.ref tr), (.ref v)])) _
    refine stt159 _ ?_
    show Steps p.tables e below (Tt159.setTop (mkF m 157 #[.val (.ref v), .val (.ref sr), .val (.int ix), .val (.ref va), .val (.ref tr), .val (.int (4 : Int32))] [])) _
    refine XS.aloadN Xt159.here hx rfl (hb hby dV_157) rfl rfl ?_
    show Steps p.tables e below (Tt159.setTop (mkF m 158 #[.val (.ref v), .val (.ref sr), .val (.int ix), .val (.ref va), .val (.ref tr), .val (.int (4 : Int32))] [(.ref v)])) _
    refine XS.aloadN Xt159.here hx rfl (hb hby dV_158) rfl rfl ?_
    show Steps p.tables e below (Tt159.setTop (mkF m 159 #[.val (.ref v), .val (.ref sr), .val (.int ix), .val (.ref va), .val (.ref tr), .val (.int (4 : Int32))] [(.ref va), (.ref v)])) _
    refine own_len Xt159 hx hZ et159 f160 (g := (mkF m 159 #[.val (.ref v), .val (.ref sr), .val (.int ix), .val (.ref va), .val (.ref tr), .val (.int (4 : Int32))] [(.ref va), (.ref v)])) rfl rfl (hb hby dV_159) _ ?_
    show Steps p.tables e below (Tt159.setTop (mkF m 160 #[.val (.ref v), .val (.ref sr), .val (.int ix), .val (.ref va), .val (.ref tr), .val (.int (4 : Int32))] [(.int (4 : Int32)), (.ref v)])) _
    refine stt174 _ ?_
    show Steps p.tables e below (Tt174.setTop (mkF m 163 #[.val (.ref v), .val (.ref sr), .val (.int ix), .val (.ref va), .val (.ref tr), .val (.int (4 : Int32))] [])) _
    refine XS.aloadN Xt174.here hx rfl (hb hby dV_163) rfl rfl ?_
    show Steps p.tables e below (Tt174.setTop (mkF m 164 #[.val (.ref v), .val (.ref sr), .val (.int ix), .val (.ref va), .val (.ref tr), .val (.int (4 : Int32))] [(.ref v)])) _
    refine XS.aloadN Xt174.here hx rfl (hb hby dV_164) rfl rfl ?_
    show Steps p.tables e below (Tt174.setTop (mkF m 165 #[.val (.ref v), .val (.ref sr), .val (.int ix), .val (.ref va), .val (.ref tr), .val (.int (4 : Int32))] [(.ref va), (.ref v)])) _
    refine own_len Xt174 hx hZ et174 f175 (g := (mkF m 165 #[.val (.ref v), .val (.ref sr), .val (.int ix), .val (.ref va), .val (.ref tr), .val (.int (4 : Int32))] [(.ref va), (.ref v)])) rfl rfl (hb hby dV_165) _ ?_
    show Steps p.tables e below (Tt174.setTop (mkF m 166 #[.val (.ref v), .val (.ref sr), .val (.int ix), .val (.ref va), .val (.ref tr), .val (.int (4 : Int32))] [(.int (4 : Int32)), (.ref v)])) _
    refine stt176 _ ?_
    show Steps p.tables e below (Tt176.setTop (mkF m 168 #[.val (.ref v), .val (.ref sr), .val (.int ix), .val (.ref va), .val (.ref tr), .val (.int (4 : Int32))] [(.ref ws), (.ref v)])) _
    refine stt192 _ ?_
    exact Xt192.returnOut hx Bd.returns (hb hby dV_171) hr
  · show Q3 Z v tr h0 n0 _ Tt192.heap _
    rw [et192]
    exact ⟨rfl, Nt192, dn, pl, pr, ws, kt53, kt66, kt117, kt176, sh_dn, ⟨f193, f194, f196, ⟨_, f209⟩, f212, f217, f222, f226, Ft192, f227, f228, f229, f230, ⟨_, f231⟩, f232, by omega, by omega, by omega, by omega, by omega⟩⟩
theorem pn_0 : plainName "com/example/arcmill/arcmill/VariableResetWorkspacePinLaw" = true := by first | (simp [plainName, overriddenIn]; done) | decide +kernel
def own_bb (b : Bool) : Int32 := if b then 1 else 0
theorem own_bbt {P : Prop} [Decidable P] (h : ¬ P) : (1 : Int32) = own_bb (decide (¬ P)) := by rw [decide_eq_true h]; rfl
theorem own_bbf {P : Prop} [Decidable P] (h : P) : (0 : Int32) = own_bb (decide (¬ P)) := by rw [decide_eq_false (not_not_intro h)]; rfl
theorem ef_0 (m : MethodId) (x0 : Int32) (x1 : Int32) (x2 : Int32) (x3 : Int32) (x4 : Int32) (x5 : Int32) : entryFrame m #[(.int x0), (.int x1), (.int x2), (.int x3), (.int x4), (.int x5)] maxLocals = mkF m 0 #[.val (.int x0), .val (.int x1), .val (.int x2), .val (.int x3), .val (.int x4), .val (.int x5), .unset, .unset, .unset, .unset, .unset, .unset, .unset, .unset, .unset] [] := by first | (simp [entryFrame, mkF, argsToLocals, Value.category, maxLocals]; done) | rfl
def Q0 (Z : State) (p1 : Int32) (p2 : Int32) (p3 : Int32) (p4 : Int32) (p5 : Int32) (p6 : Int32) (h0 : Heap) (n0 : Nat) (v : Option Value) (h : Heap) (L : List Loc) : Prop := v = some (.int (1 : Int32)) ∧ Fr n0 L
set_option maxRecDepth 65536 in
set_option maxHeartbeats 40000000 in
theorem rm0 (l : Launch) (Z : State) (a0 : Array Value) (hw : ∀ d ∈ tables_1, d.before a0 Z = true) (ws : List Jvm.Cond) (p1 : Int32) (p2 : Int32) (p3 : Int32) (p4 : Int32) (p5 : Int32) (p6 : Int32) (h0 : Heap) (n0 : Nat) (Z0 : n0 ≤ h0.size) (w3 : Addr) (S0 : Sta Z Z.heap "java/util/ArrayList" "DEFAULTCAPACITY_EMPTY_ELEMENTDATA" "[Ljava/lang/Object;" (.ref w3)) (hO : Old Z n0 h0) :
    MetFree l x (head1 (Jvm.Cond.code x code maxLocals ret :: ws) room_1) (fun a U => a = #[(.int p1), (.int p2), (.int p3), (.int p4), (.int p5), (.int p6)] ∧ Z.Warmed39 U.vm ∧ U.heap = h0) (fun _ _ _ _ _ => True) (fun _ U o U' => ∃ v L, o = .returned v ∧ Q0 Z p1 p2 p3 p4 p5 p6 h0 n0 v U'.heap L ∧ ReturnedEndW U o U' L room_1.cells room_1.slots) := by
  refine MetFree.of_bodySF (plainFor_of_name pn_0) hisR ?_
  intro p e s m args below meth c s₁ Bd hml0 hP hK
  obtain ⟨rfl, hZ, hh⟩ := hP
  have hx := Bd.exec
  have hby := Bd.bytes
  have hml : c.maxLocals = 15 := hml0
  have hown : s.vm.findClass "com/example/arcmill/arcmill/VariableResetWorkspacePinLaw" = some m.cls := findClass_of_methodNamed Bd.named
  have hnm := (name_of_methodNamed Bd.named Bd.method).1
  have X0 : Stand p l e room_1 s m #[(.int p1), (.int p2), (.int p3), (.int p4), (.int p5), (.int p6)] below meth c s₁ [] 0 0 := Stand.of_body Bd
  have e0 : s₁.heap = h0 := by rw [← hh, Bd.state]; rfl
  have N0 := Fr.nil n0
  have pre0 : ∀ t, Steps p.tables e below (s₁.setTop (mkF m 0 #[.val (.int p1), .val (.int p2), .val (.int p3), .val (.int p4), .val (.int p5), .val (.int p6), .unset, .unset, .unset, .unset, .unset, .unset, .unset, .unset, .unset] [])) t → Steps p.tables e below (s₁.setTop (entryFrame m #[(.int p1), (.int p2), (.int p3), (.int p4), (.int p5), (.int p6)] maxLocals)) t := fun t k => castTop (ef_0 m p1 p2 p3 p4 p5 p6) k
  have own_wS : ∀ d ∈ Bundle.stringAtoms, d.before a0 Z = true := fun d hd => by
    simp only [Bundle.stringAtoms, List.mem_cons, List.not_mem_nil, or_false] at hd
    rcases hd with rfl | rfl | rfl | rfl | rfl | rfl | rfl <;> first | exact (hw _ (List.mem_of_getElem? (i := 22) rfl)) | exact (hw _ (List.mem_of_getElem? (i := 23) rfl)) | exact (hw _ (List.mem_of_getElem? (i := 24) rfl)) | exact (hw _ (List.mem_of_getElem? (i := 25) rfl)) | exact (hw _ (List.mem_of_getElem? (i := 26) rfl)) | exact (hw _ (List.mem_of_getElem? (i := 27) rfl)) | exact (hw _ (List.mem_of_getElem? (i := 28) rfl))
  obtain ⟨Tt1, ht1, Xt1, et1, Et1, At1, Dt1, -, stt1⟩ := newO X0 hx hZ hown (hw _ (List.mem_of_getElem? (i := 0) rfl)) (hw _ (List.mem_of_getElem? (i := 1) rfl)) (hw _ (List.mem_of_getElem? (i := 2) rfl)) e0 (g := (mkF m 0 #[.val (.int p1), .val (.int p2), .val (.int p3), .val (.int p4), .val (.int p5), .val (.int p6), .unset, .unset, .unset, .unset, .unset, .unset, .unset, .unset, .unset] [])) rfl (hb hby at_0) (by decide) (by decide)
  obtain ⟨tr, gt1⟩ : ∃ z, z = h0.size := ⟨_, rfl⟩
  rw [← gt1] at At1 Dt1 stt1
  have ge_tr : n0 ≤ tr := Nat.le_trans Z0 (Nat.le_of_eq gt1.symm)
  have Zt1 : n0 ≤ ht1.size := Nat.le_trans Z0 Et1.1
  have f2 : Fld Z ht1 tr "com/example/arcmill/arcmill/Trail" "owners" "[Lcom/example/arcmill/arcmill/Trail$Restorable;" .null := Dt1 (Or.inl (hw _ (List.mem_of_getElem? (i := 12) rfl))) (ty := (.array (.object "com/example/arcmill/arcmill/Trail$Restorable"))) (by decide)
  have f3 : Fld Z ht1 tr "com/example/arcmill/arcmill/Trail" "values" "[I" .null := Dt1 (Or.inl (hw _ (List.mem_of_getElem? (i := 15) rfl))) (ty := (.array .int)) (by decide)
  have f4 : Fld Z ht1 tr "com/example/arcmill/arcmill/Trail" "levelStarts" "[I" .null := Dt1 (Or.inl (hw _ (List.mem_of_getElem? (i := 17) rfl))) (ty := (.array .int)) (by decide)
  have f5 : Fld Z ht1 tr "com/example/arcmill/arcmill/Trail" "epoch" "J" (.long (0 : Int64)) := Dt1 (Or.inl (hw _ (List.mem_of_getElem? (i := 111) rfl))) (ty := .long) (by decide)
  have f6 : Fld Z ht1 tr "com/example/arcmill/arcmill/Trail" "level" "I" (.int (0 : Int32)) := Dt1 (Or.inl (hw _ (List.mem_of_getElem? (i := 113) rfl))) (ty := .int) (by decide)
  have f7 : Fld Z ht1 tr "com/example/arcmill/arcmill/Trail" "size" "I" (.int (0 : Int32)) := Dt1 (Or.inl (hw _ (List.mem_of_getElem? (i := 120) rfl))) (ty := .int) (by decide)
  obtain ⟨_, _, ⟨Tt8, Lt8, kt8, nt8⟩, -, Xt8, ⟨Lct8, hQt8, lt8, yt8, zt8⟩, stt8⟩ := Xt1.specialBack hx (y := (⟨"com/example/arcmill/arcmill/Trail", "<init>", "()V"⟩ : MethodName)) rfl hown (mvT hZ (hw _ (List.mem_of_getElem? (i := 3) rfl))) (mvT hZ (hw _ (List.mem_of_getElem? (i := 4) rfl))) (mvT hZ (hw _ (List.mem_of_getElem? (i := 5) rfl))) (by decide) (backOf (W := 1) (rm1 l Z a0 hw [] tr ht1 n0 Zt1 ge_tr At1 f2 f3 f4 f5 f6 f7) hZ (hw _ (List.mem_of_getElem? (i := 5) rfl)) (hw _ (List.mem_of_getElem? (i := 2) rfl)) (by decide) (by decide)) (g := (mkF m 4 #[.val (.int p1), .val (.int p2), .val (.int p3), .val (.int p4), .val (.int p5), .val (.int p6), .unset, .unset, .unset, .unset, .unset, .unset, .unset, .unset, .unset] [(.ref tr), (.ref tr)])) rfl (by rw [hml]; rfl) (Steps.refl _) (a := tr) (argsL := []) (rest := [(.ref tr)]) (lenOf pd_v rfl) rfl (by show 2 * 0 + _ ≤ _; exact Nat.le_of_eq rfl) (hb hby at_4) (fun _ _ => ⟨rfl, et1, (by decide : 1 + 3 ≤ _), (by decide : 6 + 576 ≤ _)⟩)
  dsimp only [Pt.U, Pt.locs, Pt.cells, Pt.slots] at Xt8 lt8 yt8 zt8 stt8 hQt8
  subst lt8 yt8 zt8
  obtain ⟨rfl, Nt8q, Kt8, Et8q, Ft8a, Ft8b⟩ := hQt8
  have Nt8 := Fr.app N0 Nt8q
  have f9 : Old Z n0 ht1 := hO.ext Et1
  have Ot8 := f9.keep Kt8 (fun x hx => by cases List.mem_singleton.mp hx; exact ge_tr)
  have Zt8 : n0 ≤ Tt8.heap.size := Nat.le_trans Zt1 Kt8.1
  obtain ⟨Tt10, ht10, kt10, Xt10, et10, Et10, At10, stt10⟩ := newP Xt8 hx hZ (hw _ (List.mem_of_getElem? (i := 13) rfl)) rfl (g := (mkF m 10 #[.val (.int p1), .val (.int p2), .val (.int p3), .val (.int p4), .val (.int p5), .val (.int p6), .val (.ref tr), .unset, .unset, .unset, .unset, .unset, .unset, .unset, .unset] [(.int (4 : Int32))])) rfl (hb hby at_10) rfl (by decide) (cap := 4) (by decide) (by decide) (by decide) (by decide)
  obtain ⟨va, gt10⟩ : ∃ z, z = Tt8.heap.size := ⟨_, rfl⟩
  rw [← gt10] at At10 stt10
  have lt_tr_va : @LT.lt Nat _ tr va := Nat.lt_of_lt_of_le Et8q.lt (Nat.le_of_eq gt10.symm)
  have ge_va : n0 ≤ va := Nat.le_trans Zt8 (Nat.le_of_eq gt10.symm)
  have Zt10 : n0 ≤ ht10.size := Nat.le_trans Zt8 Et10.1
  have Vt10 : Arv Z ht10 va kt10 .int (4 : Int32) [(.int (0 : Int32)), (.int (0 : Int32)), (.int (0 : Int32)), (.int (0 : Int32))] (.int (0 : Int32)) := (Arv.new At10 (by decide)).pad (pad_rep [] (.int (0 : Int32)) 4)
  obtain ⟨Tt11, ht11, Xt11, et11, Wt11, Vt11', stt11⟩ := own_ist Xt10 hx hZ et10 Vt10 0 (by decide) (by decide) (by decide) (Nat.le_of_ble_eq_true rfl) (g := (mkF m 16 #[.val (.int p1), .val (.int p2), .val (.int p3), .val (.int p4), .val (.int p5), .val (.int p6), .val (.ref tr), .unset, .unset, .unset, .unset, .unset, .unset, .unset, .unset] [(.int (-5 : Int32)), (.int (0 : Int32)), (.ref va), (.ref va)])) rfl rfl (hb hby at_16)
  have Nt11 := Fr.snoc Xt11 Nt8 ge_va
  have Zt11 : n0 ≤ ht11.size := by rw [Wt11.size]; exact Zt10
  have Vt11 : Arv Z ht11 va kt10 .int (4 : Int32) [(.int (-5 : Int32)), (.int (0 : Int32)), (.int (0 : Int32)), (.int (0 : Int32))] (.int (0 : Int32)) := Vt11'
  obtain ⟨Tt12, ht12, Xt12, et12, Wt12, Vt12', stt12⟩ := own_ist Xt11 hx hZ et11 Vt11 1 (by decide) (by decide) (by decide) (Nat.le_of_ble_eq_true rfl) (g := (mkF m 20 #[.val (.int p1), .val (.int p2), .val (.int p3), .val (.int p4), .val (.int p5), .val (.int p6), .val (.ref tr), .unset, .unset, .unset, .unset, .unset, .unset, .unset, .unset] [(.int (0 : Int32)), (.int (1 : Int32)), (.ref va), (.ref va)])) rfl rfl (hb hby at_20)
  have Nt12 := Fr.snoc Xt12 Nt11 ge_va
  have Zt12 : n0 ≤ ht12.size := by rw [Wt12.size]; exact Zt11
  have Vt12 : Arv Z ht12 va kt10 .int (4 : Int32) [(.int (-5 : Int32)), (.int (0 : Int32)), (.int (0 : Int32)), (.int (0 : Int32))] (.int (0 : Int32)) := Vt12'
  obtain ⟨Tt13, ht13, Xt13, et13, Wt13, Vt13', stt13⟩ := own_ist Xt12 hx hZ et12 Vt12 2 (by decide) (by decide) (by decide) (Nat.le_of_ble_eq_true rfl) (g := (mkF m 25 #[.val (.int p1), .val (.int p2), .val (.int p3), .val (.int p4), .val (.int p5), .val (.int p6), .val (.ref tr), .unset, .unset, .unset, .unset, .unset, .unset, .unset, .unset] [(.int (7 : Int32)), (.int (2 : Int32)), (.ref va), (.ref va)])) rfl rfl (hb hby at_25)
  have Nt13 := Fr.snoc Xt13 Nt12 ge_va
  have Zt13 : n0 ≤ ht13.size := by rw [Wt13.size]; exact Zt12
  have Vt13 : Arv Z ht13 va kt10 .int (4 : Int32) [(.int (-5 : Int32)), (.int (0 : Int32)), (.int (7 : Int32)), (.int (0 : Int32))] (.int (0 : Int32)) := Vt13'
  obtain ⟨Tt14, ht14, Xt14, et14, Wt14, Vt14', stt14⟩ := own_ist Xt13 hx hZ et13 Vt13 3 (by decide) (by decide) (by decide) (Nat.le_of_ble_eq_true rfl) (g := (mkF m 30 #[.val (.int p1), .val (.int p2), .val (.int p3), .val (.int p4), .val (.int p5), .val (.int p6), .val (.ref tr), .unset, .unset, .unset, .unset, .unset, .unset, .unset, .unset] [(.int (100 : Int32)), (.int (3 : Int32)), (.ref va), (.ref va)])) rfl rfl (hb hby at_30)
  have Nt14 := Fr.snoc Xt14 Nt13 ge_va
  have Zt14 : n0 ≤ ht14.size := by rw [Wt14.size]; exact Zt13
  have Vt14 : Arv Z ht14 va kt10 .int (4 : Int32) [(.int (-5 : Int32)), (.int (0 : Int32)), (.int (7 : Int32)), (.int (100 : Int32))] (.int (0 : Int32)) := Vt14'
  obtain ⟨Tt15, ht15, Xt15, et15, Et15, At15, Dt15, -, stt15⟩ := newO Xt14 hx hZ hown (hw _ (List.mem_of_getElem? (i := 18) rfl)) (hw _ (List.mem_of_getElem? (i := 19) rfl)) (hw _ (List.mem_of_getElem? (i := 20) rfl)) et14 (g := (mkF m 33 #[.val (.int p1), .val (.int p2), .val (.int p3), .val (.int p4), .val (.int p5), .val (.int p6), .val (.ref tr), .val (.ref va), .unset, .unset, .unset, .unset, .unset, .unset, .unset] [])) rfl (hb hby at_33) (by decide) (by decide)
  obtain ⟨v, gt15⟩ : ∃ z, z = ht14.size := ⟨_, rfl⟩
  rw [← gt15] at At15 Dt15 stt15
  have lt_va_v : @LT.lt Nat _ va v := Nat.lt_of_lt_of_le Vt14.lt (Nat.le_of_eq gt15.symm)
  have ge_v : n0 ≤ v := Nat.le_trans Zt14 (Nat.le_of_eq gt15.symm)
  have Zt15 : n0 ≤ ht15.size := Nat.le_trans Zt14 Et15.1
  have f16 : Fld Z ht15 v "com/example/arcmill/arcmill/Variable" "sizeSavedIn" "J" (.long (0 : Int64)) := Dt15 (Or.inl (hw _ (List.mem_of_getElem? (i := 35) rfl))) (ty := .long) (by decide)
  have f17 : Fld Z ht15 v "com/example/arcmill/arcmill/Variable" "constraints" "Ljava/util/List;" .null := Dt15 (Or.inr (hw _ (List.mem_of_getElem? (i := 61) rfl))) (ty := (.object "java/util/List")) (by decide)
  have f18 : Fld Z ht15 v "com/example/arcmill/arcmill/Variable" "constraintIndexes" "[I" .null := Dt15 (Or.inl (hw _ (List.mem_of_getElem? (i := 63) rfl))) (ty := (.array .int)) (by decide)
  have f19 : Fld Z ht15 v "com/example/arcmill/arcmill/Variable" "partners" "[Lcom/example/arcmill/arcmill/Variable;" .null := Dt15 (Or.inl (hw _ (List.mem_of_getElem? (i := 67) rfl))) (ty := (.array (.object "com/example/arcmill/arcmill/Variable"))) (by decide)
  have f20 : Fld Z ht15 v "com/example/arcmill/arcmill/Variable" "name" "Ljava/lang/String;" .null := Dt15 (Or.inr (hw _ (List.mem_of_getElem? (i := 69) rfl))) (ty := (.object "java/lang/String")) (by decide)
  have f21 : Fld Z ht15 v "com/example/arcmill/arcmill/Variable" "index" "I" (.int (0 : Int32)) := Dt15 (Or.inr (hw _ (List.mem_of_getElem? (i := 71) rfl))) (ty := .int) (by decide)
  have f22 : Fld Z ht15 v "com/example/arcmill/arcmill/Variable" "values" "[I" .null := Dt15 (Or.inr (hw _ (List.mem_of_getElem? (i := 73) rfl))) (ty := (.array .int)) (by decide)
  have f23 : Fld Z ht15 v "com/example/arcmill/arcmill/Variable" "dense" "[I" .null := Dt15 (Or.inr (hw _ (List.mem_of_getElem? (i := 75) rfl))) (ty := (.array .int)) (by decide)
  have f24 : Fld Z ht15 v "com/example/arcmill/arcmill/Variable" "places" "[I" .null := Dt15 (Or.inr (hw _ (List.mem_of_getElem? (i := 77) rfl))) (ty := (.array .int)) (by decide)
  have f25 : Fld Z ht15 v "com/example/arcmill/arcmill/Variable" "present" "[J" .null := Dt15 (Or.inr (hw _ (List.mem_of_getElem? (i := 80) rfl))) (ty := (.array .long)) (by decide)
  have f26 : Fld Z ht15 v "com/example/arcmill/arcmill/Variable" "trail" "Lcom/example/arcmill/arcmill/Trail;" .null := Dt15 (Or.inr (hw _ (List.mem_of_getElem? (i := 82) rfl))) (ty := (.object "com/example/arcmill/arcmill/Trail")) (by decide)
  have f27 : Fld Z ht15 v "com/example/arcmill/arcmill/Variable" "size" "I" (.int (0 : Int32)) := Dt15 (Or.inl (hw _ (List.mem_of_getElem? (i := 84) rfl))) (ty := .int) (by decide)
  have f28 : Fld Z ht15 v "com/example/arcmill/arcmill/Variable" "workspace" "[I" .null := Dt15 (Or.inr (hw _ (List.mem_of_getElem? (i := 86) rfl))) (ty := (.array .int)) (by decide)
  obtain ⟨sr, Tt29, ht29, kt29, Xt29, et29, Et29, hS1, hk1, hZ1, hown1, stt29⟩ := ldcS (s := s) (vm0 := s.vm) Xt15 hx hZ hown (hw _ (List.mem_of_getElem? (i := 21) rfl)) own_wS et15 ((State.WarmedH.refl s).since 0) (Nat.zero_le _) (g := (mkF m 37 #[.val (.int p1), .val (.int p2), .val (.int p3), .val (.int p4), .val (.int p5), .val (.int p6), .val (.ref tr), .val (.ref va), .unset, .unset, .unset, .unset, .unset, .unset, .unset] [(.ref v), (.ref v)])) rfl (hb hby at_37) (n := 4) (by decide) (by decide) (by decide) (by decide)
  have Zt29 : n0 ≤ ht29.size := Nat.le_trans Zt15 Et29.1
  have f31 : Old Z n0 ht29 := ((((((Ot8.ext Et10).wr Wt11 ge_va).wr Wt12 ge_va).wr Wt13 ge_va).wr Wt14 ge_va).ext Et15).ext Et29
  have f32 : Exa Z ht29 v "com/example/arcmill/arcmill/Variable" := At15.ext Et29
  have f33 : Exa Z ht29 tr "com/example/arcmill/arcmill/Trail" := ((((((Et8q.ext Et10).wr Wt11).wr Wt12).wr Wt13).wr Wt14).ext Et15).ext Et29
  have ne_tr_va : @Ne Nat tr va := by omega
  have f34 : Fld Z ht29 tr "com/example/arcmill/arcmill/Trail" "epoch" "J" (.long (0 : Int64)) := ((((((Ft8a.ext Et10).other Wt11 (Or.inl ne_tr_va)).other Wt12 (Or.inl ne_tr_va)).other Wt13 (Or.inl ne_tr_va)).other Wt14 (Or.inl ne_tr_va)).ext Et15).ext Et29
  have f35 : Fld Z ht29 tr "com/example/arcmill/arcmill/Trail" "level" "I" (.int (0 : Int32)) := ((((((Ft8b.ext Et10).other Wt11 (Or.inl ne_tr_va)).other Wt12 (Or.inl ne_tr_va)).other Wt13 (Or.inl ne_tr_va)).other Wt14 (Or.inl ne_tr_va)).ext Et15).ext Et29
  have f36 : Arv Z ht29 va kt10 .int (4 : Int32) [(.int (-5 : Int32)), (.int (0 : Int32)), (.int (7 : Int32)), (.int (100 : Int32))] (.int (0 : Int32)) := (Vt14.ext Et15).ext Et29
  have f37 : Fld Z ht29 v "com/example/arcmill/arcmill/Variable" "sizeSavedIn" "J" (.long (0 : Int64)) := f16.ext Et29
  have f38 : Fld Z ht29 v "com/example/arcmill/arcmill/Variable" "constraints" "Ljava/util/List;" .null := f17.ext Et29
  have f39 : Fld Z ht29 v "com/example/arcmill/arcmill/Variable" "constraintIndexes" "[I" .null := f18.ext Et29
  have f40 : Fld Z ht29 v "com/example/arcmill/arcmill/Variable" "partners" "[Lcom/example/arcmill/arcmill/Variable;" .null := f19.ext Et29
  have f41 : Fld Z ht29 v "com/example/arcmill/arcmill/Variable" "name" "Ljava/lang/String;" .null := f20.ext Et29
  have f42 : Fld Z ht29 v "com/example/arcmill/arcmill/Variable" "index" "I" (.int (0 : Int32)) := f21.ext Et29
  have f43 : Fld Z ht29 v "com/example/arcmill/arcmill/Variable" "values" "[I" .null := f22.ext Et29
  have f44 : Fld Z ht29 v "com/example/arcmill/arcmill/Variable" "dense" "[I" .null := f23.ext Et29
  have f45 : Fld Z ht29 v "com/example/arcmill/arcmill/Variable" "places" "[I" .null := f24.ext Et29
  have f46 : Fld Z ht29 v "com/example/arcmill/arcmill/Variable" "present" "[J" .null := f25.ext Et29
  have f47 : Fld Z ht29 v "com/example/arcmill/arcmill/Variable" "trail" "Lcom/example/arcmill/arcmill/Trail;" .null := f26.ext Et29
  have f48 : Fld Z ht29 v "com/example/arcmill/arcmill/Variable" "size" "I" (.int (0 : Int32)) := f27.ext Et29
  have f49 : Fld Z ht29 v "com/example/arcmill/arcmill/Variable" "workspace" "[I" .null := f28.ext Et29
  obtain ⟨_, _, ⟨Tt30, Lt30, kt30, nt30⟩, -, Xt30, ⟨Lct30, hQt30, lt30, yt30, zt30⟩, stt30⟩ := Xt29.specialBack hx (y := (⟨"com/example/arcmill/arcmill/Variable", "<init>", "(Ljava/lang/String;I[ILcom/example/arcmill/arcmill/Trail;)V"⟩ : MethodName)) rfl hown1 (mvT hZ1 (hw _ (List.mem_of_getElem? (i := 29) rfl))) (mvT hZ1 (hw _ (List.mem_of_getElem? (i := 30) rfl))) (mvT hZ1 (hw _ (List.mem_of_getElem? (i := 31) rfl))) (by decide) (backOf (W := 1) (rm3 l Z a0 hw [] v sr (0 : Int32) va tr w3 kt10 [(.int (-5 : Int32)), (.int (0 : Int32)), (.int (7 : Int32)), (.int (100 : Int32))] ht29 n0 Zt29 ge_v S0 f31 f32 f33 f34 f35 f36 lt_tr_va lt_va_v f37 f38 f39 f40 f41 f42 f43 f44 f45 f46 f47 f48 f49) hZ1 (hw _ (List.mem_of_getElem? (i := 31) rfl)) (hw _ (List.mem_of_getElem? (i := 20) rfl)) (by decide) (by decide)) (g := (mkF m 44 #[.val (.int p1), .val (.int p2), .val (.int p3), .val (.int p4), .val (.int p5), .val (.int p6), .val (.ref tr), .val (.ref va), .unset, .unset, .unset, .unset, .unset, .unset, .unset] [(.ref tr), (.ref va), (.int (0 : Int32)), (.ref sr), (.ref v), (.ref v)])) rfl (by rw [hml]; rfl) (Steps.refl _) (a := v) (argsL := [(.ref sr), (.int (0 : Int32)), (.ref va), (.ref tr)]) (rest := [(.ref v)]) (lenOf pd_c rfl) rfl (by show 2 * 0 + _ ≤ _; exact Nat.le_of_eq rfl) (hb hby at_44) (fun _ _ => ⟨rfl, et29, (by decide : 8 + 7 ≤ _), (by decide : 607 + 24 ≤ _)⟩)
  dsimp only [Pt.U, Pt.locs, Pt.cells, Pt.slots] at Xt30 lt30 yt30 zt30 stt30 hQt30
  subst lt30 yt30 zt30
  obtain ⟨rfl, Nt30q, dn, pl, pr, ws, kd, kp, kr, kw, hdn, RV⟩ := hQt30
  have Nt30 := Fr.app Nt14 Nt30q
  have RV' := RV
  obtain ⟨r0, r1, r2, ⟨rsv, r3⟩, r4, r5, r6, r7, r8, r9, r10, r11, r12, ⟨rqq, r13⟩, r14, ro1, ro2, ro3, ro4, ro5⟩ := RV'
  have gv := ge_v
  have ge_dn : n0 ≤ dn := by omega
  have ge_pl : n0 ≤ pl := by omega
  have ge_pr : n0 ≤ pr := by omega
  have ge_ws : n0 ≤ ws := by omega
  have ZV : n0 ≤ Tt30.heap.size := Nat.le_of_lt (Nat.lt_of_le_of_lt gv r0.lt)
  obtain ⟨cqt201, kqt201, qt201a, qt201b, qt201c⟩ := isOf hZ1 rfl r0
  obtain ⟨_, _, ⟨Tt201, Lt201, kt201, nt201⟩, -, Xt201, ⟨Lct201, hQt201, lt201, yt201, zt201⟩, stt201⟩ := Xt30.virtualBack hx (y := (⟨"com/example/arcmill/arcmill/Variable", "workspace", "()[I"⟩ : MethodName)) (z := (⟨"com/example/arcmill/arcmill/Variable", "workspace", "()[I"⟩ : MethodName)) hown1 (mvT hZ1 (hw _ (List.mem_of_getElem? (i := 87) rfl))) (mvT hZ1 (hw _ (List.mem_of_getElem? (i := 88) rfl))) (notFace_of_selects (args := #[]) (mvT hZ1 (hw _ (List.mem_of_getElem? (i := 90) rfl)))) (mvT hZ1 (hw _ (List.mem_of_getElem? (i := 90) rfl))) (mvT hZ1 (hw _ (List.mem_of_getElem? (i := 89) rfl))) (by decide) (backOf (W := 0) (rm7 l Z a0 hw [] v ws Tt30.heap n0 ZV r8) hZ1 (hw _ (List.mem_of_getElem? (i := 91) rfl)) (hw _ (List.mem_of_getElem? (i := 20) rfl)) (by decide) (by decide)) qt201a qt201c (g := (mkF m 51 #[.val (.int p1), .val (.int p2), .val (.int p3), .val (.int p4), .val (.int p5), .val (.int p6), .val (.ref tr), .val (.ref va), .val (.ref v), .unset, .unset, .unset, .unset, .unset, .unset] [(.ref v)])) rfl (by rw [hml]; rfl) (Steps.refl _) (argsL := []) (rest := []) (lenOf pd_a rfl) rfl (by show 2 * 0 + _ ≤ _; exact Nat.le_of_eq rfl) (hb hby at_51) (fun _ _ => ⟨rfl, rfl, (by decide : 15 + 0 ≤ _), (by decide : 631 + 0 ≤ _)⟩)
  dsimp only [Pt.U, Pt.locs, Pt.cells, Pt.slots] at Xt201 lt201 yt201 zt201 stt201 hQt201
  subst lt201 yt201 zt201
  obtain ⟨rfl, Nt201q, qt201h⟩ := hQt201
  have Nt201 := Fr.app Nt30 Nt201q
  obtain ⟨Tt202, ht202, Xt202, et202, Wt202, Vt202', stt202⟩ := own_ist Xt201 hx hZ1 qt201h r14 0 (by decide) (by decide) (by decide) (Nat.le_of_ble_eq_true rfl) (g := (mkF m 60 #[.val (.int p1), .val (.int p2), .val (.int p3), .val (.int p4), .val (.int p5), .val (.int p6), .val (.ref tr), .val (.ref va), .val (.ref v), .val (.ref ws), .unset, .unset, .unset, .unset, .unset] [(.int p3), (.int (0 : Int32)), (.ref ws)])) rfl rfl (hb hby at_60)
  have Nt202 := Fr.snoc Xt202 Nt201 ge_ws
  have Zt202 : n0 ≤ ht202.size := by rw [Wt202.size]; exact ZV
  have Vt202 : Arv Z ht202 ws kw .int (4 : Int32) [(.int p3), (.int (0 : Int32)), (.int (0 : Int32)), (.int (0 : Int32))] (.int 0) := Vt202'
  obtain ⟨Tt203, ht203, Xt203, et203, Wt203, Vt203', stt203⟩ := own_ist Xt202 hx hZ1 et202 Vt202 1 (by decide) (by decide) (by decide) (Nat.le_of_ble_eq_true rfl) (g := (mkF m 65 #[.val (.int p1), .val (.int p2), .val (.int p3), .val (.int p4), .val (.int p5), .val (.int p6), .val (.ref tr), .val (.ref va), .val (.ref v), .val (.ref ws), .unset, .unset, .unset, .unset, .unset] [(.int p4), (.int (1 : Int32)), (.ref ws)])) rfl rfl (hb hby at_65)
  have Nt203 := Fr.snoc Xt203 Nt202 ge_ws
  have Zt203 : n0 ≤ ht203.size := by rw [Wt203.size]; exact Zt202
  have Vt203 : Arv Z ht203 ws kw .int (4 : Int32) [(.int p3), (.int p4), (.int (0 : Int32)), (.int (0 : Int32))] (.int 0) := Vt203'
  obtain ⟨Tt204, ht204, Xt204, et204, Wt204, Vt204', stt204⟩ := own_ist Xt203 hx hZ1 et203 Vt203 2 (by decide) (by decide) (by decide) (Nat.le_of_ble_eq_true rfl) (g := (mkF m 71 #[.val (.int p1), .val (.int p2), .val (.int p3), .val (.int p4), .val (.int p5), .val (.int p6), .val (.ref tr), .val (.ref va), .val (.ref v), .val (.ref ws), .unset, .unset, .unset, .unset, .unset] [(.int p5), (.int (2 : Int32)), (.ref ws)])) rfl rfl (hb hby at_71)
  have Nt204 := Fr.snoc Xt204 Nt203 ge_ws
  have Zt204 : n0 ≤ ht204.size := by rw [Wt204.size]; exact Zt203
  have Vt204 : Arv Z ht204 ws kw .int (4 : Int32) [(.int p3), (.int p4), (.int p5), (.int (0 : Int32))] (.int 0) := Vt204'
  obtain ⟨Tt205, ht205, Xt205, et205, Wt205, Vt205', stt205⟩ := own_ist Xt204 hx hZ1 et204 Vt204 3 (by decide) (by decide) (by decide) (Nat.le_of_ble_eq_true rfl) (g := (mkF m 77 #[.val (.int p1), .val (.int p2), .val (.int p3), .val (.int p4), .val (.int p5), .val (.int p6), .val (.ref tr), .val (.ref va), .val (.ref v), .val (.ref ws), .unset, .unset, .unset, .unset, .unset] [(.int p6), (.int (3 : Int32)), (.ref ws)])) rfl rfl (hb hby at_77)
  have Nt205 := Fr.snoc Xt205 Nt204 ge_ws
  have Zt205 : n0 ≤ ht205.size := by rw [Wt205.size]; exact Zt204
  have Vt205 : Arv Z ht205 ws kw .int (4 : Int32) [(.int p3), (.int p4), (.int p5), (.int p6)] (.int 0) := Vt205'
  have f206 : Exa Z ht205 v "com/example/arcmill/arcmill/Variable" := (((r0.wr Wt202).wr Wt203).wr Wt204).wr Wt205
  have f207 : Exa Z ht205 tr "com/example/arcmill/arcmill/Trail" := (((r1.wr Wt202).wr Wt203).wr Wt204).wr Wt205
  have ne_v_ws : @Ne Nat v ws := by omega
  have f208 : Fld Z ht205 v "com/example/arcmill/arcmill/Variable" "size" "I" (.int (Int32.ofNat 4)) := (((r2.other Wt202 (Or.inl ne_v_ws)).other Wt203 (Or.inl ne_v_ws)).other Wt204 (Or.inl ne_v_ws)).other Wt205 (Or.inl ne_v_ws)
  have f209 : Fld Z ht205 v "com/example/arcmill/arcmill/Variable" "sizeSavedIn" "J" (.long rsv) := (((r3.other Wt202 (Or.inl ne_v_ws)).other Wt203 (Or.inl ne_v_ws)).other Wt204 (Or.inl ne_v_ws)).other Wt205 (Or.inl ne_v_ws)
  have f210 : Fld Z ht205 v "com/example/arcmill/arcmill/Variable" "trail" "Lcom/example/arcmill/arcmill/Trail;" (.ref tr) := (((r4.other Wt202 (Or.inl ne_v_ws)).other Wt203 (Or.inl ne_v_ws)).other Wt204 (Or.inl ne_v_ws)).other Wt205 (Or.inl ne_v_ws)
  have f211 : Fld Z ht205 v "com/example/arcmill/arcmill/Variable" "dense" "[I" (.ref dn) := (((r5.other Wt202 (Or.inl ne_v_ws)).other Wt203 (Or.inl ne_v_ws)).other Wt204 (Or.inl ne_v_ws)).other Wt205 (Or.inl ne_v_ws)
  have f212 : Fld Z ht205 v "com/example/arcmill/arcmill/Variable" "places" "[I" (.ref pl) := (((r6.other Wt202 (Or.inl ne_v_ws)).other Wt203 (Or.inl ne_v_ws)).other Wt204 (Or.inl ne_v_ws)).other Wt205 (Or.inl ne_v_ws)
  have f213 : Fld Z ht205 v "com/example/arcmill/arcmill/Variable" "present" "[J" (.ref pr) := (((r7.other Wt202 (Or.inl ne_v_ws)).other Wt203 (Or.inl ne_v_ws)).other Wt204 (Or.inl ne_v_ws)).other Wt205 (Or.inl ne_v_ws)
  have f214 : Fld Z ht205 v "com/example/arcmill/arcmill/Variable" "workspace" "[I" (.ref ws) := (((r8.other Wt202 (Or.inl ne_v_ws)).other Wt203 (Or.inl ne_v_ws)).other Wt204 (Or.inl ne_v_ws)).other Wt205 (Or.inl ne_v_ws)
  have ne_tr_ws : @Ne Nat tr ws := by omega
  have f215 : Fld Z ht205 tr "com/example/arcmill/arcmill/Trail" "epoch" "J" (.long (0 : Int64)) := (((r9.other Wt202 (Or.inl ne_tr_ws)).other Wt203 (Or.inl ne_tr_ws)).other Wt204 (Or.inl ne_tr_ws)).other Wt205 (Or.inl ne_tr_ws)
  have f216 : Fld Z ht205 tr "com/example/arcmill/arcmill/Trail" "level" "I" (.int (0 : Int32)) := (((r10.other Wt202 (Or.inl ne_tr_ws)).other Wt203 (Or.inl ne_tr_ws)).other Wt204 (Or.inl ne_tr_ws)).other Wt205 (Or.inl ne_tr_ws)
  have ne_dn_ws : @Ne Nat dn ws := by omega
  have f217 : Arv Z ht205 dn kd .int (4 : Int32) (own_vs [0, 1, 2, 3]) (.int 0) := (((r11.other Wt202 ne_dn_ws).other Wt203 ne_dn_ws).other Wt204 ne_dn_ws).other Wt205 ne_dn_ws
  have ne_pl_ws : @Ne Nat pl ws := by omega
  have f218 : Arv Z ht205 pl kp .int (4 : Int32) (own_vs [0, 1, 2, 3]) (.int 0) := (((r12.other Wt202 ne_pl_ws).other Wt203 ne_pl_ws).other Wt204 ne_pl_ws).other Wt205 ne_pl_ws
  have ne_pr_ws : @Ne Nat pr ws := by omega
  have f219 : Arv Z ht205 pr kr .long (1 : Int32) [(.long rqq)] (.long (0 : Int64)) := (((r13.other Wt202 ne_pr_ws).other Wt203 ne_pr_ws).other Wt204 ne_pr_ws).other Wt205 ne_pr_ws
  have R1 : own_Rep Z Tt205.heap v tr dn pl pr ws kd kp kr kw own_s0.1 own_s0.2.1 own_s0.2.2 [(.int p3), (.int p4), (.int p5), (.int p6)] := by rw [et205]; exact ⟨f206, f207, f208, ⟨_, f209⟩, f210, f211, f212, f213, f214, f215, f216, f217, f218, ⟨_, f219⟩, Vt205, ro1, ro2, ro3, ro4, ro5⟩
  obtain ⟨b0, hb0⟩ : ∃ b, b = decide (¬ ((p2 &&& (1 : Int32)) = (0 : Int32))) := ⟨_, rfl⟩
  obtain ⟨b1, hb1⟩ : ∃ b, b = decide (¬ ((p2 &&& (2 : Int32)) = (0 : Int32))) := ⟨_, rfl⟩
  obtain ⟨b2, hb2⟩ : ∃ b, b = decide (¬ ((p2 &&& (4 : Int32)) = (0 : Int32))) := ⟨_, rfl⟩
  obtain ⟨b3, hb3⟩ : ∃ b, b = decide (¬ ((p2 &&& (8 : Int32)) = (0 : Int32))) := ⟨_, rfl⟩
  have bits : ∀ t, Steps p.tables e below (Tt205.setTop (mkF m 131 #[.val (.int p1), .val (.int p2), .val (.int p3), .val (.int p4), .val (.int p5), .val (.int p6), .val (.ref tr), .val (.ref va), .val (.ref v), .val (.ref ws), .val (.int (own_bb b0)), .val (.int (own_bb b1)), .val (.int (own_bb b2)), .val (.int (own_bb b3)), .unset] [])) t → Steps p.tables e below (Tt205.setTop (mkF m 78 #[.val (.int p1), .val (.int p2), .val (.int p3), .val (.int p4), .val (.int p5), .val (.int p6), .val (.ref tr), .val (.ref va), .val (.ref v), .val (.ref ws), .unset, .unset, .unset, .unset, .unset] [])) t := by
    intro t kt
    have jn3 : ∀ z : Int32, z = own_bb b3 → Steps p.tables e below (Tt205.setTop (mkF m 129 #[.val (.int p1), .val (.int p2), .val (.int p3), .val (.int p4), .val (.int p5), .val (.int p6), .val (.ref tr), .val (.ref va), .val (.ref v), .val (.ref ws), .val (.int (own_bb b0)), .val (.int (own_bb b1)), .val (.int (own_bb b2)), .unset, .unset] [(.int z)])) t := by
      rintro z rfl
      show Steps p.tables e below (Tt205.setTop (mkF m 129 #[.val (.int p1), .val (.int p2), .val (.int p3), .val (.int p4), .val (.int p5), .val (.int p6), .val (.ref tr), .val (.ref va), .val (.ref v), .val (.ref ws), .val (.int (own_bb b0)), .val (.int (own_bb b1)), .val (.int (own_bb b2)), .unset, .unset] [(.int (own_bb b3))])) _
      refine XS.istore Xt205.here hx rfl (hb hby at_129) rfl (l' := #[.val (.int p1), .val (.int p2), .val (.int p3), .val (.int p4), .val (.int p5), .val (.int p6), .val (.ref tr), .val (.ref va), .val (.ref v), .val (.ref ws), .val (.int (own_bb b0)), .val (.int (own_bb b1)), .val (.int (own_bb b2)), .val (.int (own_bb b3)), .unset]) rfl ?_
      exact kt
    have jn2 : ∀ z : Int32, z = own_bb b2 → Steps p.tables e below (Tt205.setTop (mkF m 115 #[.val (.int p1), .val (.int p2), .val (.int p3), .val (.int p4), .val (.int p5), .val (.int p6), .val (.ref tr), .val (.ref va), .val (.ref v), .val (.ref ws), .val (.int (own_bb b0)), .val (.int (own_bb b1)), .unset, .unset, .unset] [(.int z)])) t := by
      rintro z rfl
      show Steps p.tables e below (Tt205.setTop (mkF m 115 #[.val (.int p1), .val (.int p2), .val (.int p3), .val (.int p4), .val (.int p5), .val (.int p6), .val (.ref tr), .val (.ref va), .val (.ref v), .val (.ref ws), .val (.int (own_bb b0)), .val (.int (own_bb b1)), .unset, .unset, .unset] [(.int (own_bb b2))])) _
      refine XS.istore Xt205.here hx rfl (hb hby at_115) rfl (l' := #[.val (.int p1), .val (.int p2), .val (.int p3), .val (.int p4), .val (.int p5), .val (.int p6), .val (.ref tr), .val (.ref va), .val (.ref v), .val (.ref ws), .val (.int (own_bb b0)), .val (.int (own_bb b1)), .val (.int (own_bb b2)), .unset, .unset]) rfl ?_
      show Steps p.tables e below (Tt205.setTop (mkF m 117 #[.val (.int p1), .val (.int p2), .val (.int p3), .val (.int p4), .val (.int p5), .val (.int p6), .val (.ref tr), .val (.ref va), .val (.ref v), .val (.ref ws), .val (.int (own_bb b0)), .val (.int (own_bb b1)), .val (.int (own_bb b2)), .unset, .unset] [])) _
      refine XS.iloadN Xt205.here hx rfl (hb hby at_117) rfl ?_
      show Steps p.tables e below (Tt205.setTop (mkF m 118 #[.val (.int p1), .val (.int p2), .val (.int p3), .val (.int p4), .val (.int p5), .val (.int p6), .val (.ref tr), .val (.ref va), .val (.ref v), .val (.ref ws), .val (.int (own_bb b0)), .val (.int (own_bb b1)), .val (.int (own_bb b2)), .unset, .unset] [(.int p2)])) _
      refine XS.bipush Xt205.here hx rfl (hb hby at_118) ?_
      show Steps p.tables e below (Tt205.setTop (mkF m 120 #[.val (.int p1), .val (.int p2), .val (.int p3), .val (.int p4), .val (.int p5), .val (.int p6), .val (.ref tr), .val (.ref va), .val (.ref v), .val (.ref ws), .val (.int (own_bb b0)), .val (.int (own_bb b1)), .val (.int (own_bb b2)), .unset, .unset] [(.int (8 : Int32)), (.int p2)])) _
      refine XS.iand Xt205.here hx rfl (hb hby at_120) rfl ?_
      show Steps p.tables e below (Tt205.setTop (mkF m 121 #[.val (.int p1), .val (.int p2), .val (.int p3), .val (.int p4), .val (.int p5), .val (.int p6), .val (.ref tr), .val (.ref va), .val (.ref v), .val (.ref ws), .val (.int (own_bb b0)), .val (.int (own_bb b1)), .val (.int (own_bb b2)), .unset, .unset] [(.int (p2 &&& (8 : Int32)))])) _
      by_cases c121 : (p2 &&& (8 : Int32)) = (0 : Int32)
      · refine XS.ifYes Xt205.here hx rfl (pc0 := 121) (pc' := 128) rfl (hb hby at_121) rfl ((if0 _ _).trans (teq (c121 : (p2 &&& (8 : Int32)) = (0 : Int32))).1) (by decide) (by decide) ?_
        show Steps p.tables e below (Tt205.setTop (mkF m 128 #[.val (.int p1), .val (.int p2), .val (.int p3), .val (.int p4), .val (.int p5), .val (.int p6), .val (.ref tr), .val (.ref va), .val (.ref v), .val (.ref ws), .val (.int (own_bb b0)), .val (.int (own_bb b1)), .val (.int (own_bb b2)), .unset, .unset] [])) _
        refine XS.iconst Xt205.here hx rfl (hb hby at_128) ?_
        exact jn3 _ (by rw [hb3]; exact own_bbf c121)
      · refine XS.ifNo Xt205.here hx rfl (hb hby at_121) rfl ((if0 _ _).trans (feq (c121 : ¬ ((p2 &&& (8 : Int32)) = (0 : Int32)))).1) ?_
        show Steps p.tables e below (Tt205.setTop (mkF m 124 #[.val (.int p1), .val (.int p2), .val (.int p3), .val (.int p4), .val (.int p5), .val (.int p6), .val (.ref tr), .val (.ref va), .val (.ref v), .val (.ref ws), .val (.int (own_bb b0)), .val (.int (own_bb b1)), .val (.int (own_bb b2)), .unset, .unset] [])) _
        refine XS.iconst Xt205.here hx rfl (hb hby at_124) ?_
        show Steps p.tables e below (Tt205.setTop (mkF m 125 #[.val (.int p1), .val (.int p2), .val (.int p3), .val (.int p4), .val (.int p5), .val (.int p6), .val (.ref tr), .val (.ref va), .val (.ref v), .val (.ref ws), .val (.int (own_bb b0)), .val (.int (own_bb b1)), .val (.int (own_bb b2)), .unset, .unset] [(.int (1 : Int32))])) _
        refine XS.goto Xt205.here hx rfl (pc0 := 125) (pc' := 129) rfl (hb hby at_125) (by decide) (by decide) ?_
        exact jn3 _ (by rw [hb3]; exact own_bbt c121)
    have jn1 : ∀ z : Int32, z = own_bb b1 → Steps p.tables e below (Tt205.setTop (mkF m 102 #[.val (.int p1), .val (.int p2), .val (.int p3), .val (.int p4), .val (.int p5), .val (.int p6), .val (.ref tr), .val (.ref va), .val (.ref v), .val (.ref ws), .val (.int (own_bb b0)), .unset, .unset, .unset, .unset] [(.int z)])) t := by
      rintro z rfl
      show Steps p.tables e below (Tt205.setTop (mkF m 102 #[.val (.int p1), .val (.int p2), .val (.int p3), .val (.int p4), .val (.int p5), .val (.int p6), .val (.ref tr), .val (.ref va), .val (.ref v), .val (.ref ws), .val (.int (own_bb b0)), .unset, .unset, .unset, .unset] [(.int (own_bb b1))])) _
      refine XS.istore Xt205.here hx rfl (hb hby at_102) rfl (l' := #[.val (.int p1), .val (.int p2), .val (.int p3), .val (.int p4), .val (.int p5), .val (.int p6), .val (.ref tr), .val (.ref va), .val (.ref v), .val (.ref ws), .val (.int (own_bb b0)), .val (.int (own_bb b1)), .unset, .unset, .unset]) rfl ?_
      show Steps p.tables e below (Tt205.setTop (mkF m 104 #[.val (.int p1), .val (.int p2), .val (.int p3), .val (.int p4), .val (.int p5), .val (.int p6), .val (.ref tr), .val (.ref va), .val (.ref v), .val (.ref ws), .val (.int (own_bb b0)), .val (.int (own_bb b1)), .unset, .unset, .unset] [])) _
      refine XS.iloadN Xt205.here hx rfl (hb hby at_104) rfl ?_
      show Steps p.tables e below (Tt205.setTop (mkF m 105 #[.val (.int p1), .val (.int p2), .val (.int p3), .val (.int p4), .val (.int p5), .val (.int p6), .val (.ref tr), .val (.ref va), .val (.ref v), .val (.ref ws), .val (.int (own_bb b0)), .val (.int (own_bb b1)), .unset, .unset, .unset] [(.int p2)])) _
      refine XS.iconst Xt205.here hx rfl (hb hby at_105) ?_
      show Steps p.tables e below (Tt205.setTop (mkF m 106 #[.val (.int p1), .val (.int p2), .val (.int p3), .val (.int p4), .val (.int p5), .val (.int p6), .val (.ref tr), .val (.ref va), .val (.ref v), .val (.ref ws), .val (.int (own_bb b0)), .val (.int (own_bb b1)), .unset, .unset, .unset] [(.int (4 : Int32)), (.int p2)])) _
      refine XS.iand Xt205.here hx rfl (hb hby at_106) rfl ?_
      show Steps p.tables e below (Tt205.setTop (mkF m 107 #[.val (.int p1), .val (.int p2), .val (.int p3), .val (.int p4), .val (.int p5), .val (.int p6), .val (.ref tr), .val (.ref va), .val (.ref v), .val (.ref ws), .val (.int (own_bb b0)), .val (.int (own_bb b1)), .unset, .unset, .unset] [(.int (p2 &&& (4 : Int32)))])) _
      by_cases c107 : (p2 &&& (4 : Int32)) = (0 : Int32)
      · refine XS.ifYes Xt205.here hx rfl (pc0 := 107) (pc' := 114) rfl (hb hby at_107) rfl ((if0 _ _).trans (teq (c107 : (p2 &&& (4 : Int32)) = (0 : Int32))).1) (by decide) (by decide) ?_
        show Steps p.tables e below (Tt205.setTop (mkF m 114 #[.val (.int p1), .val (.int p2), .val (.int p3), .val (.int p4), .val (.int p5), .val (.int p6), .val (.ref tr), .val (.ref va), .val (.ref v), .val (.ref ws), .val (.int (own_bb b0)), .val (.int (own_bb b1)), .unset, .unset, .unset] [])) _
        refine XS.iconst Xt205.here hx rfl (hb hby at_114) ?_
        exact jn2 _ (by rw [hb2]; exact own_bbf c107)
      · refine XS.ifNo Xt205.here hx rfl (hb hby at_107) rfl ((if0 _ _).trans (feq (c107 : ¬ ((p2 &&& (4 : Int32)) = (0 : Int32)))).1) ?_
        show Steps p.tables e below (Tt205.setTop (mkF m 110 #[.val (.int p1), .val (.int p2), .val (.int p3), .val (.int p4), .val (.int p5), .val (.int p6), .val (.ref tr), .val (.ref va), .val (.ref v), .val (.ref ws), .val (.int (own_bb b0)), .val (.int (own_bb b1)), .unset, .unset, .unset] [])) _
        refine XS.iconst Xt205.here hx rfl (hb hby at_110) ?_
        show Steps p.tables e below (Tt205.setTop (mkF m 111 #[.val (.int p1), .val (.int p2), .val (.int p3), .val (.int p4), .val (.int p5), .val (.int p6), .val (.ref tr), .val (.ref va), .val (.ref v), .val (.ref ws), .val (.int (own_bb b0)), .val (.int (own_bb b1)), .unset, .unset, .unset] [(.int (1 : Int32))])) _
        refine XS.goto Xt205.here hx rfl (pc0 := 111) (pc' := 115) rfl (hb hby at_111) (by decide) (by decide) ?_
        exact jn2 _ (by rw [hb2]; exact own_bbt c107)
    have jn0 : ∀ z : Int32, z = own_bb b0 → Steps p.tables e below (Tt205.setTop (mkF m 89 #[.val (.int p1), .val (.int p2), .val (.int p3), .val (.int p4), .val (.int p5), .val (.int p6), .val (.ref tr), .val (.ref va), .val (.ref v), .val (.ref ws), .unset, .unset, .unset, .unset, .unset] [(.int z)])) t := by
      rintro z rfl
      show Steps p.tables e below (Tt205.setTop (mkF m 89 #[.val (.int p1), .val (.int p2), .val (.int p3), .val (.int p4), .val (.int p5), .val (.int p6), .val (.ref tr), .val (.ref va), .val (.ref v), .val (.ref ws), .unset, .unset, .unset, .unset, .unset] [(.int (own_bb b0))])) _
      refine XS.istore Xt205.here hx rfl (hb hby at_89) rfl (l' := #[.val (.int p1), .val (.int p2), .val (.int p3), .val (.int p4), .val (.int p5), .val (.int p6), .val (.ref tr), .val (.ref va), .val (.ref v), .val (.ref ws), .val (.int (own_bb b0)), .unset, .unset, .unset, .unset]) rfl ?_
      show Steps p.tables e below (Tt205.setTop (mkF m 91 #[.val (.int p1), .val (.int p2), .val (.int p3), .val (.int p4), .val (.int p5), .val (.int p6), .val (.ref tr), .val (.ref va), .val (.ref v), .val (.ref ws), .val (.int (own_bb b0)), .unset, .unset, .unset, .unset] [])) _
      refine XS.iloadN Xt205.here hx rfl (hb hby at_91) rfl ?_
      show Steps p.tables e below (Tt205.setTop (mkF m 92 #[.val (.int p1), .val (.int p2), .val (.int p3), .val (.int p4), .val (.int p5), .val (.int p6), .val (.ref tr), .val (.ref va), .val (.ref v), .val (.ref ws), .val (.int (own_bb b0)), .unset, .unset, .unset, .unset] [(.int p2)])) _
      refine XS.iconst Xt205.here hx rfl (hb hby at_92) ?_
      show Steps p.tables e below (Tt205.setTop (mkF m 93 #[.val (.int p1), .val (.int p2), .val (.int p3), .val (.int p4), .val (.int p5), .val (.int p6), .val (.ref tr), .val (.ref va), .val (.ref v), .val (.ref ws), .val (.int (own_bb b0)), .unset, .unset, .unset, .unset] [(.int (2 : Int32)), (.int p2)])) _
      refine XS.iand Xt205.here hx rfl (hb hby at_93) rfl ?_
      show Steps p.tables e below (Tt205.setTop (mkF m 94 #[.val (.int p1), .val (.int p2), .val (.int p3), .val (.int p4), .val (.int p5), .val (.int p6), .val (.ref tr), .val (.ref va), .val (.ref v), .val (.ref ws), .val (.int (own_bb b0)), .unset, .unset, .unset, .unset] [(.int (p2 &&& (2 : Int32)))])) _
      by_cases c94 : (p2 &&& (2 : Int32)) = (0 : Int32)
      · refine XS.ifYes Xt205.here hx rfl (pc0 := 94) (pc' := 101) rfl (hb hby at_94) rfl ((if0 _ _).trans (teq (c94 : (p2 &&& (2 : Int32)) = (0 : Int32))).1) (by decide) (by decide) ?_
        show Steps p.tables e below (Tt205.setTop (mkF m 101 #[.val (.int p1), .val (.int p2), .val (.int p3), .val (.int p4), .val (.int p5), .val (.int p6), .val (.ref tr), .val (.ref va), .val (.ref v), .val (.ref ws), .val (.int (own_bb b0)), .unset, .unset, .unset, .unset] [])) _
        refine XS.iconst Xt205.here hx rfl (hb hby at_101) ?_
        exact jn1 _ (by rw [hb1]; exact own_bbf c94)
      · refine XS.ifNo Xt205.here hx rfl (hb hby at_94) rfl ((if0 _ _).trans (feq (c94 : ¬ ((p2 &&& (2 : Int32)) = (0 : Int32)))).1) ?_
        show Steps p.tables e below (Tt205.setTop (mkF m 97 #[.val (.int p1), .val (.int p2), .val (.int p3), .val (.int p4), .val (.int p5), .val (.int p6), .val (.ref tr), .val (.ref va), .val (.ref v), .val (.ref ws), .val (.int (own_bb b0)), .unset, .unset, .unset, .unset] [])) _
        refine XS.iconst Xt205.here hx rfl (hb hby at_97) ?_
        show Steps p.tables e below (Tt205.setTop (mkF m 98 #[.val (.int p1), .val (.int p2), .val (.int p3), .val (.int p4), .val (.int p5), .val (.int p6), .val (.ref tr), .val (.ref va), .val (.ref v), .val (.ref ws), .val (.int (own_bb b0)), .unset, .unset, .unset, .unset] [(.int (1 : Int32))])) _
        refine XS.goto Xt205.here hx rfl (pc0 := 98) (pc' := 102) rfl (hb hby at_98) (by decide) (by decide) ?_
        exact jn1 _ (by rw [hb1]; exact own_bbt c94)
    show Steps p.tables e below (Tt205.setTop (mkF m 78 #[.val (.int p1), .val (.int p2), .val (.int p3), .val (.int p4), .val (.int p5), .val (.int p6), .val (.ref tr), .val (.ref va), .val (.ref v), .val (.ref ws), .unset, .unset, .unset, .unset, .unset] [])) _
    refine XS.iloadN Xt205.here hx rfl (hb hby at_78) rfl ?_
    show Steps p.tables e below (Tt205.setTop (mkF m 79 #[.val (.int p1), .val (.int p2), .val (.int p3), .val (.int p4), .val (.int p5), .val (.int p6), .val (.ref tr), .val (.ref va), .val (.ref v), .val (.ref ws), .unset, .unset, .unset, .unset, .unset] [(.int p2)])) _
    refine XS.iconst Xt205.here hx rfl (hb hby at_79) ?_
    show Steps p.tables e below (Tt205.setTop (mkF m 80 #[.val (.int p1), .val (.int p2), .val (.int p3), .val (.int p4), .val (.int p5), .val (.int p6), .val (.ref tr), .val (.ref va), .val (.ref v), .val (.ref ws), .unset, .unset, .unset, .unset, .unset] [(.int (1 : Int32)), (.int p2)])) _
    refine XS.iand Xt205.here hx rfl (hb hby at_80) rfl ?_
    show Steps p.tables e below (Tt205.setTop (mkF m 81 #[.val (.int p1), .val (.int p2), .val (.int p3), .val (.int p4), .val (.int p5), .val (.int p6), .val (.ref tr), .val (.ref va), .val (.ref v), .val (.ref ws), .unset, .unset, .unset, .unset, .unset] [(.int (p2 &&& (1 : Int32)))])) _
    by_cases c81 : (p2 &&& (1 : Int32)) = (0 : Int32)
    · refine XS.ifYes Xt205.here hx rfl (pc0 := 81) (pc' := 88) rfl (hb hby at_81) rfl ((if0 _ _).trans (teq (c81 : (p2 &&& (1 : Int32)) = (0 : Int32))).1) (by decide) (by decide) ?_
      show Steps p.tables e below (Tt205.setTop (mkF m 88 #[.val (.int p1), .val (.int p2), .val (.int p3), .val (.int p4), .val (.int p5), .val (.int p6), .val (.ref tr), .val (.ref va), .val (.ref v), .val (.ref ws), .unset, .unset, .unset, .unset, .unset] [])) _
      refine XS.iconst Xt205.here hx rfl (hb hby at_88) ?_
      exact jn0 _ (by rw [hb0]; exact own_bbf c81)
    · refine XS.ifNo Xt205.here hx rfl (hb hby at_81) rfl ((if0 _ _).trans (feq (c81 : ¬ ((p2 &&& (1 : Int32)) = (0 : Int32)))).1) ?_
      show Steps p.tables e below (Tt205.setTop (mkF m 84 #[.val (.int p1), .val (.int p2), .val (.int p3), .val (.int p4), .val (.int p5), .val (.int p6), .val (.ref tr), .val (.ref va), .val (.ref v), .val (.ref ws), .unset, .unset, .unset, .unset, .unset] [])) _
      refine XS.iconst Xt205.here hx rfl (hb hby at_84) ?_
      show Steps p.tables e below (Tt205.setTop (mkF m 85 #[.val (.int p1), .val (.int p2), .val (.int p3), .val (.int p4), .val (.int p5), .val (.int p6), .val (.ref tr), .val (.ref va), .val (.ref v), .val (.ref ws), .unset, .unset, .unset, .unset, .unset] [(.int (1 : Int32))])) _
      refine XS.goto Xt205.here hx rfl (pc0 := 85) (pc' := 89) rfl (hb hby at_85) (by decide) (by decide) ?_
      exact jn0 _ (by rw [hb0]; exact own_bbt c81)
  obtain ⟨Tm0, lm0, Xm0, Nm0, Rm0, stm0⟩ : ∃ T' l', Stand p l e room_1 (s.setVm Tt29.vm) m #[(.int p1), (.int p2), (.int p3), (.int p4), (.int p5), (.int p6)] below meth c T' l' 15 631 ∧ Fr n0 l' ∧ own_Rep Z T'.heap v tr dn pl pr ws kd kp kr kw (own_s b0 own_s0 0).1 (own_s b0 own_s0 0).2.1 (own_s b0 own_s0 0).2.2 [(.int p3), (.int p4), (.int p5), (.int p6)] ∧ ∀ t, Steps p.tables e below (T'.setTop (mkF m 142 #[.val (.int p1), .val (.int p2), .val (.int p3), .val (.int p4), .val (.int p5), .val (.int p6), .val (.ref tr), .val (.ref va), .val (.ref v), .val (.ref ws), .val (.int (own_bb b0)), .val (.int (own_bb b1)), .val (.int (own_bb b2)), .val (.int (own_bb b3)), .unset] [])) t → Steps p.tables e below (Tt205.setTop (mkF m 131 #[.val (.int p1), .val (.int p2), .val (.int p3), .val (.int p4), .val (.int p5), .val (.int p6), .val (.ref tr), .val (.ref va), .val (.ref v), .val (.ref ws), .val (.int (own_bb b0)), .val (.int (own_bb b1)), .val (.int (own_bb b2)), .val (.int (own_bb b3)), .unset] [])) t := by
    have hok : own_ok own_s0 0 := own_ok0
    cases b0 with
    | false =>
      refine ⟨Tt205, _, Xt205, Nt205, R1, fun t kt => ?_⟩
      show Steps p.tables e below (Tt205.setTop (mkF m 131 #[.val (.int p1), .val (.int p2), .val (.int p3), .val (.int p4), .val (.int p5), .val (.int p6), .val (.ref tr), .val (.ref va), .val (.ref v), .val (.ref ws), .val (.int (own_bb false)), .val (.int (own_bb b1)), .val (.int (own_bb b2)), .val (.int (own_bb b3)), .unset] [])) _
      refine XS.iload Xt205.here hx rfl (hb hby at_131) rfl ?_
      show Steps p.tables e below (Tt205.setTop (mkF m 133 #[.val (.int p1), .val (.int p2), .val (.int p3), .val (.int p4), .val (.int p5), .val (.int p6), .val (.ref tr), .val (.ref va), .val (.ref v), .val (.ref ws), .val (.int (own_bb false)), .val (.int (own_bb b1)), .val (.int (own_bb b2)), .val (.int (own_bb b3)), .unset] [(.int (own_bb false))])) _
      refine XS.ifYes Xt205.here hx rfl (pc0 := 133) (pc' := 142) rfl (hb hby at_133) rfl ((if0 _ _).trans (teq (rfl : (own_bb false) = (0 : Int32))).1) (by decide) (by decide) ?_
      exact kt
    | true =>
      obtain ⟨hix, hs4, hps, hD, hP, hx4, hy4⟩ := hok
      have RQ := R1
      obtain ⟨qE, -⟩ := RQ
      obtain ⟨cqt301, kqt301, qt301a, qt301b, qt301c⟩ := isOf hZ1 rfl qE
      obtain ⟨_, _, ⟨Tt301, Lt301, kt301, nt301⟩, -, Xt301, ⟨Lct301, hQt301, lt301, yt301, zt301⟩, stt301⟩ := Xt205.virtualBack hx (y := (⟨"com/example/arcmill/arcmill/Variable", "remove", "(I)V"⟩ : MethodName)) (z := (⟨"com/example/arcmill/arcmill/Variable", "remove", "(I)V"⟩ : MethodName)) hown1 (mvT hZ1 (hw _ (List.mem_of_getElem? (i := 92) rfl))) (mvT hZ1 (hw _ (List.mem_of_getElem? (i := 93) rfl))) (notFace_of_selects (args := #[]) (mvT hZ1 (hw _ (List.mem_of_getElem? (i := 95) rfl)))) (mvT hZ1 (hw _ (List.mem_of_getElem? (i := 95) rfl))) (mvT hZ1 (hw _ (List.mem_of_getElem? (i := 94) rfl))) (by decide) (backOf (W := 0) (rm8 l Z a0 hw [] v tr dn pl pr ws kd kp kr kw own_s0.1 own_s0.2.1 own_s0.2.2 [(.int p3), (.int p4), (.int p5), (.int p6)] 0 (own_s0.2.2.getD 0 0) (own_s0.2.1.getD (own_s0.2.2.getD 0 0) 0) (own_s0.2.1.getD (own_s0.1 - 1) 0) Tt205.heap n0 (Nat.le_of_lt (Nat.lt_of_le_of_lt gv qE.lt)) R1 gv hD hP hix rfl hps hs4 rfl rfl hx4 hy4) hZ1 (hw _ (List.mem_of_getElem? (i := 96) rfl)) (hw _ (List.mem_of_getElem? (i := 20) rfl)) (by decide) (by decide)) qt301a qt301c (g := (mkF m 139 #[.val (.int p1), .val (.int p2), .val (.int p3), .val (.int p4), .val (.int p5), .val (.int p6), .val (.ref tr), .val (.ref va), .val (.ref v), .val (.ref ws), .val (.int (own_bb true)), .val (.int (own_bb b1)), .val (.int (own_bb b2)), .val (.int (own_bb b3)), .unset] [(.int (0 : Int32)), (.ref v)])) rfl (by rw [hml]; rfl) (Steps.refl _) (argsL := [(.int (0 : Int32))]) (rest := []) (lenOf pd_i rfl) rfl (by show 2 * 0 + _ ≤ _; exact Nat.le_of_eq rfl) (hb hby at_139) (fun _ _ => ⟨rfl, rfl, (by decide : 15 + 0 ≤ _), (by decide : 631 + 0 ≤ _)⟩)
      dsimp only [Pt.U, Pt.locs, Pt.cells, Pt.slots] at Xt301 lt301 yt301 zt301 stt301 hQt301
      subst lt301 yt301 zt301
      obtain ⟨rfl, Nt301q, Rq⟩ := hQt301
      have Nt301 := Fr.app Nt205 Nt301q
      refine ⟨Tt301, _, Xt301, Nt301, Rq, fun t kt => ?_⟩
      show Steps p.tables e below (Tt205.setTop (mkF m 131 #[.val (.int p1), .val (.int p2), .val (.int p3), .val (.int p4), .val (.int p5), .val (.int p6), .val (.ref tr), .val (.ref va), .val (.ref v), .val (.ref ws), .val (.int (own_bb true)), .val (.int (own_bb b1)), .val (.int (own_bb b2)), .val (.int (own_bb b3)), .unset] [])) _
      refine XS.iload Xt205.here hx rfl (hb hby at_131) rfl ?_
      show Steps p.tables e below (Tt205.setTop (mkF m 133 #[.val (.int p1), .val (.int p2), .val (.int p3), .val (.int p4), .val (.int p5), .val (.int p6), .val (.ref tr), .val (.ref va), .val (.ref v), .val (.ref ws), .val (.int (own_bb true)), .val (.int (own_bb b1)), .val (.int (own_bb b2)), .val (.int (own_bb b3)), .unset] [(.int (own_bb true))])) _
      refine XS.ifNo Xt205.here hx rfl (hb hby at_133) rfl ((if0 _ _).trans (feq (by decide : ¬ ((own_bb true) = (0 : Int32)))).1) ?_
      show Steps p.tables e below (Tt205.setTop (mkF m 136 #[.val (.int p1), .val (.int p2), .val (.int p3), .val (.int p4), .val (.int p5), .val (.int p6), .val (.ref tr), .val (.ref va), .val (.ref v), .val (.ref ws), .val (.int (own_bb true)), .val (.int (own_bb b1)), .val (.int (own_bb b2)), .val (.int (own_bb b3)), .unset] [])) _
      refine XS.aload Xt205.here hx rfl (hb hby at_136) rfl rfl ?_
      show Steps p.tables e below (Tt205.setTop (mkF m 138 #[.val (.int p1), .val (.int p2), .val (.int p3), .val (.int p4), .val (.int p5), .val (.int p6), .val (.ref tr), .val (.ref va), .val (.ref v), .val (.ref ws), .val (.int (own_bb true)), .val (.int (own_bb b1)), .val (.int (own_bb b2)), .val (.int (own_bb b3)), .unset] [(.ref v)])) _
      refine XS.iconst Xt205.here hx rfl (hb hby at_138) ?_
      show Steps p.tables e below (Tt205.setTop (mkF m 139 #[.val (.int p1), .val (.int p2), .val (.int p3), .val (.int p4), .val (.int p5), .val (.int p6), .val (.ref tr), .val (.ref va), .val (.ref v), .val (.ref ws), .val (.int (own_bb true)), .val (.int (own_bb b1)), .val (.int (own_bb b2)), .val (.int (own_bb b3)), .unset] [(.int (0 : Int32)), (.ref v)])) _
      refine stt301.trans ?_
      exact kt
  obtain ⟨Tm1, lm1, Xm1, Nm1, Rm1, stm1⟩ : ∃ T' l', Stand p l e room_1 (s.setVm Tt29.vm) m #[(.int p1), (.int p2), (.int p3), (.int p4), (.int p5), (.int p6)] below meth c T' l' 15 631 ∧ Fr n0 l' ∧ own_Rep Z T'.heap v tr dn pl pr ws kd kp kr kw (own_s b1 (own_s b0 own_s0 0) 1).1 (own_s b1 (own_s b0 own_s0 0) 1).2.1 (own_s b1 (own_s b0 own_s0 0) 1).2.2 [(.int p3), (.int p4), (.int p5), (.int p6)] ∧ ∀ t, Steps p.tables e below (T'.setTop (mkF m 153 #[.val (.int p1), .val (.int p2), .val (.int p3), .val (.int p4), .val (.int p5), .val (.int p6), .val (.ref tr), .val (.ref va), .val (.ref v), .val (.ref ws), .val (.int (own_bb b0)), .val (.int (own_bb b1)), .val (.int (own_bb b2)), .val (.int (own_bb b3)), .unset] [])) t → Steps p.tables e below (Tm0.setTop (mkF m 142 #[.val (.int p1), .val (.int p2), .val (.int p3), .val (.int p4), .val (.int p5), .val (.int p6), .val (.ref tr), .val (.ref va), .val (.ref v), .val (.ref ws), .val (.int (own_bb b0)), .val (.int (own_bb b1)), .val (.int (own_bb b2)), .val (.int (own_bb b3)), .unset] [])) t := by
    have hok : own_ok (own_s b0 own_s0 0) 1 := own_ok1 b0
    cases b1 with
    | false =>
      refine ⟨Tm0, _, Xm0, Nm0, Rm0, fun t kt => ?_⟩
      show Steps p.tables e below (Tm0.setTop (mkF m 142 #[.val (.int p1), .val (.int p2), .val (.int p3), .val (.int p4), .val (.int p5), .val (.int p6), .val (.ref tr), .val (.ref va), .val (.ref v), .val (.ref ws), .val (.int (own_bb b0)), .val (.int (own_bb false)), .val (.int (own_bb b2)), .val (.int (own_bb b3)), .unset] [])) _
      refine XS.iload Xm0.here hx rfl (hb hby at_142) rfl ?_
      show Steps p.tables e below (Tm0.setTop (mkF m 144 #[.val (.int p1), .val (.int p2), .val (.int p3), .val (.int p4), .val (.int p5), .val (.int p6), .val (.ref tr), .val (.ref va), .val (.ref v), .val (.ref ws), .val (.int (own_bb b0)), .val (.int (own_bb false)), .val (.int (own_bb b2)), .val (.int (own_bb b3)), .unset] [(.int (own_bb false))])) _
      refine XS.ifYes Xm0.here hx rfl (pc0 := 144) (pc' := 153) rfl (hb hby at_144) rfl ((if0 _ _).trans (teq (rfl : (own_bb false) = (0 : Int32))).1) (by decide) (by decide) ?_
      exact kt
    | true =>
      obtain ⟨hix, hs4, hps, hD, hP, hx4, hy4⟩ := hok
      have RQ := Rm0
      obtain ⟨qE, -⟩ := RQ
      obtain ⟨cqt321, kqt321, qt321a, qt321b, qt321c⟩ := isOf hZ1 rfl qE
      obtain ⟨_, _, ⟨Tt321, Lt321, kt321, nt321⟩, -, Xt321, ⟨Lct321, hQt321, lt321, yt321, zt321⟩, stt321⟩ := Xm0.virtualBack hx (y := (⟨"com/example/arcmill/arcmill/Variable", "remove", "(I)V"⟩ : MethodName)) (z := (⟨"com/example/arcmill/arcmill/Variable", "remove", "(I)V"⟩ : MethodName)) hown1 (mvT hZ1 (hw _ (List.mem_of_getElem? (i := 92) rfl))) (mvT hZ1 (hw _ (List.mem_of_getElem? (i := 93) rfl))) (notFace_of_selects (args := #[]) (mvT hZ1 (hw _ (List.mem_of_getElem? (i := 95) rfl)))) (mvT hZ1 (hw _ (List.mem_of_getElem? (i := 95) rfl))) (mvT hZ1 (hw _ (List.mem_of_getElem? (i := 94) rfl))) (by decide) (backOf (W := 0) (rm8 l Z a0 hw [] v tr dn pl pr ws kd kp kr kw (own_s b0 own_s0 0).1 (own_s b0 own_s0 0).2.1 (own_s b0 own_s0 0).2.2 [(.int p3), (.int p4), (.int p5), (.int p6)] 1 ((own_s b0 own_s0 0).2.2.getD 1 0) ((own_s b0 own_s0 0).2.1.getD ((own_s b0 own_s0 0).2.2.getD 1 0) 0) ((own_s b0 own_s0 0).2.1.getD ((own_s b0 own_s0 0).1 - 1) 0) Tm0.heap n0 (Nat.le_of_lt (Nat.lt_of_le_of_lt gv qE.lt)) Rm0 gv hD hP hix rfl hps hs4 rfl rfl hx4 hy4) hZ1 (hw _ (List.mem_of_getElem? (i := 96) rfl)) (hw _ (List.mem_of_getElem? (i := 20) rfl)) (by decide) (by decide)) qt321a qt321c (g := (mkF m 150 #[.val (.int p1), .val (.int p2), .val (.int p3), .val (.int p4), .val (.int p5), .val (.int p6), .val (.ref tr), .val (.ref va), .val (.ref v), .val (.ref ws), .val (.int (own_bb b0)), .val (.int (own_bb true)), .val (.int (own_bb b2)), .val (.int (own_bb b3)), .unset] [(.int (1 : Int32)), (.ref v)])) rfl (by rw [hml]; rfl) (Steps.refl _) (argsL := [(.int (1 : Int32))]) (rest := []) (lenOf pd_i rfl) rfl (by show 2 * 0 + _ ≤ _; exact Nat.le_of_eq rfl) (hb hby at_150) (fun _ _ => ⟨rfl, rfl, (by decide : 15 + 0 ≤ _), (by decide : 631 + 0 ≤ _)⟩)
      dsimp only [Pt.U, Pt.locs, Pt.cells, Pt.slots] at Xt321 lt321 yt321 zt321 stt321 hQt321
      subst lt321 yt321 zt321
      obtain ⟨rfl, Nt321q, Rq⟩ := hQt321
      have Nt321 := Fr.app Nm0 Nt321q
      refine ⟨Tt321, _, Xt321, Nt321, Rq, fun t kt => ?_⟩
      show Steps p.tables e below (Tm0.setTop (mkF m 142 #[.val (.int p1), .val (.int p2), .val (.int p3), .val (.int p4), .val (.int p5), .val (.int p6), .val (.ref tr), .val (.ref va), .val (.ref v), .val (.ref ws), .val (.int (own_bb b0)), .val (.int (own_bb true)), .val (.int (own_bb b2)), .val (.int (own_bb b3)), .unset] [])) _
      refine XS.iload Xm0.here hx rfl (hb hby at_142) rfl ?_
      show Steps p.tables e below (Tm0.setTop (mkF m 144 #[.val (.int p1), .val (.int p2), .val (.int p3), .val (.int p4), .val (.int p5), .val (.int p6), .val (.ref tr), .val (.ref va), .val (.ref v), .val (.ref ws), .val (.int (own_bb b0)), .val (.int (own_bb true)), .val (.int (own_bb b2)), .val (.int (own_bb b3)), .unset] [(.int (own_bb true))])) _
      refine XS.ifNo Xm0.here hx rfl (hb hby at_144) rfl ((if0 _ _).trans (feq (by decide : ¬ ((own_bb true) = (0 : Int32)))).1) ?_
      show Steps p.tables e below (Tm0.setTop (mkF m 147 #[.val (.int p1), .val (.int p2), .val (.int p3), .val (.int p4), .val (.int p5), .val (.int p6), .val (.ref tr), .val (.ref va), .val (.ref v), .val (.ref ws), .val (.int (own_bb b0)), .val (.int (own_bb true)), .val (.int (own_bb b2)), .val (.int (own_bb b3)), .unset] [])) _
      refine XS.aload Xm0.here hx rfl (hb hby at_147) rfl rfl ?_
      show Steps p.tables e below (Tm0.setTop (mkF m 149 #[.val (.int p1), .val (.int p2), .val (.int p3), .val (.int p4), .val (.int p5), .val (.int p6), .val (.ref tr), .val (.ref va), .val (.ref v), .val (.ref ws), .val (.int (own_bb b0)), .val (.int (own_bb true)), .val (.int (own_bb b2)), .val (.int (own_bb b3)), .unset] [(.ref v)])) _
      refine XS.iconst Xm0.here hx rfl (hb hby at_149) ?_
      show Steps p.tables e below (Tm0.setTop (mkF m 150 #[.val (.int p1), .val (.int p2), .val (.int p3), .val (.int p4), .val (.int p5), .val (.int p6), .val (.ref tr), .val (.ref va), .val (.ref v), .val (.ref ws), .val (.int (own_bb b0)), .val (.int (own_bb true)), .val (.int (own_bb b2)), .val (.int (own_bb b3)), .unset] [(.int (1 : Int32)), (.ref v)])) _
      refine stt321.trans ?_
      exact kt
  obtain ⟨Tm2, lm2, Xm2, Nm2, Rm2, stm2⟩ : ∃ T' l', Stand p l e room_1 (s.setVm Tt29.vm) m #[(.int p1), (.int p2), (.int p3), (.int p4), (.int p5), (.int p6)] below meth c T' l' 15 631 ∧ Fr n0 l' ∧ own_Rep Z T'.heap v tr dn pl pr ws kd kp kr kw (own_s b2 (own_s b1 (own_s b0 own_s0 0) 1) 2).1 (own_s b2 (own_s b1 (own_s b0 own_s0 0) 1) 2).2.1 (own_s b2 (own_s b1 (own_s b0 own_s0 0) 1) 2).2.2 [(.int p3), (.int p4), (.int p5), (.int p6)] ∧ ∀ t, Steps p.tables e below (T'.setTop (mkF m 164 #[.val (.int p1), .val (.int p2), .val (.int p3), .val (.int p4), .val (.int p5), .val (.int p6), .val (.ref tr), .val (.ref va), .val (.ref v), .val (.ref ws), .val (.int (own_bb b0)), .val (.int (own_bb b1)), .val (.int (own_bb b2)), .val (.int (own_bb b3)), .unset] [])) t → Steps p.tables e below (Tm1.setTop (mkF m 153 #[.val (.int p1), .val (.int p2), .val (.int p3), .val (.int p4), .val (.int p5), .val (.int p6), .val (.ref tr), .val (.ref va), .val (.ref v), .val (.ref ws), .val (.int (own_bb b0)), .val (.int (own_bb b1)), .val (.int (own_bb b2)), .val (.int (own_bb b3)), .unset] [])) t := by
    have hok : own_ok (own_s b1 (own_s b0 own_s0 0) 1) 2 := own_ok2 b0 b1
    cases b2 with
    | false =>
      refine ⟨Tm1, _, Xm1, Nm1, Rm1, fun t kt => ?_⟩
      show Steps p.tables e below (Tm1.setTop (mkF m 153 #[.val (.int p1), .val (.int p2), .val (.int p3), .val (.int p4), .val (.int p5), .val (.int p6), .val (.ref tr), .val (.ref va), .val (.ref v), .val (.ref ws), .val (.int (own_bb b0)), .val (.int (own_bb b1)), .val (.int (own_bb false)), .val (.int (own_bb b3)), .unset] [])) _
      refine XS.iload Xm1.here hx rfl (hb hby at_153) rfl ?_
      show Steps p.tables e below (Tm1.setTop (mkF m 155 #[.val (.int p1), .val (.int p2), .val (.int p3), .val (.int p4), .val (.int p5), .val (.int p6), .val (.ref tr), .val (.ref va), .val (.ref v), .val (.ref ws), .val (.int (own_bb b0)), .val (.int (own_bb b1)), .val (.int (own_bb false)), .val (.int (own_bb b3)), .unset] [(.int (own_bb false))])) _
      refine XS.ifYes Xm1.here hx rfl (pc0 := 155) (pc' := 164) rfl (hb hby at_155) rfl ((if0 _ _).trans (teq (rfl : (own_bb false) = (0 : Int32))).1) (by decide) (by decide) ?_
      exact kt
    | true =>
      obtain ⟨hix, hs4, hps, hD, hP, hx4, hy4⟩ := hok
      have RQ := Rm1
      obtain ⟨qE, -⟩ := RQ
      obtain ⟨cqt341, kqt341, qt341a, qt341b, qt341c⟩ := isOf hZ1 rfl qE
      obtain ⟨_, _, ⟨Tt341, Lt341, kt341, nt341⟩, -, Xt341, ⟨Lct341, hQt341, lt341, yt341, zt341⟩, stt341⟩ := Xm1.virtualBack hx (y := (⟨"com/example/arcmill/arcmill/Variable", "remove", "(I)V"⟩ : MethodName)) (z := (⟨"com/example/arcmill/arcmill/Variable", "remove", "(I)V"⟩ : MethodName)) hown1 (mvT hZ1 (hw _ (List.mem_of_getElem? (i := 92) rfl))) (mvT hZ1 (hw _ (List.mem_of_getElem? (i := 93) rfl))) (notFace_of_selects (args := #[]) (mvT hZ1 (hw _ (List.mem_of_getElem? (i := 95) rfl)))) (mvT hZ1 (hw _ (List.mem_of_getElem? (i := 95) rfl))) (mvT hZ1 (hw _ (List.mem_of_getElem? (i := 94) rfl))) (by decide) (backOf (W := 0) (rm8 l Z a0 hw [] v tr dn pl pr ws kd kp kr kw (own_s b1 (own_s b0 own_s0 0) 1).1 (own_s b1 (own_s b0 own_s0 0) 1).2.1 (own_s b1 (own_s b0 own_s0 0) 1).2.2 [(.int p3), (.int p4), (.int p5), (.int p6)] 2 ((own_s b1 (own_s b0 own_s0 0) 1).2.2.getD 2 0) ((own_s b1 (own_s b0 own_s0 0) 1).2.1.getD ((own_s b1 (own_s b0 own_s0 0) 1).2.2.getD 2 0) 0) ((own_s b1 (own_s b0 own_s0 0) 1).2.1.getD ((own_s b1 (own_s b0 own_s0 0) 1).1 - 1) 0) Tm1.heap n0 (Nat.le_of_lt (Nat.lt_of_le_of_lt gv qE.lt)) Rm1 gv hD hP hix rfl hps hs4 rfl rfl hx4 hy4) hZ1 (hw _ (List.mem_of_getElem? (i := 96) rfl)) (hw _ (List.mem_of_getElem? (i := 20) rfl)) (by decide) (by decide)) qt341a qt341c (g := (mkF m 161 #[.val (.int p1), .val (.int p2), .val (.int p3), .val (.int p4), .val (.int p5), .val (.int p6), .val (.ref tr), .val (.ref va), .val (.ref v), .val (.ref ws), .val (.int (own_bb b0)), .val (.int (own_bb b1)), .val (.int (own_bb true)), .val (.int (own_bb b3)), .unset] [(.int (2 : Int32)), (.ref v)])) rfl (by rw [hml]; rfl) (Steps.refl _) (argsL := [(.int (2 : Int32))]) (rest := []) (lenOf pd_i rfl) rfl (by show 2 * 0 + _ ≤ _; exact Nat.le_of_eq rfl) (hb hby at_161) (fun _ _ => ⟨rfl, rfl, (by decide : 15 + 0 ≤ _), (by decide : 631 + 0 ≤ _)⟩)
      dsimp only [Pt.U, Pt.locs, Pt.cells, Pt.slots] at Xt341 lt341 yt341 zt341 stt341 hQt341
      subst lt341 yt341 zt341
      obtain ⟨rfl, Nt341q, Rq⟩ := hQt341
      have Nt341 := Fr.app Nm1 Nt341q
      refine ⟨Tt341, _, Xt341, Nt341, Rq, fun t kt => ?_⟩
      show Steps p.tables e below (Tm1.setTop (mkF m 153 #[.val (.int p1), .val (.int p2), .val (.int p3), .val (.int p4), .val (.int p5), .val (.int p6), .val (.ref tr), .val (.ref va), .val (.ref v), .val (.ref ws), .val (.int (own_bb b0)), .val (.int (own_bb b1)), .val (.int (own_bb true)), .val (.int (own_bb b3)), .unset] [])) _
      refine XS.iload Xm1.here hx rfl (hb hby at_153) rfl ?_
      show Steps p.tables e below (Tm1.setTop (mkF m 155 #[.val (.int p1), .val (.int p2), .val (.int p3), .val (.int p4), .val (.int p5), .val (.int p6), .val (.ref tr), .val (.ref va), .val (.ref v), .val (.ref ws), .val (.int (own_bb b0)), .val (.int (own_bb b1)), .val (.int (own_bb true)), .val (.int (own_bb b3)), .unset] [(.int (own_bb true))])) _
      refine XS.ifNo Xm1.here hx rfl (hb hby at_155) rfl ((if0 _ _).trans (feq (by decide : ¬ ((own_bb true) = (0 : Int32)))).1) ?_
      show Steps p.tables e below (Tm1.setTop (mkF m 158 #[.val (.int p1), .val (.int p2), .val (.int p3), .val (.int p4), .val (.int p5), .val (.int p6), .val (.ref tr), .val (.ref va), .val (.ref v), .val (.ref ws), .val (.int (own_bb b0)), .val (.int (own_bb b1)), .val (.int (own_bb true)), .val (.int (own_bb b3)), .unset] [])) _
      refine XS.aload Xm1.here hx rfl (hb hby at_158) rfl rfl ?_
      show Steps p.tables e below (Tm1.setTop (mkF m 160 #[.val (.int p1), .val (.int p2), .val (.int p3), .val (.int p4), .val (.int p5), .val (.int p6), .val (.ref tr), .val (.ref va), .val (.ref v), .val (.ref ws), .val (.int (own_bb b0)), .val (.int (own_bb b1)), .val (.int (own_bb true)), .val (.int (own_bb b3)), .unset] [(.ref v)])) _
      refine XS.iconst Xm1.here hx rfl (hb hby at_160) ?_
      show Steps p.tables e below (Tm1.setTop (mkF m 161 #[.val (.int p1), .val (.int p2), .val (.int p3), .val (.int p4), .val (.int p5), .val (.int p6), .val (.ref tr), .val (.ref va), .val (.ref v), .val (.ref ws), .val (.int (own_bb b0)), .val (.int (own_bb b1)), .val (.int (own_bb true)), .val (.int (own_bb b3)), .unset] [(.int (2 : Int32)), (.ref v)])) _
      refine stt341.trans ?_
      exact kt
  obtain ⟨Tm3, lm3, Xm3, Nm3, Rm3, stm3⟩ : ∃ T' l', Stand p l e room_1 (s.setVm Tt29.vm) m #[(.int p1), (.int p2), (.int p3), (.int p4), (.int p5), (.int p6)] below meth c T' l' 15 631 ∧ Fr n0 l' ∧ own_Rep Z T'.heap v tr dn pl pr ws kd kp kr kw (own_s b3 (own_s b2 (own_s b1 (own_s b0 own_s0 0) 1) 2) 3).1 (own_s b3 (own_s b2 (own_s b1 (own_s b0 own_s0 0) 1) 2) 3).2.1 (own_s b3 (own_s b2 (own_s b1 (own_s b0 own_s0 0) 1) 2) 3).2.2 [(.int p3), (.int p4), (.int p5), (.int p6)] ∧ ∀ t, Steps p.tables e below (T'.setTop (mkF m 175 #[.val (.int p1), .val (.int p2), .val (.int p3), .val (.int p4), .val (.int p5), .val (.int p6), .val (.ref tr), .val (.ref va), .val (.ref v), .val (.ref ws), .val (.int (own_bb b0)), .val (.int (own_bb b1)), .val (.int (own_bb b2)), .val (.int (own_bb b3)), .unset] [])) t → Steps p.tables e below (Tm2.setTop (mkF m 164 #[.val (.int p1), .val (.int p2), .val (.int p3), .val (.int p4), .val (.int p5), .val (.int p6), .val (.ref tr), .val (.ref va), .val (.ref v), .val (.ref ws), .val (.int (own_bb b0)), .val (.int (own_bb b1)), .val (.int (own_bb b2)), .val (.int (own_bb b3)), .unset] [])) t := by
    have hok : own_ok (own_s b2 (own_s b1 (own_s b0 own_s0 0) 1) 2) 3 := own_ok3 b0 b1 b2
    cases b3 with
    | false =>
      refine ⟨Tm2, _, Xm2, Nm2, Rm2, fun t kt => ?_⟩
      show Steps p.tables e below (Tm2.setTop (mkF m 164 #[.val (.int p1), .val (.int p2), .val (.int p3), .val (.int p4), .val (.int p5), .val (.int p6), .val (.ref tr), .val (.ref va), .val (.ref v), .val (.ref ws), .val (.int (own_bb b0)), .val (.int (own_bb b1)), .val (.int (own_bb b2)), .val (.int (own_bb false)), .unset] [])) _
      refine XS.iload Xm2.here hx rfl (hb hby at_164) rfl ?_
      show Steps p.tables e below (Tm2.setTop (mkF m 166 #[.val (.int p1), .val (.int p2), .val (.int p3), .val (.int p4), .val (.int p5), .val (.int p6), .val (.ref tr), .val (.ref va), .val (.ref v), .val (.ref ws), .val (.int (own_bb b0)), .val (.int (own_bb b1)), .val (.int (own_bb b2)), .val (.int (own_bb false)), .unset] [(.int (own_bb false))])) _
      refine XS.ifYes Xm2.here hx rfl (pc0 := 166) (pc' := 175) rfl (hb hby at_166) rfl ((if0 _ _).trans (teq (rfl : (own_bb false) = (0 : Int32))).1) (by decide) (by decide) ?_
      exact kt
    | true =>
      obtain ⟨hix, hs4, hps, hD, hP, hx4, hy4⟩ := hok
      have RQ := Rm2
      obtain ⟨qE, -⟩ := RQ
      obtain ⟨cqt361, kqt361, qt361a, qt361b, qt361c⟩ := isOf hZ1 rfl qE
      obtain ⟨_, _, ⟨Tt361, Lt361, kt361, nt361⟩, -, Xt361, ⟨Lct361, hQt361, lt361, yt361, zt361⟩, stt361⟩ := Xm2.virtualBack hx (y := (⟨"com/example/arcmill/arcmill/Variable", "remove", "(I)V"⟩ : MethodName)) (z := (⟨"com/example/arcmill/arcmill/Variable", "remove", "(I)V"⟩ : MethodName)) hown1 (mvT hZ1 (hw _ (List.mem_of_getElem? (i := 92) rfl))) (mvT hZ1 (hw _ (List.mem_of_getElem? (i := 93) rfl))) (notFace_of_selects (args := #[]) (mvT hZ1 (hw _ (List.mem_of_getElem? (i := 95) rfl)))) (mvT hZ1 (hw _ (List.mem_of_getElem? (i := 95) rfl))) (mvT hZ1 (hw _ (List.mem_of_getElem? (i := 94) rfl))) (by decide) (backOf (W := 0) (rm8 l Z a0 hw [] v tr dn pl pr ws kd kp kr kw (own_s b2 (own_s b1 (own_s b0 own_s0 0) 1) 2).1 (own_s b2 (own_s b1 (own_s b0 own_s0 0) 1) 2).2.1 (own_s b2 (own_s b1 (own_s b0 own_s0 0) 1) 2).2.2 [(.int p3), (.int p4), (.int p5), (.int p6)] 3 ((own_s b2 (own_s b1 (own_s b0 own_s0 0) 1) 2).2.2.getD 3 0) ((own_s b2 (own_s b1 (own_s b0 own_s0 0) 1) 2).2.1.getD ((own_s b2 (own_s b1 (own_s b0 own_s0 0) 1) 2).2.2.getD 3 0) 0) ((own_s b2 (own_s b1 (own_s b0 own_s0 0) 1) 2).2.1.getD ((own_s b2 (own_s b1 (own_s b0 own_s0 0) 1) 2).1 - 1) 0) Tm2.heap n0 (Nat.le_of_lt (Nat.lt_of_le_of_lt gv qE.lt)) Rm2 gv hD hP hix rfl hps hs4 rfl rfl hx4 hy4) hZ1 (hw _ (List.mem_of_getElem? (i := 96) rfl)) (hw _ (List.mem_of_getElem? (i := 20) rfl)) (by decide) (by decide)) qt361a qt361c (g := (mkF m 172 #[.val (.int p1), .val (.int p2), .val (.int p3), .val (.int p4), .val (.int p5), .val (.int p6), .val (.ref tr), .val (.ref va), .val (.ref v), .val (.ref ws), .val (.int (own_bb b0)), .val (.int (own_bb b1)), .val (.int (own_bb b2)), .val (.int (own_bb true)), .unset] [(.int (3 : Int32)), (.ref v)])) rfl (by rw [hml]; rfl) (Steps.refl _) (argsL := [(.int (3 : Int32))]) (rest := []) (lenOf pd_i rfl) rfl (by show 2 * 0 + _ ≤ _; exact Nat.le_of_eq rfl) (hb hby at_172) (fun _ _ => ⟨rfl, rfl, (by decide : 15 + 0 ≤ _), (by decide : 631 + 0 ≤ _)⟩)
      dsimp only [Pt.U, Pt.locs, Pt.cells, Pt.slots] at Xt361 lt361 yt361 zt361 stt361 hQt361
      subst lt361 yt361 zt361
      obtain ⟨rfl, Nt361q, Rq⟩ := hQt361
      have Nt361 := Fr.app Nm2 Nt361q
      refine ⟨Tt361, _, Xt361, Nt361, Rq, fun t kt => ?_⟩
      show Steps p.tables e below (Tm2.setTop (mkF m 164 #[.val (.int p1), .val (.int p2), .val (.int p3), .val (.int p4), .val (.int p5), .val (.int p6), .val (.ref tr), .val (.ref va), .val (.ref v), .val (.ref ws), .val (.int (own_bb b0)), .val (.int (own_bb b1)), .val (.int (own_bb b2)), .val (.int (own_bb true)), .unset] [])) _
      refine XS.iload Xm2.here hx rfl (hb hby at_164) rfl ?_
      show Steps p.tables e below (Tm2.setTop (mkF m 166 #[.val (.int p1), .val (.int p2), .val (.int p3), .val (.int p4), .val (.int p5), .val (.int p6), .val (.ref tr), .val (.ref va), .val (.ref v), .val (.ref ws), .val (.int (own_bb b0)), .val (.int (own_bb b1)), .val (.int (own_bb b2)), .val (.int (own_bb true)), .unset] [(.int (own_bb true))])) _
      refine XS.ifNo Xm2.here hx rfl (hb hby at_166) rfl ((if0 _ _).trans (feq (by decide : ¬ ((own_bb true) = (0 : Int32)))).1) ?_
      show Steps p.tables e below (Tm2.setTop (mkF m 169 #[.val (.int p1), .val (.int p2), .val (.int p3), .val (.int p4), .val (.int p5), .val (.int p6), .val (.ref tr), .val (.ref va), .val (.ref v), .val (.ref ws), .val (.int (own_bb b0)), .val (.int (own_bb b1)), .val (.int (own_bb b2)), .val (.int (own_bb true)), .unset] [])) _
      refine XS.aload Xm2.here hx rfl (hb hby at_169) rfl rfl ?_
      show Steps p.tables e below (Tm2.setTop (mkF m 171 #[.val (.int p1), .val (.int p2), .val (.int p3), .val (.int p4), .val (.int p5), .val (.int p6), .val (.ref tr), .val (.ref va), .val (.ref v), .val (.ref ws), .val (.int (own_bb b0)), .val (.int (own_bb b1)), .val (.int (own_bb b2)), .val (.int (own_bb true)), .unset] [(.ref v)])) _
      refine XS.iconst Xm2.here hx rfl (hb hby at_171) ?_
      show Steps p.tables e below (Tm2.setTop (mkF m 172 #[.val (.int p1), .val (.int p2), .val (.int p3), .val (.int p4), .val (.int p5), .val (.int p6), .val (.ref tr), .val (.ref va), .val (.ref v), .val (.ref ws), .val (.int (own_bb b0)), .val (.int (own_bb b1)), .val (.int (own_bb b2)), .val (.int (own_bb true)), .unset] [(.int (3 : Int32)), (.ref v)])) _
      refine stt361.trans ?_
      exact kt
  have RZ : own_Rep Z Tm3.heap v tr dn pl pr ws kd kp kr kw (own_s4 b0 b1 b2 b3).1 (own_s4 b0 b1 b2 b3).2.1 (own_s4 b0 b1 b2 b3).2.2 [(.int p3), (.int p4), (.int p5), (.int p6)] := Rm3
  obtain ⟨hr1, hr2, hr3⟩ : own_okr (own_s4 b0 b1 b2 b3) := own_ok4 b0 b1 b2 b3
  have RQ := RZ
  obtain ⟨zE, -⟩ := RQ
  obtain ⟨cqt501, kqt501, qt501a, qt501b, qt501c⟩ := isOf hZ1 rfl zE
  obtain ⟨_, _, ⟨Tt501, Lt501, kt501, nt501⟩, -, Xt501, ⟨Lct501, hQt501, lt501, yt501, zt501⟩, stt501⟩ := Xm3.virtualBack hx (y := (⟨"com/example/arcmill/arcmill/Variable", "resetWorkspace", "(I)[I"⟩ : MethodName)) (z := (⟨"com/example/arcmill/arcmill/Variable", "resetWorkspace", "(I)[I"⟩ : MethodName)) hown1 (mvT hZ1 (hw _ (List.mem_of_getElem? (i := 114) rfl))) (mvT hZ1 (hw _ (List.mem_of_getElem? (i := 115) rfl))) (notFace_of_selects (args := #[]) (mvT hZ1 (hw _ (List.mem_of_getElem? (i := 117) rfl)))) (mvT hZ1 (hw _ (List.mem_of_getElem? (i := 117) rfl))) (mvT hZ1 (hw _ (List.mem_of_getElem? (i := 116) rfl))) (by decide) (backOf (W := 0) (rm12 l Z a0 hw [] v tr dn pl pr ws kd kp kr kw (own_s4 b0 b1 b2 b3).1 (own_s4 b0 b1 b2 b3).2.1 (own_s4 b0 b1 b2 b3).2.2 [(.int p3), (.int p4), (.int p5), (.int p6)] p1 Tm3.heap n0 (Nat.le_of_lt (Nat.lt_of_le_of_lt gv zE.lt)) RZ gv hr1 hr2 rfl hr3) hZ1 (hw _ (List.mem_of_getElem? (i := 118) rfl)) (hw _ (List.mem_of_getElem? (i := 20) rfl)) (by decide) (by decide)) qt501a qt501c (g := (mkF m 178 #[.val (.int p1), .val (.int p2), .val (.int p3), .val (.int p4), .val (.int p5), .val (.int p6), .val (.ref tr), .val (.ref va), .val (.ref v), .val (.ref ws), .val (.int (own_bb b0)), .val (.int (own_bb b1)), .val (.int (own_bb b2)), .val (.int (own_bb b3)), .unset] [(.int p1), (.ref v)])) rfl (by rw [hml]; rfl) (Steps.refl _) (argsL := [(.int p1)]) (rest := []) (lenOf pd_ia rfl) rfl (by show 2 * 0 + _ ≤ _; exact Nat.le_of_eq rfl) (hb hby at_178) (fun _ _ => ⟨rfl, rfl, (by decide : 15 + 0 ≤ _), (by decide : 631 + 0 ≤ _)⟩)
  dsimp only [Pt.U, Pt.locs, Pt.cells, Pt.slots] at Xt501 lt501 yt501 zt501 stt501 hQt501
  subst lt501 yt501 zt501
  obtain ⟨rfl, Nt501q, Rf⟩ := hQt501
  have Nt501 := Fr.app Nm3 Nt501q
  rw [own_fin] at Rf
  have Rf' := Rf
  obtain ⟨z0, z1, z2, ⟨zsv, z3⟩, z4, z5, z6, z7, z8, z9, z10, z11, z12, ⟨zqq, z13⟩, z14, zo1, zo2, zo3, zo4, zo5⟩ := Rf'
  have sg0 : ∀ t, Steps p.tables e below (Tt501.setTop (mkF m 209 #[.val (.int p1), .val (.int p2), .val (.int p3), .val (.int p4), .val (.int p5), .val (.int p6), .val (.ref tr), .val (.ref va), .val (.ref v), .val (.ref ws), .val (.int (own_bb b0)), .val (.int (own_bb b1)), .val (.int (own_bb b2)), .val (.int (own_bb b3)), .val (.ref ws)] [])) t → Steps p.tables e below (Tt501.setTop (mkF m 192 #[.val (.int p1), .val (.int p2), .val (.int p3), .val (.int p4), .val (.int p5), .val (.int p6), .val (.ref tr), .val (.ref va), .val (.ref v), .val (.ref ws), .val (.int (own_bb b0)), .val (.int (own_bb b1)), .val (.int (own_bb b2)), .val (.int (own_bb b3)), .val (.ref ws)] [])) t := by
    intro t kt
    cases b0 with
    | false =>
      show Steps p.tables e below (Tt501.setTop (mkF m 192 #[.val (.int p1), .val (.int p2), .val (.int p3), .val (.int p4), .val (.int p5), .val (.int p6), .val (.ref tr), .val (.ref va), .val (.ref v), .val (.ref ws), .val (.int (own_bb false)), .val (.int (own_bb b1)), .val (.int (own_bb b2)), .val (.int (own_bb b3)), .val (.ref ws)] [])) _
      refine XS.aload Xt501.here hx rfl (hb hby at_192) rfl rfl ?_
      show Steps p.tables e below (Tt501.setTop (mkF m 194 #[.val (.int p1), .val (.int p2), .val (.int p3), .val (.int p4), .val (.int p5), .val (.int p6), .val (.ref tr), .val (.ref va), .val (.ref v), .val (.ref ws), .val (.int (own_bb false)), .val (.int (own_bb b1)), .val (.int (own_bb b2)), .val (.int (own_bb b3)), .val (.ref ws)] [(.ref ws)])) _
      refine XS.iconst Xt501.here hx rfl (hb hby at_194) ?_
      show Steps p.tables e below (Tt501.setTop (mkF m 195 #[.val (.int p1), .val (.int p2), .val (.int p3), .val (.int p4), .val (.int p5), .val (.int p6), .val (.ref tr), .val (.ref va), .val (.ref v), .val (.ref ws), .val (.int (own_bb false)), .val (.int (own_bb b1)), .val (.int (own_bb b2)), .val (.int (own_bb b3)), .val (.ref ws)] [(.int (0 : Int32)), (.ref ws)])) _
      refine own_ild Xt501 hx hZ1 rfl z14 0 (by decide) (by decide) (by decide) rfl (g := (mkF m 195 #[.val (.int p1), .val (.int p2), .val (.int p3), .val (.int p4), .val (.int p5), .val (.int p6), .val (.ref tr), .val (.ref va), .val (.ref v), .val (.ref ws), .val (.int (own_bb false)), .val (.int (own_bb b1)), .val (.int (own_bb b2)), .val (.int (own_bb b3)), .val (.ref ws)] [(.int (0 : Int32)), (.ref ws)])) rfl rfl (hb hby at_195) _ ?_
      show Steps p.tables e below (Tt501.setTop (mkF m 196 #[.val (.int p1), .val (.int p2), .val (.int p3), .val (.int p4), .val (.int p5), .val (.int p6), .val (.ref tr), .val (.ref va), .val (.ref v), .val (.ref ws), .val (.int (own_bb false)), .val (.int (own_bb b1)), .val (.int (own_bb b2)), .val (.int (own_bb b3)), .val (.ref ws)] [(.int (own_sel false p3 p1))])) _
      refine XS.iload Xt501.here hx rfl (hb hby at_196) rfl ?_
      show Steps p.tables e below (Tt501.setTop (mkF m 198 #[.val (.int p1), .val (.int p2), .val (.int p3), .val (.int p4), .val (.int p5), .val (.int p6), .val (.ref tr), .val (.ref va), .val (.ref v), .val (.ref ws), .val (.int (own_bb false)), .val (.int (own_bb b1)), .val (.int (own_bb b2)), .val (.int (own_bb b3)), .val (.ref ws)] [(.int (own_bb false)), (.int (own_sel false p3 p1))])) _
      refine XS.ifYes Xt501.here hx rfl (pc0 := 198) (pc' := 205) rfl (hb hby at_198) rfl ((if0 _ _).trans (teq (rfl : (own_bb false) = (0 : Int32))).1) (by decide) (by decide) ?_
      show Steps p.tables e below (Tt501.setTop (mkF m 205 #[.val (.int p1), .val (.int p2), .val (.int p3), .val (.int p4), .val (.int p5), .val (.int p6), .val (.ref tr), .val (.ref va), .val (.ref v), .val (.ref ws), .val (.int (own_bb false)), .val (.int (own_bb b1)), .val (.int (own_bb b2)), .val (.int (own_bb b3)), .val (.ref ws)] [(.int (own_sel false p3 p1))])) _
      refine XS.iloadN Xt501.here hx rfl (hb hby at_205) rfl ?_
      show Steps p.tables e below (Tt501.setTop (mkF m 206 #[.val (.int p1), .val (.int p2), .val (.int p3), .val (.int p4), .val (.int p5), .val (.int p6), .val (.ref tr), .val (.ref va), .val (.ref v), .val (.ref ws), .val (.int (own_bb false)), .val (.int (own_bb b1)), .val (.int (own_bb b2)), .val (.int (own_bb b3)), .val (.ref ws)] [(.int p1), (.int (own_sel false p3 p1))])) _
      refine XS.icmpNo Xt501.here hx rfl (hb hby at_206) rfl (teq (rfl : (own_sel false p3 p1) = p1)).2 ?_
      exact kt
    | true =>
      show Steps p.tables e below (Tt501.setTop (mkF m 192 #[.val (.int p1), .val (.int p2), .val (.int p3), .val (.int p4), .val (.int p5), .val (.int p6), .val (.ref tr), .val (.ref va), .val (.ref v), .val (.ref ws), .val (.int (own_bb true)), .val (.int (own_bb b1)), .val (.int (own_bb b2)), .val (.int (own_bb b3)), .val (.ref ws)] [])) _
      refine XS.aload Xt501.here hx rfl (hb hby at_192) rfl rfl ?_
      show Steps p.tables e below (Tt501.setTop (mkF m 194 #[.val (.int p1), .val (.int p2), .val (.int p3), .val (.int p4), .val (.int p5), .val (.int p6), .val (.ref tr), .val (.ref va), .val (.ref v), .val (.ref ws), .val (.int (own_bb true)), .val (.int (own_bb b1)), .val (.int (own_bb b2)), .val (.int (own_bb b3)), .val (.ref ws)] [(.ref ws)])) _
      refine XS.iconst Xt501.here hx rfl (hb hby at_194) ?_
      show Steps p.tables e below (Tt501.setTop (mkF m 195 #[.val (.int p1), .val (.int p2), .val (.int p3), .val (.int p4), .val (.int p5), .val (.int p6), .val (.ref tr), .val (.ref va), .val (.ref v), .val (.ref ws), .val (.int (own_bb true)), .val (.int (own_bb b1)), .val (.int (own_bb b2)), .val (.int (own_bb b3)), .val (.ref ws)] [(.int (0 : Int32)), (.ref ws)])) _
      refine own_ild Xt501 hx hZ1 rfl z14 0 (by decide) (by decide) (by decide) rfl (g := (mkF m 195 #[.val (.int p1), .val (.int p2), .val (.int p3), .val (.int p4), .val (.int p5), .val (.int p6), .val (.ref tr), .val (.ref va), .val (.ref v), .val (.ref ws), .val (.int (own_bb true)), .val (.int (own_bb b1)), .val (.int (own_bb b2)), .val (.int (own_bb b3)), .val (.ref ws)] [(.int (0 : Int32)), (.ref ws)])) rfl rfl (hb hby at_195) _ ?_
      show Steps p.tables e below (Tt501.setTop (mkF m 196 #[.val (.int p1), .val (.int p2), .val (.int p3), .val (.int p4), .val (.int p5), .val (.int p6), .val (.ref tr), .val (.ref va), .val (.ref v), .val (.ref ws), .val (.int (own_bb true)), .val (.int (own_bb b1)), .val (.int (own_bb b2)), .val (.int (own_bb b3)), .val (.ref ws)] [(.int (own_sel true p3 p1))])) _
      refine XS.iload Xt501.here hx rfl (hb hby at_196) rfl ?_
      show Steps p.tables e below (Tt501.setTop (mkF m 198 #[.val (.int p1), .val (.int p2), .val (.int p3), .val (.int p4), .val (.int p5), .val (.int p6), .val (.ref tr), .val (.ref va), .val (.ref v), .val (.ref ws), .val (.int (own_bb true)), .val (.int (own_bb b1)), .val (.int (own_bb b2)), .val (.int (own_bb b3)), .val (.ref ws)] [(.int (own_bb true)), (.int (own_sel true p3 p1))])) _
      refine XS.ifNo Xt501.here hx rfl (hb hby at_198) rfl ((if0 _ _).trans (feq (by decide : ¬ ((own_bb true) = (0 : Int32)))).1) ?_
      show Steps p.tables e below (Tt501.setTop (mkF m 201 #[.val (.int p1), .val (.int p2), .val (.int p3), .val (.int p4), .val (.int p5), .val (.int p6), .val (.ref tr), .val (.ref va), .val (.ref v), .val (.ref ws), .val (.int (own_bb true)), .val (.int (own_bb b1)), .val (.int (own_bb b2)), .val (.int (own_bb b3)), .val (.ref ws)] [(.int (own_sel true p3 p1))])) _
      refine XS.iloadN Xt501.here hx rfl (hb hby at_201) rfl ?_
      show Steps p.tables e below (Tt501.setTop (mkF m 202 #[.val (.int p1), .val (.int p2), .val (.int p3), .val (.int p4), .val (.int p5), .val (.int p6), .val (.ref tr), .val (.ref va), .val (.ref v), .val (.ref ws), .val (.int (own_bb true)), .val (.int (own_bb b1)), .val (.int (own_bb b2)), .val (.int (own_bb b3)), .val (.ref ws)] [(.int p3), (.int (own_sel true p3 p1))])) _
      refine XS.goto Xt501.here hx rfl (pc0 := 202) (pc' := 206) rfl (hb hby at_202) (by decide) (by decide) ?_
      show Steps p.tables e below (Tt501.setTop (mkF m 206 #[.val (.int p1), .val (.int p2), .val (.int p3), .val (.int p4), .val (.int p5), .val (.int p6), .val (.ref tr), .val (.ref va), .val (.ref v), .val (.ref ws), .val (.int (own_bb true)), .val (.int (own_bb b1)), .val (.int (own_bb b2)), .val (.int (own_bb b3)), .val (.ref ws)] [(.int p3), (.int (own_sel true p3 p1))])) _
      refine XS.icmpNo Xt501.here hx rfl (hb hby at_206) rfl (teq (rfl : (own_sel true p3 p1) = p3)).2 ?_
      exact kt
  have sg1 : ∀ t, Steps p.tables e below (Tt501.setTop (mkF m 226 #[.val (.int p1), .val (.int p2), .val (.int p3), .val (.int p4), .val (.int p5), .val (.int p6), .val (.ref tr), .val (.ref va), .val (.ref v), .val (.ref ws), .val (.int (own_bb b0)), .val (.int (own_bb b1)), .val (.int (own_bb b2)), .val (.int (own_bb b3)), .val (.ref ws)] [])) t → Steps p.tables e below (Tt501.setTop (mkF m 209 #[.val (.int p1), .val (.int p2), .val (.int p3), .val (.int p4), .val (.int p5), .val (.int p6), .val (.ref tr), .val (.ref va), .val (.ref v), .val (.ref ws), .val (.int (own_bb b0)), .val (.int (own_bb b1)), .val (.int (own_bb b2)), .val (.int (own_bb b3)), .val (.ref ws)] [])) t := by
    intro t kt
    cases b1 with
    | false =>
      show Steps p.tables e below (Tt501.setTop (mkF m 209 #[.val (.int p1), .val (.int p2), .val (.int p3), .val (.int p4), .val (.int p5), .val (.int p6), .val (.ref tr), .val (.ref va), .val (.ref v), .val (.ref ws), .val (.int (own_bb b0)), .val (.int (own_bb false)), .val (.int (own_bb b2)), .val (.int (own_bb b3)), .val (.ref ws)] [])) _
      refine XS.aload Xt501.here hx rfl (hb hby at_209) rfl rfl ?_
      show Steps p.tables e below (Tt501.setTop (mkF m 211 #[.val (.int p1), .val (.int p2), .val (.int p3), .val (.int p4), .val (.int p5), .val (.int p6), .val (.ref tr), .val (.ref va), .val (.ref v), .val (.ref ws), .val (.int (own_bb b0)), .val (.int (own_bb false)), .val (.int (own_bb b2)), .val (.int (own_bb b3)), .val (.ref ws)] [(.ref ws)])) _
      refine XS.iconst Xt501.here hx rfl (hb hby at_211) ?_
      show Steps p.tables e below (Tt501.setTop (mkF m 212 #[.val (.int p1), .val (.int p2), .val (.int p3), .val (.int p4), .val (.int p5), .val (.int p6), .val (.ref tr), .val (.ref va), .val (.ref v), .val (.ref ws), .val (.int (own_bb b0)), .val (.int (own_bb false)), .val (.int (own_bb b2)), .val (.int (own_bb b3)), .val (.ref ws)] [(.int (1 : Int32)), (.ref ws)])) _
      refine own_ild Xt501 hx hZ1 rfl z14 1 (by decide) (by decide) (by decide) rfl (g := (mkF m 212 #[.val (.int p1), .val (.int p2), .val (.int p3), .val (.int p4), .val (.int p5), .val (.int p6), .val (.ref tr), .val (.ref va), .val (.ref v), .val (.ref ws), .val (.int (own_bb b0)), .val (.int (own_bb false)), .val (.int (own_bb b2)), .val (.int (own_bb b3)), .val (.ref ws)] [(.int (1 : Int32)), (.ref ws)])) rfl rfl (hb hby at_212) _ ?_
      show Steps p.tables e below (Tt501.setTop (mkF m 213 #[.val (.int p1), .val (.int p2), .val (.int p3), .val (.int p4), .val (.int p5), .val (.int p6), .val (.ref tr), .val (.ref va), .val (.ref v), .val (.ref ws), .val (.int (own_bb b0)), .val (.int (own_bb false)), .val (.int (own_bb b2)), .val (.int (own_bb b3)), .val (.ref ws)] [(.int (own_sel false p4 p1))])) _
      refine XS.iload Xt501.here hx rfl (hb hby at_213) rfl ?_
      show Steps p.tables e below (Tt501.setTop (mkF m 215 #[.val (.int p1), .val (.int p2), .val (.int p3), .val (.int p4), .val (.int p5), .val (.int p6), .val (.ref tr), .val (.ref va), .val (.ref v), .val (.ref ws), .val (.int (own_bb b0)), .val (.int (own_bb false)), .val (.int (own_bb b2)), .val (.int (own_bb b3)), .val (.ref ws)] [(.int (own_bb false)), (.int (own_sel false p4 p1))])) _
      refine XS.ifYes Xt501.here hx rfl (pc0 := 215) (pc' := 222) rfl (hb hby at_215) rfl ((if0 _ _).trans (teq (rfl : (own_bb false) = (0 : Int32))).1) (by decide) (by decide) ?_
      show Steps p.tables e below (Tt501.setTop (mkF m 222 #[.val (.int p1), .val (.int p2), .val (.int p3), .val (.int p4), .val (.int p5), .val (.int p6), .val (.ref tr), .val (.ref va), .val (.ref v), .val (.ref ws), .val (.int (own_bb b0)), .val (.int (own_bb false)), .val (.int (own_bb b2)), .val (.int (own_bb b3)), .val (.ref ws)] [(.int (own_sel false p4 p1))])) _
      refine XS.iloadN Xt501.here hx rfl (hb hby at_222) rfl ?_
      show Steps p.tables e below (Tt501.setTop (mkF m 223 #[.val (.int p1), .val (.int p2), .val (.int p3), .val (.int p4), .val (.int p5), .val (.int p6), .val (.ref tr), .val (.ref va), .val (.ref v), .val (.ref ws), .val (.int (own_bb b0)), .val (.int (own_bb false)), .val (.int (own_bb b2)), .val (.int (own_bb b3)), .val (.ref ws)] [(.int p1), (.int (own_sel false p4 p1))])) _
      refine XS.icmpNo Xt501.here hx rfl (hb hby at_223) rfl (teq (rfl : (own_sel false p4 p1) = p1)).2 ?_
      exact kt
    | true =>
      show Steps p.tables e below (Tt501.setTop (mkF m 209 #[.val (.int p1), .val (.int p2), .val (.int p3), .val (.int p4), .val (.int p5), .val (.int p6), .val (.ref tr), .val (.ref va), .val (.ref v), .val (.ref ws), .val (.int (own_bb b0)), .val (.int (own_bb true)), .val (.int (own_bb b2)), .val (.int (own_bb b3)), .val (.ref ws)] [])) _
      refine XS.aload Xt501.here hx rfl (hb hby at_209) rfl rfl ?_
      show Steps p.tables e below (Tt501.setTop (mkF m 211 #[.val (.int p1), .val (.int p2), .val (.int p3), .val (.int p4), .val (.int p5), .val (.int p6), .val (.ref tr), .val (.ref va), .val (.ref v), .val (.ref ws), .val (.int (own_bb b0)), .val (.int (own_bb true)), .val (.int (own_bb b2)), .val (.int (own_bb b3)), .val (.ref ws)] [(.ref ws)])) _
      refine XS.iconst Xt501.here hx rfl (hb hby at_211) ?_
      show Steps p.tables e below (Tt501.setTop (mkF m 212 #[.val (.int p1), .val (.int p2), .val (.int p3), .val (.int p4), .val (.int p5), .val (.int p6), .val (.ref tr), .val (.ref va), .val (.ref v), .val (.ref ws), .val (.int (own_bb b0)), .val (.int (own_bb true)), .val (.int (own_bb b2)), .val (.int (own_bb b3)), .val (.ref ws)] [(.int (1 : Int32)), (.ref ws)])) _
      refine own_ild Xt501 hx hZ1 rfl z14 1 (by decide) (by decide) (by decide) rfl (g := (mkF m 212 #[.val (.int p1), .val (.int p2), .val (.int p3), .val (.int p4), .val (.int p5), .val (.int p6), .val (.ref tr), .val (.ref va), .val (.ref v), .val (.ref ws), .val (.int (own_bb b0)), .val (.int (own_bb true)), .val (.int (own_bb b2)), .val (.int (own_bb b3)), .val (.ref ws)] [(.int (1 : Int32)), (.ref ws)])) rfl rfl (hb hby at_212) _ ?_
      show Steps p.tables e below (Tt501.setTop (mkF m 213 #[.val (.int p1), .val (.int p2), .val (.int p3), .val (.int p4), .val (.int p5), .val (.int p6), .val (.ref tr), .val (.ref va), .val (.ref v), .val (.ref ws), .val (.int (own_bb b0)), .val (.int (own_bb true)), .val (.int (own_bb b2)), .val (.int (own_bb b3)), .val (.ref ws)] [(.int (own_sel true p4 p1))])) _
      refine XS.iload Xt501.here hx rfl (hb hby at_213) rfl ?_
      show Steps p.tables e below (Tt501.setTop (mkF m 215 #[.val (.int p1), .val (.int p2), .val (.int p3), .val (.int p4), .val (.int p5), .val (.int p6), .val (.ref tr), .val (.ref va), .val (.ref v), .val (.ref ws), .val (.int (own_bb b0)), .val (.int (own_bb true)), .val (.int (own_bb b2)), .val (.int (own_bb b3)), .val (.ref ws)] [(.int (own_bb true)), (.int (own_sel true p4 p1))])) _
      refine XS.ifNo Xt501.here hx rfl (hb hby at_215) rfl ((if0 _ _).trans (feq (by decide : ¬ ((own_bb true) = (0 : Int32)))).1) ?_
      show Steps p.tables e below (Tt501.setTop (mkF m 218 #[.val (.int p1), .val (.int p2), .val (.int p3), .val (.int p4), .val (.int p5), .val (.int p6), .val (.ref tr), .val (.ref va), .val (.ref v), .val (.ref ws), .val (.int (own_bb b0)), .val (.int (own_bb true)), .val (.int (own_bb b2)), .val (.int (own_bb b3)), .val (.ref ws)] [(.int (own_sel true p4 p1))])) _
      refine XS.iloadN Xt501.here hx rfl (hb hby at_218) rfl ?_
      show Steps p.tables e below (Tt501.setTop (mkF m 219 #[.val (.int p1), .val (.int p2), .val (.int p3), .val (.int p4), .val (.int p5), .val (.int p6), .val (.ref tr), .val (.ref va), .val (.ref v), .val (.ref ws), .val (.int (own_bb b0)), .val (.int (own_bb true)), .val (.int (own_bb b2)), .val (.int (own_bb b3)), .val (.ref ws)] [(.int p4), (.int (own_sel true p4 p1))])) _
      refine XS.goto Xt501.here hx rfl (pc0 := 219) (pc' := 223) rfl (hb hby at_219) (by decide) (by decide) ?_
      show Steps p.tables e below (Tt501.setTop (mkF m 223 #[.val (.int p1), .val (.int p2), .val (.int p3), .val (.int p4), .val (.int p5), .val (.int p6), .val (.ref tr), .val (.ref va), .val (.ref v), .val (.ref ws), .val (.int (own_bb b0)), .val (.int (own_bb true)), .val (.int (own_bb b2)), .val (.int (own_bb b3)), .val (.ref ws)] [(.int p4), (.int (own_sel true p4 p1))])) _
      refine XS.icmpNo Xt501.here hx rfl (hb hby at_223) rfl (teq (rfl : (own_sel true p4 p1) = p4)).2 ?_
      exact kt
  have sg2 : ∀ t, Steps p.tables e below (Tt501.setTop (mkF m 244 #[.val (.int p1), .val (.int p2), .val (.int p3), .val (.int p4), .val (.int p5), .val (.int p6), .val (.ref tr), .val (.ref va), .val (.ref v), .val (.ref ws), .val (.int (own_bb b0)), .val (.int (own_bb b1)), .val (.int (own_bb b2)), .val (.int (own_bb b3)), .val (.ref ws)] [])) t → Steps p.tables e below (Tt501.setTop (mkF m 226 #[.val (.int p1), .val (.int p2), .val (.int p3), .val (.int p4), .val (.int p5), .val (.int p6), .val (.ref tr), .val (.ref va), .val (.ref v), .val (.ref ws), .val (.int (own_bb b0)), .val (.int (own_bb b1)), .val (.int (own_bb b2)), .val (.int (own_bb b3)), .val (.ref ws)] [])) t := by
    intro t kt
    cases b2 with
    | false =>
      show Steps p.tables e below (Tt501.setTop (mkF m 226 #[.val (.int p1), .val (.int p2), .val (.int p3), .val (.int p4), .val (.int p5), .val (.int p6), .val (.ref tr), .val (.ref va), .val (.ref v), .val (.ref ws), .val (.int (own_bb b0)), .val (.int (own_bb b1)), .val (.int (own_bb false)), .val (.int (own_bb b3)), .val (.ref ws)] [])) _
      refine XS.aload Xt501.here hx rfl (hb hby at_226) rfl rfl ?_
      show Steps p.tables e below (Tt501.setTop (mkF m 228 #[.val (.int p1), .val (.int p2), .val (.int p3), .val (.int p4), .val (.int p5), .val (.int p6), .val (.ref tr), .val (.ref va), .val (.ref v), .val (.ref ws), .val (.int (own_bb b0)), .val (.int (own_bb b1)), .val (.int (own_bb false)), .val (.int (own_bb b3)), .val (.ref ws)] [(.ref ws)])) _
      refine XS.iconst Xt501.here hx rfl (hb hby at_228) ?_
      show Steps p.tables e below (Tt501.setTop (mkF m 229 #[.val (.int p1), .val (.int p2), .val (.int p3), .val (.int p4), .val (.int p5), .val (.int p6), .val (.ref tr), .val (.ref va), .val (.ref v), .val (.ref ws), .val (.int (own_bb b0)), .val (.int (own_bb b1)), .val (.int (own_bb false)), .val (.int (own_bb b3)), .val (.ref ws)] [(.int (2 : Int32)), (.ref ws)])) _
      refine own_ild Xt501 hx hZ1 rfl z14 2 (by decide) (by decide) (by decide) rfl (g := (mkF m 229 #[.val (.int p1), .val (.int p2), .val (.int p3), .val (.int p4), .val (.int p5), .val (.int p6), .val (.ref tr), .val (.ref va), .val (.ref v), .val (.ref ws), .val (.int (own_bb b0)), .val (.int (own_bb b1)), .val (.int (own_bb false)), .val (.int (own_bb b3)), .val (.ref ws)] [(.int (2 : Int32)), (.ref ws)])) rfl rfl (hb hby at_229) _ ?_
      show Steps p.tables e below (Tt501.setTop (mkF m 230 #[.val (.int p1), .val (.int p2), .val (.int p3), .val (.int p4), .val (.int p5), .val (.int p6), .val (.ref tr), .val (.ref va), .val (.ref v), .val (.ref ws), .val (.int (own_bb b0)), .val (.int (own_bb b1)), .val (.int (own_bb false)), .val (.int (own_bb b3)), .val (.ref ws)] [(.int (own_sel false p5 p1))])) _
      refine XS.iload Xt501.here hx rfl (hb hby at_230) rfl ?_
      show Steps p.tables e below (Tt501.setTop (mkF m 232 #[.val (.int p1), .val (.int p2), .val (.int p3), .val (.int p4), .val (.int p5), .val (.int p6), .val (.ref tr), .val (.ref va), .val (.ref v), .val (.ref ws), .val (.int (own_bb b0)), .val (.int (own_bb b1)), .val (.int (own_bb false)), .val (.int (own_bb b3)), .val (.ref ws)] [(.int (own_bb false)), (.int (own_sel false p5 p1))])) _
      refine XS.ifYes Xt501.here hx rfl (pc0 := 232) (pc' := 240) rfl (hb hby at_232) rfl ((if0 _ _).trans (teq (rfl : (own_bb false) = (0 : Int32))).1) (by decide) (by decide) ?_
      show Steps p.tables e below (Tt501.setTop (mkF m 240 #[.val (.int p1), .val (.int p2), .val (.int p3), .val (.int p4), .val (.int p5), .val (.int p6), .val (.ref tr), .val (.ref va), .val (.ref v), .val (.ref ws), .val (.int (own_bb b0)), .val (.int (own_bb b1)), .val (.int (own_bb false)), .val (.int (own_bb b3)), .val (.ref ws)] [(.int (own_sel false p5 p1))])) _
      refine XS.iloadN Xt501.here hx rfl (hb hby at_240) rfl ?_
      show Steps p.tables e below (Tt501.setTop (mkF m 241 #[.val (.int p1), .val (.int p2), .val (.int p3), .val (.int p4), .val (.int p5), .val (.int p6), .val (.ref tr), .val (.ref va), .val (.ref v), .val (.ref ws), .val (.int (own_bb b0)), .val (.int (own_bb b1)), .val (.int (own_bb false)), .val (.int (own_bb b3)), .val (.ref ws)] [(.int p1), (.int (own_sel false p5 p1))])) _
      refine XS.icmpNo Xt501.here hx rfl (hb hby at_241) rfl (teq (rfl : (own_sel false p5 p1) = p1)).2 ?_
      exact kt
    | true =>
      show Steps p.tables e below (Tt501.setTop (mkF m 226 #[.val (.int p1), .val (.int p2), .val (.int p3), .val (.int p4), .val (.int p5), .val (.int p6), .val (.ref tr), .val (.ref va), .val (.ref v), .val (.ref ws), .val (.int (own_bb b0)), .val (.int (own_bb b1)), .val (.int (own_bb true)), .val (.int (own_bb b3)), .val (.ref ws)] [])) _
      refine XS.aload Xt501.here hx rfl (hb hby at_226) rfl rfl ?_
      show Steps p.tables e below (Tt501.setTop (mkF m 228 #[.val (.int p1), .val (.int p2), .val (.int p3), .val (.int p4), .val (.int p5), .val (.int p6), .val (.ref tr), .val (.ref va), .val (.ref v), .val (.ref ws), .val (.int (own_bb b0)), .val (.int (own_bb b1)), .val (.int (own_bb true)), .val (.int (own_bb b3)), .val (.ref ws)] [(.ref ws)])) _
      refine XS.iconst Xt501.here hx rfl (hb hby at_228) ?_
      show Steps p.tables e below (Tt501.setTop (mkF m 229 #[.val (.int p1), .val (.int p2), .val (.int p3), .val (.int p4), .val (.int p5), .val (.int p6), .val (.ref tr), .val (.ref va), .val (.ref v), .val (.ref ws), .val (.int (own_bb b0)), .val (.int (own_bb b1)), .val (.int (own_bb true)), .val (.int (own_bb b3)), .val (.ref ws)] [(.int (2 : Int32)), (.ref ws)])) _
      refine own_ild Xt501 hx hZ1 rfl z14 2 (by decide) (by decide) (by decide) rfl (g := (mkF m 229 #[.val (.int p1), .val (.int p2), .val (.int p3), .val (.int p4), .val (.int p5), .val (.int p6), .val (.ref tr), .val (.ref va), .val (.ref v), .val (.ref ws), .val (.int (own_bb b0)), .val (.int (own_bb b1)), .val (.int (own_bb true)), .val (.int (own_bb b3)), .val (.ref ws)] [(.int (2 : Int32)), (.ref ws)])) rfl rfl (hb hby at_229) _ ?_
      show Steps p.tables e below (Tt501.setTop (mkF m 230 #[.val (.int p1), .val (.int p2), .val (.int p3), .val (.int p4), .val (.int p5), .val (.int p6), .val (.ref tr), .val (.ref va), .val (.ref v), .val (.ref ws), .val (.int (own_bb b0)), .val (.int (own_bb b1)), .val (.int (own_bb true)), .val (.int (own_bb b3)), .val (.ref ws)] [(.int (own_sel true p5 p1))])) _
      refine XS.iload Xt501.here hx rfl (hb hby at_230) rfl ?_
      show Steps p.tables e below (Tt501.setTop (mkF m 232 #[.val (.int p1), .val (.int p2), .val (.int p3), .val (.int p4), .val (.int p5), .val (.int p6), .val (.ref tr), .val (.ref va), .val (.ref v), .val (.ref ws), .val (.int (own_bb b0)), .val (.int (own_bb b1)), .val (.int (own_bb true)), .val (.int (own_bb b3)), .val (.ref ws)] [(.int (own_bb true)), (.int (own_sel true p5 p1))])) _
      refine XS.ifNo Xt501.here hx rfl (hb hby at_232) rfl ((if0 _ _).trans (feq (by decide : ¬ ((own_bb true) = (0 : Int32)))).1) ?_
      show Steps p.tables e below (Tt501.setTop (mkF m 235 #[.val (.int p1), .val (.int p2), .val (.int p3), .val (.int p4), .val (.int p5), .val (.int p6), .val (.ref tr), .val (.ref va), .val (.ref v), .val (.ref ws), .val (.int (own_bb b0)), .val (.int (own_bb b1)), .val (.int (own_bb true)), .val (.int (own_bb b3)), .val (.ref ws)] [(.int (own_sel true p5 p1))])) _
      refine XS.iload Xt501.here hx rfl (hb hby at_235) rfl ?_
      show Steps p.tables e below (Tt501.setTop (mkF m 237 #[.val (.int p1), .val (.int p2), .val (.int p3), .val (.int p4), .val (.int p5), .val (.int p6), .val (.ref tr), .val (.ref va), .val (.ref v), .val (.ref ws), .val (.int (own_bb b0)), .val (.int (own_bb b1)), .val (.int (own_bb true)), .val (.int (own_bb b3)), .val (.ref ws)] [(.int p5), (.int (own_sel true p5 p1))])) _
      refine XS.goto Xt501.here hx rfl (pc0 := 237) (pc' := 241) rfl (hb hby at_237) (by decide) (by decide) ?_
      show Steps p.tables e below (Tt501.setTop (mkF m 241 #[.val (.int p1), .val (.int p2), .val (.int p3), .val (.int p4), .val (.int p5), .val (.int p6), .val (.ref tr), .val (.ref va), .val (.ref v), .val (.ref ws), .val (.int (own_bb b0)), .val (.int (own_bb b1)), .val (.int (own_bb true)), .val (.int (own_bb b3)), .val (.ref ws)] [(.int p5), (.int (own_sel true p5 p1))])) _
      refine XS.icmpNo Xt501.here hx rfl (hb hby at_241) rfl (teq (rfl : (own_sel true p5 p1) = p5)).2 ?_
      exact kt
  have sg3 : ∀ t, Steps p.tables e below (Tt501.setTop (mkF m 262 #[.val (.int p1), .val (.int p2), .val (.int p3), .val (.int p4), .val (.int p5), .val (.int p6), .val (.ref tr), .val (.ref va), .val (.ref v), .val (.ref ws), .val (.int (own_bb b0)), .val (.int (own_bb b1)), .val (.int (own_bb b2)), .val (.int (own_bb b3)), .val (.ref ws)] [])) t → Steps p.tables e below (Tt501.setTop (mkF m 244 #[.val (.int p1), .val (.int p2), .val (.int p3), .val (.int p4), .val (.int p5), .val (.int p6), .val (.ref tr), .val (.ref va), .val (.ref v), .val (.ref ws), .val (.int (own_bb b0)), .val (.int (own_bb b1)), .val (.int (own_bb b2)), .val (.int (own_bb b3)), .val (.ref ws)] [])) t := by
    intro t kt
    cases b3 with
    | false =>
      show Steps p.tables e below (Tt501.setTop (mkF m 244 #[.val (.int p1), .val (.int p2), .val (.int p3), .val (.int p4), .val (.int p5), .val (.int p6), .val (.ref tr), .val (.ref va), .val (.ref v), .val (.ref ws), .val (.int (own_bb b0)), .val (.int (own_bb b1)), .val (.int (own_bb b2)), .val (.int (own_bb false)), .val (.ref ws)] [])) _
      refine XS.aload Xt501.here hx rfl (hb hby at_244) rfl rfl ?_
      show Steps p.tables e below (Tt501.setTop (mkF m 246 #[.val (.int p1), .val (.int p2), .val (.int p3), .val (.int p4), .val (.int p5), .val (.int p6), .val (.ref tr), .val (.ref va), .val (.ref v), .val (.ref ws), .val (.int (own_bb b0)), .val (.int (own_bb b1)), .val (.int (own_bb b2)), .val (.int (own_bb false)), .val (.ref ws)] [(.ref ws)])) _
      refine XS.iconst Xt501.here hx rfl (hb hby at_246) ?_
      show Steps p.tables e below (Tt501.setTop (mkF m 247 #[.val (.int p1), .val (.int p2), .val (.int p3), .val (.int p4), .val (.int p5), .val (.int p6), .val (.ref tr), .val (.ref va), .val (.ref v), .val (.ref ws), .val (.int (own_bb b0)), .val (.int (own_bb b1)), .val (.int (own_bb b2)), .val (.int (own_bb false)), .val (.ref ws)] [(.int (3 : Int32)), (.ref ws)])) _
      refine own_ild Xt501 hx hZ1 rfl z14 3 (by decide) (by decide) (by decide) rfl (g := (mkF m 247 #[.val (.int p1), .val (.int p2), .val (.int p3), .val (.int p4), .val (.int p5), .val (.int p6), .val (.ref tr), .val (.ref va), .val (.ref v), .val (.ref ws), .val (.int (own_bb b0)), .val (.int (own_bb b1)), .val (.int (own_bb b2)), .val (.int (own_bb false)), .val (.ref ws)] [(.int (3 : Int32)), (.ref ws)])) rfl rfl (hb hby at_247) _ ?_
      show Steps p.tables e below (Tt501.setTop (mkF m 248 #[.val (.int p1), .val (.int p2), .val (.int p3), .val (.int p4), .val (.int p5), .val (.int p6), .val (.ref tr), .val (.ref va), .val (.ref v), .val (.ref ws), .val (.int (own_bb b0)), .val (.int (own_bb b1)), .val (.int (own_bb b2)), .val (.int (own_bb false)), .val (.ref ws)] [(.int (own_sel false p6 p1))])) _
      refine XS.iload Xt501.here hx rfl (hb hby at_248) rfl ?_
      show Steps p.tables e below (Tt501.setTop (mkF m 250 #[.val (.int p1), .val (.int p2), .val (.int p3), .val (.int p4), .val (.int p5), .val (.int p6), .val (.ref tr), .val (.ref va), .val (.ref v), .val (.ref ws), .val (.int (own_bb b0)), .val (.int (own_bb b1)), .val (.int (own_bb b2)), .val (.int (own_bb false)), .val (.ref ws)] [(.int (own_bb false)), (.int (own_sel false p6 p1))])) _
      refine XS.ifYes Xt501.here hx rfl (pc0 := 250) (pc' := 258) rfl (hb hby at_250) rfl ((if0 _ _).trans (teq (rfl : (own_bb false) = (0 : Int32))).1) (by decide) (by decide) ?_
      show Steps p.tables e below (Tt501.setTop (mkF m 258 #[.val (.int p1), .val (.int p2), .val (.int p3), .val (.int p4), .val (.int p5), .val (.int p6), .val (.ref tr), .val (.ref va), .val (.ref v), .val (.ref ws), .val (.int (own_bb b0)), .val (.int (own_bb b1)), .val (.int (own_bb b2)), .val (.int (own_bb false)), .val (.ref ws)] [(.int (own_sel false p6 p1))])) _
      refine XS.iloadN Xt501.here hx rfl (hb hby at_258) rfl ?_
      show Steps p.tables e below (Tt501.setTop (mkF m 259 #[.val (.int p1), .val (.int p2), .val (.int p3), .val (.int p4), .val (.int p5), .val (.int p6), .val (.ref tr), .val (.ref va), .val (.ref v), .val (.ref ws), .val (.int (own_bb b0)), .val (.int (own_bb b1)), .val (.int (own_bb b2)), .val (.int (own_bb false)), .val (.ref ws)] [(.int p1), (.int (own_sel false p6 p1))])) _
      refine XS.icmpNo Xt501.here hx rfl (hb hby at_259) rfl (teq (rfl : (own_sel false p6 p1) = p1)).2 ?_
      exact kt
    | true =>
      show Steps p.tables e below (Tt501.setTop (mkF m 244 #[.val (.int p1), .val (.int p2), .val (.int p3), .val (.int p4), .val (.int p5), .val (.int p6), .val (.ref tr), .val (.ref va), .val (.ref v), .val (.ref ws), .val (.int (own_bb b0)), .val (.int (own_bb b1)), .val (.int (own_bb b2)), .val (.int (own_bb true)), .val (.ref ws)] [])) _
      refine XS.aload Xt501.here hx rfl (hb hby at_244) rfl rfl ?_
      show Steps p.tables e below (Tt501.setTop (mkF m 246 #[.val (.int p1), .val (.int p2), .val (.int p3), .val (.int p4), .val (.int p5), .val (.int p6), .val (.ref tr), .val (.ref va), .val (.ref v), .val (.ref ws), .val (.int (own_bb b0)), .val (.int (own_bb b1)), .val (.int (own_bb b2)), .val (.int (own_bb true)), .val (.ref ws)] [(.ref ws)])) _
      refine XS.iconst Xt501.here hx rfl (hb hby at_246) ?_
      show Steps p.tables e below (Tt501.setTop (mkF m 247 #[.val (.int p1), .val (.int p2), .val (.int p3), .val (.int p4), .val (.int p5), .val (.int p6), .val (.ref tr), .val (.ref va), .val (.ref v), .val (.ref ws), .val (.int (own_bb b0)), .val (.int (own_bb b1)), .val (.int (own_bb b2)), .val (.int (own_bb true)), .val (.ref ws)] [(.int (3 : Int32)), (.ref ws)])) _
      refine own_ild Xt501 hx hZ1 rfl z14 3 (by decide) (by decide) (by decide) rfl (g := (mkF m 247 #[.val (.int p1), .val (.int p2), .val (.int p3), .val (.int p4), .val (.int p5), .val (.int p6), .val (.ref tr), .val (.ref va), .val (.ref v), .val (.ref ws), .val (.int (own_bb b0)), .val (.int (own_bb b1)), .val (.int (own_bb b2)), .val (.int (own_bb true)), .val (.ref ws)] [(.int (3 : Int32)), (.ref ws)])) rfl rfl (hb hby at_247) _ ?_
      show Steps p.tables e below (Tt501.setTop (mkF m 248 #[.val (.int p1), .val (.int p2), .val (.int p3), .val (.int p4), .val (.int p5), .val (.int p6), .val (.ref tr), .val (.ref va), .val (.ref v), .val (.ref ws), .val (.int (own_bb b0)), .val (.int (own_bb b1)), .val (.int (own_bb b2)), .val (.int (own_bb true)), .val (.ref ws)] [(.int (own_sel true p6 p1))])) _
      refine XS.iload Xt501.here hx rfl (hb hby at_248) rfl ?_
      show Steps p.tables e below (Tt501.setTop (mkF m 250 #[.val (.int p1), .val (.int p2), .val (.int p3), .val (.int p4), .val (.int p5), .val (.int p6), .val (.ref tr), .val (.ref va), .val (.ref v), .val (.ref ws), .val (.int (own_bb b0)), .val (.int (own_bb b1)), .val (.int (own_bb b2)), .val (.int (own_bb true)), .val (.ref ws)] [(.int (own_bb true)), (.int (own_sel true p6 p1))])) _
      refine XS.ifNo Xt501.here hx rfl (hb hby at_250) rfl ((if0 _ _).trans (feq (by decide : ¬ ((own_bb true) = (0 : Int32)))).1) ?_
      show Steps p.tables e below (Tt501.setTop (mkF m 253 #[.val (.int p1), .val (.int p2), .val (.int p3), .val (.int p4), .val (.int p5), .val (.int p6), .val (.ref tr), .val (.ref va), .val (.ref v), .val (.ref ws), .val (.int (own_bb b0)), .val (.int (own_bb b1)), .val (.int (own_bb b2)), .val (.int (own_bb true)), .val (.ref ws)] [(.int (own_sel true p6 p1))])) _
      refine XS.iload Xt501.here hx rfl (hb hby at_253) rfl ?_
      show Steps p.tables e below (Tt501.setTop (mkF m 255 #[.val (.int p1), .val (.int p2), .val (.int p3), .val (.int p4), .val (.int p5), .val (.int p6), .val (.ref tr), .val (.ref va), .val (.ref v), .val (.ref ws), .val (.int (own_bb b0)), .val (.int (own_bb b1)), .val (.int (own_bb b2)), .val (.int (own_bb true)), .val (.ref ws)] [(.int p6), (.int (own_sel true p6 p1))])) _
      refine XS.goto Xt501.here hx rfl (pc0 := 255) (pc' := 259) rfl (hb hby at_255) (by decide) (by decide) ?_
      show Steps p.tables e below (Tt501.setTop (mkF m 259 #[.val (.int p1), .val (.int p2), .val (.int p3), .val (.int p4), .val (.int p5), .val (.int p6), .val (.ref tr), .val (.ref va), .val (.ref v), .val (.ref ws), .val (.int (own_bb b0)), .val (.int (own_bb b1)), .val (.int (own_bb b2)), .val (.int (own_bb true)), .val (.ref ws)] [(.int p6), (.int (own_sel true p6 p1))])) _
      refine XS.icmpNo Xt501.here hx rfl (hb hby at_259) rfl (teq (rfl : (own_sel true p6 p1) = p6)).2 ?_
      exact kt
  obtain ⟨fs, hr, hrun, hended, hRW⟩ := Xt501.leaveW (v := some (.int (1 : Int32))) hS1 (Nat.le_trans hk1 (Nat.le_trans hdn (Nat.le_of_lt (Nat.lt_trans (Nat.lt_trans (Nat.lt_trans zo3 zo4) zo5) z14.lt)))) (fun h => by rw [Bd.returns] at h; cases h)
  refine ⟨_, _, pre0 _ ?_, hrun, hended, _, _, rfl, ?_, hRW.1, hRW.2.1, hRW.2.2.1, hRW.2.2.2.mono (by decide) (by decide)⟩
  · have rest : Steps p.tables e below (Tt30.setTop (mkF m 49 #[.val (.int p1), .val (.int p2), .val (.int p3), .val (.int p4), .val (.int p5), .val (.int p6), .val (.ref tr), .val (.ref va), .val (.ref v), .unset, .unset, .unset, .unset, .unset, .unset] [])) (Tt501.setFrames fs) := by
      have kt : Steps p.tables e below (Tt205.setTop (mkF m 78 #[.val (.int p1), .val (.int p2), .val (.int p3), .val (.int p4), .val (.int p5), .val (.int p6), .val (.ref tr), .val (.ref va), .val (.ref v), .val (.ref ws), .unset, .unset, .unset, .unset, .unset] [])) (Tt501.setFrames fs) := by
        refine bits _ ?_
        refine stm0 _ ?_
        refine stm1 _ ?_
        refine stm2 _ ?_
        refine stm3 _ ?_
        show Steps p.tables e below (Tm3.setTop (mkF m 175 #[.val (.int p1), .val (.int p2), .val (.int p3), .val (.int p4), .val (.int p5), .val (.int p6), .val (.ref tr), .val (.ref va), .val (.ref v), .val (.ref ws), .val (.int (own_bb b0)), .val (.int (own_bb b1)), .val (.int (own_bb b2)), .val (.int (own_bb b3)), .unset] [])) _
        refine XS.aload Xm3.here hx rfl (hb hby at_175) rfl rfl ?_
        show Steps p.tables e below (Tm3.setTop (mkF m 177 #[.val (.int p1), .val (.int p2), .val (.int p3), .val (.int p4), .val (.int p5), .val (.int p6), .val (.ref tr), .val (.ref va), .val (.ref v), .val (.ref ws), .val (.int (own_bb b0)), .val (.int (own_bb b1)), .val (.int (own_bb b2)), .val (.int (own_bb b3)), .unset] [(.ref v)])) _
        refine XS.iloadN Xm3.here hx rfl (hb hby at_177) rfl ?_
        show Steps p.tables e below (Tm3.setTop (mkF m 178 #[.val (.int p1), .val (.int p2), .val (.int p3), .val (.int p4), .val (.int p5), .val (.int p6), .val (.ref tr), .val (.ref va), .val (.ref v), .val (.ref ws), .val (.int (own_bb b0)), .val (.int (own_bb b1)), .val (.int (own_bb b2)), .val (.int (own_bb b3)), .unset] [(.int p1), (.ref v)])) _
        refine stt501.trans ?_
        show Steps p.tables e below (Tt501.setTop (mkF m 181 #[.val (.int p1), .val (.int p2), .val (.int p3), .val (.int p4), .val (.int p5), .val (.int p6), .val (.ref tr), .val (.ref va), .val (.ref v), .val (.ref ws), .val (.int (own_bb b0)), .val (.int (own_bb b1)), .val (.int (own_bb b2)), .val (.int (own_bb b3)), .unset] [(.ref ws)])) _
        refine XS.astore Xt501.here hx rfl (hb hby at_181) rfl rfl (l' := #[.val (.int p1), .val (.int p2), .val (.int p3), .val (.int p4), .val (.int p5), .val (.int p6), .val (.ref tr), .val (.ref va), .val (.ref v), .val (.ref ws), .val (.int (own_bb b0)), .val (.int (own_bb b1)), .val (.int (own_bb b2)), .val (.int (own_bb b3)), .val (.ref ws)]) rfl ?_
        show Steps p.tables e below (Tt501.setTop (mkF m 183 #[.val (.int p1), .val (.int p2), .val (.int p3), .val (.int p4), .val (.int p5), .val (.int p6), .val (.ref tr), .val (.ref va), .val (.ref v), .val (.ref ws), .val (.int (own_bb b0)), .val (.int (own_bb b1)), .val (.int (own_bb b2)), .val (.int (own_bb b3)), .val (.ref ws)] [])) _
        refine XS.aload Xt501.here hx rfl (hb hby at_183) rfl rfl ?_
        show Steps p.tables e below (Tt501.setTop (mkF m 185 #[.val (.int p1), .val (.int p2), .val (.int p3), .val (.int p4), .val (.int p5), .val (.int p6), .val (.ref tr), .val (.ref va), .val (.ref v), .val (.ref ws), .val (.int (own_bb b0)), .val (.int (own_bb b1)), .val (.int (own_bb b2)), .val (.int (own_bb b3)), .val (.ref ws)] [(.ref ws)])) _
        refine XS.aload Xt501.here hx rfl (hb hby at_185) rfl rfl ?_
        show Steps p.tables e below (Tt501.setTop (mkF m 187 #[.val (.int p1), .val (.int p2), .val (.int p3), .val (.int p4), .val (.int p5), .val (.int p6), .val (.ref tr), .val (.ref va), .val (.ref v), .val (.ref ws), .val (.int (own_bb b0)), .val (.int (own_bb b1)), .val (.int (own_bb b2)), .val (.int (own_bb b3)), .val (.ref ws)] [(.ref ws), (.ref ws)])) _
        refine Jvm.RoadKit.acmp (g := (mkF m 187 #[.val (.int p1), .val (.int p2), .val (.int p3), .val (.int p4), .val (.int p5), .val (.int p6), .val (.ref tr), .val (.ref va), .val (.ref v), .val (.ref ws), .val (.int (own_bb b0)), .val (.int (own_bb b1)), .val (.int (own_bb b2)), .val (.int (own_bb b3)), .val (.ref ws)] [(.ref ws), (.ref ws)])) Xt501 hx rfl rfl rfl (pc0 := 187) (pc' := 192) (same := true) rfl (hb hby at_187) rfl (decide_eq_true rfl) (by decide) (by decide) ?_
        show Steps p.tables e below (Tt501.setTop (mkF m 192 #[.val (.int p1), .val (.int p2), .val (.int p3), .val (.int p4), .val (.int p5), .val (.int p6), .val (.ref tr), .val (.ref va), .val (.ref v), .val (.ref ws), .val (.int (own_bb b0)), .val (.int (own_bb b1)), .val (.int (own_bb b2)), .val (.int (own_bb b3)), .val (.ref ws)] [])) _
        refine sg0 _ ?_
        show Steps p.tables e below (Tt501.setTop (mkF m 209 #[.val (.int p1), .val (.int p2), .val (.int p3), .val (.int p4), .val (.int p5), .val (.int p6), .val (.ref tr), .val (.ref va), .val (.ref v), .val (.ref ws), .val (.int (own_bb b0)), .val (.int (own_bb b1)), .val (.int (own_bb b2)), .val (.int (own_bb b3)), .val (.ref ws)] [])) _
        refine sg1 _ ?_
        show Steps p.tables e below (Tt501.setTop (mkF m 226 #[.val (.int p1), .val (.int p2), .val (.int p3), .val (.int p4), .val (.int p5), .val (.int p6), .val (.ref tr), .val (.ref va), .val (.ref v), .val (.ref ws), .val (.int (own_bb b0)), .val (.int (own_bb b1)), .val (.int (own_bb b2)), .val (.int (own_bb b3)), .val (.ref ws)] [])) _
        refine sg2 _ ?_
        show Steps p.tables e below (Tt501.setTop (mkF m 244 #[.val (.int p1), .val (.int p2), .val (.int p3), .val (.int p4), .val (.int p5), .val (.int p6), .val (.ref tr), .val (.ref va), .val (.ref v), .val (.ref ws), .val (.int (own_bb b0)), .val (.int (own_bb b1)), .val (.int (own_bb b2)), .val (.int (own_bb b3)), .val (.ref ws)] [])) _
        refine sg3 _ ?_
        show Steps p.tables e below (Tt501.setTop (mkF m 262 #[.val (.int p1), .val (.int p2), .val (.int p3), .val (.int p4), .val (.int p5), .val (.int p6), .val (.ref tr), .val (.ref va), .val (.ref v), .val (.ref ws), .val (.int (own_bb b0)), .val (.int (own_bb b1)), .val (.int (own_bb b2)), .val (.int (own_bb b3)), .val (.ref ws)] [])) _
        refine XS.iconst Xt501.here hx rfl (hb hby at_262) ?_
        show Steps p.tables e below (Tt501.setTop (mkF m 263 #[.val (.int p1), .val (.int p2), .val (.int p3), .val (.int p4), .val (.int p5), .val (.int p6), .val (.ref tr), .val (.ref va), .val (.ref v), .val (.ref ws), .val (.int (own_bb b0)), .val (.int (own_bb b1)), .val (.int (own_bb b2)), .val (.int (own_bb b3)), .val (.ref ws)] [(.int (1 : Int32))])) _
        refine XS.goto Xt501.here hx rfl (pc0 := 263) (pc' := 267) rfl (hb hby at_263) (by decide) (by decide) ?_
        exact retN Xt501 hx (t := .boolean) Bd.returns (by simp) (hb hby at_267) hr
      show Steps p.tables e below (Tt30.setTop (mkF m 49 #[.val (.int p1), .val (.int p2), .val (.int p3), .val (.int p4), .val (.int p5), .val (.int p6), .val (.ref tr), .val (.ref va), .val (.ref v), .unset, .unset, .unset, .unset, .unset, .unset] [])) _
      refine XS.aload Xt30.here hx rfl (hb hby at_49) rfl rfl ?_
      show Steps p.tables e below (Tt30.setTop (mkF m 51 #[.val (.int p1), .val (.int p2), .val (.int p3), .val (.int p4), .val (.int p5), .val (.int p6), .val (.ref tr), .val (.ref va), .val (.ref v), .unset, .unset, .unset, .unset, .unset, .unset] [(.ref v)])) _
      refine stt201.trans ?_
      show Steps p.tables e below (Tt201.setTop (mkF m 54 #[.val (.int p1), .val (.int p2), .val (.int p3), .val (.int p4), .val (.int p5), .val (.int p6), .val (.ref tr), .val (.ref va), .val (.ref v), .unset, .unset, .unset, .unset, .unset, .unset] [(.ref ws)])) _
      refine XS.astore Xt201.here hx rfl (hb hby at_54) rfl rfl (l' := #[.val (.int p1), .val (.int p2), .val (.int p3), .val (.int p4), .val (.int p5), .val (.int p6), .val (.ref tr), .val (.ref va), .val (.ref v), .val (.ref ws), .unset, .unset, .unset, .unset, .unset]) rfl ?_
      show Steps p.tables e below (Tt201.setTop (mkF m 56 #[.val (.int p1), .val (.int p2), .val (.int p3), .val (.int p4), .val (.int p5), .val (.int p6), .val (.ref tr), .val (.ref va), .val (.ref v), .val (.ref ws), .unset, .unset, .unset, .unset, .unset] [])) _
      refine XS.aload Xt201.here hx rfl (hb hby at_56) rfl rfl ?_
      show Steps p.tables e below (Tt201.setTop (mkF m 58 #[.val (.int p1), .val (.int p2), .val (.int p3), .val (.int p4), .val (.int p5), .val (.int p6), .val (.ref tr), .val (.ref va), .val (.ref v), .val (.ref ws), .unset, .unset, .unset, .unset, .unset] [(.ref ws)])) _
      refine XS.iconst Xt201.here hx rfl (hb hby at_58) ?_
      show Steps p.tables e below (Tt201.setTop (mkF m 59 #[.val (.int p1), .val (.int p2), .val (.int p3), .val (.int p4), .val (.int p5), .val (.int p6), .val (.ref tr), .val (.ref va), .val (.ref v), .val (.ref ws), .unset, .unset, .unset, .unset, .unset] [(.int (0 : Int32)), (.ref ws)])) _
      refine XS.iloadN Xt201.here hx rfl (hb hby at_59) rfl ?_
      show Steps p.tables e below (Tt201.setTop (mkF m 60 #[.val (.int p1), .val (.int p2), .val (.int p3), .val (.int p4), .val (.int p5), .val (.int p6), .val (.ref tr), .val (.ref va), .val (.ref v), .val (.ref ws), .unset, .unset, .unset, .unset, .unset] [(.int p3), (.int (0 : Int32)), (.ref ws)])) _
      refine stt202 _ ?_
      show Steps p.tables e below (Tt202.setTop (mkF m 61 #[.val (.int p1), .val (.int p2), .val (.int p3), .val (.int p4), .val (.int p5), .val (.int p6), .val (.ref tr), .val (.ref va), .val (.ref v), .val (.ref ws), .unset, .unset, .unset, .unset, .unset] [])) _
      refine XS.aload Xt202.here hx rfl (hb hby at_61) rfl rfl ?_
      show Steps p.tables e below (Tt202.setTop (mkF m 63 #[.val (.int p1), .val (.int p2), .val (.int p3), .val (.int p4), .val (.int p5), .val (.int p6), .val (.ref tr), .val (.ref va), .val (.ref v), .val (.ref ws), .unset, .unset, .unset, .unset, .unset] [(.ref ws)])) _
      refine XS.iconst Xt202.here hx rfl (hb hby at_63) ?_
      show Steps p.tables e below (Tt202.setTop (mkF m 64 #[.val (.int p1), .val (.int p2), .val (.int p3), .val (.int p4), .val (.int p5), .val (.int p6), .val (.ref tr), .val (.ref va), .val (.ref v), .val (.ref ws), .unset, .unset, .unset, .unset, .unset] [(.int (1 : Int32)), (.ref ws)])) _
      refine XS.iloadN Xt202.here hx rfl (hb hby at_64) rfl ?_
      show Steps p.tables e below (Tt202.setTop (mkF m 65 #[.val (.int p1), .val (.int p2), .val (.int p3), .val (.int p4), .val (.int p5), .val (.int p6), .val (.ref tr), .val (.ref va), .val (.ref v), .val (.ref ws), .unset, .unset, .unset, .unset, .unset] [(.int p4), (.int (1 : Int32)), (.ref ws)])) _
      refine stt203 _ ?_
      show Steps p.tables e below (Tt203.setTop (mkF m 66 #[.val (.int p1), .val (.int p2), .val (.int p3), .val (.int p4), .val (.int p5), .val (.int p6), .val (.ref tr), .val (.ref va), .val (.ref v), .val (.ref ws), .unset, .unset, .unset, .unset, .unset] [])) _
      refine XS.aload Xt203.here hx rfl (hb hby at_66) rfl rfl ?_
      show Steps p.tables e below (Tt203.setTop (mkF m 68 #[.val (.int p1), .val (.int p2), .val (.int p3), .val (.int p4), .val (.int p5), .val (.int p6), .val (.ref tr), .val (.ref va), .val (.ref v), .val (.ref ws), .unset, .unset, .unset, .unset, .unset] [(.ref ws)])) _
      refine XS.iconst Xt203.here hx rfl (hb hby at_68) ?_
      show Steps p.tables e below (Tt203.setTop (mkF m 69 #[.val (.int p1), .val (.int p2), .val (.int p3), .val (.int p4), .val (.int p5), .val (.int p6), .val (.ref tr), .val (.ref va), .val (.ref v), .val (.ref ws), .unset, .unset, .unset, .unset, .unset] [(.int (2 : Int32)), (.ref ws)])) _
      refine XS.iload Xt203.here hx rfl (hb hby at_69) rfl ?_
      show Steps p.tables e below (Tt203.setTop (mkF m 71 #[.val (.int p1), .val (.int p2), .val (.int p3), .val (.int p4), .val (.int p5), .val (.int p6), .val (.ref tr), .val (.ref va), .val (.ref v), .val (.ref ws), .unset, .unset, .unset, .unset, .unset] [(.int p5), (.int (2 : Int32)), (.ref ws)])) _
      refine stt204 _ ?_
      show Steps p.tables e below (Tt204.setTop (mkF m 72 #[.val (.int p1), .val (.int p2), .val (.int p3), .val (.int p4), .val (.int p5), .val (.int p6), .val (.ref tr), .val (.ref va), .val (.ref v), .val (.ref ws), .unset, .unset, .unset, .unset, .unset] [])) _
      refine XS.aload Xt204.here hx rfl (hb hby at_72) rfl rfl ?_
      show Steps p.tables e below (Tt204.setTop (mkF m 74 #[.val (.int p1), .val (.int p2), .val (.int p3), .val (.int p4), .val (.int p5), .val (.int p6), .val (.ref tr), .val (.ref va), .val (.ref v), .val (.ref ws), .unset, .unset, .unset, .unset, .unset] [(.ref ws)])) _
      refine XS.iconst Xt204.here hx rfl (hb hby at_74) ?_
      show Steps p.tables e below (Tt204.setTop (mkF m 75 #[.val (.int p1), .val (.int p2), .val (.int p3), .val (.int p4), .val (.int p5), .val (.int p6), .val (.ref tr), .val (.ref va), .val (.ref v), .val (.ref ws), .unset, .unset, .unset, .unset, .unset] [(.int (3 : Int32)), (.ref ws)])) _
      refine XS.iload Xt204.here hx rfl (hb hby at_75) rfl ?_
      show Steps p.tables e below (Tt204.setTop (mkF m 77 #[.val (.int p1), .val (.int p2), .val (.int p3), .val (.int p4), .val (.int p5), .val (.int p6), .val (.ref tr), .val (.ref va), .val (.ref v), .val (.ref ws), .unset, .unset, .unset, .unset, .unset] [(.int p6), (.int (3 : Int32)), (.ref ws)])) _
      refine stt205 _ ?_
      exact kt
    show Steps p.tables e below (s₁.setTop (mkF m 0 #[.val (.int p1), .val (.int p2), .val (.int p3), .val (.int p4), .val (.int p5), .val (.int p6), .unset, .unset, .unset, .unset, .unset, .unset, .unset, .unset, .unset] [])) _
    refine stt1 _ ?_
    show Steps p.tables e below (Tt1.setTop (mkF m 3 #[.val (.int p1), .val (.int p2), .val (.int p3), .val (.int p4), .val (.int p5), .val (.int p6), .unset, .unset, .unset, .unset, .unset, .unset, .unset, .unset, .unset] [(.ref tr)])) _
    refine XS.dup Xt1.here hx rfl (hb hby at_3) rfl rfl ?_
    show Steps p.tables e below (Tt1.setTop (mkF m 4 #[.val (.int p1), .val (.int p2), .val (.int p3), .val (.int p4), .val (.int p5), .val (.int p6), .unset, .unset, .unset, .unset, .unset, .unset, .unset, .unset, .unset] [(.ref tr), (.ref tr)])) _
    refine stt8.trans ?_
    show Steps p.tables e below (Tt8.setTop (mkF m 7 #[.val (.int p1), .val (.int p2), .val (.int p3), .val (.int p4), .val (.int p5), .val (.int p6), .unset, .unset, .unset, .unset, .unset, .unset, .unset, .unset, .unset] [(.ref tr)])) _
    refine XS.astore Xt8.here hx rfl (hb hby at_7) rfl rfl (l' := #[.val (.int p1), .val (.int p2), .val (.int p3), .val (.int p4), .val (.int p5), .val (.int p6), .val (.ref tr), .unset, .unset, .unset, .unset, .unset, .unset, .unset, .unset]) rfl ?_
    show Steps p.tables e below (Tt8.setTop (mkF m 9 #[.val (.int p1), .val (.int p2), .val (.int p3), .val (.int p4), .val (.int p5), .val (.int p6), .val (.ref tr), .unset, .unset, .unset, .unset, .unset, .unset, .unset, .unset] [])) _
    refine XS.iconst Xt8.here hx rfl (hb hby at_9) ?_
    show Steps p.tables e below (Tt8.setTop (mkF m 10 #[.val (.int p1), .val (.int p2), .val (.int p3), .val (.int p4), .val (.int p5), .val (.int p6), .val (.ref tr), .unset, .unset, .unset, .unset, .unset, .unset, .unset, .unset] [(.int (4 : Int32))])) _
    refine stt10 _ ?_
    show Steps p.tables e below (Tt10.setTop (mkF m 12 #[.val (.int p1), .val (.int p2), .val (.int p3), .val (.int p4), .val (.int p5), .val (.int p6), .val (.ref tr), .unset, .unset, .unset, .unset, .unset, .unset, .unset, .unset] [(.ref va)])) _
    refine XS.dup Xt10.here hx rfl (hb hby at_12) rfl rfl ?_
    show Steps p.tables e below (Tt10.setTop (mkF m 13 #[.val (.int p1), .val (.int p2), .val (.int p3), .val (.int p4), .val (.int p5), .val (.int p6), .val (.ref tr), .unset, .unset, .unset, .unset, .unset, .unset, .unset, .unset] [(.ref va), (.ref va)])) _
    refine XS.iconst Xt10.here hx rfl (hb hby at_13) ?_
    show Steps p.tables e below (Tt10.setTop (mkF m 14 #[.val (.int p1), .val (.int p2), .val (.int p3), .val (.int p4), .val (.int p5), .val (.int p6), .val (.ref tr), .unset, .unset, .unset, .unset, .unset, .unset, .unset, .unset] [(.int (0 : Int32)), (.ref va), (.ref va)])) _
    refine XS.bipush Xt10.here hx rfl (hb hby at_14) ?_
    show Steps p.tables e below (Tt10.setTop (mkF m 16 #[.val (.int p1), .val (.int p2), .val (.int p3), .val (.int p4), .val (.int p5), .val (.int p6), .val (.ref tr), .unset, .unset, .unset, .unset, .unset, .unset, .unset, .unset] [(.int (-5 : Int32)), (.int (0 : Int32)), (.ref va), (.ref va)])) _
    refine stt11 _ ?_
    show Steps p.tables e below (Tt11.setTop (mkF m 17 #[.val (.int p1), .val (.int p2), .val (.int p3), .val (.int p4), .val (.int p5), .val (.int p6), .val (.ref tr), .unset, .unset, .unset, .unset, .unset, .unset, .unset, .unset] [(.ref va)])) _
    refine XS.dup Xt11.here hx rfl (hb hby at_17) rfl rfl ?_
    show Steps p.tables e below (Tt11.setTop (mkF m 18 #[.val (.int p1), .val (.int p2), .val (.int p3), .val (.int p4), .val (.int p5), .val (.int p6), .val (.ref tr), .unset, .unset, .unset, .unset, .unset, .unset, .unset, .unset] [(.ref va), (.ref va)])) _
    refine XS.iconst Xt11.here hx rfl (hb hby at_18) ?_
    show Steps p.tables e below (Tt11.setTop (mkF m 19 #[.val (.int p1), .val (.int p2), .val (.int p3), .val (.int p4), .val (.int p5), .val (.int p6), .val (.ref tr), .unset, .unset, .unset, .unset, .unset, .unset, .unset, .unset] [(.int (1 : Int32)), (.ref va), (.ref va)])) _
    refine XS.iconst Xt11.here hx rfl (hb hby at_19) ?_
    show Steps p.tables e below (Tt11.setTop (mkF m 20 #[.val (.int p1), .val (.int p2), .val (.int p3), .val (.int p4), .val (.int p5), .val (.int p6), .val (.ref tr), .unset, .unset, .unset, .unset, .unset, .unset, .unset, .unset] [(.int (0 : Int32)), (.int (1 : Int32)), (.ref va), (.ref va)])) _
    refine stt12 _ ?_
    show Steps p.tables e below (Tt12.setTop (mkF m 21 #[.val (.int p1), .val (.int p2), .val (.int p3), .val (.int p4), .val (.int p5), .val (.int p6), .val (.ref tr), .unset, .unset, .unset, .unset, .unset, .unset, .unset, .unset] [(.ref va)])) _
    refine XS.dup Xt12.here hx rfl (hb hby at_21) rfl rfl ?_
    show Steps p.tables e below (Tt12.setTop (mkF m 22 #[.val (.int p1), .val (.int p2), .val (.int p3), .val (.int p4), .val (.int p5), .val (.int p6), .val (.ref tr), .unset, .unset, .unset, .unset, .unset, .unset, .unset, .unset] [(.ref va), (.ref va)])) _
    refine XS.iconst Xt12.here hx rfl (hb hby at_22) ?_
    show Steps p.tables e below (Tt12.setTop (mkF m 23 #[.val (.int p1), .val (.int p2), .val (.int p3), .val (.int p4), .val (.int p5), .val (.int p6), .val (.ref tr), .unset, .unset, .unset, .unset, .unset, .unset, .unset, .unset] [(.int (2 : Int32)), (.ref va), (.ref va)])) _
    refine XS.bipush Xt12.here hx rfl (hb hby at_23) ?_
    show Steps p.tables e below (Tt12.setTop (mkF m 25 #[.val (.int p1), .val (.int p2), .val (.int p3), .val (.int p4), .val (.int p5), .val (.int p6), .val (.ref tr), .unset, .unset, .unset, .unset, .unset, .unset, .unset, .unset] [(.int (7 : Int32)), (.int (2 : Int32)), (.ref va), (.ref va)])) _
    refine stt13 _ ?_
    show Steps p.tables e below (Tt13.setTop (mkF m 26 #[.val (.int p1), .val (.int p2), .val (.int p3), .val (.int p4), .val (.int p5), .val (.int p6), .val (.ref tr), .unset, .unset, .unset, .unset, .unset, .unset, .unset, .unset] [(.ref va)])) _
    refine XS.dup Xt13.here hx rfl (hb hby at_26) rfl rfl ?_
    show Steps p.tables e below (Tt13.setTop (mkF m 27 #[.val (.int p1), .val (.int p2), .val (.int p3), .val (.int p4), .val (.int p5), .val (.int p6), .val (.ref tr), .unset, .unset, .unset, .unset, .unset, .unset, .unset, .unset] [(.ref va), (.ref va)])) _
    refine XS.iconst Xt13.here hx rfl (hb hby at_27) ?_
    show Steps p.tables e below (Tt13.setTop (mkF m 28 #[.val (.int p1), .val (.int p2), .val (.int p3), .val (.int p4), .val (.int p5), .val (.int p6), .val (.ref tr), .unset, .unset, .unset, .unset, .unset, .unset, .unset, .unset] [(.int (3 : Int32)), (.ref va), (.ref va)])) _
    refine XS.bipush Xt13.here hx rfl (hb hby at_28) ?_
    show Steps p.tables e below (Tt13.setTop (mkF m 30 #[.val (.int p1), .val (.int p2), .val (.int p3), .val (.int p4), .val (.int p5), .val (.int p6), .val (.ref tr), .unset, .unset, .unset, .unset, .unset, .unset, .unset, .unset] [(.int (100 : Int32)), (.int (3 : Int32)), (.ref va), (.ref va)])) _
    refine stt14 _ ?_
    show Steps p.tables e below (Tt14.setTop (mkF m 31 #[.val (.int p1), .val (.int p2), .val (.int p3), .val (.int p4), .val (.int p5), .val (.int p6), .val (.ref tr), .unset, .unset, .unset, .unset, .unset, .unset, .unset, .unset] [(.ref va)])) _
    refine XS.astore Xt14.here hx rfl (hb hby at_31) rfl rfl (l' := #[.val (.int p1), .val (.int p2), .val (.int p3), .val (.int p4), .val (.int p5), .val (.int p6), .val (.ref tr), .val (.ref va), .unset, .unset, .unset, .unset, .unset, .unset, .unset]) rfl ?_
    show Steps p.tables e below (Tt14.setTop (mkF m 33 #[.val (.int p1), .val (.int p2), .val (.int p3), .val (.int p4), .val (.int p5), .val (.int p6), .val (.ref tr), .val (.ref va), .unset, .unset, .unset, .unset, .unset, .unset, .unset] [])) _
    refine stt15 _ ?_
    show Steps p.tables e below (Tt15.setTop (mkF m 36 #[.val (.int p1), .val (.int p2), .val (.int p3), .val (.int p4), .val (.int p5), .val (.int p6), .val (.ref tr), .val (.ref va), .unset, .unset, .unset, .unset, .unset, .unset, .unset] [(.ref v)])) _
    refine XS.dup Xt15.here hx rfl (hb hby at_36) rfl rfl ?_
    show Steps p.tables e below (Tt15.setTop (mkF m 37 #[.val (.int p1), .val (.int p2), .val (.int p3), .val (.int p4), .val (.int p5), .val (.int p6), .val (.ref tr), .val (.ref va), .unset, .unset, .unset, .unset, .unset, .unset, .unset] [(.ref v), (.ref v)])) _
    refine stt29 _ ?_
    show Steps p.tables e below (Tt29.setTop (mkF m 39 #[.val (.int p1), .val (.int p2), .val (.int p3), .val (.int p4), .val (.int p5), .val (.int p6), .val (.ref tr), .val (.ref va), .unset, .unset, .unset, .unset, .unset, .unset, .unset] [(.ref sr), (.ref v), (.ref v)])) _
    refine XS.iconst Xt29.here hx rfl (hb hby at_39) ?_
    show Steps p.tables e below (Tt29.setTop (mkF m 40 #[.val (.int p1), .val (.int p2), .val (.int p3), .val (.int p4), .val (.int p5), .val (.int p6), .val (.ref tr), .val (.ref va), .unset, .unset, .unset, .unset, .unset, .unset, .unset] [(.int (0 : Int32)), (.ref sr), (.ref v), (.ref v)])) _
    refine XS.aload Xt29.here hx rfl (hb hby at_40) rfl rfl ?_
    show Steps p.tables e below (Tt29.setTop (mkF m 42 #[.val (.int p1), .val (.int p2), .val (.int p3), .val (.int p4), .val (.int p5), .val (.int p6), .val (.ref tr), .val (.ref va), .unset, .unset, .unset, .unset, .unset, .unset, .unset] [(.ref va), (.int (0 : Int32)), (.ref sr), (.ref v), (.ref v)])) _
    refine XS.aload Xt29.here hx rfl (hb hby at_42) rfl rfl ?_
    show Steps p.tables e below (Tt29.setTop (mkF m 44 #[.val (.int p1), .val (.int p2), .val (.int p3), .val (.int p4), .val (.int p5), .val (.int p6), .val (.ref tr), .val (.ref va), .unset, .unset, .unset, .unset, .unset, .unset, .unset] [(.ref tr), (.ref va), (.int (0 : Int32)), (.ref sr), (.ref v), (.ref v)])) _
    refine stt30.trans ?_
    show Steps p.tables e below (Tt30.setTop (mkF m 47 #[.val (.int p1), .val (.int p2), .val (.int p3), .val (.int p4), .val (.int p5), .val (.int p6), .val (.ref tr), .val (.ref va), .unset, .unset, .unset, .unset, .unset, .unset, .unset] [(.ref v)])) _
    refine XS.astore Xt30.here hx rfl (hb hby at_47) rfl rfl (l' := #[.val (.int p1), .val (.int p2), .val (.int p3), .val (.int p4), .val (.int p5), .val (.int p6), .val (.ref tr), .val (.ref va), .val (.ref v), .unset, .unset, .unset, .unset, .unset, .unset]) rfl ?_
    exact rest
  · show Q0 Z p1 p2 p3 p4 p5 p6 h0 n0 _ Tt501.heap _
    exact ⟨rfl, Nt501⟩
theorem own_sets {tb : Tables} {e : Env} {args : Array Value} {s : State} (h : rest_1 tb e args s) : ∀ d ∈ jdkStatics_1, d.before args s = true := by
  have q : rest_1_c.before args s = true := h
  rw [rest_1_c_eq] at q
  revert q
  generalize jdkStatics_1 = ds
  intro q
  induction ds with
  | nil => intro d hd; cases hd
  | cons d ds ih =>
    rw [List.foldr_cons, Cond.before_and, Bool.and_eq_true] at q
    intro d' hd'
    rcases List.mem_cons.mp hd' with rfl | hd'
    · exact q.1
    · exact ih q.2 d' hd'
set_option maxRecDepth 65536 in
set_option maxHeartbeats 40000000 in
theorem comes_1 {Post : Tables → Env → Array Value → State → Outcome → State → Prop} (hpost : ∀ tb e args s v u, (limb_1_1.after args s (.returned v) u = true ∧ limb_1_2.after args s (.returned v) u = true ∧ True) → ReturnedEndW s (.returned v) u (Jvm.fieldLocs frame_1_writes args s ++ Jvm.arrayLocs frame_1_arrays args s ++ Jvm.staticLocs frame_1_statics s) 40 2368 → Post tb e args s (.returned v) u) :
    ArmFor flags0 classFile x code maxLocals ret World_1 tables_1 room_1 Calls_1 rest_1 Pre_1 Post := by
  intro l hfl _ _ p e ha hc hk s m args below hf hA hF happ hP
  obtain ⟨hcalls, hrest, hpre⟩ := hP
  obtain ⟨-, -, -, hnamed, -, -, -, hat⟩ := (Spec.applies_iff hf).mp happ
  obtain ⟨hg, hn⟩ := and_e (Cond.before_iff.mp (show (Jvm.Cond.and given_1 narrow_1).before args s = true from hpre))
  obtain ⟨gc, gr0⟩ := and_e hg
  obtain ⟨gi0, gr1⟩ := and_e gr0
  obtain ⟨gi1, gr2⟩ := and_e gr1
  obtain ⟨gi2, gr3⟩ := and_e gr2
  obtain ⟨gi3, gr4⟩ := and_e gr3
  obtain ⟨gi4, gr5⟩ := and_e gr4
  have gi5 := gr5
  obtain ⟨w0, w1, w2, w3, w4, w5, rfl⟩ : ∃ w0 w1 w2 w3 w4 w5 : Value, args = #[w0, w1, w2, w3, w4, w5] := by
    have hs : args.size = 6 := by simpa [Cond.value, given_1] using gc
    obtain ⟨L⟩ := args
    match L, hs with
    | [w0, w1, w2, w3, w4, w5], _ => exact ⟨w0, w1, w2, w3, w4, w5, rfl⟩
  have hw := fun d (hd : d ∈ tables_1) => atoms_spec (ws := Jvm.Cond.code x code maxLocals ret :: tables_1) hat d (List.mem_cons_of_mem _ hd)
  obtain ⟨i0, ei0⟩ := is_v gi0
  obtain rfl : w0 = (.int i0) := Option.some.inj ei0
  obtain ⟨i1, ei1⟩ := is_v gi1
  obtain rfl : w1 = (.int i1) := Option.some.inj ei1
  obtain ⟨i2, ei2⟩ := is_v gi2
  obtain rfl : w2 = (.int i2) := Option.some.inj ei2
  obtain ⟨i3, ei3⟩ := is_v gi3
  obtain rfl : w3 = (.int i3) := Option.some.inj ei3
  obtain ⟨i4, ei4⟩ := is_v gi4
  obtain rfl : w4 = (.int i4) := Option.some.inj ei4
  obtain ⟨i5, ei5⟩ := is_v gi5
  obtain rfl : w5 = (.int i5) := Option.some.inj ei5
  have hsets : ∀ d ∈ jdkStatics_1, d.before _ s = true := own_sets hrest
  have hy6 := hsets _ (List.mem_of_getElem? (i := 6) rfl)
  obtain ⟨aw, haw⟩ := arr_v (Cond.before_iff.mp hy6)
  have S0 := Sta.start haw (Or.inr ⟨hw _ (List.mem_of_getElem? (i := 38) rfl), hsets _ (List.mem_of_getElem? (i := 2) rfl)⟩)
  obtain ⟨n, o, h1, h2, h3, _, L, rfl, ⟨rfl, N⟩, hq⟩ := rm0 l s _ hw tables_1 i0 i1 i2 i3 i4 i5 s.heap s.heap.size (Nat.le_refl _) aw S0 (Old.start s) p e ha hc hk s m _ below hf ((Spec.applies_iff_loose hf).mp happ).1 ⟨rfl, State.Warmed39.refl s, rfl⟩ trivial
  refine ⟨n, _, h1, h2, h3, hpost _ _ _ _ _ _ ⟨Cond.after_iff.mpr rfl, Cond.after_iff.mpr (eq_i res_at (Term.int_eval (1)) rfl), trivial⟩ ⟨hq.1, hq.2.1, hq.2.2.1, (hq.2.2.2.sift fun y hy => Or.inr (N y hy)).mono (by decide) (by decide)⟩⟩
theorem main_1_1 : Claimed_1_1 := comes_1 fun _ _ _ _ _ _ h hF => ⟨h.1, hF⟩
theorem main_1_2 : Claimed_1_2 := comes_1 fun _ _ _ _ _ _ h hF => ⟨h.2.1, hF⟩
end Jvm.Pilot.@@N@@
namespace Jvm.Pilot.@@N@@
open Jvm Jvm.ClassFile Sem Op Lib Jvm.Free Jvm.Stand Jvm.Pilot.@@N@@.Jvm.D
/-! MADE BY PROGRAM (witnessworld.py) out of the Statement's table words and the real class files: 29 classes; the members and pool entries that the words name. The judged class is class 1, her method 1. -/
namespace start1
open Jvm.ClassFile
def u (s : String) : CpInfo := .utf8 (stringToUtf16 s)
/-- a pool by its gaps: so many unusable entries, then the entry; so many at the end -/
def gap : Nat → List CpInfo → List CpInfo
  | 0, r => r
  | n + 1, r => .unusable :: gap n r
def poolList (es : List (Nat × CpInfo)) (last : Nat) : List CpInfo := es.foldr (fun e r => gap e.1 (e.2 :: r)) (gap last [])
def pool (es : List (Nat × CpInfo)) (last : Nat) : Array CpInfo := ⟨poolList es last⟩
def fileOf (pool : Array CpInfo) (this : Nat) (attrs : Array Attribute := #[]) (ms : Array MethodInfo := #[]) (fl : Nat := 33) (sup : Nat := 0) (ifs : Array Nat := #[]) (fds : Array FieldInfo := #[]) : ClassFile where
  minorVersion := 0
  majorVersion := 65
  constantPool := pool
  accessFlags := fl
  thisClass := this
  superClass := sup
  interfaces := ifs
  fields := fds
  methods := ms
  attributes := attrs
def plain (name : String) (sup : Option ClassId) : Class where
  name := name
  kind := .ordinary
  loader := none
  accessFlags := 33
  super := sup
  interfaces := #[]
  cf := none
  fields := #[]
  methods := #[]
  instanceTypes := #[]
  staticTypes := #[]
  resolved := #[]
  callSites := []
  init := .initialized
  statics := none
  mirror := none

def pool0 : Array CpInfo := pool [(5, u "<init>"), (0, u "()V"), (1, .class_ 10), (1, u "java/lang/Object")] 113

def k0c0 : Code := { maxStack := 0, maxLocals := 1, code := object_method_1_code, exceptionTable := #[], attributes := #[] }
def k0m0 : Method := { name := "<init>", desc := "()V", sig := { parameters := [], returnType := none }, accessFlags := 1, code := some k0c0 }
/-- java/lang/Object -/
def k0 : Class := { plain "java/lang/Object" none with
  accessFlags := 33
  interfaces := #[]
  cf := some (fileOf pool0 8 #[] #[{ accessFlags := 1, nameIndex := 5, descriptorIndex := 6, attributes := #[] }] 33 0 #[] #[])
  fields := #[]
  methods := #[k0m0]
  instanceTypes := #[]
  staticTypes := #[]
  resolved := Array.replicate 124 none
  statics := none }

def pool1 : Array CpInfo := pool [(2, .class_ 4), (0, .nameAndType 5 6), (0, u "java/lang/Object"), (0, u "<init>"), (0, u "()V"), (0, .class_ 8), (0, u "com/example/arcmill/arcmill/Trail"), (0, .methodref 7 3), (0, .class_ 11), (0, u "com/example/arcmill/arcmill/Variable"), (0, .string 13), (0, u "x"), (0, .methodref 10 15), (0, .nameAndType 5 16), (0, u "(Ljava/lang/String;I[ILcom/example/arcmill/arcmill/Trail;)V"), (0, .methodref 10 18), (0, .nameAndType 19 20), (0, u "workspace"), (0, u "()[I"), (0, .methodref 10 22), (0, .nameAndType 23 24), (0, u "remove"), (0, u "(I)V"), (0, .methodref 10 26), (0, .nameAndType 27 28), (0, u "resetWorkspace"), (0, u "(I)[I"), (0, .class_ 30), (0, u "com/example/arcmill/arcmill/VariableResetWorkspacePinLaw"), (2, u "law"), (0, u "(IIIIII)Z")] 5

def k1m0 : Method := { name := "<init>", desc := "()V", sig := { parameters := [], returnType := none }, accessFlags := 1, code := none }
def k1c1 : Code := { maxStack := 6, maxLocals := 15, code := code, exceptionTable := #[], attributes := #[] }
def k1m1 : Method := { name := "law", desc := "(IIIIII)Z", sig := { parameters := [.int, .int, .int, .int, .int, .int], returnType := some .boolean }, accessFlags := 9, code := some k1c1 }
/-- com/example/arcmill/arcmill/VariableResetWorkspacePinLaw -/
def k1 : Class := { plain "com/example/arcmill/arcmill/VariableResetWorkspacePinLaw" (some 0) with
  accessFlags := 49
  interfaces := #[]
  cf := some (fileOf pool1 29 #[] #[{ accessFlags := 1, nameIndex := 5, descriptorIndex := 6, attributes := #[] }, { accessFlags := 9, nameIndex := 33, descriptorIndex := 34, attributes := #[] }] 49 2 #[] #[])
  fields := #[]
  methods := #[k1m0, k1m1]
  instanceTypes := #[]
  staticTypes := #[]
  resolved := Array.replicate 40 none
  statics := none }

def pool2 : Array CpInfo := pool [(1, .methodref 2 3), (0, .class_ 4), (0, .nameAndType 5 6), (0, u "java/lang/Object"), (0, u "<init>"), (0, u "()V"), (0, .class_ 8), (0, u "com/example/arcmill/arcmill/Trail$Restorable"), (0, .fieldref 10 11), (0, .class_ 12), (0, .nameAndType 13 14), (0, u "com/example/arcmill/arcmill/Trail"), (0, u "owners"), (0, u "[Lcom/example/arcmill/arcmill/Trail$Restorable;"), (0, .fieldref 10 16), (0, .nameAndType 17 18), (0, u "values"), (0, u "[I"), (0, .fieldref 10 20), (0, .nameAndType 21 18), (0, u "levelStarts"), (0, .fieldref 10 23), (0, .nameAndType 24 25), (0, u "level"), (0, u "I"), (6, .fieldref 10 33), (0, .nameAndType 34 25), (0, u "size"), (0, .fieldref 10 36), (0, .nameAndType 37 38), (0, u "epoch"), (0, u "J"), (21, u "save"), (0, u "(Lcom/example/arcmill/arcmill/Trail$Restorable;IJ)J")] 5

def k2c0 : Code := { maxStack := 2, maxLocals := 1, code := prog_51_method_1_code, exceptionTable := #[], attributes := #[] }
def k2m0 : Method := { name := "<init>", desc := "()V", sig := { parameters := [], returnType := none }, accessFlags := 0, code := some k2c0 }
def k2c1 : Code := { maxStack := 4, maxLocals := 5, code := prog_51_method_5_code, exceptionTable := #[], attributes := #[] }
def k2m1 : Method := { name := "save", desc := "(Lcom/example/arcmill/arcmill/Trail$Restorable;IJ)J", sig := { parameters := [(.object "com/example/arcmill/arcmill/Trail$Restorable"), .int, .long], returnType := some .long }, accessFlags := 0, code := some k2c1 }
/-- com/example/arcmill/arcmill/Trail -/
def k2 : Class := { plain "com/example/arcmill/arcmill/Trail" (some 0) with
  accessFlags := 48
  interfaces := #[]
  cf := some (fileOf pool2 10 #[.nestMembers #[7]] #[{ accessFlags := 0, nameIndex := 5, descriptorIndex := 6, attributes := #[] }, { accessFlags := 0, nameIndex := 60, descriptorIndex := 61, attributes := #[] }] 48 2 #[] #[{ accessFlags := 2, nameIndex := 13, descriptorIndex := 14, attributes := #[] }, { accessFlags := 2, nameIndex := 17, descriptorIndex := 18, attributes := #[] }, { accessFlags := 2, nameIndex := 34, descriptorIndex := 25, attributes := #[] }, { accessFlags := 2, nameIndex := 21, descriptorIndex := 18, attributes := #[] }, { accessFlags := 2, nameIndex := 24, descriptorIndex := 25, attributes := #[] }, { accessFlags := 2, nameIndex := 37, descriptorIndex := 38, attributes := #[] }])
  fields := #[{ name := "owners", type := (.array (.object "com/example/arcmill/arcmill/Trail$Restorable")), accessFlags := 2, slot := 0, constantValue := 0 }, { name := "values", type := (.array .int), accessFlags := 2, slot := 1, constantValue := 0 }, { name := "size", type := .int, accessFlags := 2, slot := 2, constantValue := 0 }, { name := "levelStarts", type := (.array .int), accessFlags := 2, slot := 3, constantValue := 0 }, { name := "level", type := .int, accessFlags := 2, slot := 4, constantValue := 0 }, { name := "epoch", type := .long, accessFlags := 2, slot := 5, constantValue := 0 }]
  methods := #[k2m0, k2m1]
  instanceTypes := #[(.array (.object "com/example/arcmill/arcmill/Trail$Restorable")), (.array .int), .int, (.array .int), .int, .long]
  staticTypes := #[]
  resolved := Array.replicate 67 none
  statics := none }

def pool3 : Array CpInfo := pool [(1, .class_ 2), (0, u "com/example/arcmill/arcmill/Trail$Restorable"), (0, .class_ 4), (0, u "java/lang/Object"), (5, .class_ 11), (0, u "com/example/arcmill/arcmill/Trail")] 2

/-- com/example/arcmill/arcmill/Trail$Restorable -/
def k3 : Class := { plain "com/example/arcmill/arcmill/Trail$Restorable" (some 0) with
  accessFlags := 1536
  interfaces := #[]
  cf := some (fileOf pool3 1 #[.nestHost 10] #[] 1536 3 #[] #[])
  fields := #[]
  methods := #[]
  instanceTypes := #[]
  staticTypes := #[]
  resolved := Array.replicate 14 none
  statics := none }

def pool4 : Array CpInfo := pool [(1, .methodref 2 3), (0, .class_ 4), (0, .nameAndType 5 6), (0, u "java/lang/Object"), (0, u "<init>"), (0, u "()V"), (0, .long 18446744073709551615), (1, .fieldref 10 11), (0, .class_ 12), (0, .nameAndType 13 14), (0, u "com/example/arcmill/arcmill/Variable"), (0, u "sizeSavedIn"), (0, u "J"), (0, .class_ 16), (0, u "java/util/ArrayList"), (0, .methodref 15 3), (0, .fieldref 10 19), (0, .nameAndType 20 21), (0, u "constraints"), (0, u "Ljava/util/List;"), (0, .fieldref 10 23), (0, .nameAndType 24 25), (0, u "constraintIndexes"), (0, u "[I"), (0, .fieldref 10 27), (0, .nameAndType 28 29), (0, u "partners"), (0, u "[Lcom/example/arcmill/arcmill/Variable;"), (0, .fieldref 10 31), (0, .nameAndType 32 33), (0, u "name"), (0, u "Ljava/lang/String;"), (0, .fieldref 10 35), (0, .nameAndType 36 37), (0, u "index"), (0, u "I"), (0, .fieldref 10 39), (0, .nameAndType 40 25), (0, u "values"), (0, .fieldref 10 42), (0, .nameAndType 43 25), (0, u "dense"), (0, .fieldref 10 45), (0, .nameAndType 46 25), (0, u "places"), (2, .fieldref 10 50), (0, .nameAndType 51 52), (0, u "present"), (0, u "[J"), (0, .fieldref 10 54), (0, .nameAndType 55 56), (0, u "trail"), (0, u "Lcom/example/arcmill/arcmill/Trail;"), (0, .fieldref 10 58), (0, .nameAndType 59 37), (0, u "size"), (0, .fieldref 10 61), (0, .nameAndType 62 25), (0, u "workspace"), (45, u "remove"), (0, u "(I)V"), (23, .methodref 10 134), (0, .nameAndType 135 136), (0, u "swap"), (0, u "(II)V"), (0, .methodref 10 138), (0, .nameAndType 139 109), (0, u "setSize"), (0, .methodref 141 142), (0, .class_ 143), (0, .nameAndType 144 145), (0, u "com/example/arcmill/arcmill/Trail"), (0, u "save"), (0, u "(Lcom/example/arcmill/arcmill/Trail$Restorable;IJ)J"), (0, .class_ 147), (0, u "com/example/arcmill/arcmill/Trail$Restorable"), (2, u "(Ljava/lang/String;I[ILcom/example/arcmill/arcmill/Trail;)V"), (19, u "()[I"), (0, u "resetWorkspace"), (0, u "(I)[I")] 30

def k4c0 : Code := { maxStack := 7, maxLocals := 6, code := prog_58_method_1_code, exceptionTable := #[], attributes := #[] }
def k4m0 : Method := { name := "<init>", desc := "(Ljava/lang/String;I[ILcom/example/arcmill/arcmill/Trail;)V", sig := { parameters := [(.object "java/lang/String"), .int, (.array .int), (.object "com/example/arcmill/arcmill/Trail")], returnType := none }, accessFlags := 0, code := some k4c0 }
def k4c1 : Code := { maxStack := 1, maxLocals := 1, code := prog_58_method_12_code, exceptionTable := #[], attributes := #[] }
def k4m1 : Method := { name := "workspace", desc := "()[I", sig := { parameters := [], returnType := some (.array .int) }, accessFlags := 0, code := some k4c1 }
def k4c2 : Code := { maxStack := 3, maxLocals := 4, code := prog_58_method_13_code, exceptionTable := #[], attributes := #[] }
def k4m2 : Method := { name := "resetWorkspace", desc := "(I)[I", sig := { parameters := [.int], returnType := some (.array .int) }, accessFlags := 0, code := some k4c2 }
def k4c3 : Code := { maxStack := 8, maxLocals := 4, code := prog_58_method_24_code, exceptionTable := #[], attributes := #[] }
def k4m3 : Method := { name := "remove", desc := "(I)V", sig := { parameters := [.int], returnType := none }, accessFlags := 0, code := some k4c3 }
def k4c4 : Code := { maxStack := 6, maxLocals := 2, code := prog_58_method_26_code, exceptionTable := #[], attributes := #[] }
def k4m4 : Method := { name := "setSize", desc := "(I)V", sig := { parameters := [.int], returnType := none }, accessFlags := 2, code := some k4c4 }
def k4c5 : Code := { maxStack := 3, maxLocals := 5, code := prog_58_method_28_code, exceptionTable := #[], attributes := #[] }
def k4m5 : Method := { name := "swap", desc := "(II)V", sig := { parameters := [.int, .int], returnType := none }, accessFlags := 2, code := some k4c5 }
/-- com/example/arcmill/arcmill/Variable -/
def k4 : Class := { plain "com/example/arcmill/arcmill/Variable" (some 0) with
  accessFlags := 48
  interfaces := #[3]
  cf := some (fileOf pool4 10 #[] #[{ accessFlags := 0, nameIndex := 5, descriptorIndex := 150, attributes := #[] }, { accessFlags := 0, nameIndex := 62, descriptorIndex := 170, attributes := #[] }, { accessFlags := 0, nameIndex := 171, descriptorIndex := 172, attributes := #[] }, { accessFlags := 0, nameIndex := 108, descriptorIndex := 109, attributes := #[] }, { accessFlags := 2, nameIndex := 139, descriptorIndex := 109, attributes := #[] }, { accessFlags := 2, nameIndex := 135, descriptorIndex := 136, attributes := #[] }] 48 2 #[146] #[{ accessFlags := 18, nameIndex := 32, descriptorIndex := 33, attributes := #[] }, { accessFlags := 18, nameIndex := 36, descriptorIndex := 37, attributes := #[] }, { accessFlags := 18, nameIndex := 40, descriptorIndex := 25, attributes := #[] }, { accessFlags := 18, nameIndex := 43, descriptorIndex := 25, attributes := #[] }, { accessFlags := 18, nameIndex := 46, descriptorIndex := 25, attributes := #[] }, { accessFlags := 18, nameIndex := 51, descriptorIndex := 52, attributes := #[] }, { accessFlags := 18, nameIndex := 55, descriptorIndex := 56, attributes := #[] }, { accessFlags := 2, nameIndex := 59, descriptorIndex := 37, attributes := #[] }, { accessFlags := 2, nameIndex := 13, descriptorIndex := 14, attributes := #[] }, { accessFlags := 18, nameIndex := 20, descriptorIndex := 21, attributes := #[] }, { accessFlags := 2, nameIndex := 24, descriptorIndex := 25, attributes := #[] }, { accessFlags := 2, nameIndex := 28, descriptorIndex := 29, attributes := #[] }, { accessFlags := 18, nameIndex := 62, descriptorIndex := 25, attributes := #[] }])
  fields := #[{ name := "name", type := (.object "java/lang/String"), accessFlags := 18, slot := 0, constantValue := 0 }, { name := "index", type := .int, accessFlags := 18, slot := 1, constantValue := 0 }, { name := "values", type := (.array .int), accessFlags := 18, slot := 2, constantValue := 0 }, { name := "dense", type := (.array .int), accessFlags := 18, slot := 3, constantValue := 0 }, { name := "places", type := (.array .int), accessFlags := 18, slot := 4, constantValue := 0 }, { name := "present", type := (.array .long), accessFlags := 18, slot := 5, constantValue := 0 }, { name := "trail", type := (.object "com/example/arcmill/arcmill/Trail"), accessFlags := 18, slot := 6, constantValue := 0 }, { name := "size", type := .int, accessFlags := 2, slot := 7, constantValue := 0 }, { name := "sizeSavedIn", type := .long, accessFlags := 2, slot := 8, constantValue := 0 }, { name := "constraints", type := (.object "java/util/List"), accessFlags := 18, slot := 9, constantValue := 0 }, { name := "constraintIndexes", type := (.array .int), accessFlags := 2, slot := 10, constantValue := 0 }, { name := "partners", type := (.array (.object "com/example/arcmill/arcmill/Variable")), accessFlags := 2, slot := 11, constantValue := 0 }, { name := "workspace", type := (.array .int), accessFlags := 18, slot := 12, constantValue := 0 }]
  methods := #[k4m0, k4m1, k4m2, k4m3, k4m4, k4m5]
  instanceTypes := #[(.object "java/lang/String"), .int, (.array .int), (.array .int), (.array .int), (.array .long), (.object "com/example/arcmill/arcmill/Trail"), .int, .long, (.object "java/util/List"), (.array .int), (.array (.object "com/example/arcmill/arcmill/Variable")), (.array .int)]
  staticTypes := #[]
  resolved := Array.replicate 203 none
  statics := none }

def pool5 : Array CpInfo := pool [(1, .class_ 2), (0, u "java/io/Serializable"), (0, .class_ 4), (0, u "java/lang/Object")] 2

/-- java/io/Serializable -/
def k5 : Class := { plain "java/io/Serializable" (some 0) with
  accessFlags := 1537
  interfaces := #[]
  cf := some (fileOf pool5 1 #[] #[] 1537 3 #[] #[])
  fields := #[]
  methods := #[]
  instanceTypes := #[]
  staticTypes := #[]
  resolved := Array.replicate 7 none
  statics := none }

def pool6 : Array CpInfo := pool [(1, .class_ 2), (0, u "java/lang/Comparable"), (0, .class_ 4), (0, u "java/lang/Object")] 7

/-- java/lang/Comparable -/
def k6 : Class := { plain "java/lang/Comparable" (some 0) with
  accessFlags := 1537
  interfaces := #[]
  cf := some (fileOf pool6 1 #[] #[] 1537 3 #[] #[])
  fields := #[]
  methods := #[]
  instanceTypes := #[]
  staticTypes := #[]
  resolved := Array.replicate 12 none
  statics := none }

def pool7 : Array CpInfo := pool [(2, .class_ 4), (1, u "java/lang/CharSequence"), (42, .class_ 48), (0, u "java/lang/CharSequence$1CodePointIterator"), (10, .class_ 60), (0, u "java/lang/CharSequence$1CharIterator"), (5, .class_ 67), (0, u "java/lang/Object")] 63

/-- java/lang/CharSequence -/
def k7 : Class := { plain "java/lang/CharSequence" (some 0) with
  accessFlags := 1537
  interfaces := #[]
  cf := some (fileOf pool7 2 #[.nestMembers #[47, 59]] #[] 1537 66 #[] #[])
  fields := #[]
  methods := #[]
  instanceTypes := #[]
  staticTypes := #[]
  resolved := Array.replicate 131 none
  statics := none }

def pool8 : Array CpInfo := pool [(1, .class_ 2), (0, u "java/lang/constant/Constable"), (0, .class_ 4), (0, u "java/lang/Object")] 6

/-- java/lang/constant/Constable -/
def k8 : Class := { plain "java/lang/constant/Constable" (some 0) with
  accessFlags := 1537
  interfaces := #[]
  cf := some (fileOf pool8 1 #[] #[] 1537 3 #[] #[])
  fields := #[]
  methods := #[]
  instanceTypes := #[]
  staticTypes := #[]
  resolved := Array.replicate 11 none
  statics := none }

def pool9 : Array CpInfo := pool [(1, .class_ 2), (0, u "java/lang/constant/ConstantDesc"), (0, .class_ 4), (0, u "java/lang/Object")] 32

/-- java/lang/constant/ConstantDesc -/
def k9 : Class := { plain "java/lang/constant/ConstantDesc" (some 0) with
  accessFlags := 1537
  interfaces := #[]
  cf := some (fileOf pool9 1 #[] #[] 1537 3 #[] #[])
  fields := #[]
  methods := #[]
  instanceTypes := #[]
  staticTypes := #[]
  resolved := Array.replicate 37 none
  statics := none }

def pool10 : Array CpInfo := pool [(2, .class_ 4), (1, u "java/lang/Object"), (0, u "<init>"), (0, u "()V"), (3, .class_ 12), (1, u "java/lang/String"), (0, u "value"), (0, u "[B"), (2, u "coder"), (0, u "B"), (2, u "hash"), (0, u "I"), (2, u "hashIsZero"), (0, u "Z"), (13, u "COMPACT_STRINGS"), (534, .class_ 576), (0, u "java/lang/CharSequence"), (22, u "CASE_INSENSITIVE_ORDER"), (0, u "Ljava/util/Comparator;"), (500, u "serialPersistentFields"), (0, u "[Ljava/io/ObjectStreamField;"), (0, .class_ 1104), (0, u "java/lang/String$CaseInsensitiveComparator"), (1, .class_ 1107), (0, u "java/io/Serializable"), (0, .class_ 1109), (0, u "java/lang/Comparable"), (0, .class_ 1111), (0, u "java/lang/constant/Constable"), (0, .class_ 1113), (0, u "java/lang/constant/ConstantDesc"), (2, u "serialVersionUID"), (0, u "J"), (3, u "REPL"), (0, u "C"), (2, u "LATIN1"), (1, u "UTF16")] 323

def k10m0 : Method := { name := "<init>", desc := "()V", sig := { parameters := [], returnType := none }, accessFlags := 1, code := none }
/-- java/lang/String -/
def k10 : Class := { plain "java/lang/String" (some 0) with
  accessFlags := 49
  interfaces := #[5, 6, 7, 8, 9]
  cf := some (fileOf pool10 10 #[.nestMembers #[1103]] #[{ accessFlags := 1, nameIndex := 5, descriptorIndex := 6, attributes := #[] }] 49 2 #[1106, 1108, 575, 1110, 1112] #[{ accessFlags := 18, nameIndex := 13, descriptorIndex := 14, attributes := #[] }, { accessFlags := 18, nameIndex := 17, descriptorIndex := 18, attributes := #[] }, { accessFlags := 2, nameIndex := 21, descriptorIndex := 22, attributes := #[] }, { accessFlags := 2, nameIndex := 25, descriptorIndex := 26, attributes := #[] }, { accessFlags := 26, nameIndex := 1116, descriptorIndex := 1117, attributes := #[] }, { accessFlags := 24, nameIndex := 40, descriptorIndex := 26, attributes := #[] }, { accessFlags := 26, nameIndex := 1101, descriptorIndex := 1102, attributes := #[] }, { accessFlags := 26, nameIndex := 1121, descriptorIndex := 1122, attributes := #[] }, { accessFlags := 25, nameIndex := 599, descriptorIndex := 600, attributes := #[] }, { accessFlags := 24, nameIndex := 1125, descriptorIndex := 18, attributes := #[] }, { accessFlags := 24, nameIndex := 1127, descriptorIndex := 18, attributes := #[] }])
  fields := #[{ name := "value", type := (.array .byte), accessFlags := 18, slot := 0, constantValue := 0 }, { name := "coder", type := .byte, accessFlags := 18, slot := 1, constantValue := 0 }, { name := "hash", type := .int, accessFlags := 2, slot := 2, constantValue := 0 }, { name := "hashIsZero", type := .boolean, accessFlags := 2, slot := 3, constantValue := 0 }, { name := "serialVersionUID", type := .long, accessFlags := 26, slot := 0, constantValue := 0 }, { name := "COMPACT_STRINGS", type := .boolean, accessFlags := 24, slot := 1, constantValue := 0 }, { name := "serialPersistentFields", type := (.array (.object "java/io/ObjectStreamField")), accessFlags := 26, slot := 2, constantValue := 0 }, { name := "REPL", type := .char, accessFlags := 26, slot := 3, constantValue := 0 }, { name := "CASE_INSENSITIVE_ORDER", type := (.object "java/util/Comparator"), accessFlags := 25, slot := 4, constantValue := 0 }, { name := "LATIN1", type := .byte, accessFlags := 24, slot := 5, constantValue := 0 }, { name := "UTF16", type := .byte, accessFlags := 24, slot := 6, constantValue := 0 }]
  methods := #[k10m0]
  instanceTypes := #[(.array .byte), .byte, .int, .boolean]
  staticTypes := #[.long, .boolean, (.array (.object "java/io/ObjectStreamField")), .char, (.object "java/util/Comparator"), .byte, .byte]
  resolved := Array.replicate 1451 none
  statics := none }

def pool11 : Array CpInfo := pool [(8, .class_ 10), (1, u "java/lang/Iterable"), (24, .class_ 36), (0, u "java/lang/Object")] 25

/-- java/lang/Iterable -/
def k11 : Class := { plain "java/lang/Iterable" (some 0) with
  accessFlags := 1537
  interfaces := #[]
  cf := some (fileOf pool11 8 #[] #[] 1537 35 #[] #[])
  fields := #[]
  methods := #[]
  instanceTypes := #[]
  staticTypes := #[]
  resolved := Array.replicate 62 none
  statics := none }

def pool12 : Array CpInfo := pool [(10, .class_ 12), (1, u "java/util/Collection"), (47, .class_ 61), (0, u "java/lang/Object"), (0, .class_ 63), (0, u "java/lang/Iterable")] 51

/-- java/util/Collection -/
def k12 : Class := { plain "java/util/Collection" (some 0) with
  accessFlags := 1537
  interfaces := #[11]
  cf := some (fileOf pool12 10 #[] #[] 1537 60 #[62] #[])
  fields := #[]
  methods := #[]
  instanceTypes := #[]
  staticTypes := #[]
  resolved := Array.replicate 115 none
  statics := none }

def pool13 : Array CpInfo := pool [(1, .methodref 2 3), (0, .class_ 4), (0, .nameAndType 5 6), (0, u "java/lang/Object"), (0, u "<init>"), (0, u "()V"), (1, .class_ 10), (1, u "java/util/AbstractCollection"), (66, .class_ 78), (0, u "java/util/Collection")] 81

def k13c0 : Code := { maxStack := 1, maxLocals := 1, code := jdk_22_method_1_code, exceptionTable := #[], attributes := #[] }
def k13m0 : Method := { name := "<init>", desc := "()V", sig := { parameters := [], returnType := none }, accessFlags := 4, code := some k13c0 }
/-- java/util/AbstractCollection -/
def k13 : Class := { plain "java/util/AbstractCollection" (some 0) with
  accessFlags := 1057
  interfaces := #[12]
  cf := some (fileOf pool13 8 #[] #[{ accessFlags := 4, nameIndex := 5, descriptorIndex := 6, attributes := #[] }] 1057 2 #[77] #[])
  fields := #[]
  methods := #[k13m0]
  instanceTypes := #[]
  staticTypes := #[]
  resolved := Array.replicate 160 none
  statics := none }

def pool14 : Array CpInfo := pool [(8, .class_ 10), (1, u "java/util/SequencedCollection"), (15, .class_ 27), (0, u "java/lang/Object"), (0, .class_ 29), (0, u "java/util/Collection")] 27

/-- java/util/SequencedCollection -/
def k14 : Class := { plain "java/util/SequencedCollection" (some 0) with
  accessFlags := 1537
  interfaces := #[12]
  cf := some (fileOf pool14 8 #[] #[] 1537 26 #[28] #[])
  fields := #[]
  methods := #[]
  instanceTypes := #[]
  staticTypes := #[]
  resolved := Array.replicate 57 none
  statics := none }

def pool15 : Array CpInfo := pool [(8, .class_ 10), (1, u "java/util/List"), (92, .class_ 104), (0, u "java/lang/Object"), (15, .class_ 121), (0, u "java/util/SequencedCollection")] 129

/-- java/util/List -/
def k15 : Class := { plain "java/util/List" (some 0) with
  accessFlags := 1537
  interfaces := #[14]
  cf := some (fileOf pool15 8 #[] #[] 1537 103 #[120] #[])
  fields := #[]
  methods := #[]
  instanceTypes := #[]
  staticTypes := #[]
  resolved := Array.replicate 251 none
  statics := none }

def pool16 : Array CpInfo := pool [(1, .methodref 2 3), (0, .class_ 4), (0, .nameAndType 5 6), (0, u "java/util/AbstractCollection"), (0, u "<init>"), (0, u "()V"), (0, .fieldref 8 9), (0, .class_ 10), (0, .nameAndType 11 12), (0, u "java/util/AbstractList"), (0, u "modCount"), (0, u "I"), (64, .class_ 78), (0, u "java/util/AbstractList$Itr"), (3, .class_ 83), (0, u "java/util/AbstractList$ListItr"), (9, .class_ 94), (0, u "java/util/AbstractList$RandomAccessSubList"), (3, .class_ 99), (0, u "java/util/AbstractList$SubList"), (33, .class_ 134), (0, u "java/util/List"), (73, .class_ 209), (0, u "java/util/AbstractList$SubList$1"), (0, .class_ 211), (0, u "java/util/AbstractList$RandomAccessSpliterator")] 6

def k16c0 : Code := { maxStack := 2, maxLocals := 1, code := jdk_39_method_1_code, exceptionTable := #[], attributes := #[] }
def k16m0 : Method := { name := "<init>", desc := "()V", sig := { parameters := [], returnType := none }, accessFlags := 4, code := some k16c0 }
/-- java/util/AbstractList -/
def k16 : Class := { plain "java/util/AbstractList" (some 13) with
  accessFlags := 1057
  interfaces := #[15]
  cf := some (fileOf pool16 8 #[.nestMembers #[93, 98, 208, 210, 82, 77]] #[{ accessFlags := 4, nameIndex := 5, descriptorIndex := 6, attributes := #[] }] 1057 2 #[133] #[{ accessFlags := 132, nameIndex := 11, descriptorIndex := 12, attributes := #[] }])
  fields := #[{ name := "modCount", type := .int, accessFlags := 132, slot := 0, constantValue := 0 }]
  methods := #[k16m0]
  instanceTypes := #[.int]
  staticTypes := #[]
  resolved := Array.replicate 218 none
  statics := none }

def pool17 : Array CpInfo := pool [(1, .class_ 2), (0, u "java/util/RandomAccess"), (0, .class_ 4), (0, u "java/lang/Object")] 2

/-- java/util/RandomAccess -/
def k17 : Class := { plain "java/util/RandomAccess" (some 0) with
  accessFlags := 1537
  interfaces := #[]
  cf := some (fileOf pool17 1 #[] #[] 1537 3 #[] #[])
  fields := #[]
  methods := #[]
  instanceTypes := #[]
  staticTypes := #[]
  resolved := Array.replicate 7 none
  statics := none }

def pool18 : Array CpInfo := pool [(1, .class_ 2), (0, u "java/lang/Cloneable"), (0, .class_ 4), (0, u "java/lang/Object")] 2

/-- java/lang/Cloneable -/
def k18 : Class := { plain "java/lang/Cloneable" (some 0) with
  accessFlags := 1537
  interfaces := #[]
  cf := some (fileOf pool18 1 #[] #[] 1537 3 #[] #[])
  fields := #[]
  methods := #[]
  instanceTypes := #[]
  staticTypes := #[]
  resolved := Array.replicate 7 none
  statics := none }

def pool19 : Array CpInfo := pool [(1, .methodref 2 3), (0, .class_ 4), (0, .nameAndType 5 6), (0, u "java/util/AbstractList"), (0, u "<init>"), (0, u "()V"), (2, .fieldref 10 11), (0, .class_ 12), (0, .nameAndType 13 14), (0, u "java/util/ArrayList"), (0, u "elementData"), (0, u "[Ljava/lang/Object;"), (2, u "EMPTY_ELEMENTDATA"), (21, .fieldref 10 40), (0, .nameAndType 41 14), (0, u "DEFAULTCAPACITY_EMPTY_ELEMENTDATA"), (8, u "size"), (0, u "I"), (96, .class_ 149), (0, u "java/util/List"), (112, .class_ 263), (0, u "java/util/ArrayList$ListItr"), (3, .class_ 268), (0, u "java/util/ArrayList$Itr"), (7, .class_ 277), (0, u "java/util/ArrayList$SubList"), (12, .class_ 291), (0, u "java/util/ArrayList$ArrayListSpliterator"), (37, .class_ 330), (0, u "java/util/RandomAccess"), (0, .class_ 332), (0, u "java/lang/Cloneable"), (0, .class_ 334), (0, u "java/io/Serializable"), (0, u "serialVersionUID"), (0, u "J"), (3, u "DEFAULT_CAPACITY"), (159, .class_ 501), (0, u "java/util/ArrayList$SubList$2"), (0, .class_ 503), (0, u "java/util/ArrayList$SubList$1")] 5

def k19c0 : Code := { maxStack := 2, maxLocals := 1, code := jdk_38_method_2_code, exceptionTable := #[], attributes := #[] }
def k19m0 : Method := { name := "<init>", desc := "()V", sig := { parameters := [], returnType := none }, accessFlags := 1, code := some k19c0 }
/-- java/util/ArrayList -/
def k19 : Class := { plain "java/util/ArrayList" (some 16) with
  accessFlags := 33
  interfaces := #[15, 17, 18, 5]
  cf := some (fileOf pool19 10 #[.nestMembers #[290, 276, 500, 502, 262, 267]] #[{ accessFlags := 1, nameIndex := 5, descriptorIndex := 6, attributes := #[] }] 33 2 #[148, 329, 331, 333] #[{ accessFlags := 26, nameIndex := 335, descriptorIndex := 336, attributes := #[] }, { accessFlags := 26, nameIndex := 340, descriptorIndex := 51, attributes := #[] }, { accessFlags := 26, nameIndex := 17, descriptorIndex := 14, attributes := #[] }, { accessFlags := 26, nameIndex := 41, descriptorIndex := 14, attributes := #[] }, { accessFlags := 128, nameIndex := 13, descriptorIndex := 14, attributes := #[] }, { accessFlags := 2, nameIndex := 50, descriptorIndex := 51, attributes := #[] }])
  fields := #[{ name := "serialVersionUID", type := .long, accessFlags := 26, slot := 0, constantValue := 0 }, { name := "DEFAULT_CAPACITY", type := .int, accessFlags := 26, slot := 1, constantValue := 0 }, { name := "EMPTY_ELEMENTDATA", type := (.array (.object "java/lang/Object")), accessFlags := 26, slot := 2, constantValue := 0 }, { name := "DEFAULTCAPACITY_EMPTY_ELEMENTDATA", type := (.array (.object "java/lang/Object")), accessFlags := 26, slot := 3, constantValue := 0 }, { name := "elementData", type := (.array (.object "java/lang/Object")), accessFlags := 128, slot := 1, constantValue := 0 }, { name := "size", type := .int, accessFlags := 2, slot := 2, constantValue := 0 }]
  methods := #[k19m0]
  instanceTypes := #[.int, (.array (.object "java/lang/Object")), .int]
  staticTypes := #[.long, .int, (.array (.object "java/lang/Object")), (.array (.object "java/lang/Object"))]
  resolved := Array.replicate 509 none
  statics := some 0 }

/-- the primitive byte -/
def k20 : Class := { plain "byte" none with kind := .primitive 'B', accessFlags := 0x411 }
/-- [B -/
def k21 : Class := { plain "[B" (some 0) with kind := .array 20 .byte, interfaces := #[18, 5], accessFlags := 1041 }

/-- the primitive int -/
def k22 : Class := { plain "int" none with kind := .primitive 'I', accessFlags := 0x411 }
/-- [I -/
def k23 : Class := { plain "[I" (some 0) with kind := .array 22 .int, interfaces := #[18, 5], accessFlags := 1041 }

/-- the primitive long -/
def k24 : Class := { plain "long" none with kind := .primitive 'J', accessFlags := 0x411 }
/-- [J -/
def k25 : Class := { plain "[J" (some 0) with kind := .array 24 .long, interfaces := #[18, 5], accessFlags := 1041 }

/-- [Lcom/example/arcmill/arcmill/Trail$Restorable; -/
def k26 : Class := { plain "[Lcom/example/arcmill/arcmill/Trail$Restorable;" (some 0) with kind := .array 3 (.object "com/example/arcmill/arcmill/Trail$Restorable"), interfaces := #[18, 5], accessFlags := 1041 }

/-- [Lcom/example/arcmill/arcmill/Variable; -/
def k27 : Class := { plain "[Lcom/example/arcmill/arcmill/Variable;" (some 0) with kind := .array 4 (.object "com/example/arcmill/arcmill/Variable"), interfaces := #[18, 5], accessFlags := 1041 }

/-- [Ljava/lang/Object; -/
def k28 : Class := { plain "[Ljava/lang/Object;" (some 0) with kind := .array 0 (.object "java/lang/Object"), interfaces := #[18, 5], accessFlags := 1041 }

def heap : Heap := #[{ cls := 19, slots := #[.long 0, .int 0, .ref 1, .ref 2], vm := .statics 19 },
  { cls := 28, slots := #[], vm := .none },
  { cls := 28, slots := #[], vm := .none }]
def classes : Array Class := #[k0, k1, k2, k3, k4, k5, k6, k7, k8, k9, k10, k11, k12, k13, k14, k15, k16, k17, k18, k19, k20, k21, k22, k23, k24, k25, k26, k27, k28]
def interned : List (Array UInt16 × Addr) := []
def slotsUsed : Nat := 4
def theMethod : MethodId := ⟨1, 1⟩
def args0 : Array Value := #[.int 9, .int 5, .int 1, .int 2, .int 3, .int 4]
def aboutOver (below : List Frame) : State where
  vm := { classes := classes, interned := interned.toArray }
  heap := heap
  slotsUsed := slotsUsed
  threads := #[{ frames := .invoking theMethod args0 :: below }]
def below0 : List Frame := [.native { method := ⟨0, 0⟩, args := #[] }]
def about1 : State := aboutOver below0
def p0 : Program := .bare "" "" ""
def e0 : Env := launch0.env 0 0 0
theorem w_frames : about1.frames = Frame.invoking theMethod args0 :: below0 := rfl
set_option maxRecDepth 65536 in
theorem w_args : argsFit about1.vm theMethod args0 = true := by decide +kernel
set_option maxRecDepth 65536 in
theorem w_heap : heapFits about1 = true := by decide +kernel
set_option maxRecDepth 65536 in
theorem w_runnable : about1.curStatus? = some .runnable := by decide +kernel
set_option maxRecDepth 65536 in
theorem w_alone : about1.alone = true := by decide +kernel
set_option maxRecDepth 65536 in
theorem w_named : about1.methodNamed? x = some theMethod := by decide +kernel
set_option maxRecDepth 65536 in
theorem w_hears : about1.hears theMethod below0 = true := by decide +kernel
set_option maxRecDepth 65536 in
theorem w_ripe : about1.ripe theMethod args0 below0 = true := by decide +kernel
theorem w_running : about1.status = .running := rfl
set_option maxRecDepth 65536 in
theorem w_room : about1.hasRoom e0.platform room_1 = true :=
  launch0.hasRoom_least _ room_1 (by decide +kernel) (by decide +kernel) (by decide +kernel) (by decide +kernel) (by decide +kernel) (by decide +kernel)
theorem allAtoms_all (ts : List Jvm.Cond) (a : Array Jvm.Value) (st : Jvm.State) : (allAtoms ts).before a st = ts.all (fun c => c.before a st) := by
  induction ts with
  | nil => rfl
  | cons c t ih =>
    show (Jvm.Cond.and c (allAtoms t)).before a st = _
    rw [Jvm.Cond.before_and, ih, List.all_cons]
def words1 : List Jvm.Cond := Jvm.Cond.code x code maxLocals ret :: tables_1
/-- a 'code' word, met by the world's own term for the bytes: nothing is compared byte by byte -/
theorem code_word {y : MethodName} {bytes : ByteArray} {mx : Nat} {rt : Option FieldType} {a : Array Value} {s : State} {m : MethodId} {meth : Method} {c : Code} (h1 : s.methodNamed? y = some m) (h2 : s.vm.method? m = some meth) (h3 : meth.code = some c) (h4 : c.code = bytes)
    (h5 : (c.maxLocals == mx && c.exceptionTable.isEmpty && decide (c.maxStack ≤ mostOperands) && decide (meth.sig.returnType = rt) && !meth.locks && decide (parseMethodDescriptor y.desc = some meth.sig)) = true) : (Jvm.Cond.code y bytes mx rt).before a s = true := by
  simp only [Bool.and_eq_true, beq_iff_eq, Bool.not_eq_true', decide_eq_true_eq] at h5
  obtain ⟨⟨⟨⟨⟨g1, g2⟩, g3⟩, g4⟩, g5⟩, g6⟩ := h5
  simp [Cond.before, Cond.holds, Cond.value, h1, h2, h3, h4, g1, g2, g3, g4, g5, g6]
def isCode : Jvm.Cond → Bool
  | .code _ _ _ _ => true
  | _ => false
theorem all_split {L : List Jvm.Cond} {P : Jvm.Cond → Bool} (h1 : L.all (fun c => isCode c || P c) = true) (h2 : ∀ c ∈ L.filter isCode, P c = true) : L.all P = true := by
  refine List.all_eq_true.mpr fun c hc => ?_
  have h := List.all_eq_true.mp h1 c hc
  rcases Bool.eq_false_or_eq_true (isCode c) with hi | hi
  · exact h2 c (List.mem_filter.mpr ⟨hc, hi⟩)
  · simpa [hi] using h
set_option maxRecDepth 65536 in
theorem w_c0 : (Jvm.Cond.code x code maxLocals ret).before args0 about1 = true := code_word (m := ⟨1, 1⟩) (meth := k1m1) (c := k1c1) (by decide +kernel) rfl rfl rfl (by decide +kernel)
set_option maxRecDepth 65536 in
theorem w_c1 : (Jvm.Cond.code ({ cls := "com/example/arcmill/arcmill/Trail", name := "<init>", desc := "()V" } : Jvm.MethodName) prog_51_method_1_code (1 : Nat) (Option.none : Option Jvm.ClassFile.FieldType)).before args0 about1 = true := code_word (m := ⟨2, 0⟩) (meth := k2m0) (c := k2c0) (by decide +kernel) rfl rfl rfl (by decide +kernel)
set_option maxRecDepth 65536 in
theorem w_c2 : (Jvm.Cond.code ({ cls := "java/lang/Object", name := "<init>", desc := "()V" } : Jvm.MethodName) object_method_1_code (1 : Nat) (Option.none : Option Jvm.ClassFile.FieldType)).before args0 about1 = true := code_word (m := ⟨0, 0⟩) (meth := k0m0) (c := k0c0) (by decide +kernel) rfl rfl rfl (by decide +kernel)
set_option maxRecDepth 65536 in
theorem w_c3 : (Jvm.Cond.code ({ cls := "com/example/arcmill/arcmill/Variable", name := "<init>", desc := "(Ljava/lang/String;I[ILcom/example/arcmill/arcmill/Trail;)V" } : Jvm.MethodName) prog_58_method_1_code (6 : Nat) (Option.none : Option Jvm.ClassFile.FieldType)).before args0 about1 = true := code_word (m := ⟨4, 0⟩) (meth := k4m0) (c := k4c0) (by decide +kernel) rfl rfl rfl (by decide +kernel)
set_option maxRecDepth 65536 in
theorem w_c4 : (Jvm.Cond.code ({ cls := "java/util/ArrayList", name := "<init>", desc := "()V" } : Jvm.MethodName) jdk_38_method_2_code (1 : Nat) (Option.none : Option Jvm.ClassFile.FieldType)).before args0 about1 = true := code_word (m := ⟨19, 0⟩) (meth := k19m0) (c := k19c0) (by decide +kernel) rfl rfl rfl (by decide +kernel)
set_option maxRecDepth 65536 in
theorem w_c5 : (Jvm.Cond.code ({ cls := "java/util/AbstractList", name := "<init>", desc := "()V" } : Jvm.MethodName) jdk_39_method_1_code (1 : Nat) (Option.none : Option Jvm.ClassFile.FieldType)).before args0 about1 = true := code_word (m := ⟨16, 0⟩) (meth := k16m0) (c := k16c0) (by decide +kernel) rfl rfl rfl (by decide +kernel)
set_option maxRecDepth 65536 in
theorem w_c6 : (Jvm.Cond.code ({ cls := "java/util/AbstractCollection", name := "<init>", desc := "()V" } : Jvm.MethodName) jdk_22_method_1_code (1 : Nat) (Option.none : Option Jvm.ClassFile.FieldType)).before args0 about1 = true := code_word (m := ⟨13, 0⟩) (meth := k13m0) (c := k13c0) (by decide +kernel) rfl rfl rfl (by decide +kernel)
set_option maxRecDepth 65536 in
theorem w_c7 : (Jvm.Cond.code ({ cls := "com/example/arcmill/arcmill/Variable", name := "workspace", desc := "()[I" } : Jvm.MethodName) prog_58_method_12_code (1 : Nat) (Option.some (Jvm.ClassFile.FieldType.array Jvm.ClassFile.FieldType.int))).before args0 about1 = true := code_word (m := ⟨4, 1⟩) (meth := k4m1) (c := k4c1) (by decide +kernel) rfl rfl rfl (by decide +kernel)
set_option maxRecDepth 65536 in
theorem w_c8 : (Jvm.Cond.code ({ cls := "com/example/arcmill/arcmill/Variable", name := "remove", desc := "(I)V" } : Jvm.MethodName) prog_58_method_24_code (4 : Nat) (Option.none : Option Jvm.ClassFile.FieldType)).before args0 about1 = true := code_word (m := ⟨4, 3⟩) (meth := k4m3) (c := k4c3) (by decide +kernel) rfl rfl rfl (by decide +kernel)
set_option maxRecDepth 65536 in
theorem w_c9 : (Jvm.Cond.code ({ cls := "com/example/arcmill/arcmill/Variable", name := "swap", desc := "(II)V" } : Jvm.MethodName) prog_58_method_28_code (5 : Nat) (Option.none : Option Jvm.ClassFile.FieldType)).before args0 about1 = true := code_word (m := ⟨4, 5⟩) (meth := k4m5) (c := k4c5) (by decide +kernel) rfl rfl rfl (by decide +kernel)
set_option maxRecDepth 65536 in
theorem w_c10 : (Jvm.Cond.code ({ cls := "com/example/arcmill/arcmill/Variable", name := "setSize", desc := "(I)V" } : Jvm.MethodName) prog_58_method_26_code (2 : Nat) (Option.none : Option Jvm.ClassFile.FieldType)).before args0 about1 = true := code_word (m := ⟨4, 4⟩) (meth := k4m4) (c := k4c4) (by decide +kernel) rfl rfl rfl (by decide +kernel)
set_option maxRecDepth 65536 in
theorem w_c11 : (Jvm.Cond.code ({ cls := "com/example/arcmill/arcmill/Trail", name := "save", desc := "(Lcom/example/arcmill/arcmill/Trail$Restorable;IJ)J" } : Jvm.MethodName) prog_51_method_5_code (5 : Nat) (Option.some Jvm.ClassFile.FieldType.long)).before args0 about1 = true := code_word (m := ⟨2, 1⟩) (meth := k2m1) (c := k2c1) (by decide +kernel) rfl rfl rfl (by decide +kernel)
set_option maxRecDepth 65536 in
theorem w_c12 : (Jvm.Cond.code ({ cls := "com/example/arcmill/arcmill/Variable", name := "resetWorkspace", desc := "(I)[I" } : Jvm.MethodName) prog_58_method_13_code (4 : Nat) (Option.some (Jvm.ClassFile.FieldType.array Jvm.ClassFile.FieldType.int))).before args0 about1 = true := code_word (m := ⟨4, 2⟩) (meth := k4m2) (c := k4c2) (by decide +kernel) rfl rfl rfl (by decide +kernel)
def codes1 : List Jvm.Cond := [Jvm.Cond.code x code maxLocals ret, Jvm.Cond.code ({ cls := "com/example/arcmill/arcmill/Trail", name := "<init>", desc := "()V" } : Jvm.MethodName) prog_51_method_1_code (1 : Nat) (Option.none : Option Jvm.ClassFile.FieldType), Jvm.Cond.code ({ cls := "java/lang/Object", name := "<init>", desc := "()V" } : Jvm.MethodName) object_method_1_code (1 : Nat) (Option.none : Option Jvm.ClassFile.FieldType), Jvm.Cond.code ({ cls := "com/example/arcmill/arcmill/Variable", name := "<init>", desc := "(Ljava/lang/String;I[ILcom/example/arcmill/arcmill/Trail;)V" } : Jvm.MethodName) prog_58_method_1_code (6 : Nat) (Option.none : Option Jvm.ClassFile.FieldType), Jvm.Cond.code ({ cls := "java/util/ArrayList", name := "<init>", desc := "()V" } : Jvm.MethodName) jdk_38_method_2_code (1 : Nat) (Option.none : Option Jvm.ClassFile.FieldType), Jvm.Cond.code ({ cls := "java/util/AbstractList", name := "<init>", desc := "()V" } : Jvm.MethodName) jdk_39_method_1_code (1 : Nat) (Option.none : Option Jvm.ClassFile.FieldType), Jvm.Cond.code ({ cls := "java/util/AbstractCollection", name := "<init>", desc := "()V" } : Jvm.MethodName) jdk_22_method_1_code (1 : Nat) (Option.none : Option Jvm.ClassFile.FieldType), Jvm.Cond.code ({ cls := "com/example/arcmill/arcmill/Variable", name := "workspace", desc := "()[I" } : Jvm.MethodName) prog_58_method_12_code (1 : Nat) (Option.some (Jvm.ClassFile.FieldType.array Jvm.ClassFile.FieldType.int)), Jvm.Cond.code ({ cls := "com/example/arcmill/arcmill/Variable", name := "remove", desc := "(I)V" } : Jvm.MethodName) prog_58_method_24_code (4 : Nat) (Option.none : Option Jvm.ClassFile.FieldType), Jvm.Cond.code ({ cls := "com/example/arcmill/arcmill/Variable", name := "swap", desc := "(II)V" } : Jvm.MethodName) prog_58_method_28_code (5 : Nat) (Option.none : Option Jvm.ClassFile.FieldType), Jvm.Cond.code ({ cls := "com/example/arcmill/arcmill/Variable", name := "setSize", desc := "(I)V" } : Jvm.MethodName) prog_58_method_26_code (2 : Nat) (Option.none : Option Jvm.ClassFile.FieldType), Jvm.Cond.code ({ cls := "com/example/arcmill/arcmill/Trail", name := "save", desc := "(Lcom/example/arcmill/arcmill/Trail$Restorable;IJ)J" } : Jvm.MethodName) prog_51_method_5_code (5 : Nat) (Option.some Jvm.ClassFile.FieldType.long), Jvm.Cond.code ({ cls := "com/example/arcmill/arcmill/Variable", name := "resetWorkspace", desc := "(I)[I" } : Jvm.MethodName) prog_58_method_13_code (4 : Nat) (Option.some (Jvm.ClassFile.FieldType.array Jvm.ClassFile.FieldType.int))]
set_option maxRecDepth 65536 in
theorem codes_eq : words1.filter isCode = codes1 := rfl
theorem w_codes : ∀ c ∈ words1.filter isCode, c.before args0 about1 = true := by
  rw [codes_eq]
  intro c hc
  simp only [codes1, List.mem_cons, List.not_mem_nil, or_false] at hc
  rcases hc with rfl | rfl | rfl | rfl | rfl | rfl | rfl | rfl | rfl | rfl | rfl | rfl | rfl
  · exact w_c0
  · exact w_c1
  · exact w_c2
  · exact w_c3
  · exact w_c4
  · exact w_c5
  · exact w_c6
  · exact w_c7
  · exact w_c8
  · exact w_c9
  · exact w_c10
  · exact w_c11
  · exact w_c12
set_option maxRecDepth 65536 in
theorem w_t1 : (words1.take 24).all (fun c => isCode c || c.before args0 about1) = true := by decide +kernel
set_option maxRecDepth 65536 in
theorem w_t2 : ((words1.drop 24).take 24).all (fun c => isCode c || c.before args0 about1) = true := by decide +kernel
set_option maxRecDepth 65536 in
theorem w_t3 : (((words1.drop 24).drop 24).take 24).all (fun c => isCode c || c.before args0 about1) = true := by decide +kernel
set_option maxRecDepth 65536 in
theorem w_t4 : ((((words1.drop 24).drop 24).drop 24).take 24).all (fun c => isCode c || c.before args0 about1) = true := by decide +kernel
set_option maxRecDepth 65536 in
theorem w_t5 : (((((words1.drop 24).drop 24).drop 24).drop 24).take 24).all (fun c => isCode c || c.before args0 about1) = true := by decide +kernel
set_option maxRecDepth 65536 in
theorem w_t6 : (((((words1.drop 24).drop 24).drop 24).drop 24).drop 24).all (fun c => isCode c || c.before args0 about1) = true := by decide +kernel
theorem w_tables : (allAtoms (Jvm.Cond.code x code maxLocals ret :: tables_1)).before args0 about1 = true := by
  rw [allAtoms_all]
  show words1.all (fun c => c.before args0 about1) = true
  refine all_split ?_ w_codes
  rw [← List.take_append_drop 24 words1, List.all_append, w_t1, ← List.take_append_drop 24 (words1.drop 24), List.all_append, w_t2, ← List.take_append_drop 24 ((words1.drop 24).drop 24), List.all_append, w_t3, ← List.take_append_drop 24 (((words1.drop 24).drop 24).drop 24), List.all_append, w_t4, ← List.take_append_drop 24 ((((words1.drop 24).drop 24).drop 24).drop 24), List.all_append, w_t5, w_t6]
  rfl
set_option maxRecDepth 65536 in
theorem w_rest : rest_1_c.before args0 about1 = true := by decide +kernel
set_option maxRecDepth 65536 in
theorem w_case : (Jvm.Cond.and given_1 narrow_1).before args0 about1 = true := by decide +kernel
theorem w_applies : (headSpec (Jvm.Cond.code x code maxLocals ret :: tables_1) room_1).applies x e0.platform about1 = true :=
  (Spec.applies_iff w_frames).mpr ⟨w_running, w_runnable, w_alone, w_named, w_hears, w_ripe, w_room, w_tables⟩
theorem atStart : AtStart classFile x code maxLocals ret World_1 tables_1 room_1 Calls_1 rest_1 Pre_1 launch0 p0 e0 about1 theMethod args0 below0 :=
  ⟨lists_1, trivial, launch0.admits_env _ _ _, launch0.least_env, fairChoices_fair.cas, fairChoices_fair.clock, w_frames, w_args, w_heap, w_applies, trivial, w_rest, w_case⟩
end start1
theorem witness_1 : WitnessClaimed_1 := ⟨start1.p0, start1.e0, start1.about1, start1.theMethod, start1.args0, start1.below0, start1.atStart⟩
end Jvm.Pilot.@@N@@
