import JvmDerived
import JvmDerived.Pilot.@@N@@Statement
import JvmDerived.Pilot.@@N@@Code
set_option linter.unusedVariables false
set_option linter.unusedSimpArgs false
namespace Jvm.RoadKit
open Sem ClassFile Op Lib Jvm.Stand Jvm.Free Jvm.LawKit
section New
variable {p : Program} {l : Launch} {e : Env} {R : Room} {s : State} {m : MethodId} {args : Array Value} {below : List Frame} {meth : Method} {c : Code} {T : State} {locs : List Loc} {cells slots : Nat}
theorem retI (X : Stand p l e R s m args below meth c T locs cells slots) (hx : p.tables.exec = Jvm.exec) {pc : Nat} {Ls : Array Slot} {z : Int32} {rest : List Value} (hret : meth.sig.returnType = some .int) (hd : decode c.code pc = .ok (.ireturn, 1)) {fs : List Frame}
    (hl : ∀ (f : JFrame) (acts : List Action), f.method = m → f.locked = none → f.entered = [] → (doReturn e (T.setTop f) acts (some (.int z))).1 = T.setFrames fs) : Steps p.tables e below (T.setTop (mkF m pc Ls (.int z :: rest))) (T.setFrames fs) := by
  have hm' : T.vm.method? m = some meth := X.method'
  have hn : narrow .int (.int z) = .int z := rfl
  show Steps p.tables e below (T.setTop { method := m, pc := pc, locals := Ls, stack := _ :: rest, locked := none }) _
  jvm_step X.here [X.here.top, hx, hd, hm', hret, hn]
  first | (intro acts; rw [hl _ acts rfl rfl rfl]) | rw [hl _ _ rfl rfl rfl]
  exact Steps.refl _
theorem own_retL (X : Stand p l e R s m args below meth c T locs cells slots) (hx : p.tables.exec = Jvm.exec) {pc : Nat} {Ls : Array Slot} {z : Int64} {rest : List Value} (hret : meth.sig.returnType = some .long) (hd : decode c.code pc = .ok (.lreturn, 1)) {fs : List Frame}
    (hl : ∀ (f : JFrame) (acts : List Action), f.method = m → f.locked = none → f.entered = [] → (doReturn e (T.setTop f) acts (some (.long z))).1 = T.setFrames fs) : Steps p.tables e below (T.setTop (mkF m pc Ls (.long z :: rest))) (T.setFrames fs) := by
  have hm' : T.vm.method? m = some meth := X.method'
  have hn : narrow .long (.long z) = .long z := rfl
  show Steps p.tables e below (T.setTop { method := m, pc := pc, locals := Ls, stack := _ :: rest, locked := none }) _
  jvm_step X.here [X.here.top, hx, hd, hm', hret, hn]
  first | (intro acts; rw [hl _ acts rfl rfl rfl]) | rw [hl _ _ rfl rfl rfl]
  exact Steps.refl _
theorem own_retR (X : Stand p l e R s m args below meth c T locs cells slots) (hx : p.tables.exec = Jvm.exec) {pc : Nat} {Ls : Array Slot} {v : Value} {t : FieldType} {rest : List Value} (hret : meth.sig.returnType = some t) (ht : t.isReference = true) (hv : v.isRef = true) (hd : decode c.code pc = .ok (.areturn, 1)) {fs : List Frame}
    (hl : ∀ (f : JFrame) (acts : List Action), f.method = m → f.locked = none → f.entered = [] → (doReturn e (T.setTop f) acts (some v)).1 = T.setFrames fs) : Steps p.tables e below (T.setTop (mkF m pc Ls (v :: rest))) (T.setFrames fs) := by
  have hm' : T.vm.method? m = some meth := X.method'
  show Steps p.tables e below (T.setTop { method := m, pc := pc, locals := Ls, stack := _ :: rest, locked := none }) _
  rcases ref_cases hv with rfl | ⟨a, rfl⟩
  · jvm_step X.here [X.here.top, hx, hd, hm', hret, ht, Value.isRef]
    first | (intro acts; rw [hl _ acts rfl rfl rfl]) | rw [hl _ _ rfl rfl rfl]
    exact Steps.refl _
  · jvm_step X.here [X.here.top, hx, hd, hm', hret, ht, Value.isRef]
    first | (intro acts; rw [hl _ acts rfl rfl rfl]) | rw [hl _ _ rfl rfl rfl]
    exact Steps.refl _
end New
/-- an end that the run comes to from S, with what is said of it -/
def OGo (tb : Tables) (e : Env) (below : List Frame) (Φ : State → Outcome → Prop) (S : State) : Prop := ∃ t o, Steps tb e below S t ∧ Φ t o
section Own
variable {tb : Tables} {e : Env} {below : List Frame} {Φ : State → Outcome → Prop} {S S' t : State} {o : Outcome}
theorem OGo.start (pre : ∀ t, Steps tb e below S' t → Steps tb e below S t) (k : OGo tb e below Φ S') : ∃ t o, Steps tb e below S t ∧ Φ t o := by
  obtain ⟨t, o, h1, h2⟩ := k
  exact ⟨t, o, pre t h1, h2⟩
theorem OGo.st (h : ∀ t, Steps tb e below S' t → Steps tb e below S t) (k : OGo tb e below Φ S') : OGo tb e below Φ S := OGo.start h k
theorem OGo.tr (h : Steps tb e below S S') (k : OGo tb e below Φ S') : OGo tb e below Φ S := OGo.start (fun _ q => h.trans q) k
theorem OGo.done (h : Steps tb e below S t) (q : Φ t o) : OGo tb e below Φ S := ⟨t, o, h, q⟩
theorem OGo.join {α : Type} (P : α → Prop) (F : α → State) (h : ∀ v, P v → OGo tb e below Φ (F v)) (k : (∀ v, P v → OGo tb e below Φ (F v)) → OGo tb e below Φ S) : OGo tb e below Φ S := k h
theorem own_fld {Z : State} {h : Heap} {a : Addr} {C n d : String} {v w : Value} (F : Fld Z h a C n d v) (q : v = w) : Fld Z h a C n d w := q ▸ F
end Own
end Jvm.RoadKit
namespace Jvm.Pilot.@@N@@
open Jvm Jvm.ClassFile Sem Op Lib Jvm.Free Jvm.Stand Jvm.LawKit Jvm.RoadKit Bundle Jvm.Pilot.@@N@@.Jvm.D
def own_sh31 (x : Int64) : Int64 := ((x.toUInt64 >>> ((31 : Int32) &&& 0x3f).toInt64.toUInt64).toInt64)
def own_lo31 (x : Int64) : Int64 := (x &&& (2147483647 : Int64))
def own_high (v t : Int64) : Int64 := own_sh31 v * t + own_sh31 (own_lo31 v * t)
def own_low (v t : Int64) : Int64 := own_lo31 (own_lo31 v * t)
def own_pam (v t w : Int64) : Int32 := if own_high v t < own_sh31 w then 1 else if own_high v t = own_sh31 w then (if own_lo31 w < own_low v t then 0 else 1) else 0
def own_spent (w v : Int64) (t : Int32) : Int32 := if (0 : Int64) < v then (if (0 : Int32) < t then (if w / t.toInt64 < v then 0 else 1) else 1) else 1
def own_left (w v : Int64) (t : Int32) : Int64 := if (0 : Int64) < v then (if (0 : Int32) < t then (if w / t.toInt64 < v then w else w - v * t.toInt64) else w - v * t.toInt64) else w - v * t.toInt64
theorem own_spent' (w v : Int64) (t : Int32) : own_spent w v t = if (0 : Int64) < v ∧ (0 : Int32) < t ∧ w / t.toInt64 < v then 0 else 1 := by
  unfold own_spent
  by_cases h1 : (0 : Int64) < v <;> by_cases h2 : (0 : Int32) < t <;> by_cases h3 : w / t.toInt64 < v <;> simp [h1, h2, h3]
theorem own_left' (w v : Int64) (t : Int32) : own_left w v t = if (0 : Int64) < v ∧ (0 : Int32) < t ∧ w / t.toInt64 < v then w else w - v * t.toInt64 := by
  unfold own_left
  by_cases h1 : (0 : Int64) < v <;> by_cases h2 : (0 : Int32) < t <;> by_cases h3 : w / t.toInt64 < v <;> simp [h1, h2, h3]
theorem own_nz {t : Int32} (h : (0 : Int32) < t) : t.toInt64 ≠ 0 := by
  intro q
  have e := c_i2l t
  rw [q] at e
  rw [Int32.lt_iff_toInt_lt] at h
  have e1 : (0 : Int32).toInt = 0 := rfl
  have e2 : (0 : Int64).toInt = 0 := rfl
  omega
theorem own_sh (x : Int64) (h : 0 ≤ x.toInt) : (own_sh31 x).toInt = x.toInt / 2147483648 := by
  have a := c_lushr x 31 31 (by decide) (by decide)
  have r := rng64 x
  have e : ((2 ^ 31 : Nat) : Int) = 2147483648 := rfl
  rw [e] at a
  unfold own_sh31
  rw [a]; omega
theorem own_lo (x : Int64) : (own_lo31 x).toInt = x.toInt % 2147483648 := by
  have a := c_maskL x 2147483647 31 (by decide) (by decide)
  exact a
theorem own_mulb (a b : Int) (A B : Int) (h1 : 0 ≤ a) (h2 : a ≤ A) (h3 : 0 ≤ b) (h4 : b ≤ B) : 0 ≤ a * b ∧ a * b ≤ A * B :=
  ⟨Int.mul_nonneg h1 h3, Int.mul_le_mul h2 h4 h3 (Int.le_trans h1 h2)⟩
theorem own_fits (v w : Int64) (t : Int32) (hv : 0 ≤ v.toInt) (ht : 0 ≤ t.toInt) (hw : 0 ≤ w.toInt) : own_pam v t.toInt64 w = if w.toInt < v.toInt * t.toInt then 0 else 1 := by
  have rv := rng64 v
  have rt := rng32 t
  have i := c_i2l t
  have s1 := own_sh v hv
  have s2 := own_lo v
  have s3 := own_sh w hw
  have s4 := own_lo w
  have m1 := c_lmul (own_sh31 v) t.toInt64
  have m2 := c_lmul (own_lo31 v) t.toInt64
  have r1 := rng64 (own_sh31 v * t.toInt64)
  have r2 := rng64 (own_lo31 v * t.toInt64)
  rw [s1, i] at m1
  rw [s2, i] at m2
  have b1 := own_mulb (v.toInt / 2147483648) t.toInt 4294967295 2147483647 (by omega) (by omega) ht (by omega)
  have b2 := own_mulb (v.toInt % 2147483648) t.toInt 2147483647 2147483647 (by omega) (by omega) ht (by omega)
  have d : v.toInt * t.toInt = (v.toInt / 2147483648 * t.toInt) * 2147483648 + v.toInt % 2147483648 * t.toInt := by
    have q := Int.mul_ediv_add_emod v.toInt 2147483648
    have q2 : (2147483648 * (v.toInt / 2147483648) + v.toInt % 2147483648) * t.toInt = v.toInt * t.toInt := by rw [q]
    rw [Int.add_mul, Int.mul_assoc, Int.mul_comm 2147483648] at q2
    omega
  rw [d]
  generalize v.toInt / 2147483648 * t.toInt = A at *
  generalize v.toInt % 2147483648 * t.toInt = B at *
  have n1 : (own_sh31 v * t.toInt64).toInt = A := by omega
  have n2 : (own_lo31 v * t.toInt64).toInt = B := by omega
  have s5 := own_sh (own_lo31 v * t.toInt64) (by omega)
  have s6 := own_lo (own_lo31 v * t.toInt64)
  have a1 := c_ladd (own_sh31 v * t.toInt64) (own_sh31 (own_lo31 v * t.toInt64))
  have r3 := rng64 (own_sh31 v * t.toInt64 + own_sh31 (own_lo31 v * t.toInt64))
  have n3 : (own_high v t.toInt64).toInt = A + B / 2147483648 := by
    show (own_sh31 v * t.toInt64 + own_sh31 (own_lo31 v * t.toInt64)).toInt = _
    omega
  have n4 : (own_low v t.toInt64).toInt = B % 2147483648 := by
    show (own_lo31 (own_lo31 v * t.toInt64)).toInt = _
    omega
  unfold own_pam
  simp only [Int64.lt_iff_toInt_lt, ← Int64.toInt_inj, n3, n4, s3, s4]
  by_cases c1 : A + B / 2147483648 < w.toInt / 2147483648
  · rw [if_pos c1, if_neg (by omega)]
  · rw [if_neg c1]
    by_cases c2 : A + B / 2147483648 = w.toInt / 2147483648
    · rw [if_pos c2]
      by_cases c3 : w.toInt % 2147483648 < B % 2147483648
      · rw [if_pos c3, if_pos (by omega)]
      · rw [if_neg c3, if_neg (by omega)]
    · rw [if_neg c2, if_pos (by omega)]
theorem own_cnd (v w : Int64) (t : Int32) (hv : 0 ≤ v.toInt) (ht : 0 ≤ t.toInt) (hw : 0 ≤ w.toInt) : ((0 : Int64) < v ∧ (0 : Int32) < t ∧ w / t.toInt64 < v) ↔ w.toInt < v.toInt * t.toInt := by
  have e1 : (0 : Int32).toInt = 0 := rfl
  have e2 : (0 : Int64).toInt = 0 := rfl
  have i := c_i2l t
  rw [Int64.lt_iff_toInt_lt, Int32.lt_iff_toInt_lt, Int64.lt_iff_toInt_lt, e1, e2]
  by_cases t0 : 0 < t.toInt
  · have q := (c_ldiv w t.toInt64 t.toInt i (by intro z; rw [z] at i; have : (-1 : Int64).toInt = -1 := rfl; omega)).1 hw
    rw [q]
    rw [Int.ediv_lt_iff_lt_mul t0]
    constructor
    · exact fun h => h.2.2
    · intro h
      refine ⟨?_, t0, h⟩
      by_cases v0 : 0 < v.toInt
      · exact v0
      · have : v.toInt = 0 := by omega
        rw [this, Int.zero_mul] at h; omega
  · have : t.toInt = 0 := by omega
    rw [this, Int.mul_zero]
    constructor
    · intro h; omega
    · intro h; omega
theorem own_main (v w : Int64) (t : Int32) (hv : 0 ≤ v.toInt) (ht : 0 ≤ t.toInt) (hw : 0 ≤ w.toInt) : own_spent w v t = own_pam v t.toInt64 w := by
  rw [own_fits v w t hv ht hw, own_spent']
  by_cases h : w.toInt < v.toInt * t.toInt
  · rw [if_pos h, if_pos ((own_cnd v w t hv ht hw).mpr h)]
  · rw [if_neg h, if_neg (fun q => h ((own_cnd v w t hv ht hw).mp q))]
theorem own_left1 (v w : Int64) (t : Int32) (hv : 0 ≤ v.toInt) (ht : 0 ≤ t.toInt) (hw : 0 ≤ w.toInt) (h : own_pam v t.toInt64 w = 0) : own_left w v t = w := by
  rw [own_fits v w t hv ht hw] at h
  by_cases q : w.toInt < v.toInt * t.toInt
  · rw [own_left', if_pos ((own_cnd v w t hv ht hw).mpr q)]
  · rw [if_neg q] at h; exact absurd h (by decide)
theorem own_left2 (v w : Int64) (t : Int32) (hv : 0 ≤ v.toInt) (ht : 0 ≤ t.toInt) (hw : 0 ≤ w.toInt) (h : ¬ own_pam v t.toInt64 w = 0) : own_left w v t = w - v * t.toInt64 := by
  rw [own_fits v w t hv ht hw] at h
  by_cases q : w.toInt < v.toInt * t.toInt
  · rw [if_pos q] at h; exact absurd rfl h
  · rw [own_left', if_neg (fun z => q ((own_cnd v w t hv ht hw).mp z))]
theorem own_n1 (x : Int64) : 0 ≤ (x &&& 9223372036854775807).toInt := by
  have h1 := c_maskL x 9223372036854775807 63 (by decide) (by decide)
  have h3 : ((2 ^ 63 : Nat) : Int) = 9223372036854775808 := rfl
  rw [h3] at h1; omega
theorem own_i1 (x : Int32) : 0 ≤ (x &&& 2147483647).toInt := (c_and x 2147483647 (by decide)).1
theorem own_bud (a b : Int32) (ha : 0 ≤ a.toInt) (hb : 0 ≤ b.toInt) : 0 ≤ (a.toInt64 * b.toInt64).toInt := by
  have ra := rng32 a
  have rb := rng32 b
  have m := c_lmul a.toInt64 b.toInt64
  rw [c_i2l, c_i2l] at m
  have q := own_mulb a.toInt b.toInt 2147483647 2147483647 ha (by omega) hb (by omega)
  have r := rng64 (a.toInt64 * b.toInt64)
  omega
theorem d0_0 : decode prog_31_method_1_code 0 = .ok (.aload_n 0, 1) := by decide +kernel
theorem d0_1 : decode prog_31_method_1_code 1 = .ok (.invokespecial 3, 3) := by decide +kernel
theorem d0_4 : decode prog_31_method_1_code 4 = .ok (.aload_n 0, 1) := by decide +kernel
theorem d0_5 : decode prog_31_method_1_code 5 = .ok (.iconst (-1), 1) := by decide +kernel
theorem d0_6 : decode prog_31_method_1_code 6 = .ok (.putfield 9, 3) := by decide +kernel
theorem d0_9 : decode prog_31_method_1_code 9 = .ok (.aload_n 0, 1) := by decide +kernel
theorem d0_10 : decode prog_31_method_1_code 10 = .ok (.iconst (-1), 1) := by decide +kernel
theorem d0_11 : decode prog_31_method_1_code 11 = .ok (.putfield 15, 3) := by decide +kernel
theorem d0_14 : decode prog_31_method_1_code 14 = .ok (.aload_n 0, 1) := by decide +kernel
theorem d0_15 : decode prog_31_method_1_code 15 = .ok (.iload_n 1, 1) := by decide +kernel
theorem d0_16 : decode prog_31_method_1_code 16 = .ok (.putfield 18, 3) := by decide +kernel
theorem d0_19 : decode prog_31_method_1_code 19 = .ok (.aload_n 0, 1) := by decide +kernel
theorem d0_20 : decode prog_31_method_1_code 20 = .ok (.iload_n 2, 1) := by decide +kernel
theorem d0_21 : decode prog_31_method_1_code 21 = .ok (.putfield 21, 3) := by decide +kernel
theorem d0_24 : decode prog_31_method_1_code 24 = .ok (.aload_n 0, 1) := by decide +kernel
theorem d0_25 : decode prog_31_method_1_code 25 = .ok (.aload_n 3, 1) := by decide +kernel
theorem d0_26 : decode prog_31_method_1_code 26 = .ok (.putfield 24, 3) := by decide +kernel
theorem d0_29 : decode prog_31_method_1_code 29 = .ok (.aload_n 0, 1) := by decide +kernel
theorem d0_30 : decode prog_31_method_1_code 30 = .ok (.iload_n 1, 1) := by decide +kernel
theorem d0_31 : decode prog_31_method_1_code 31 = .ok (.i2l, 1) := by decide +kernel
theorem d0_32 : decode prog_31_method_1_code 32 = .ok (.iload_n 2, 1) := by decide +kernel
theorem d0_33 : decode prog_31_method_1_code 33 = .ok (.i2l, 1) := by decide +kernel
theorem d0_34 : decode prog_31_method_1_code 34 = .ok (.lmul, 1) := by decide +kernel
theorem d0_35 : decode prog_31_method_1_code 35 = .ok (.putfield 28, 3) := by decide +kernel
theorem d0_38 : decode prog_31_method_1_code 38 = .ok (.return_, 1) := by decide +kernel
theorem pn_0 : plainName "com/example/crossweave/crossweave/KeyVisits" = true := by first | (simp [plainName, overriddenIn]; done) | decide +kernel
theorem ef_0 (m : MethodId) (x0 : Addr) (x1 : Int32) (x2 : Int32) : entryFrame m #[(.ref x0), (.int x1), (.int x2), .null] 4 = mkF m 0 #[.val (.ref x0), .val (.int x1), .val (.int x2), .val .null] [] := by first | (simp [entryFrame, mkF, argsToLocals, Value.category]; done) | rfl
def Q0 (Z : State) (a0 : Addr) (p1 : Int32) (p2 : Int32) (h0 : Heap) (n0 : Nat) (v : Option Value) (h : Heap) (L : List Loc) : Prop := v = none ∧ Fr n0 L ∧ Keep h0 h [a0] ∧ (Fld Z h a0 "com/example/crossweave/crossweave/KeyVisits" "left" "J" (.long (((p1).toInt64) * ((p2).toInt64))))
set_option maxRecDepth 65536 in
set_option maxHeartbeats 40000000 in
theorem rm0 (l : Launch) (Z : State) (ar : Array Value) (hw : ∀ d ∈ tables_1, d.before ar Z = true) (ws : List Jvm.Cond) (a0 : Addr) (p1 : Int32) (p2 : Int32) (h0 : Heap) (n0 : Nat) (Z0 : n0 ≤ h0.size) (E0 : Exa Z h0 a0 "com/example/crossweave/crossweave/KeyVisits") (g0 : n0 ≤ a0) (F_lastReferenceAt : Fld Z h0 a0 "com/example/crossweave/crossweave/KeyVisits" "lastReferenceAt" "I" (.int (0 : Int32))) (F_lastSetOrMapAt : Fld Z h0 a0 "com/example/crossweave/crossweave/KeyVisits" "lastSetOrMapAt" "I" (.int (0 : Int32))) (F_perByte : Fld Z h0 a0 "com/example/crossweave/crossweave/KeyVisits" "perByte" "I" (.int (0 : Int32))) (F_payloadLength : Fld Z h0 a0 "com/example/crossweave/crossweave/KeyVisits" "payloadLength" "I" (.int (0 : Int32))) (F_types : Fld Z h0 a0 "com/example/crossweave/crossweave/KeyVisits" "types" "Lcom/example/crossweave/crossweave/TypeRegistry;" .null) (F_left : Fld Z h0 a0 "com/example/crossweave/crossweave/KeyVisits" "left" "J" (.long (0 : Int64))) :
    MetFree l (⟨"com/example/crossweave/crossweave/KeyVisits", "<init>", "(IILcom/example/crossweave/crossweave/TypeRegistry;)V"⟩ : MethodName) (head1 (Jvm.Cond.code (⟨"com/example/crossweave/crossweave/KeyVisits", "<init>", "(IILcom/example/crossweave/crossweave/TypeRegistry;)V"⟩ : MethodName) prog_31_method_1_code 4 none :: ws) ({ frames := 1, cells := 0, slots := 0, locals := 12 } : Room)) (fun a U => a = #[(.ref a0), (.int p1), (.int p2), .null] ∧ Z.Warmed39 U.vm ∧ U.heap = h0) (fun _ _ _ _ _ => True) (fun _ U o U' => ∃ v L, o = .returned v ∧ Q0 Z a0 p1 p2 h0 n0 v U'.heap L ∧ FrameEnd U o U' L ({ frames := 1, cells := 0, slots := 0, locals := 12 } : Room).cells ({ frames := 1, cells := 0, slots := 0, locals := 12 } : Room).slots) := by
  refine MetFree.of_bodySF (plainFor_of_name pn_0) hisR ?_
  intro p e s m args below meth c s₁ Bd hml0 hP hK
  obtain ⟨rfl, hZ, hh⟩ := hP
  have hx := Bd.exec
  have hby := Bd.bytes
  have hml : c.maxLocals = 4 := hml0
  have hown : s.vm.findClass "com/example/crossweave/crossweave/KeyVisits" = some m.cls := findClass_of_methodNamed Bd.named
  have hnm := (name_of_methodNamed Bd.named Bd.method).1
  have X0 : Stand p l e ({ frames := 1, cells := 0, slots := 0, locals := 12 } : Room) s m #[(.ref a0), (.int p1), (.int p2), .null] below meth c s₁ [] 0 0 := Stand.of_body Bd
  have e0 : s₁.heap = h0 := by rw [← hh, Bd.state]; rfl
  have N0 := Fr.nil n0
  have pre0 : ∀ t, Steps p.tables e below (s₁.setTop (mkF m 0 #[.val (.ref a0), .val (.int p1), .val (.int p2), .val .null] [])) t → Steps p.tables e below (s₁.setTop (entryFrame m #[(.ref a0), (.int p1), (.int p2), .null] 4)) t := fun t k => castTop (ef_0 m a0 p1 p2) k
  refine OGo.start pre0 ?_
  show OGo p.tables e below _ (s₁.setTop (mkF m 0 #[.val (.ref a0), .val (.int p1), .val (.int p2), .val .null] []))
  refine OGo.st (fun t k => XS.aloadN X0.here hx rfl (hb hby d0_0) rfl rfl k) ?_
  show OGo p.tables e below _ (s₁.setTop (mkF m 1 #[.val (.ref a0), .val (.int p1), .val (.int p2), .val .null] [(.ref a0)]))
  obtain ⟨T101, X101, e101, st101⟩ := initO X0 hx hZ hown (hw _ (List.mem_of_getElem? (i := 8) rfl)) (hw _ (List.mem_of_getElem? (i := 9) rfl)) (hw _ (List.mem_of_getElem? (i := 10) rfl)) e0 (g := (mkF m 1 #[.val (.ref a0), .val (.int p1), .val (.int p2), .val .null] [(.ref a0)])) rfl (by rw [hml]; rfl) rfl (hb hby d0_1) (by decide) (W := 0) (by show 2 * 0 + _ ≤ _; exact Nat.le_of_eq rfl) (by decide)
  refine OGo.st st101 ?_
  show OGo p.tables e below _ (T101.setTop (mkF m 4 #[.val (.ref a0), .val (.int p1), .val (.int p2), .val .null] []))
  refine OGo.st (fun t k => XS.aloadN X101.here hx rfl (hb hby d0_4) rfl rfl k) ?_
  show OGo p.tables e below _ (T101.setTop (mkF m 5 #[.val (.ref a0), .val (.int p1), .val (.int p2), .val .null] [(.ref a0)]))
  refine OGo.st (fun t k => XS.iconst X101.here hx rfl (hb hby d0_5) k) ?_
  show OGo p.tables e below _ (T101.setTop (mkF m 6 #[.val (.ref a0), .val (.int p1), .val (.int p2), .val .null] [(.int (-1 : Int32)), (.ref a0)]))
  obtain ⟨T102, h102, X102, e102, W102, st102⟩ := putF X101 hx hZ hown (host := "") (Or.inl (hw _ (List.mem_of_getElem? (i := 11) rfl))) Via.refl e101 F_lastReferenceAt E0 (Or.inl (hw _ (List.mem_of_getElem? (i := 12) rfl))) (hw _ (List.mem_of_getElem? (i := 3) rfl)) (ty := .int) (by decide) rfl rfl (g := (mkF m 6 #[.val (.ref a0), .val (.int p1), .val (.int p2), .val .null] [(.int (-1 : Int32)), (.ref a0)])) rfl rfl (hb hby d0_6)
  refine OGo.st st102 ?_
  have Fw102 : Fld Z h102 a0 "com/example/crossweave/crossweave/KeyVisits" "lastReferenceAt" "I" (.int (-1 : Int32)) := Fld.same W102 F_lastReferenceAt
  have N102 := Fr.snoc X102 N0 g0
  show OGo p.tables e below _ (T102.setTop (mkF m 9 #[.val (.ref a0), .val (.int p1), .val (.int p2), .val .null] []))
  refine OGo.st (fun t k => XS.aloadN X102.here hx rfl (hb hby d0_9) rfl rfl k) ?_
  show OGo p.tables e below _ (T102.setTop (mkF m 10 #[.val (.ref a0), .val (.int p1), .val (.int p2), .val .null] [(.ref a0)]))
  refine OGo.st (fun t k => XS.iconst X102.here hx rfl (hb hby d0_10) k) ?_
  show OGo p.tables e below _ (T102.setTop (mkF m 11 #[.val (.ref a0), .val (.int p1), .val (.int p2), .val .null] [(.int (-1 : Int32)), (.ref a0)]))
  have G103 : Exa Z h102 a0 "com/example/crossweave/crossweave/KeyVisits" := (Exa.wr W102 E0)
  have G104 : Fld Z h102 a0 "com/example/crossweave/crossweave/KeyVisits" "lastSetOrMapAt" "I" (.int (0 : Int32)) := (Fld.other W102 F_lastSetOrMapAt (Or.inr (slot_ne (Or.inl (hw _ (List.mem_of_getElem? (i := 14) rfl))) (Or.inl (hw _ (List.mem_of_getElem? (i := 12) rfl))) (by decide) (t := .int) (t' := .int) (by decide) (by decide))))
  obtain ⟨T105, h105, X105, e105, W105, st105⟩ := putF X102 hx hZ hown (host := "") (Or.inl (hw _ (List.mem_of_getElem? (i := 13) rfl))) Via.refl e102 G104 G103 (Or.inl (hw _ (List.mem_of_getElem? (i := 14) rfl))) (hw _ (List.mem_of_getElem? (i := 3) rfl)) (ty := .int) (by decide) rfl rfl (g := (mkF m 11 #[.val (.ref a0), .val (.int p1), .val (.int p2), .val .null] [(.int (-1 : Int32)), (.ref a0)])) rfl rfl (hb hby d0_11)
  refine OGo.st st105 ?_
  have Fw105 : Fld Z h105 a0 "com/example/crossweave/crossweave/KeyVisits" "lastSetOrMapAt" "I" (.int (-1 : Int32)) := Fld.same W105 G104
  have N105 := Fr.snoc X105 N102 g0
  show OGo p.tables e below _ (T105.setTop (mkF m 14 #[.val (.ref a0), .val (.int p1), .val (.int p2), .val .null] []))
  refine OGo.st (fun t k => XS.aloadN X105.here hx rfl (hb hby d0_14) rfl rfl k) ?_
  show OGo p.tables e below _ (T105.setTop (mkF m 15 #[.val (.ref a0), .val (.int p1), .val (.int p2), .val .null] [(.ref a0)]))
  refine OGo.st (fun t k => XS.iloadN X105.here hx rfl (hb hby d0_15) rfl k) ?_
  show OGo p.tables e below _ (T105.setTop (mkF m 16 #[.val (.ref a0), .val (.int p1), .val (.int p2), .val .null] [(.int p1), (.ref a0)]))
  have G106 : Exa Z h105 a0 "com/example/crossweave/crossweave/KeyVisits" := (Exa.wr W105 G103)
  have G107 : Fld Z h105 a0 "com/example/crossweave/crossweave/KeyVisits" "perByte" "I" (.int (0 : Int32)) := (Fld.other W105 (Fld.other W102 F_perByte (Or.inr (slot_ne (Or.inr (hw _ (List.mem_of_getElem? (i := 16) rfl))) (Or.inl (hw _ (List.mem_of_getElem? (i := 12) rfl))) (by decide) (t := .int) (t' := .int) (by decide) (by decide)))) (Or.inr (slot_ne (Or.inr (hw _ (List.mem_of_getElem? (i := 16) rfl))) (Or.inl (hw _ (List.mem_of_getElem? (i := 14) rfl))) (by decide) (t := .int) (t' := .int) (by decide) (by decide))))
  obtain ⟨T108, h108, X108, e108, W108, st108⟩ := putF X105 hx hZ hown (host := "") (Or.inl (hw _ (List.mem_of_getElem? (i := 15) rfl))) Via.refl e105 G107 G106 (Or.inr ⟨(hw _ (List.mem_of_getElem? (i := 16) rfl)), rfl, hnm⟩) (hw _ (List.mem_of_getElem? (i := 3) rfl)) (ty := .int) (by decide) rfl rfl (g := (mkF m 16 #[.val (.ref a0), .val (.int p1), .val (.int p2), .val .null] [(.int p1), (.ref a0)])) rfl rfl (hb hby d0_16)
  refine OGo.st st108 ?_
  have Fw108 : Fld Z h108 a0 "com/example/crossweave/crossweave/KeyVisits" "perByte" "I" (.int p1) := Fld.same W108 G107
  have N108 := Fr.snoc X108 N105 g0
  show OGo p.tables e below _ (T108.setTop (mkF m 19 #[.val (.ref a0), .val (.int p1), .val (.int p2), .val .null] []))
  refine OGo.st (fun t k => XS.aloadN X108.here hx rfl (hb hby d0_19) rfl rfl k) ?_
  show OGo p.tables e below _ (T108.setTop (mkF m 20 #[.val (.ref a0), .val (.int p1), .val (.int p2), .val .null] [(.ref a0)]))
  refine OGo.st (fun t k => XS.iloadN X108.here hx rfl (hb hby d0_20) rfl k) ?_
  show OGo p.tables e below _ (T108.setTop (mkF m 21 #[.val (.ref a0), .val (.int p1), .val (.int p2), .val .null] [(.int p2), (.ref a0)]))
  have G109 : Exa Z h108 a0 "com/example/crossweave/crossweave/KeyVisits" := (Exa.wr W108 G106)
  have G110 : Fld Z h108 a0 "com/example/crossweave/crossweave/KeyVisits" "payloadLength" "I" (.int (0 : Int32)) := (Fld.other W108 (Fld.other W105 (Fld.other W102 F_payloadLength (Or.inr (slot_ne (Or.inr (hw _ (List.mem_of_getElem? (i := 18) rfl))) (Or.inl (hw _ (List.mem_of_getElem? (i := 12) rfl))) (by decide) (t := .int) (t' := .int) (by decide) (by decide)))) (Or.inr (slot_ne (Or.inr (hw _ (List.mem_of_getElem? (i := 18) rfl))) (Or.inl (hw _ (List.mem_of_getElem? (i := 14) rfl))) (by decide) (t := .int) (t' := .int) (by decide) (by decide)))) (Or.inr (slot_ne (Or.inr (hw _ (List.mem_of_getElem? (i := 18) rfl))) (Or.inr (hw _ (List.mem_of_getElem? (i := 16) rfl))) (by decide) (t := .int) (t' := .int) (by decide) (by decide))))
  obtain ⟨T111, h111, X111, e111, W111, st111⟩ := putF X108 hx hZ hown (host := "") (Or.inl (hw _ (List.mem_of_getElem? (i := 17) rfl))) Via.refl e108 G110 G109 (Or.inr ⟨(hw _ (List.mem_of_getElem? (i := 18) rfl)), rfl, hnm⟩) (hw _ (List.mem_of_getElem? (i := 3) rfl)) (ty := .int) (by decide) rfl rfl (g := (mkF m 21 #[.val (.ref a0), .val (.int p1), .val (.int p2), .val .null] [(.int p2), (.ref a0)])) rfl rfl (hb hby d0_21)
  refine OGo.st st111 ?_
  have Fw111 : Fld Z h111 a0 "com/example/crossweave/crossweave/KeyVisits" "payloadLength" "I" (.int p2) := Fld.same W111 G110
  have N111 := Fr.snoc X111 N108 g0
  show OGo p.tables e below _ (T111.setTop (mkF m 24 #[.val (.ref a0), .val (.int p1), .val (.int p2), .val .null] []))
  refine OGo.st (fun t k => XS.aloadN X111.here hx rfl (hb hby d0_24) rfl rfl k) ?_
  show OGo p.tables e below _ (T111.setTop (mkF m 25 #[.val (.ref a0), .val (.int p1), .val (.int p2), .val .null] [(.ref a0)]))
  refine OGo.st (fun t k => XS.aloadN X111.here hx rfl (hb hby d0_25) rfl rfl k) ?_
  show OGo p.tables e below _ (T111.setTop (mkF m 26 #[.val (.ref a0), .val (.int p1), .val (.int p2), .val .null] [.null, (.ref a0)]))
  have G112 : Exa Z h111 a0 "com/example/crossweave/crossweave/KeyVisits" := (Exa.wr W111 G109)
  have G113 : Fld Z h111 a0 "com/example/crossweave/crossweave/KeyVisits" "types" "Lcom/example/crossweave/crossweave/TypeRegistry;" .null := (Fld.other W111 (Fld.other W108 (Fld.other W105 (Fld.other W102 F_types (Or.inr (slot_ne (Or.inr (hw _ (List.mem_of_getElem? (i := 20) rfl))) (Or.inl (hw _ (List.mem_of_getElem? (i := 12) rfl))) (by decide) (t := (.object "com/example/crossweave/crossweave/TypeRegistry")) (t' := .int) (by decide) (by decide)))) (Or.inr (slot_ne (Or.inr (hw _ (List.mem_of_getElem? (i := 20) rfl))) (Or.inl (hw _ (List.mem_of_getElem? (i := 14) rfl))) (by decide) (t := (.object "com/example/crossweave/crossweave/TypeRegistry")) (t' := .int) (by decide) (by decide)))) (Or.inr (slot_ne (Or.inr (hw _ (List.mem_of_getElem? (i := 20) rfl))) (Or.inr (hw _ (List.mem_of_getElem? (i := 16) rfl))) (by decide) (t := (.object "com/example/crossweave/crossweave/TypeRegistry")) (t' := .int) (by decide) (by decide)))) (Or.inr (slot_ne (Or.inr (hw _ (List.mem_of_getElem? (i := 20) rfl))) (Or.inr (hw _ (List.mem_of_getElem? (i := 18) rfl))) (by decide) (t := (.object "com/example/crossweave/crossweave/TypeRegistry")) (t' := .int) (by decide) (by decide))))
  obtain ⟨T114, h114, X114, e114, W114, st114⟩ := putF X111 hx hZ hown (host := "") (Or.inl (hw _ (List.mem_of_getElem? (i := 19) rfl))) Via.refl e111 G113 G112 (Or.inr ⟨(hw _ (List.mem_of_getElem? (i := 20) rfl)), rfl, hnm⟩) (hw _ (List.mem_of_getElem? (i := 3) rfl)) (ty := (.object "com/example/crossweave/crossweave/TypeRegistry")) (by decide) rfl rfl (g := (mkF m 26 #[.val (.ref a0), .val (.int p1), .val (.int p2), .val .null] [.null, (.ref a0)])) rfl rfl (hb hby d0_26)
  refine OGo.st st114 ?_
  have Fw114 : Fld Z h114 a0 "com/example/crossweave/crossweave/KeyVisits" "types" "Lcom/example/crossweave/crossweave/TypeRegistry;" .null := Fld.same W114 G113
  have N114 := Fr.snoc X114 N111 g0
  show OGo p.tables e below _ (T114.setTop (mkF m 29 #[.val (.ref a0), .val (.int p1), .val (.int p2), .val .null] []))
  refine OGo.st (fun t k => XS.aloadN X114.here hx rfl (hb hby d0_29) rfl rfl k) ?_
  show OGo p.tables e below _ (T114.setTop (mkF m 30 #[.val (.ref a0), .val (.int p1), .val (.int p2), .val .null] [(.ref a0)]))
  refine OGo.st (fun t k => XS.iloadN X114.here hx rfl (hb hby d0_30) rfl k) ?_
  show OGo p.tables e below _ (T114.setTop (mkF m 31 #[.val (.ref a0), .val (.int p1), .val (.int p2), .val .null] [(.int p1), (.ref a0)]))
  refine OGo.st (fun t k => XS.i2l X114.here hx rfl (hb hby d0_31) rfl k) ?_
  show OGo p.tables e below _ (T114.setTop (mkF m 32 #[.val (.ref a0), .val (.int p1), .val (.int p2), .val .null] [(.long ((p1).toInt64)), (.ref a0)]))
  refine OGo.st (fun t k => XS.iloadN X114.here hx rfl (hb hby d0_32) rfl k) ?_
  show OGo p.tables e below _ (T114.setTop (mkF m 33 #[.val (.ref a0), .val (.int p1), .val (.int p2), .val .null] [(.int p2), (.long ((p1).toInt64)), (.ref a0)]))
  refine OGo.st (fun t k => XS.i2l X114.here hx rfl (hb hby d0_33) rfl k) ?_
  show OGo p.tables e below _ (T114.setTop (mkF m 34 #[.val (.ref a0), .val (.int p1), .val (.int p2), .val .null] [(.long ((p2).toInt64)), (.long ((p1).toInt64)), (.ref a0)]))
  refine OGo.st (fun t k => XS.lmul X114.here hx rfl (hb hby d0_34) rfl k) ?_
  show OGo p.tables e below _ (T114.setTop (mkF m 35 #[.val (.ref a0), .val (.int p1), .val (.int p2), .val .null] [(.long (((p1).toInt64) * ((p2).toInt64))), (.ref a0)]))
  have G115 : Exa Z h114 a0 "com/example/crossweave/crossweave/KeyVisits" := (Exa.wr W114 G112)
  have G116 : Fld Z h114 a0 "com/example/crossweave/crossweave/KeyVisits" "left" "J" (.long (0 : Int64)) := (Fld.other W114 (Fld.other W111 (Fld.other W108 (Fld.other W105 (Fld.other W102 F_left (Or.inr (slot_ne (Or.inl (hw _ (List.mem_of_getElem? (i := 22) rfl))) (Or.inl (hw _ (List.mem_of_getElem? (i := 12) rfl))) (by decide) (t := .long) (t' := .int) (by decide) (by decide)))) (Or.inr (slot_ne (Or.inl (hw _ (List.mem_of_getElem? (i := 22) rfl))) (Or.inl (hw _ (List.mem_of_getElem? (i := 14) rfl))) (by decide) (t := .long) (t' := .int) (by decide) (by decide)))) (Or.inr (slot_ne (Or.inl (hw _ (List.mem_of_getElem? (i := 22) rfl))) (Or.inr (hw _ (List.mem_of_getElem? (i := 16) rfl))) (by decide) (t := .long) (t' := .int) (by decide) (by decide)))) (Or.inr (slot_ne (Or.inl (hw _ (List.mem_of_getElem? (i := 22) rfl))) (Or.inr (hw _ (List.mem_of_getElem? (i := 18) rfl))) (by decide) (t := .long) (t' := .int) (by decide) (by decide)))) (Or.inr (slot_ne (Or.inl (hw _ (List.mem_of_getElem? (i := 22) rfl))) (Or.inr (hw _ (List.mem_of_getElem? (i := 20) rfl))) (by decide) (t := .long) (t' := (.object "com/example/crossweave/crossweave/TypeRegistry")) (by decide) (by decide))))
  obtain ⟨T117, h117, X117, e117, W117, st117⟩ := putF X114 hx hZ hown (host := "") (Or.inl (hw _ (List.mem_of_getElem? (i := 21) rfl))) Via.refl e114 G116 G115 (Or.inl (hw _ (List.mem_of_getElem? (i := 22) rfl))) (hw _ (List.mem_of_getElem? (i := 3) rfl)) (ty := .long) (by decide) rfl rfl (g := (mkF m 35 #[.val (.ref a0), .val (.int p1), .val (.int p2), .val .null] [(.long (((p1).toInt64) * ((p2).toInt64))), (.ref a0)])) rfl rfl (hb hby d0_35)
  refine OGo.st st117 ?_
  have Fw117 : Fld Z h117 a0 "com/example/crossweave/crossweave/KeyVisits" "left" "J" (.long (((p1).toInt64) * ((p2).toInt64))) := Fld.same W117 G116
  have N117 := Fr.snoc X117 N114 g0
  show OGo p.tables e below _ (T117.setTop (mkF m 38 #[.val (.ref a0), .val (.int p1), .val (.int p2), .val .null] []))
  obtain ⟨fs, hr, hrun, hended, hW, hsame⟩ := X117.leave (v := none) (fun _ => rfl)
  refine OGo.done (X117.returnOut hx Bd.returns (hb hby d0_38) hr) ⟨hrun, hended, _, _, rfl, ?_, ⟨_, rfl⟩, hW, hsame.mono (by decide) (by decide)⟩
  show Q0 Z a0 p1 p2 h0 n0 _ T117.heap _
  rw [e117]
  exact ⟨rfl, N117, (((((((Keep.refl h0 [a0]).wr W102 (Or.inl (List.mem_of_getElem? (i := 0) rfl))).wr W105 (Or.inl (List.mem_of_getElem? (i := 0) rfl))).wr W108 (Or.inl (List.mem_of_getElem? (i := 0) rfl))).wr W111 (Or.inl (List.mem_of_getElem? (i := 0) rfl))).wr W114 (Or.inl (List.mem_of_getElem? (i := 0) rfl))).wr W117 (Or.inl (List.mem_of_getElem? (i := 0) rfl))), Fw117⟩
theorem d1_0 : decode prog_31_method_8_code 0 = .ok (.aload_n 0, 1) := by decide +kernel
theorem d1_1 : decode prog_31_method_8_code 1 = .ok (.getfield 28, 3) := by decide +kernel
theorem d1_4 : decode prog_31_method_8_code 4 = .ok (.lreturn, 1) := by decide +kernel
theorem ef_1 (m : MethodId) (x0 : Addr) : entryFrame m #[(.ref x0)] 1 = mkF m 0 #[.val (.ref x0)] [] := by first | (simp [entryFrame, mkF, argsToLocals, Value.category]; done) | rfl
def Q1 (Z : State) (a0 : Addr) (w : Int64) (h0 : Heap) (n0 : Nat) (v : Option Value) (h : Heap) (L : List Loc) : Prop := v = some (.long w) ∧ Fr n0 L ∧ h = h0
set_option maxRecDepth 65536 in
set_option maxHeartbeats 40000000 in
theorem rm1 (l : Launch) (Z : State) (ar : Array Value) (hw : ∀ d ∈ tables_1, d.before ar Z = true) (ws : List Jvm.Cond) (a0 : Addr) (w : Int64) (h0 : Heap) (n0 : Nat) (Z0 : n0 ≤ h0.size) (F : Fld Z h0 a0 "com/example/crossweave/crossweave/KeyVisits" "left" "J" (.long w)) :
    MetFree l (⟨"com/example/crossweave/crossweave/KeyVisits", "left", "()J"⟩ : MethodName) (head1 (Jvm.Cond.code (⟨"com/example/crossweave/crossweave/KeyVisits", "left", "()J"⟩ : MethodName) prog_31_method_8_code 1 (some .long) :: ws) ({ frames := 0, cells := 0, slots := 0, locals := 0 } : Room)) (fun a U => a = #[(.ref a0)] ∧ Z.Warmed39 U.vm ∧ U.heap = h0) (fun _ _ _ _ _ => True) (fun _ U o U' => ∃ v L, o = .returned v ∧ Q1 Z a0 w h0 n0 v U'.heap L ∧ FrameEnd U o U' L ({ frames := 0, cells := 0, slots := 0, locals := 0 } : Room).cells ({ frames := 0, cells := 0, slots := 0, locals := 0 } : Room).slots) := by
  refine MetFree.of_bodySF (plainFor_of_name pn_0) hisR ?_
  intro p e s m args below meth c s₁ Bd hml0 hP hK
  obtain ⟨rfl, hZ, hh⟩ := hP
  have hx := Bd.exec
  have hby := Bd.bytes
  have hml : c.maxLocals = 1 := hml0
  have hown : s.vm.findClass "com/example/crossweave/crossweave/KeyVisits" = some m.cls := findClass_of_methodNamed Bd.named
  have hnm := (name_of_methodNamed Bd.named Bd.method).1
  have X0 : Stand p l e ({ frames := 0, cells := 0, slots := 0, locals := 0 } : Room) s m #[(.ref a0)] below meth c s₁ [] 0 0 := Stand.of_body Bd
  have e0 : s₁.heap = h0 := by rw [← hh, Bd.state]; rfl
  have N0 := Fr.nil n0
  have pre0 : ∀ t, Steps p.tables e below (s₁.setTop (mkF m 0 #[.val (.ref a0)] [])) t → Steps p.tables e below (s₁.setTop (entryFrame m #[(.ref a0)] 1)) t := fun t k => castTop (ef_1 m a0) k
  refine OGo.start pre0 ?_
  show OGo p.tables e below _ (s₁.setTop (mkF m 0 #[.val (.ref a0)] []))
  refine OGo.st (fun t k => XS.aloadN X0.here hx rfl (hb hby d1_0) rfl rfl k) ?_
  show OGo p.tables e below _ (s₁.setTop (mkF m 1 #[.val (.ref a0)] [(.ref a0)]))
  obtain ⟨T101, X101, e101, st101⟩ := getF X0 hx hZ hown (host := "") (Or.inl (hw _ (List.mem_of_getElem? (i := 21) rfl))) Via.refl e0 F (g := (mkF m 1 #[.val (.ref a0)] [(.ref a0)])) rfl rfl (hb hby d1_1)
  refine OGo.st st101 ?_
  show OGo p.tables e below _ (T101.setTop (mkF m 4 #[.val (.ref a0)] [(.long w)]))
  obtain ⟨fs, hr, hrun, hended, hW, hsame⟩ := X101.leave (v := some (.long w)) (fun h => by rw [Bd.returns] at h; cases h)
  refine OGo.done (own_retL X101 hx Bd.returns (hb hby d1_4) hr) ⟨hrun, hended, _, _, rfl, ?_, ⟨_, rfl⟩, hW, hsame.mono (by decide) (by decide)⟩
  show Q1 Z a0 w h0 n0 _ T101.heap _
  rw [e101]
  exact ⟨rfl, N0, rfl⟩
theorem d2_0 : decode method_3_code 0 = .ok (.lload_n 0, 1) := by decide +kernel
theorem d2_1 : decode method_3_code 1 = .ok (.bipush 31, 2) := by decide +kernel
theorem d2_3 : decode method_3_code 3 = .ok (.lushr, 1) := by decide +kernel
theorem d2_4 : decode method_3_code 4 = .ok (.lstore 6, 2) := by decide +kernel
theorem d2_6 : decode method_3_code 6 = .ok (.lload_n 0, 1) := by decide +kernel
theorem d2_7 : decode method_3_code 7 = .ok (.ldc2_w 31, 3) := by decide +kernel
theorem d2_10 : decode method_3_code 10 = .ok (.land, 1) := by decide +kernel
theorem d2_11 : decode method_3_code 11 = .ok (.lstore 8, 2) := by decide +kernel
theorem d2_13 : decode method_3_code 13 = .ok (.lload 6, 2) := by decide +kernel
theorem d2_15 : decode method_3_code 15 = .ok (.lload_n 2, 1) := by decide +kernel
theorem d2_16 : decode method_3_code 16 = .ok (.lmul, 1) := by decide +kernel
theorem d2_17 : decode method_3_code 17 = .ok (.lstore 10, 2) := by decide +kernel
theorem d2_19 : decode method_3_code 19 = .ok (.lload 8, 2) := by decide +kernel
theorem d2_21 : decode method_3_code 21 = .ok (.lload_n 2, 1) := by decide +kernel
theorem d2_22 : decode method_3_code 22 = .ok (.lmul, 1) := by decide +kernel
theorem d2_23 : decode method_3_code 23 = .ok (.lstore 12, 2) := by decide +kernel
theorem d2_25 : decode method_3_code 25 = .ok (.lload 10, 2) := by decide +kernel
theorem d2_27 : decode method_3_code 27 = .ok (.lload 12, 2) := by decide +kernel
theorem d2_29 : decode method_3_code 29 = .ok (.bipush 31, 2) := by decide +kernel
theorem d2_31 : decode method_3_code 31 = .ok (.lushr, 1) := by decide +kernel
theorem d2_32 : decode method_3_code 32 = .ok (.ladd, 1) := by decide +kernel
theorem d2_33 : decode method_3_code 33 = .ok (.lstore 14, 2) := by decide +kernel
theorem d2_35 : decode method_3_code 35 = .ok (.lload 12, 2) := by decide +kernel
theorem d2_37 : decode method_3_code 37 = .ok (.ldc2_w 31, 3) := by decide +kernel
theorem d2_40 : decode method_3_code 40 = .ok (.land, 1) := by decide +kernel
theorem d2_41 : decode method_3_code 41 = .ok (.lstore 16, 2) := by decide +kernel
theorem d2_43 : decode method_3_code 43 = .ok (.lload 4, 2) := by decide +kernel
theorem d2_45 : decode method_3_code 45 = .ok (.bipush 31, 2) := by decide +kernel
theorem d2_47 : decode method_3_code 47 = .ok (.lushr, 1) := by decide +kernel
theorem d2_48 : decode method_3_code 48 = .ok (.lstore 18, 2) := by decide +kernel
theorem d2_50 : decode method_3_code 50 = .ok (.lload 4, 2) := by decide +kernel
theorem d2_52 : decode method_3_code 52 = .ok (.ldc2_w 31, 3) := by decide +kernel
theorem d2_55 : decode method_3_code 55 = .ok (.land, 1) := by decide +kernel
theorem d2_56 : decode method_3_code 56 = .ok (.lstore 20, 2) := by decide +kernel
theorem d2_58 : decode method_3_code 58 = .ok (.lload 14, 2) := by decide +kernel
theorem d2_60 : decode method_3_code 60 = .ok (.lload 18, 2) := by decide +kernel
theorem d2_62 : decode method_3_code 62 = .ok (.lcmp, 1) := by decide +kernel
theorem d2_63 : decode method_3_code 63 = .ok (.ifCond .lt 19, 3) := by decide +kernel
theorem d2_66 : decode method_3_code 66 = .ok (.lload 14, 2) := by decide +kernel
theorem d2_68 : decode method_3_code 68 = .ok (.lload 18, 2) := by decide +kernel
theorem d2_70 : decode method_3_code 70 = .ok (.lcmp, 1) := by decide +kernel
theorem d2_71 : decode method_3_code 71 = .ok (.ifCond .ne 15, 3) := by decide +kernel
theorem d2_74 : decode method_3_code 74 = .ok (.lload 16, 2) := by decide +kernel
theorem d2_76 : decode method_3_code 76 = .ok (.lload 20, 2) := by decide +kernel
theorem d2_78 : decode method_3_code 78 = .ok (.lcmp, 1) := by decide +kernel
theorem d2_79 : decode method_3_code 79 = .ok (.ifCond .gt 7, 3) := by decide +kernel
theorem d2_82 : decode method_3_code 82 = .ok (.iconst 1, 1) := by decide +kernel
theorem d2_83 : decode method_3_code 83 = .ok (.goto 4, 3) := by decide +kernel
theorem d2_86 : decode method_3_code 86 = .ok (.iconst 0, 1) := by decide +kernel
theorem d2_87 : decode method_3_code 87 = .ok (.ireturn, 1) := by decide +kernel
theorem pn_1 : plainName "com/example/crossweave/crossweave/KeyVisitsSpendPinLaw" = true := by first | (simp [plainName, overriddenIn]; done) | decide +kernel
theorem ef_2 (m : MethodId) (x0 : Int64) (x1 : Int64) (x2 : Int64) : entryFrame m #[(.long x0), (.long x1), (.long x2)] 22 = mkF m 0 #[.val (.long x0), .second, .val (.long x1), .second, .val (.long x2), .second, .unset, .unset, .unset, .unset, .unset, .unset, .unset, .unset, .unset, .unset, .unset, .unset, .unset, .unset, .unset, .unset] [] := by first | (simp [entryFrame, mkF, argsToLocals, Value.category]; done) | rfl
def Q2 (Z : State) (q0 : Int64) (q1 : Int64) (q2 : Int64) (h0 : Heap) (n0 : Nat) (v : Option Value) (h : Heap) (L : List Loc) : Prop := v = some (.int (own_pam q0 q1 q2)) ∧ Fr n0 L ∧ h = h0
set_option maxRecDepth 65536 in
set_option maxHeartbeats 40000000 in
theorem rm2 (l : Launch) (Z : State) (ar : Array Value) (hw : ∀ d ∈ tables_1, d.before ar Z = true) (ws : List Jvm.Cond) (q0 : Int64) (q1 : Int64) (q2 : Int64) (h0 : Heap) (n0 : Nat) (Z0 : n0 ≤ h0.size)  :
    MetFree l (⟨"com/example/crossweave/crossweave/KeyVisitsSpendPinLaw", "productAtMost", "(JJJ)Z"⟩ : MethodName) (head1 (Jvm.Cond.code (⟨"com/example/crossweave/crossweave/KeyVisitsSpendPinLaw", "productAtMost", "(JJJ)Z"⟩ : MethodName) method_3_code 22 (some .boolean) :: ws) ({ frames := 0, cells := 0, slots := 0, locals := 0 } : Room)) (fun a U => a = #[(.long q0), (.long q1), (.long q2)] ∧ Z.Warmed39 U.vm ∧ U.heap = h0) (fun _ _ _ _ _ => True) (fun _ U o U' => ∃ v L, o = .returned v ∧ Q2 Z q0 q1 q2 h0 n0 v U'.heap L ∧ FrameEnd U o U' L ({ frames := 0, cells := 0, slots := 0, locals := 0 } : Room).cells ({ frames := 0, cells := 0, slots := 0, locals := 0 } : Room).slots) := by
  refine MetFree.of_bodySF (plainFor_of_name pn_1) hisR ?_
  intro p e s m args below meth c s₁ Bd hml0 hP hK
  obtain ⟨rfl, hZ, hh⟩ := hP
  have hx := Bd.exec
  have hby := Bd.bytes
  have hml : c.maxLocals = 22 := hml0
  have hown : s.vm.findClass "com/example/crossweave/crossweave/KeyVisitsSpendPinLaw" = some m.cls := findClass_of_methodNamed Bd.named
  have hnm := (name_of_methodNamed Bd.named Bd.method).1
  have X0 : Stand p l e ({ frames := 0, cells := 0, slots := 0, locals := 0 } : Room) s m #[(.long q0), (.long q1), (.long q2)] below meth c s₁ [] 0 0 := Stand.of_body Bd
  have e0 : s₁.heap = h0 := by rw [← hh, Bd.state]; rfl
  have N0 := Fr.nil n0
  have pre0 : ∀ t, Steps p.tables e below (s₁.setTop (mkF m 0 #[.val (.long q0), .second, .val (.long q1), .second, .val (.long q2), .second, .unset, .unset, .unset, .unset, .unset, .unset, .unset, .unset, .unset, .unset, .unset, .unset, .unset, .unset, .unset, .unset] [])) t → Steps p.tables e below (s₁.setTop (entryFrame m #[(.long q0), (.long q1), (.long q2)] 22)) t := fun t k => castTop (ef_2 m q0 q1 q2) k
  refine OGo.start pre0 ?_
  show OGo p.tables e below _ (s₁.setTop (mkF m 0 #[.val (.long q0), .second, .val (.long q1), .second, .val (.long q2), .second, .unset, .unset, .unset, .unset, .unset, .unset, .unset, .unset, .unset, .unset, .unset, .unset, .unset, .unset, .unset, .unset] []))
  refine OGo.st (fun t k => XS.lloadN X0.here hx rfl (hb hby d2_0) rfl k) ?_
  show OGo p.tables e below _ (s₁.setTop (mkF m 1 #[.val (.long q0), .second, .val (.long q1), .second, .val (.long q2), .second, .unset, .unset, .unset, .unset, .unset, .unset, .unset, .unset, .unset, .unset, .unset, .unset, .unset, .unset, .unset, .unset] [(.long q0)]))
  refine OGo.st (fun t k => XS.bipush X0.here hx rfl (hb hby d2_1) k) ?_
  show OGo p.tables e below _ (s₁.setTop (mkF m 3 #[.val (.long q0), .second, .val (.long q1), .second, .val (.long q2), .second, .unset, .unset, .unset, .unset, .unset, .unset, .unset, .unset, .unset, .unset, .unset, .unset, .unset, .unset, .unset, .unset] [(.int (31 : Int32)), (.long q0)]))
  refine OGo.st (fun t k => XS.lushr X0.here hx rfl (hb hby d2_3) rfl k) ?_
  show OGo p.tables e below _ (s₁.setTop (mkF m 4 #[.val (.long q0), .second, .val (.long q1), .second, .val (.long q2), .second, .unset, .unset, .unset, .unset, .unset, .unset, .unset, .unset, .unset, .unset, .unset, .unset, .unset, .unset, .unset, .unset] [(.long ((q0.toUInt64 >>> ((31 : Int32) &&& 0x3f).toInt64.toUInt64).toInt64))]))
  refine OGo.st (fun t k => XS.lstore X0.here hx rfl (hb hby d2_4) rfl (l' := #[.val (.long q0), .second, .val (.long q1), .second, .val (.long q2), .second, .val (.long ((q0.toUInt64 >>> ((31 : Int32) &&& 0x3f).toInt64.toUInt64).toInt64)), .second, .unset, .unset, .unset, .unset, .unset, .unset, .unset, .unset, .unset, .unset, .unset, .unset, .unset, .unset]) rfl k) ?_
  show OGo p.tables e below _ (s₁.setTop (mkF m 6 #[.val (.long q0), .second, .val (.long q1), .second, .val (.long q2), .second, .val (.long ((q0.toUInt64 >>> ((31 : Int32) &&& 0x3f).toInt64.toUInt64).toInt64)), .second, .unset, .unset, .unset, .unset, .unset, .unset, .unset, .unset, .unset, .unset, .unset, .unset, .unset, .unset] []))
  refine OGo.st (fun t k => XS.lloadN X0.here hx rfl (hb hby d2_6) rfl k) ?_
  show OGo p.tables e below _ (s₁.setTop (mkF m 7 #[.val (.long q0), .second, .val (.long q1), .second, .val (.long q2), .second, .val (.long ((q0.toUInt64 >>> ((31 : Int32) &&& 0x3f).toInt64.toUInt64).toInt64)), .second, .unset, .unset, .unset, .unset, .unset, .unset, .unset, .unset, .unset, .unset, .unset, .unset, .unset, .unset] [(.long q0)]))
  refine OGo.st (fun t k => X0.ldc2Long hx hown (mvT hZ (hw _ (List.mem_of_getElem? (i := 32) rfl))) (g := (mkF m 7 #[.val (.long q0), .second, .val (.long q1), .second, .val (.long q2), .second, .val (.long ((q0.toUInt64 >>> ((31 : Int32) &&& 0x3f).toInt64.toUInt64).toInt64)), .second, .unset, .unset, .unset, .unset, .unset, .unset, .unset, .unset, .unset, .unset, .unset, .unset, .unset, .unset] [(.long q0)])) rfl (hb hby d2_7) _ k) ?_
  show OGo p.tables e below _ (s₁.setTop (mkF m 10 #[.val (.long q0), .second, .val (.long q1), .second, .val (.long q2), .second, .val (.long ((q0.toUInt64 >>> ((31 : Int32) &&& 0x3f).toInt64.toUInt64).toInt64)), .second, .unset, .unset, .unset, .unset, .unset, .unset, .unset, .unset, .unset, .unset, .unset, .unset, .unset, .unset] [(.long (2147483647 : Int64)), (.long q0)]))
  refine OGo.st (fun t k => XS.land X0.here hx rfl (hb hby d2_10) rfl k) ?_
  show OGo p.tables e below _ (s₁.setTop (mkF m 11 #[.val (.long q0), .second, .val (.long q1), .second, .val (.long q2), .second, .val (.long ((q0.toUInt64 >>> ((31 : Int32) &&& 0x3f).toInt64.toUInt64).toInt64)), .second, .unset, .unset, .unset, .unset, .unset, .unset, .unset, .unset, .unset, .unset, .unset, .unset, .unset, .unset] [(.long (q0 &&& (2147483647 : Int64)))]))
  refine OGo.st (fun t k => XS.lstore X0.here hx rfl (hb hby d2_11) rfl (l' := #[.val (.long q0), .second, .val (.long q1), .second, .val (.long q2), .second, .val (.long ((q0.toUInt64 >>> ((31 : Int32) &&& 0x3f).toInt64.toUInt64).toInt64)), .second, .val (.long (q0 &&& (2147483647 : Int64))), .second, .unset, .unset, .unset, .unset, .unset, .unset, .unset, .unset, .unset, .unset, .unset, .unset]) rfl k) ?_
  show OGo p.tables e below _ (s₁.setTop (mkF m 13 #[.val (.long q0), .second, .val (.long q1), .second, .val (.long q2), .second, .val (.long ((q0.toUInt64 >>> ((31 : Int32) &&& 0x3f).toInt64.toUInt64).toInt64)), .second, .val (.long (q0 &&& (2147483647 : Int64))), .second, .unset, .unset, .unset, .unset, .unset, .unset, .unset, .unset, .unset, .unset, .unset, .unset] []))
  refine OGo.st (fun t k => XS.lload X0.here hx rfl (hb hby d2_13) rfl k) ?_
  show OGo p.tables e below _ (s₁.setTop (mkF m 15 #[.val (.long q0), .second, .val (.long q1), .second, .val (.long q2), .second, .val (.long ((q0.toUInt64 >>> ((31 : Int32) &&& 0x3f).toInt64.toUInt64).toInt64)), .second, .val (.long (q0 &&& (2147483647 : Int64))), .second, .unset, .unset, .unset, .unset, .unset, .unset, .unset, .unset, .unset, .unset, .unset, .unset] [(.long ((q0.toUInt64 >>> ((31 : Int32) &&& 0x3f).toInt64.toUInt64).toInt64))]))
  refine OGo.st (fun t k => XS.lloadN X0.here hx rfl (hb hby d2_15) rfl k) ?_
  show OGo p.tables e below _ (s₁.setTop (mkF m 16 #[.val (.long q0), .second, .val (.long q1), .second, .val (.long q2), .second, .val (.long ((q0.toUInt64 >>> ((31 : Int32) &&& 0x3f).toInt64.toUInt64).toInt64)), .second, .val (.long (q0 &&& (2147483647 : Int64))), .second, .unset, .unset, .unset, .unset, .unset, .unset, .unset, .unset, .unset, .unset, .unset, .unset] [(.long q1), (.long ((q0.toUInt64 >>> ((31 : Int32) &&& 0x3f).toInt64.toUInt64).toInt64))]))
  refine OGo.st (fun t k => XS.lmul X0.here hx rfl (hb hby d2_16) rfl k) ?_
  show OGo p.tables e below _ (s₁.setTop (mkF m 17 #[.val (.long q0), .second, .val (.long q1), .second, .val (.long q2), .second, .val (.long ((q0.toUInt64 >>> ((31 : Int32) &&& 0x3f).toInt64.toUInt64).toInt64)), .second, .val (.long (q0 &&& (2147483647 : Int64))), .second, .unset, .unset, .unset, .unset, .unset, .unset, .unset, .unset, .unset, .unset, .unset, .unset] [(.long (((q0.toUInt64 >>> ((31 : Int32) &&& 0x3f).toInt64.toUInt64).toInt64) * q1))]))
  refine OGo.st (fun t k => XS.lstore X0.here hx rfl (hb hby d2_17) rfl (l' := #[.val (.long q0), .second, .val (.long q1), .second, .val (.long q2), .second, .val (.long ((q0.toUInt64 >>> ((31 : Int32) &&& 0x3f).toInt64.toUInt64).toInt64)), .second, .val (.long (q0 &&& (2147483647 : Int64))), .second, .val (.long (((q0.toUInt64 >>> ((31 : Int32) &&& 0x3f).toInt64.toUInt64).toInt64) * q1)), .second, .unset, .unset, .unset, .unset, .unset, .unset, .unset, .unset, .unset, .unset]) rfl k) ?_
  show OGo p.tables e below _ (s₁.setTop (mkF m 19 #[.val (.long q0), .second, .val (.long q1), .second, .val (.long q2), .second, .val (.long ((q0.toUInt64 >>> ((31 : Int32) &&& 0x3f).toInt64.toUInt64).toInt64)), .second, .val (.long (q0 &&& (2147483647 : Int64))), .second, .val (.long (((q0.toUInt64 >>> ((31 : Int32) &&& 0x3f).toInt64.toUInt64).toInt64) * q1)), .second, .unset, .unset, .unset, .unset, .unset, .unset, .unset, .unset, .unset, .unset] []))
  refine OGo.st (fun t k => XS.lload X0.here hx rfl (hb hby d2_19) rfl k) ?_
  show OGo p.tables e below _ (s₁.setTop (mkF m 21 #[.val (.long q0), .second, .val (.long q1), .second, .val (.long q2), .second, .val (.long ((q0.toUInt64 >>> ((31 : Int32) &&& 0x3f).toInt64.toUInt64).toInt64)), .second, .val (.long (q0 &&& (2147483647 : Int64))), .second, .val (.long (((q0.toUInt64 >>> ((31 : Int32) &&& 0x3f).toInt64.toUInt64).toInt64) * q1)), .second, .unset, .unset, .unset, .unset, .unset, .unset, .unset, .unset, .unset, .unset] [(.long (q0 &&& (2147483647 : Int64)))]))
  refine OGo.st (fun t k => XS.lloadN X0.here hx rfl (hb hby d2_21) rfl k) ?_
  show OGo p.tables e below _ (s₁.setTop (mkF m 22 #[.val (.long q0), .second, .val (.long q1), .second, .val (.long q2), .second, .val (.long ((q0.toUInt64 >>> ((31 : Int32) &&& 0x3f).toInt64.toUInt64).toInt64)), .second, .val (.long (q0 &&& (2147483647 : Int64))), .second, .val (.long (((q0.toUInt64 >>> ((31 : Int32) &&& 0x3f).toInt64.toUInt64).toInt64) * q1)), .second, .unset, .unset, .unset, .unset, .unset, .unset, .unset, .unset, .unset, .unset] [(.long q1), (.long (q0 &&& (2147483647 : Int64)))]))
  refine OGo.st (fun t k => XS.lmul X0.here hx rfl (hb hby d2_22) rfl k) ?_
  show OGo p.tables e below _ (s₁.setTop (mkF m 23 #[.val (.long q0), .second, .val (.long q1), .second, .val (.long q2), .second, .val (.long ((q0.toUInt64 >>> ((31 : Int32) &&& 0x3f).toInt64.toUInt64).toInt64)), .second, .val (.long (q0 &&& (2147483647 : Int64))), .second, .val (.long (((q0.toUInt64 >>> ((31 : Int32) &&& 0x3f).toInt64.toUInt64).toInt64) * q1)), .second, .unset, .unset, .unset, .unset, .unset, .unset, .unset, .unset, .unset, .unset] [(.long ((q0 &&& (2147483647 : Int64)) * q1))]))
  refine OGo.st (fun t k => XS.lstore X0.here hx rfl (hb hby d2_23) rfl (l' := #[.val (.long q0), .second, .val (.long q1), .second, .val (.long q2), .second, .val (.long ((q0.toUInt64 >>> ((31 : Int32) &&& 0x3f).toInt64.toUInt64).toInt64)), .second, .val (.long (q0 &&& (2147483647 : Int64))), .second, .val (.long (((q0.toUInt64 >>> ((31 : Int32) &&& 0x3f).toInt64.toUInt64).toInt64) * q1)), .second, .val (.long ((q0 &&& (2147483647 : Int64)) * q1)), .second, .unset, .unset, .unset, .unset, .unset, .unset, .unset, .unset]) rfl k) ?_
  show OGo p.tables e below _ (s₁.setTop (mkF m 25 #[.val (.long q0), .second, .val (.long q1), .second, .val (.long q2), .second, .val (.long ((q0.toUInt64 >>> ((31 : Int32) &&& 0x3f).toInt64.toUInt64).toInt64)), .second, .val (.long (q0 &&& (2147483647 : Int64))), .second, .val (.long (((q0.toUInt64 >>> ((31 : Int32) &&& 0x3f).toInt64.toUInt64).toInt64) * q1)), .second, .val (.long ((q0 &&& (2147483647 : Int64)) * q1)), .second, .unset, .unset, .unset, .unset, .unset, .unset, .unset, .unset] []))
  refine OGo.st (fun t k => XS.lload X0.here hx rfl (hb hby d2_25) rfl k) ?_
  show OGo p.tables e below _ (s₁.setTop (mkF m 27 #[.val (.long q0), .second, .val (.long q1), .second, .val (.long q2), .second, .val (.long ((q0.toUInt64 >>> ((31 : Int32) &&& 0x3f).toInt64.toUInt64).toInt64)), .second, .val (.long (q0 &&& (2147483647 : Int64))), .second, .val (.long (((q0.toUInt64 >>> ((31 : Int32) &&& 0x3f).toInt64.toUInt64).toInt64) * q1)), .second, .val (.long ((q0 &&& (2147483647 : Int64)) * q1)), .second, .unset, .unset, .unset, .unset, .unset, .unset, .unset, .unset] [(.long (((q0.toUInt64 >>> ((31 : Int32) &&& 0x3f).toInt64.toUInt64).toInt64) * q1))]))
  refine OGo.st (fun t k => XS.lload X0.here hx rfl (hb hby d2_27) rfl k) ?_
  show OGo p.tables e below _ (s₁.setTop (mkF m 29 #[.val (.long q0), .second, .val (.long q1), .second, .val (.long q2), .second, .val (.long ((q0.toUInt64 >>> ((31 : Int32) &&& 0x3f).toInt64.toUInt64).toInt64)), .second, .val (.long (q0 &&& (2147483647 : Int64))), .second, .val (.long (((q0.toUInt64 >>> ((31 : Int32) &&& 0x3f).toInt64.toUInt64).toInt64) * q1)), .second, .val (.long ((q0 &&& (2147483647 : Int64)) * q1)), .second, .unset, .unset, .unset, .unset, .unset, .unset, .unset, .unset] [(.long ((q0 &&& (2147483647 : Int64)) * q1)), (.long (((q0.toUInt64 >>> ((31 : Int32) &&& 0x3f).toInt64.toUInt64).toInt64) * q1))]))
  refine OGo.st (fun t k => XS.bipush X0.here hx rfl (hb hby d2_29) k) ?_
  show OGo p.tables e below _ (s₁.setTop (mkF m 31 #[.val (.long q0), .second, .val (.long q1), .second, .val (.long q2), .second, .val (.long ((q0.toUInt64 >>> ((31 : Int32) &&& 0x3f).toInt64.toUInt64).toInt64)), .second, .val (.long (q0 &&& (2147483647 : Int64))), .second, .val (.long (((q0.toUInt64 >>> ((31 : Int32) &&& 0x3f).toInt64.toUInt64).toInt64) * q1)), .second, .val (.long ((q0 &&& (2147483647 : Int64)) * q1)), .second, .unset, .unset, .unset, .unset, .unset, .unset, .unset, .unset] [(.int (31 : Int32)), (.long ((q0 &&& (2147483647 : Int64)) * q1)), (.long (((q0.toUInt64 >>> ((31 : Int32) &&& 0x3f).toInt64.toUInt64).toInt64) * q1))]))
  refine OGo.st (fun t k => XS.lushr X0.here hx rfl (hb hby d2_31) rfl k) ?_
  show OGo p.tables e below _ (s₁.setTop (mkF m 32 #[.val (.long q0), .second, .val (.long q1), .second, .val (.long q2), .second, .val (.long ((q0.toUInt64 >>> ((31 : Int32) &&& 0x3f).toInt64.toUInt64).toInt64)), .second, .val (.long (q0 &&& (2147483647 : Int64))), .second, .val (.long (((q0.toUInt64 >>> ((31 : Int32) &&& 0x3f).toInt64.toUInt64).toInt64) * q1)), .second, .val (.long ((q0 &&& (2147483647 : Int64)) * q1)), .second, .unset, .unset, .unset, .unset, .unset, .unset, .unset, .unset] [(.long ((((q0 &&& (2147483647 : Int64)) * q1).toUInt64 >>> ((31 : Int32) &&& 0x3f).toInt64.toUInt64).toInt64)), (.long (((q0.toUInt64 >>> ((31 : Int32) &&& 0x3f).toInt64.toUInt64).toInt64) * q1))]))
  refine OGo.st (fun t k => XS.ladd X0.here hx rfl (hb hby d2_32) rfl k) ?_
  show OGo p.tables e below _ (s₁.setTop (mkF m 33 #[.val (.long q0), .second, .val (.long q1), .second, .val (.long q2), .second, .val (.long ((q0.toUInt64 >>> ((31 : Int32) &&& 0x3f).toInt64.toUInt64).toInt64)), .second, .val (.long (q0 &&& (2147483647 : Int64))), .second, .val (.long (((q0.toUInt64 >>> ((31 : Int32) &&& 0x3f).toInt64.toUInt64).toInt64) * q1)), .second, .val (.long ((q0 &&& (2147483647 : Int64)) * q1)), .second, .unset, .unset, .unset, .unset, .unset, .unset, .unset, .unset] [(.long ((((q0.toUInt64 >>> ((31 : Int32) &&& 0x3f).toInt64.toUInt64).toInt64) * q1) + ((((q0 &&& (2147483647 : Int64)) * q1).toUInt64 >>> ((31 : Int32) &&& 0x3f).toInt64.toUInt64).toInt64)))]))
  refine OGo.st (fun t k => XS.lstore X0.here hx rfl (hb hby d2_33) rfl (l' := #[.val (.long q0), .second, .val (.long q1), .second, .val (.long q2), .second, .val (.long ((q0.toUInt64 >>> ((31 : Int32) &&& 0x3f).toInt64.toUInt64).toInt64)), .second, .val (.long (q0 &&& (2147483647 : Int64))), .second, .val (.long (((q0.toUInt64 >>> ((31 : Int32) &&& 0x3f).toInt64.toUInt64).toInt64) * q1)), .second, .val (.long ((q0 &&& (2147483647 : Int64)) * q1)), .second, .val (.long ((((q0.toUInt64 >>> ((31 : Int32) &&& 0x3f).toInt64.toUInt64).toInt64) * q1) + ((((q0 &&& (2147483647 : Int64)) * q1).toUInt64 >>> ((31 : Int32) &&& 0x3f).toInt64.toUInt64).toInt64))), .second, .unset, .unset, .unset, .unset, .unset, .unset]) rfl k) ?_
  show OGo p.tables e below _ (s₁.setTop (mkF m 35 #[.val (.long q0), .second, .val (.long q1), .second, .val (.long q2), .second, .val (.long ((q0.toUInt64 >>> ((31 : Int32) &&& 0x3f).toInt64.toUInt64).toInt64)), .second, .val (.long (q0 &&& (2147483647 : Int64))), .second, .val (.long (((q0.toUInt64 >>> ((31 : Int32) &&& 0x3f).toInt64.toUInt64).toInt64) * q1)), .second, .val (.long ((q0 &&& (2147483647 : Int64)) * q1)), .second, .val (.long ((((q0.toUInt64 >>> ((31 : Int32) &&& 0x3f).toInt64.toUInt64).toInt64) * q1) + ((((q0 &&& (2147483647 : Int64)) * q1).toUInt64 >>> ((31 : Int32) &&& 0x3f).toInt64.toUInt64).toInt64))), .second, .unset, .unset, .unset, .unset, .unset, .unset] []))
  refine OGo.st (fun t k => XS.lload X0.here hx rfl (hb hby d2_35) rfl k) ?_
  show OGo p.tables e below _ (s₁.setTop (mkF m 37 #[.val (.long q0), .second, .val (.long q1), .second, .val (.long q2), .second, .val (.long ((q0.toUInt64 >>> ((31 : Int32) &&& 0x3f).toInt64.toUInt64).toInt64)), .second, .val (.long (q0 &&& (2147483647 : Int64))), .second, .val (.long (((q0.toUInt64 >>> ((31 : Int32) &&& 0x3f).toInt64.toUInt64).toInt64) * q1)), .second, .val (.long ((q0 &&& (2147483647 : Int64)) * q1)), .second, .val (.long ((((q0.toUInt64 >>> ((31 : Int32) &&& 0x3f).toInt64.toUInt64).toInt64) * q1) + ((((q0 &&& (2147483647 : Int64)) * q1).toUInt64 >>> ((31 : Int32) &&& 0x3f).toInt64.toUInt64).toInt64))), .second, .unset, .unset, .unset, .unset, .unset, .unset] [(.long ((q0 &&& (2147483647 : Int64)) * q1))]))
  refine OGo.st (fun t k => X0.ldc2Long hx hown (mvT hZ (hw _ (List.mem_of_getElem? (i := 32) rfl))) (g := (mkF m 37 #[.val (.long q0), .second, .val (.long q1), .second, .val (.long q2), .second, .val (.long ((q0.toUInt64 >>> ((31 : Int32) &&& 0x3f).toInt64.toUInt64).toInt64)), .second, .val (.long (q0 &&& (2147483647 : Int64))), .second, .val (.long (((q0.toUInt64 >>> ((31 : Int32) &&& 0x3f).toInt64.toUInt64).toInt64) * q1)), .second, .val (.long ((q0 &&& (2147483647 : Int64)) * q1)), .second, .val (.long ((((q0.toUInt64 >>> ((31 : Int32) &&& 0x3f).toInt64.toUInt64).toInt64) * q1) + ((((q0 &&& (2147483647 : Int64)) * q1).toUInt64 >>> ((31 : Int32) &&& 0x3f).toInt64.toUInt64).toInt64))), .second, .unset, .unset, .unset, .unset, .unset, .unset] [(.long ((q0 &&& (2147483647 : Int64)) * q1))])) rfl (hb hby d2_37) _ k) ?_
  show OGo p.tables e below _ (s₁.setTop (mkF m 40 #[.val (.long q0), .second, .val (.long q1), .second, .val (.long q2), .second, .val (.long ((q0.toUInt64 >>> ((31 : Int32) &&& 0x3f).toInt64.toUInt64).toInt64)), .second, .val (.long (q0 &&& (2147483647 : Int64))), .second, .val (.long (((q0.toUInt64 >>> ((31 : Int32) &&& 0x3f).toInt64.toUInt64).toInt64) * q1)), .second, .val (.long ((q0 &&& (2147483647 : Int64)) * q1)), .second, .val (.long ((((q0.toUInt64 >>> ((31 : Int32) &&& 0x3f).toInt64.toUInt64).toInt64) * q1) + ((((q0 &&& (2147483647 : Int64)) * q1).toUInt64 >>> ((31 : Int32) &&& 0x3f).toInt64.toUInt64).toInt64))), .second, .unset, .unset, .unset, .unset, .unset, .unset] [(.long (2147483647 : Int64)), (.long ((q0 &&& (2147483647 : Int64)) * q1))]))
  refine OGo.st (fun t k => XS.land X0.here hx rfl (hb hby d2_40) rfl k) ?_
  show OGo p.tables e below _ (s₁.setTop (mkF m 41 #[.val (.long q0), .second, .val (.long q1), .second, .val (.long q2), .second, .val (.long ((q0.toUInt64 >>> ((31 : Int32) &&& 0x3f).toInt64.toUInt64).toInt64)), .second, .val (.long (q0 &&& (2147483647 : Int64))), .second, .val (.long (((q0.toUInt64 >>> ((31 : Int32) &&& 0x3f).toInt64.toUInt64).toInt64) * q1)), .second, .val (.long ((q0 &&& (2147483647 : Int64)) * q1)), .second, .val (.long ((((q0.toUInt64 >>> ((31 : Int32) &&& 0x3f).toInt64.toUInt64).toInt64) * q1) + ((((q0 &&& (2147483647 : Int64)) * q1).toUInt64 >>> ((31 : Int32) &&& 0x3f).toInt64.toUInt64).toInt64))), .second, .unset, .unset, .unset, .unset, .unset, .unset] [(.long (((q0 &&& (2147483647 : Int64)) * q1) &&& (2147483647 : Int64)))]))
  refine OGo.st (fun t k => XS.lstore X0.here hx rfl (hb hby d2_41) rfl (l' := #[.val (.long q0), .second, .val (.long q1), .second, .val (.long q2), .second, .val (.long ((q0.toUInt64 >>> ((31 : Int32) &&& 0x3f).toInt64.toUInt64).toInt64)), .second, .val (.long (q0 &&& (2147483647 : Int64))), .second, .val (.long (((q0.toUInt64 >>> ((31 : Int32) &&& 0x3f).toInt64.toUInt64).toInt64) * q1)), .second, .val (.long ((q0 &&& (2147483647 : Int64)) * q1)), .second, .val (.long ((((q0.toUInt64 >>> ((31 : Int32) &&& 0x3f).toInt64.toUInt64).toInt64) * q1) + ((((q0 &&& (2147483647 : Int64)) * q1).toUInt64 >>> ((31 : Int32) &&& 0x3f).toInt64.toUInt64).toInt64))), .second, .val (.long (((q0 &&& (2147483647 : Int64)) * q1) &&& (2147483647 : Int64))), .second, .unset, .unset, .unset, .unset]) rfl k) ?_
  show OGo p.tables e below _ (s₁.setTop (mkF m 43 #[.val (.long q0), .second, .val (.long q1), .second, .val (.long q2), .second, .val (.long ((q0.toUInt64 >>> ((31 : Int32) &&& 0x3f).toInt64.toUInt64).toInt64)), .second, .val (.long (q0 &&& (2147483647 : Int64))), .second, .val (.long (((q0.toUInt64 >>> ((31 : Int32) &&& 0x3f).toInt64.toUInt64).toInt64) * q1)), .second, .val (.long ((q0 &&& (2147483647 : Int64)) * q1)), .second, .val (.long ((((q0.toUInt64 >>> ((31 : Int32) &&& 0x3f).toInt64.toUInt64).toInt64) * q1) + ((((q0 &&& (2147483647 : Int64)) * q1).toUInt64 >>> ((31 : Int32) &&& 0x3f).toInt64.toUInt64).toInt64))), .second, .val (.long (((q0 &&& (2147483647 : Int64)) * q1) &&& (2147483647 : Int64))), .second, .unset, .unset, .unset, .unset] []))
  refine OGo.st (fun t k => XS.lload X0.here hx rfl (hb hby d2_43) rfl k) ?_
  show OGo p.tables e below _ (s₁.setTop (mkF m 45 #[.val (.long q0), .second, .val (.long q1), .second, .val (.long q2), .second, .val (.long ((q0.toUInt64 >>> ((31 : Int32) &&& 0x3f).toInt64.toUInt64).toInt64)), .second, .val (.long (q0 &&& (2147483647 : Int64))), .second, .val (.long (((q0.toUInt64 >>> ((31 : Int32) &&& 0x3f).toInt64.toUInt64).toInt64) * q1)), .second, .val (.long ((q0 &&& (2147483647 : Int64)) * q1)), .second, .val (.long ((((q0.toUInt64 >>> ((31 : Int32) &&& 0x3f).toInt64.toUInt64).toInt64) * q1) + ((((q0 &&& (2147483647 : Int64)) * q1).toUInt64 >>> ((31 : Int32) &&& 0x3f).toInt64.toUInt64).toInt64))), .second, .val (.long (((q0 &&& (2147483647 : Int64)) * q1) &&& (2147483647 : Int64))), .second, .unset, .unset, .unset, .unset] [(.long q2)]))
  refine OGo.st (fun t k => XS.bipush X0.here hx rfl (hb hby d2_45) k) ?_
  show OGo p.tables e below _ (s₁.setTop (mkF m 47 #[.val (.long q0), .second, .val (.long q1), .second, .val (.long q2), .second, .val (.long ((q0.toUInt64 >>> ((31 : Int32) &&& 0x3f).toInt64.toUInt64).toInt64)), .second, .val (.long (q0 &&& (2147483647 : Int64))), .second, .val (.long (((q0.toUInt64 >>> ((31 : Int32) &&& 0x3f).toInt64.toUInt64).toInt64) * q1)), .second, .val (.long ((q0 &&& (2147483647 : Int64)) * q1)), .second, .val (.long ((((q0.toUInt64 >>> ((31 : Int32) &&& 0x3f).toInt64.toUInt64).toInt64) * q1) + ((((q0 &&& (2147483647 : Int64)) * q1).toUInt64 >>> ((31 : Int32) &&& 0x3f).toInt64.toUInt64).toInt64))), .second, .val (.long (((q0 &&& (2147483647 : Int64)) * q1) &&& (2147483647 : Int64))), .second, .unset, .unset, .unset, .unset] [(.int (31 : Int32)), (.long q2)]))
  refine OGo.st (fun t k => XS.lushr X0.here hx rfl (hb hby d2_47) rfl k) ?_
  show OGo p.tables e below _ (s₁.setTop (mkF m 48 #[.val (.long q0), .second, .val (.long q1), .second, .val (.long q2), .second, .val (.long ((q0.toUInt64 >>> ((31 : Int32) &&& 0x3f).toInt64.toUInt64).toInt64)), .second, .val (.long (q0 &&& (2147483647 : Int64))), .second, .val (.long (((q0.toUInt64 >>> ((31 : Int32) &&& 0x3f).toInt64.toUInt64).toInt64) * q1)), .second, .val (.long ((q0 &&& (2147483647 : Int64)) * q1)), .second, .val (.long ((((q0.toUInt64 >>> ((31 : Int32) &&& 0x3f).toInt64.toUInt64).toInt64) * q1) + ((((q0 &&& (2147483647 : Int64)) * q1).toUInt64 >>> ((31 : Int32) &&& 0x3f).toInt64.toUInt64).toInt64))), .second, .val (.long (((q0 &&& (2147483647 : Int64)) * q1) &&& (2147483647 : Int64))), .second, .unset, .unset, .unset, .unset] [(.long ((q2.toUInt64 >>> ((31 : Int32) &&& 0x3f).toInt64.toUInt64).toInt64))]))
  refine OGo.st (fun t k => XS.lstore X0.here hx rfl (hb hby d2_48) rfl (l' := #[.val (.long q0), .second, .val (.long q1), .second, .val (.long q2), .second, .val (.long ((q0.toUInt64 >>> ((31 : Int32) &&& 0x3f).toInt64.toUInt64).toInt64)), .second, .val (.long (q0 &&& (2147483647 : Int64))), .second, .val (.long (((q0.toUInt64 >>> ((31 : Int32) &&& 0x3f).toInt64.toUInt64).toInt64) * q1)), .second, .val (.long ((q0 &&& (2147483647 : Int64)) * q1)), .second, .val (.long ((((q0.toUInt64 >>> ((31 : Int32) &&& 0x3f).toInt64.toUInt64).toInt64) * q1) + ((((q0 &&& (2147483647 : Int64)) * q1).toUInt64 >>> ((31 : Int32) &&& 0x3f).toInt64.toUInt64).toInt64))), .second, .val (.long (((q0 &&& (2147483647 : Int64)) * q1) &&& (2147483647 : Int64))), .second, .val (.long ((q2.toUInt64 >>> ((31 : Int32) &&& 0x3f).toInt64.toUInt64).toInt64)), .second, .unset, .unset]) rfl k) ?_
  show OGo p.tables e below _ (s₁.setTop (mkF m 50 #[.val (.long q0), .second, .val (.long q1), .second, .val (.long q2), .second, .val (.long ((q0.toUInt64 >>> ((31 : Int32) &&& 0x3f).toInt64.toUInt64).toInt64)), .second, .val (.long (q0 &&& (2147483647 : Int64))), .second, .val (.long (((q0.toUInt64 >>> ((31 : Int32) &&& 0x3f).toInt64.toUInt64).toInt64) * q1)), .second, .val (.long ((q0 &&& (2147483647 : Int64)) * q1)), .second, .val (.long ((((q0.toUInt64 >>> ((31 : Int32) &&& 0x3f).toInt64.toUInt64).toInt64) * q1) + ((((q0 &&& (2147483647 : Int64)) * q1).toUInt64 >>> ((31 : Int32) &&& 0x3f).toInt64.toUInt64).toInt64))), .second, .val (.long (((q0 &&& (2147483647 : Int64)) * q1) &&& (2147483647 : Int64))), .second, .val (.long ((q2.toUInt64 >>> ((31 : Int32) &&& 0x3f).toInt64.toUInt64).toInt64)), .second, .unset, .unset] []))
  refine OGo.st (fun t k => XS.lload X0.here hx rfl (hb hby d2_50) rfl k) ?_
  show OGo p.tables e below _ (s₁.setTop (mkF m 52 #[.val (.long q0), .second, .val (.long q1), .second, .val (.long q2), .second, .val (.long ((q0.toUInt64 >>> ((31 : Int32) &&& 0x3f).toInt64.toUInt64).toInt64)), .second, .val (.long (q0 &&& (2147483647 : Int64))), .second, .val (.long (((q0.toUInt64 >>> ((31 : Int32) &&& 0x3f).toInt64.toUInt64).toInt64) * q1)), .second, .val (.long ((q0 &&& (2147483647 : Int64)) * q1)), .second, .val (.long ((((q0.toUInt64 >>> ((31 : Int32) &&& 0x3f).toInt64.toUInt64).toInt64) * q1) + ((((q0 &&& (2147483647 : Int64)) * q1).toUInt64 >>> ((31 : Int32) &&& 0x3f).toInt64.toUInt64).toInt64))), .second, .val (.long (((q0 &&& (2147483647 : Int64)) * q1) &&& (2147483647 : Int64))), .second, .val (.long ((q2.toUInt64 >>> ((31 : Int32) &&& 0x3f).toInt64.toUInt64).toInt64)), .second, .unset, .unset] [(.long q2)]))
  refine OGo.st (fun t k => X0.ldc2Long hx hown (mvT hZ (hw _ (List.mem_of_getElem? (i := 32) rfl))) (g := (mkF m 52 #[.val (.long q0), .second, .val (.long q1), .second, .val (.long q2), .second, .val (.long ((q0.toUInt64 >>> ((31 : Int32) &&& 0x3f).toInt64.toUInt64).toInt64)), .second, .val (.long (q0 &&& (2147483647 : Int64))), .second, .val (.long (((q0.toUInt64 >>> ((31 : Int32) &&& 0x3f).toInt64.toUInt64).toInt64) * q1)), .second, .val (.long ((q0 &&& (2147483647 : Int64)) * q1)), .second, .val (.long ((((q0.toUInt64 >>> ((31 : Int32) &&& 0x3f).toInt64.toUInt64).toInt64) * q1) + ((((q0 &&& (2147483647 : Int64)) * q1).toUInt64 >>> ((31 : Int32) &&& 0x3f).toInt64.toUInt64).toInt64))), .second, .val (.long (((q0 &&& (2147483647 : Int64)) * q1) &&& (2147483647 : Int64))), .second, .val (.long ((q2.toUInt64 >>> ((31 : Int32) &&& 0x3f).toInt64.toUInt64).toInt64)), .second, .unset, .unset] [(.long q2)])) rfl (hb hby d2_52) _ k) ?_
  show OGo p.tables e below _ (s₁.setTop (mkF m 55 #[.val (.long q0), .second, .val (.long q1), .second, .val (.long q2), .second, .val (.long ((q0.toUInt64 >>> ((31 : Int32) &&& 0x3f).toInt64.toUInt64).toInt64)), .second, .val (.long (q0 &&& (2147483647 : Int64))), .second, .val (.long (((q0.toUInt64 >>> ((31 : Int32) &&& 0x3f).toInt64.toUInt64).toInt64) * q1)), .second, .val (.long ((q0 &&& (2147483647 : Int64)) * q1)), .second, .val (.long ((((q0.toUInt64 >>> ((31 : Int32) &&& 0x3f).toInt64.toUInt64).toInt64) * q1) + ((((q0 &&& (2147483647 : Int64)) * q1).toUInt64 >>> ((31 : Int32) &&& 0x3f).toInt64.toUInt64).toInt64))), .second, .val (.long (((q0 &&& (2147483647 : Int64)) * q1) &&& (2147483647 : Int64))), .second, .val (.long ((q2.toUInt64 >>> ((31 : Int32) &&& 0x3f).toInt64.toUInt64).toInt64)), .second, .unset, .unset] [(.long (2147483647 : Int64)), (.long q2)]))
  refine OGo.st (fun t k => XS.land X0.here hx rfl (hb hby d2_55) rfl k) ?_
  show OGo p.tables e below _ (s₁.setTop (mkF m 56 #[.val (.long q0), .second, .val (.long q1), .second, .val (.long q2), .second, .val (.long ((q0.toUInt64 >>> ((31 : Int32) &&& 0x3f).toInt64.toUInt64).toInt64)), .second, .val (.long (q0 &&& (2147483647 : Int64))), .second, .val (.long (((q0.toUInt64 >>> ((31 : Int32) &&& 0x3f).toInt64.toUInt64).toInt64) * q1)), .second, .val (.long ((q0 &&& (2147483647 : Int64)) * q1)), .second, .val (.long ((((q0.toUInt64 >>> ((31 : Int32) &&& 0x3f).toInt64.toUInt64).toInt64) * q1) + ((((q0 &&& (2147483647 : Int64)) * q1).toUInt64 >>> ((31 : Int32) &&& 0x3f).toInt64.toUInt64).toInt64))), .second, .val (.long (((q0 &&& (2147483647 : Int64)) * q1) &&& (2147483647 : Int64))), .second, .val (.long ((q2.toUInt64 >>> ((31 : Int32) &&& 0x3f).toInt64.toUInt64).toInt64)), .second, .unset, .unset] [(.long (q2 &&& (2147483647 : Int64)))]))
  refine OGo.st (fun t k => XS.lstore X0.here hx rfl (hb hby d2_56) rfl (l' := #[.val (.long q0), .second, .val (.long q1), .second, .val (.long q2), .second, .val (.long ((q0.toUInt64 >>> ((31 : Int32) &&& 0x3f).toInt64.toUInt64).toInt64)), .second, .val (.long (q0 &&& (2147483647 : Int64))), .second, .val (.long (((q0.toUInt64 >>> ((31 : Int32) &&& 0x3f).toInt64.toUInt64).toInt64) * q1)), .second, .val (.long ((q0 &&& (2147483647 : Int64)) * q1)), .second, .val (.long ((((q0.toUInt64 >>> ((31 : Int32) &&& 0x3f).toInt64.toUInt64).toInt64) * q1) + ((((q0 &&& (2147483647 : Int64)) * q1).toUInt64 >>> ((31 : Int32) &&& 0x3f).toInt64.toUInt64).toInt64))), .second, .val (.long (((q0 &&& (2147483647 : Int64)) * q1) &&& (2147483647 : Int64))), .second, .val (.long ((q2.toUInt64 >>> ((31 : Int32) &&& 0x3f).toInt64.toUInt64).toInt64)), .second, .val (.long (q2 &&& (2147483647 : Int64))), .second]) rfl k) ?_
  show OGo p.tables e below _ (s₁.setTop (mkF m 58 #[.val (.long q0), .second, .val (.long q1), .second, .val (.long q2), .second, .val (.long ((q0.toUInt64 >>> ((31 : Int32) &&& 0x3f).toInt64.toUInt64).toInt64)), .second, .val (.long (q0 &&& (2147483647 : Int64))), .second, .val (.long (((q0.toUInt64 >>> ((31 : Int32) &&& 0x3f).toInt64.toUInt64).toInt64) * q1)), .second, .val (.long ((q0 &&& (2147483647 : Int64)) * q1)), .second, .val (.long ((((q0.toUInt64 >>> ((31 : Int32) &&& 0x3f).toInt64.toUInt64).toInt64) * q1) + ((((q0 &&& (2147483647 : Int64)) * q1).toUInt64 >>> ((31 : Int32) &&& 0x3f).toInt64.toUInt64).toInt64))), .second, .val (.long (((q0 &&& (2147483647 : Int64)) * q1) &&& (2147483647 : Int64))), .second, .val (.long ((q2.toUInt64 >>> ((31 : Int32) &&& 0x3f).toInt64.toUInt64).toInt64)), .second, .val (.long (q2 &&& (2147483647 : Int64))), .second] []))
  show OGo p.tables e below _ (s₁.setTop (mkF m 58 #[.val (.long q0), .second, .val (.long q1), .second, .val (.long q2), .second, .val (.long ((q0.toUInt64 >>> ((31 : Int32) &&& 0x3f).toInt64.toUInt64).toInt64)), .second, .val (.long (q0 &&& (2147483647 : Int64))), .second, .val (.long (((q0.toUInt64 >>> ((31 : Int32) &&& 0x3f).toInt64.toUInt64).toInt64) * q1)), .second, .val (.long ((q0 &&& (2147483647 : Int64)) * q1)), .second, .val (.long (own_high q0 q1)), .second, .val (.long (own_low q0 q1)), .second, .val (.long (own_sh31 q2)), .second, .val (.long (own_lo31 q2)), .second] []))
  refine OGo.st (fun t k => XS.lload X0.here hx rfl (hb hby d2_58) rfl k) ?_
  show OGo p.tables e below _ (s₁.setTop (mkF m 60 #[.val (.long q0), .second, .val (.long q1), .second, .val (.long q2), .second, .val (.long ((q0.toUInt64 >>> ((31 : Int32) &&& 0x3f).toInt64.toUInt64).toInt64)), .second, .val (.long (q0 &&& (2147483647 : Int64))), .second, .val (.long (((q0.toUInt64 >>> ((31 : Int32) &&& 0x3f).toInt64.toUInt64).toInt64) * q1)), .second, .val (.long ((q0 &&& (2147483647 : Int64)) * q1)), .second, .val (.long (own_high q0 q1)), .second, .val (.long (own_low q0 q1)), .second, .val (.long (own_sh31 q2)), .second, .val (.long (own_lo31 q2)), .second] [(.long (own_high q0 q1))]))
  refine OGo.st (fun t k => XS.lload X0.here hx rfl (hb hby d2_60) rfl k) ?_
  show OGo p.tables e below _ (s₁.setTop (mkF m 62 #[.val (.long q0), .second, .val (.long q1), .second, .val (.long q2), .second, .val (.long ((q0.toUInt64 >>> ((31 : Int32) &&& 0x3f).toInt64.toUInt64).toInt64)), .second, .val (.long (q0 &&& (2147483647 : Int64))), .second, .val (.long (((q0.toUInt64 >>> ((31 : Int32) &&& 0x3f).toInt64.toUInt64).toInt64) * q1)), .second, .val (.long ((q0 &&& (2147483647 : Int64)) * q1)), .second, .val (.long (own_high q0 q1)), .second, .val (.long (own_low q0 q1)), .second, .val (.long (own_sh31 q2)), .second, .val (.long (own_lo31 q2)), .second] [(.long (own_sh31 q2)), (.long (own_high q0 q1))]))
  refine OGo.st (fun t k => XS.lcmp X0.here hx rfl (hb hby d2_62) rfl k) ?_
  show OGo p.tables e below _ (s₁.setTop (mkF m 63 #[.val (.long q0), .second, .val (.long q1), .second, .val (.long q2), .second, .val (.long ((q0.toUInt64 >>> ((31 : Int32) &&& 0x3f).toInt64.toUInt64).toInt64)), .second, .val (.long (q0 &&& (2147483647 : Int64))), .second, .val (.long (((q0.toUInt64 >>> ((31 : Int32) &&& 0x3f).toInt64.toUInt64).toInt64) * q1)), .second, .val (.long ((q0 &&& (2147483647 : Int64)) * q1)), .second, .val (.long (own_high q0 q1)), .second, .val (.long (own_low q0 q1)), .second, .val (.long (own_sh31 q2)), .second, .val (.long (own_lo31 q2)), .second] [(.int (lcmpW (own_high q0 q1) (own_sh31 q2)))]))
  by_cases hc63_101 : (lcmpW (own_high q0 q1) (own_sh31 q2)) < (0 : Int32)
  ·
    refine OGo.st (fun t k => XS.ifYes X0.here hx rfl (pc0 := 63) (pc' := 82) rfl (hb hby d2_63) rfl ((if0 _ _).trans (tlt hc63_101).1) (by decide) (by decide) k) ?_
    show OGo p.tables e below _ (s₁.setTop (mkF m 82 #[.val (.long q0), .second, .val (.long q1), .second, .val (.long q2), .second, .val (.long ((q0.toUInt64 >>> ((31 : Int32) &&& 0x3f).toInt64.toUInt64).toInt64)), .second, .val (.long (q0 &&& (2147483647 : Int64))), .second, .val (.long (((q0.toUInt64 >>> ((31 : Int32) &&& 0x3f).toInt64.toUInt64).toInt64) * q1)), .second, .val (.long ((q0 &&& (2147483647 : Int64)) * q1)), .second, .val (.long (own_high q0 q1)), .second, .val (.long (own_low q0 q1)), .second, .val (.long (own_sh31 q2)), .second, .val (.long (own_lo31 q2)), .second] []))
    refine OGo.st (fun t k => XS.iconst X0.here hx rfl (hb hby d2_82) k) ?_
    show OGo p.tables e below _ (s₁.setTop (mkF m 83 #[.val (.long q0), .second, .val (.long q1), .second, .val (.long q2), .second, .val (.long ((q0.toUInt64 >>> ((31 : Int32) &&& 0x3f).toInt64.toUInt64).toInt64)), .second, .val (.long (q0 &&& (2147483647 : Int64))), .second, .val (.long (((q0.toUInt64 >>> ((31 : Int32) &&& 0x3f).toInt64.toUInt64).toInt64) * q1)), .second, .val (.long ((q0 &&& (2147483647 : Int64)) * q1)), .second, .val (.long (own_high q0 q1)), .second, .val (.long (own_low q0 q1)), .second, .val (.long (own_sh31 q2)), .second, .val (.long (own_lo31 q2)), .second] [(.int (1 : Int32))]))
    refine OGo.st (fun t k => XS.goto X0.here hx rfl (pc0 := 83) (pc' := 87) rfl (hb hby d2_83) (by decide) (by decide) k) ?_
    show OGo p.tables e below _ (s₁.setTop (mkF m 87 #[.val (.long q0), .second, .val (.long q1), .second, .val (.long q2), .second, .val (.long ((q0.toUInt64 >>> ((31 : Int32) &&& 0x3f).toInt64.toUInt64).toInt64)), .second, .val (.long (q0 &&& (2147483647 : Int64))), .second, .val (.long (((q0.toUInt64 >>> ((31 : Int32) &&& 0x3f).toInt64.toUInt64).toInt64) * q1)), .second, .val (.long ((q0 &&& (2147483647 : Int64)) * q1)), .second, .val (.long (own_high q0 q1)), .second, .val (.long (own_low q0 q1)), .second, .val (.long (own_sh31 q2)), .second, .val (.long (own_lo31 q2)), .second] [(.int (1 : Int32))]))
    obtain ⟨fs, hr, hrun, hended, hW, hsame⟩ := X0.leave (v := some (.int (1 : Int32))) (fun h => by rw [Bd.returns] at h; cases h)
    refine OGo.done (retN X0 hx (t := .boolean) Bd.returns (by simp) (hb hby d2_87) hr) ⟨hrun, hended, _, _, rfl, ?_, ⟨_, rfl⟩, hW, hsame.mono (by decide) (by decide)⟩
    show Q2 Z q0 q1 q2 h0 n0 _ s₁.heap _
    rw [e0]
    exact ⟨(congrArg (fun z => some (Value.int z)) (show (1 : Int32) = (own_pam q0 q1 q2) from by rw [own_pam, if_pos ((lw_lt _ _).mp hc63_101)])), N0, rfl⟩
  ·
    refine OGo.st (fun t k => XS.ifNo X0.here hx rfl (hb hby d2_63) rfl ((if0 _ _).trans (flt hc63_101).1) k) ?_
    show OGo p.tables e below _ (s₁.setTop (mkF m 66 #[.val (.long q0), .second, .val (.long q1), .second, .val (.long q2), .second, .val (.long ((q0.toUInt64 >>> ((31 : Int32) &&& 0x3f).toInt64.toUInt64).toInt64)), .second, .val (.long (q0 &&& (2147483647 : Int64))), .second, .val (.long (((q0.toUInt64 >>> ((31 : Int32) &&& 0x3f).toInt64.toUInt64).toInt64) * q1)), .second, .val (.long ((q0 &&& (2147483647 : Int64)) * q1)), .second, .val (.long (own_high q0 q1)), .second, .val (.long (own_low q0 q1)), .second, .val (.long (own_sh31 q2)), .second, .val (.long (own_lo31 q2)), .second] []))
    refine OGo.st (fun t k => XS.lload X0.here hx rfl (hb hby d2_66) rfl k) ?_
    show OGo p.tables e below _ (s₁.setTop (mkF m 68 #[.val (.long q0), .second, .val (.long q1), .second, .val (.long q2), .second, .val (.long ((q0.toUInt64 >>> ((31 : Int32) &&& 0x3f).toInt64.toUInt64).toInt64)), .second, .val (.long (q0 &&& (2147483647 : Int64))), .second, .val (.long (((q0.toUInt64 >>> ((31 : Int32) &&& 0x3f).toInt64.toUInt64).toInt64) * q1)), .second, .val (.long ((q0 &&& (2147483647 : Int64)) * q1)), .second, .val (.long (own_high q0 q1)), .second, .val (.long (own_low q0 q1)), .second, .val (.long (own_sh31 q2)), .second, .val (.long (own_lo31 q2)), .second] [(.long (own_high q0 q1))]))
    refine OGo.st (fun t k => XS.lload X0.here hx rfl (hb hby d2_68) rfl k) ?_
    show OGo p.tables e below _ (s₁.setTop (mkF m 70 #[.val (.long q0), .second, .val (.long q1), .second, .val (.long q2), .second, .val (.long ((q0.toUInt64 >>> ((31 : Int32) &&& 0x3f).toInt64.toUInt64).toInt64)), .second, .val (.long (q0 &&& (2147483647 : Int64))), .second, .val (.long (((q0.toUInt64 >>> ((31 : Int32) &&& 0x3f).toInt64.toUInt64).toInt64) * q1)), .second, .val (.long ((q0 &&& (2147483647 : Int64)) * q1)), .second, .val (.long (own_high q0 q1)), .second, .val (.long (own_low q0 q1)), .second, .val (.long (own_sh31 q2)), .second, .val (.long (own_lo31 q2)), .second] [(.long (own_sh31 q2)), (.long (own_high q0 q1))]))
    refine OGo.st (fun t k => XS.lcmp X0.here hx rfl (hb hby d2_70) rfl k) ?_
    show OGo p.tables e below _ (s₁.setTop (mkF m 71 #[.val (.long q0), .second, .val (.long q1), .second, .val (.long q2), .second, .val (.long ((q0.toUInt64 >>> ((31 : Int32) &&& 0x3f).toInt64.toUInt64).toInt64)), .second, .val (.long (q0 &&& (2147483647 : Int64))), .second, .val (.long (((q0.toUInt64 >>> ((31 : Int32) &&& 0x3f).toInt64.toUInt64).toInt64) * q1)), .second, .val (.long ((q0 &&& (2147483647 : Int64)) * q1)), .second, .val (.long (own_high q0 q1)), .second, .val (.long (own_low q0 q1)), .second, .val (.long (own_sh31 q2)), .second, .val (.long (own_lo31 q2)), .second] [(.int (lcmpW (own_high q0 q1) (own_sh31 q2)))]))
    by_cases hc71_103 : (lcmpW (own_high q0 q1) (own_sh31 q2)) = (0 : Int32)
    ·
      refine OGo.st (fun t k => XS.ifNo X0.here hx rfl (hb hby d2_71) rfl ((if0 _ _).trans (teq hc71_103).2) k) ?_
      show OGo p.tables e below _ (s₁.setTop (mkF m 74 #[.val (.long q0), .second, .val (.long q1), .second, .val (.long q2), .second, .val (.long ((q0.toUInt64 >>> ((31 : Int32) &&& 0x3f).toInt64.toUInt64).toInt64)), .second, .val (.long (q0 &&& (2147483647 : Int64))), .second, .val (.long (((q0.toUInt64 >>> ((31 : Int32) &&& 0x3f).toInt64.toUInt64).toInt64) * q1)), .second, .val (.long ((q0 &&& (2147483647 : Int64)) * q1)), .second, .val (.long (own_high q0 q1)), .second, .val (.long (own_low q0 q1)), .second, .val (.long (own_sh31 q2)), .second, .val (.long (own_lo31 q2)), .second] []))
      refine OGo.st (fun t k => XS.lload X0.here hx rfl (hb hby d2_74) rfl k) ?_
      show OGo p.tables e below _ (s₁.setTop (mkF m 76 #[.val (.long q0), .second, .val (.long q1), .second, .val (.long q2), .second, .val (.long ((q0.toUInt64 >>> ((31 : Int32) &&& 0x3f).toInt64.toUInt64).toInt64)), .second, .val (.long (q0 &&& (2147483647 : Int64))), .second, .val (.long (((q0.toUInt64 >>> ((31 : Int32) &&& 0x3f).toInt64.toUInt64).toInt64) * q1)), .second, .val (.long ((q0 &&& (2147483647 : Int64)) * q1)), .second, .val (.long (own_high q0 q1)), .second, .val (.long (own_low q0 q1)), .second, .val (.long (own_sh31 q2)), .second, .val (.long (own_lo31 q2)), .second] [(.long (own_low q0 q1))]))
      refine OGo.st (fun t k => XS.lload X0.here hx rfl (hb hby d2_76) rfl k) ?_
      show OGo p.tables e below _ (s₁.setTop (mkF m 78 #[.val (.long q0), .second, .val (.long q1), .second, .val (.long q2), .second, .val (.long ((q0.toUInt64 >>> ((31 : Int32) &&& 0x3f).toInt64.toUInt64).toInt64)), .second, .val (.long (q0 &&& (2147483647 : Int64))), .second, .val (.long (((q0.toUInt64 >>> ((31 : Int32) &&& 0x3f).toInt64.toUInt64).toInt64) * q1)), .second, .val (.long ((q0 &&& (2147483647 : Int64)) * q1)), .second, .val (.long (own_high q0 q1)), .second, .val (.long (own_low q0 q1)), .second, .val (.long (own_sh31 q2)), .second, .val (.long (own_lo31 q2)), .second] [(.long (own_lo31 q2)), (.long (own_low q0 q1))]))
      refine OGo.st (fun t k => XS.lcmp X0.here hx rfl (hb hby d2_78) rfl k) ?_
      show OGo p.tables e below _ (s₁.setTop (mkF m 79 #[.val (.long q0), .second, .val (.long q1), .second, .val (.long q2), .second, .val (.long ((q0.toUInt64 >>> ((31 : Int32) &&& 0x3f).toInt64.toUInt64).toInt64)), .second, .val (.long (q0 &&& (2147483647 : Int64))), .second, .val (.long (((q0.toUInt64 >>> ((31 : Int32) &&& 0x3f).toInt64.toUInt64).toInt64) * q1)), .second, .val (.long ((q0 &&& (2147483647 : Int64)) * q1)), .second, .val (.long (own_high q0 q1)), .second, .val (.long (own_low q0 q1)), .second, .val (.long (own_sh31 q2)), .second, .val (.long (own_lo31 q2)), .second] [(.int (lcmpW (own_low q0 q1) (own_lo31 q2)))]))
      by_cases hc79_104 : (0 : Int32) < (lcmpW (own_low q0 q1) (own_lo31 q2))
      ·
        refine OGo.st (fun t k => XS.ifYes X0.here hx rfl (pc0 := 79) (pc' := 86) rfl (hb hby d2_79) rfl ((if0 _ _).trans (tlt hc79_104).2.2.1) (by decide) (by decide) k) ?_
        show OGo p.tables e below _ (s₁.setTop (mkF m 86 #[.val (.long q0), .second, .val (.long q1), .second, .val (.long q2), .second, .val (.long ((q0.toUInt64 >>> ((31 : Int32) &&& 0x3f).toInt64.toUInt64).toInt64)), .second, .val (.long (q0 &&& (2147483647 : Int64))), .second, .val (.long (((q0.toUInt64 >>> ((31 : Int32) &&& 0x3f).toInt64.toUInt64).toInt64) * q1)), .second, .val (.long ((q0 &&& (2147483647 : Int64)) * q1)), .second, .val (.long (own_high q0 q1)), .second, .val (.long (own_low q0 q1)), .second, .val (.long (own_sh31 q2)), .second, .val (.long (own_lo31 q2)), .second] []))
        refine OGo.st (fun t k => XS.iconst X0.here hx rfl (hb hby d2_86) k) ?_
        show OGo p.tables e below _ (s₁.setTop (mkF m 87 #[.val (.long q0), .second, .val (.long q1), .second, .val (.long q2), .second, .val (.long ((q0.toUInt64 >>> ((31 : Int32) &&& 0x3f).toInt64.toUInt64).toInt64)), .second, .val (.long (q0 &&& (2147483647 : Int64))), .second, .val (.long (((q0.toUInt64 >>> ((31 : Int32) &&& 0x3f).toInt64.toUInt64).toInt64) * q1)), .second, .val (.long ((q0 &&& (2147483647 : Int64)) * q1)), .second, .val (.long (own_high q0 q1)), .second, .val (.long (own_low q0 q1)), .second, .val (.long (own_sh31 q2)), .second, .val (.long (own_lo31 q2)), .second] [(.int (0 : Int32))]))
        obtain ⟨fs, hr, hrun, hended, hW, hsame⟩ := X0.leave (v := some (.int (0 : Int32))) (fun h => by rw [Bd.returns] at h; cases h)
        refine OGo.done (retN X0 hx (t := .boolean) Bd.returns (by simp) (hb hby d2_87) hr) ⟨hrun, hended, _, _, rfl, ?_, ⟨_, rfl⟩, hW, hsame.mono (by decide) (by decide)⟩
        show Q2 Z q0 q1 q2 h0 n0 _ s₁.heap _
        rw [e0]
        exact ⟨(congrArg (fun z => some (Value.int z)) (show (0 : Int32) = (own_pam q0 q1 q2) from by rw [own_pam, if_neg (fun q => hc63_101 ((lw_lt _ _).mpr q)), if_pos ((lw_eq _ _).mp hc71_103), if_pos ((lw_gt _ _).mp hc79_104)])), N0, rfl⟩
      ·
        refine OGo.st (fun t k => XS.ifNo X0.here hx rfl (hb hby d2_79) rfl ((if0 _ _).trans (flt hc79_104).2.2.1) k) ?_
        show OGo p.tables e below _ (s₁.setTop (mkF m 82 #[.val (.long q0), .second, .val (.long q1), .second, .val (.long q2), .second, .val (.long ((q0.toUInt64 >>> ((31 : Int32) &&& 0x3f).toInt64.toUInt64).toInt64)), .second, .val (.long (q0 &&& (2147483647 : Int64))), .second, .val (.long (((q0.toUInt64 >>> ((31 : Int32) &&& 0x3f).toInt64.toUInt64).toInt64) * q1)), .second, .val (.long ((q0 &&& (2147483647 : Int64)) * q1)), .second, .val (.long (own_high q0 q1)), .second, .val (.long (own_low q0 q1)), .second, .val (.long (own_sh31 q2)), .second, .val (.long (own_lo31 q2)), .second] []))
        refine OGo.st (fun t k => XS.iconst X0.here hx rfl (hb hby d2_82) k) ?_
        show OGo p.tables e below _ (s₁.setTop (mkF m 83 #[.val (.long q0), .second, .val (.long q1), .second, .val (.long q2), .second, .val (.long ((q0.toUInt64 >>> ((31 : Int32) &&& 0x3f).toInt64.toUInt64).toInt64)), .second, .val (.long (q0 &&& (2147483647 : Int64))), .second, .val (.long (((q0.toUInt64 >>> ((31 : Int32) &&& 0x3f).toInt64.toUInt64).toInt64) * q1)), .second, .val (.long ((q0 &&& (2147483647 : Int64)) * q1)), .second, .val (.long (own_high q0 q1)), .second, .val (.long (own_low q0 q1)), .second, .val (.long (own_sh31 q2)), .second, .val (.long (own_lo31 q2)), .second] [(.int (1 : Int32))]))
        refine OGo.st (fun t k => XS.goto X0.here hx rfl (pc0 := 83) (pc' := 87) rfl (hb hby d2_83) (by decide) (by decide) k) ?_
        show OGo p.tables e below _ (s₁.setTop (mkF m 87 #[.val (.long q0), .second, .val (.long q1), .second, .val (.long q2), .second, .val (.long ((q0.toUInt64 >>> ((31 : Int32) &&& 0x3f).toInt64.toUInt64).toInt64)), .second, .val (.long (q0 &&& (2147483647 : Int64))), .second, .val (.long (((q0.toUInt64 >>> ((31 : Int32) &&& 0x3f).toInt64.toUInt64).toInt64) * q1)), .second, .val (.long ((q0 &&& (2147483647 : Int64)) * q1)), .second, .val (.long (own_high q0 q1)), .second, .val (.long (own_low q0 q1)), .second, .val (.long (own_sh31 q2)), .second, .val (.long (own_lo31 q2)), .second] [(.int (1 : Int32))]))
        obtain ⟨fs, hr, hrun, hended, hW, hsame⟩ := X0.leave (v := some (.int (1 : Int32))) (fun h => by rw [Bd.returns] at h; cases h)
        refine OGo.done (retN X0 hx (t := .boolean) Bd.returns (by simp) (hb hby d2_87) hr) ⟨hrun, hended, _, _, rfl, ?_, ⟨_, rfl⟩, hW, hsame.mono (by decide) (by decide)⟩
        show Q2 Z q0 q1 q2 h0 n0 _ s₁.heap _
        rw [e0]
        exact ⟨(congrArg (fun z => some (Value.int z)) (show (1 : Int32) = (own_pam q0 q1 q2) from by rw [own_pam, if_neg (fun q => hc63_101 ((lw_lt _ _).mpr q)), if_pos ((lw_eq _ _).mp hc71_103), if_neg (fun q => hc79_104 ((lw_gt _ _).mpr q))])), N0, rfl⟩
    ·
      refine OGo.st (fun t k => XS.ifYes X0.here hx rfl (pc0 := 71) (pc' := 86) rfl (hb hby d2_71) rfl ((if0 _ _).trans (feq hc71_103).2) (by decide) (by decide) k) ?_
      show OGo p.tables e below _ (s₁.setTop (mkF m 86 #[.val (.long q0), .second, .val (.long q1), .second, .val (.long q2), .second, .val (.long ((q0.toUInt64 >>> ((31 : Int32) &&& 0x3f).toInt64.toUInt64).toInt64)), .second, .val (.long (q0 &&& (2147483647 : Int64))), .second, .val (.long (((q0.toUInt64 >>> ((31 : Int32) &&& 0x3f).toInt64.toUInt64).toInt64) * q1)), .second, .val (.long ((q0 &&& (2147483647 : Int64)) * q1)), .second, .val (.long (own_high q0 q1)), .second, .val (.long (own_low q0 q1)), .second, .val (.long (own_sh31 q2)), .second, .val (.long (own_lo31 q2)), .second] []))
      refine OGo.st (fun t k => XS.iconst X0.here hx rfl (hb hby d2_86) k) ?_
      show OGo p.tables e below _ (s₁.setTop (mkF m 87 #[.val (.long q0), .second, .val (.long q1), .second, .val (.long q2), .second, .val (.long ((q0.toUInt64 >>> ((31 : Int32) &&& 0x3f).toInt64.toUInt64).toInt64)), .second, .val (.long (q0 &&& (2147483647 : Int64))), .second, .val (.long (((q0.toUInt64 >>> ((31 : Int32) &&& 0x3f).toInt64.toUInt64).toInt64) * q1)), .second, .val (.long ((q0 &&& (2147483647 : Int64)) * q1)), .second, .val (.long (own_high q0 q1)), .second, .val (.long (own_low q0 q1)), .second, .val (.long (own_sh31 q2)), .second, .val (.long (own_lo31 q2)), .second] [(.int (0 : Int32))]))
      obtain ⟨fs, hr, hrun, hended, hW, hsame⟩ := X0.leave (v := some (.int (0 : Int32))) (fun h => by rw [Bd.returns] at h; cases h)
      refine OGo.done (retN X0 hx (t := .boolean) Bd.returns (by simp) (hb hby d2_87) hr) ⟨hrun, hended, _, _, rfl, ?_, ⟨_, rfl⟩, hW, hsame.mono (by decide) (by decide)⟩
      show Q2 Z q0 q1 q2 h0 n0 _ s₁.heap _
      rw [e0]
      exact ⟨(congrArg (fun z => some (Value.int z)) (show (0 : Int32) = (own_pam q0 q1 q2) from by rw [own_pam, if_neg (fun q => hc63_101 ((lw_lt _ _).mpr q)), if_neg (fun q => hc71_103 ((lw_eq _ _).mpr q))])), N0, rfl⟩
theorem d3_0 : decode prog_31_method_9_code 0 = .ok (.lload_n 1, 1) := by decide +kernel
theorem d3_1 : decode prog_31_method_9_code 1 = .ok (.lconst 0, 1) := by decide +kernel
theorem d3_2 : decode prog_31_method_9_code 2 = .ok (.lcmp, 1) := by decide +kernel
theorem d3_3 : decode prog_31_method_9_code 3 = .ok (.ifCond .le 21, 3) := by decide +kernel
theorem d3_6 : decode prog_31_method_9_code 6 = .ok (.iload_n 3, 1) := by decide +kernel
theorem d3_7 : decode prog_31_method_9_code 7 = .ok (.ifCond .le 17, 3) := by decide +kernel
theorem d3_10 : decode prog_31_method_9_code 10 = .ok (.lload_n 1, 1) := by decide +kernel
theorem d3_11 : decode prog_31_method_9_code 11 = .ok (.aload_n 0, 1) := by decide +kernel
theorem d3_12 : decode prog_31_method_9_code 12 = .ok (.getfield 28, 3) := by decide +kernel
theorem d3_15 : decode prog_31_method_9_code 15 = .ok (.iload_n 3, 1) := by decide +kernel
theorem d3_16 : decode prog_31_method_9_code 16 = .ok (.i2l, 1) := by decide +kernel
theorem d3_17 : decode prog_31_method_9_code 17 = .ok (.ldiv, 1) := by decide +kernel
theorem d3_18 : decode prog_31_method_9_code 18 = .ok (.lcmp, 1) := by decide +kernel
theorem d3_19 : decode prog_31_method_9_code 19 = .ok (.ifCond .le 5, 3) := by decide +kernel
theorem d3_22 : decode prog_31_method_9_code 22 = .ok (.iconst 0, 1) := by decide +kernel
theorem d3_23 : decode prog_31_method_9_code 23 = .ok (.ireturn, 1) := by decide +kernel
theorem d3_24 : decode prog_31_method_9_code 24 = .ok (.aload_n 0, 1) := by decide +kernel
theorem d3_25 : decode prog_31_method_9_code 25 = .ok (.dup, 1) := by decide +kernel
theorem d3_26 : decode prog_31_method_9_code 26 = .ok (.getfield 28, 3) := by decide +kernel
theorem d3_29 : decode prog_31_method_9_code 29 = .ok (.lload_n 1, 1) := by decide +kernel
theorem d3_30 : decode prog_31_method_9_code 30 = .ok (.iload_n 3, 1) := by decide +kernel
theorem d3_31 : decode prog_31_method_9_code 31 = .ok (.i2l, 1) := by decide +kernel
theorem d3_32 : decode prog_31_method_9_code 32 = .ok (.lmul, 1) := by decide +kernel
theorem d3_33 : decode prog_31_method_9_code 33 = .ok (.lsub, 1) := by decide +kernel
theorem d3_34 : decode prog_31_method_9_code 34 = .ok (.putfield 28, 3) := by decide +kernel
theorem d3_37 : decode prog_31_method_9_code 37 = .ok (.iconst 1, 1) := by decide +kernel
theorem d3_38 : decode prog_31_method_9_code 38 = .ok (.ireturn, 1) := by decide +kernel
theorem ef_3 (m : MethodId) (x0 : Addr) (x1 : Int64) (x2 : Int32) : entryFrame m #[(.ref x0), (.long x1), (.int x2)] 4 = mkF m 0 #[.val (.ref x0), .val (.long x1), .second, .val (.int x2)] [] := by first | (simp [entryFrame, mkF, argsToLocals, Value.category]; done) | rfl
def Q3 (Z : State) (a0 : Addr) (q1 : Int64) (p2 : Int32) (w : Int64) (h0 : Heap) (n0 : Nat) (v : Option Value) (h : Heap) (L : List Loc) : Prop := v = some (.int (own_spent w q1 p2)) ∧ Fr n0 L ∧ Keep h0 h [a0] ∧ (Fld Z h a0 "com/example/crossweave/crossweave/KeyVisits" "left" "J" (.long (own_left w q1 p2)))
set_option maxRecDepth 65536 in
set_option maxHeartbeats 40000000 in
theorem rm3 (l : Launch) (Z : State) (ar : Array Value) (hw : ∀ d ∈ tables_1, d.before ar Z = true) (ws : List Jvm.Cond) (a0 : Addr) (q1 : Int64) (p2 : Int32) (w : Int64) (h0 : Heap) (n0 : Nat) (Z0 : n0 ≤ h0.size) (E0 : Exa Z h0 a0 "com/example/crossweave/crossweave/KeyVisits") (g0 : n0 ≤ a0) (F : Fld Z h0 a0 "com/example/crossweave/crossweave/KeyVisits" "left" "J" (.long w)) :
    MetFree l (⟨"com/example/crossweave/crossweave/KeyVisits", "spend", "(JI)Z"⟩ : MethodName) (head1 (Jvm.Cond.code (⟨"com/example/crossweave/crossweave/KeyVisits", "spend", "(JI)Z"⟩ : MethodName) prog_31_method_9_code 4 (some .boolean) :: ws) ({ frames := 0, cells := 0, slots := 0, locals := 0 } : Room)) (fun a U => a = #[(.ref a0), (.long q1), (.int p2)] ∧ Z.Warmed39 U.vm ∧ U.heap = h0) (fun _ _ _ _ _ => True) (fun _ U o U' => ∃ v L, o = .returned v ∧ Q3 Z a0 q1 p2 w h0 n0 v U'.heap L ∧ FrameEnd U o U' L ({ frames := 0, cells := 0, slots := 0, locals := 0 } : Room).cells ({ frames := 0, cells := 0, slots := 0, locals := 0 } : Room).slots) := by
  refine MetFree.of_bodySF (plainFor_of_name pn_0) hisR ?_
  intro p e s m args below meth c s₁ Bd hml0 hP hK
  obtain ⟨rfl, hZ, hh⟩ := hP
  have hx := Bd.exec
  have hby := Bd.bytes
  have hml : c.maxLocals = 4 := hml0
  have hown : s.vm.findClass "com/example/crossweave/crossweave/KeyVisits" = some m.cls := findClass_of_methodNamed Bd.named
  have hnm := (name_of_methodNamed Bd.named Bd.method).1
  have X0 : Stand p l e ({ frames := 0, cells := 0, slots := 0, locals := 0 } : Room) s m #[(.ref a0), (.long q1), (.int p2)] below meth c s₁ [] 0 0 := Stand.of_body Bd
  have e0 : s₁.heap = h0 := by rw [← hh, Bd.state]; rfl
  have N0 := Fr.nil n0
  have pre0 : ∀ t, Steps p.tables e below (s₁.setTop (mkF m 0 #[.val (.ref a0), .val (.long q1), .second, .val (.int p2)] [])) t → Steps p.tables e below (s₁.setTop (entryFrame m #[(.ref a0), (.long q1), (.int p2)] 4)) t := fun t k => castTop (ef_3 m a0 q1 p2) k
  refine OGo.start pre0 ?_
  show OGo p.tables e below _ (s₁.setTop (mkF m 0 #[.val (.ref a0), .val (.long q1), .second, .val (.int p2)] []))
  refine OGo.st (fun t k => XS.lloadN X0.here hx rfl (hb hby d3_0) rfl k) ?_
  show OGo p.tables e below _ (s₁.setTop (mkF m 1 #[.val (.ref a0), .val (.long q1), .second, .val (.int p2)] [(.long q1)]))
  refine OGo.st (fun t k => XS.lconst X0.here hx rfl (hb hby d3_1) k) ?_
  show OGo p.tables e below _ (s₁.setTop (mkF m 2 #[.val (.ref a0), .val (.long q1), .second, .val (.int p2)] [(.long (0 : Int64)), (.long q1)]))
  refine OGo.st (fun t k => XS.lcmp X0.here hx rfl (hb hby d3_2) rfl k) ?_
  show OGo p.tables e below _ (s₁.setTop (mkF m 3 #[.val (.ref a0), .val (.long q1), .second, .val (.int p2)] [(.int (lcmpW q1 (0 : Int64)))]))
  by_cases hc3_101 : (0 : Int32) < (lcmpW q1 (0 : Int64))
  ·
    refine OGo.st (fun t k => XS.ifNo X0.here hx rfl (hb hby d3_3) rfl ((if0 _ _).trans (tlt hc3_101).2.2.2) k) ?_
    show OGo p.tables e below _ (s₁.setTop (mkF m 6 #[.val (.ref a0), .val (.long q1), .second, .val (.int p2)] []))
    refine OGo.st (fun t k => XS.iloadN X0.here hx rfl (hb hby d3_6) rfl k) ?_
    show OGo p.tables e below _ (s₁.setTop (mkF m 7 #[.val (.ref a0), .val (.long q1), .second, .val (.int p2)] [(.int p2)]))
    by_cases hc7_102 : (0 : Int32) < p2
    ·
      refine OGo.st (fun t k => XS.ifNo X0.here hx rfl (hb hby d3_7) rfl ((if0 _ _).trans (tlt hc7_102).2.2.2) k) ?_
      show OGo p.tables e below _ (s₁.setTop (mkF m 10 #[.val (.ref a0), .val (.long q1), .second, .val (.int p2)] []))
      refine OGo.st (fun t k => XS.lloadN X0.here hx rfl (hb hby d3_10) rfl k) ?_
      show OGo p.tables e below _ (s₁.setTop (mkF m 11 #[.val (.ref a0), .val (.long q1), .second, .val (.int p2)] [(.long q1)]))
      refine OGo.st (fun t k => XS.aloadN X0.here hx rfl (hb hby d3_11) rfl rfl k) ?_
      show OGo p.tables e below _ (s₁.setTop (mkF m 12 #[.val (.ref a0), .val (.long q1), .second, .val (.int p2)] [(.ref a0), (.long q1)]))
      obtain ⟨T103, X103, e103, st103⟩ := getF X0 hx hZ hown (host := "") (Or.inl (hw _ (List.mem_of_getElem? (i := 21) rfl))) Via.refl e0 F (g := (mkF m 12 #[.val (.ref a0), .val (.long q1), .second, .val (.int p2)] [(.ref a0), (.long q1)])) rfl rfl (hb hby d3_12)
      refine OGo.st st103 ?_
      show OGo p.tables e below _ (T103.setTop (mkF m 15 #[.val (.ref a0), .val (.long q1), .second, .val (.int p2)] [(.long w), (.long q1)]))
      refine OGo.st (fun t k => XS.iloadN X103.here hx rfl (hb hby d3_15) rfl k) ?_
      show OGo p.tables e below _ (T103.setTop (mkF m 16 #[.val (.ref a0), .val (.long q1), .second, .val (.int p2)] [(.int p2), (.long w), (.long q1)]))
      refine OGo.st (fun t k => XS.i2l X103.here hx rfl (hb hby d3_16) rfl k) ?_
      show OGo p.tables e below _ (T103.setTop (mkF m 17 #[.val (.ref a0), .val (.long q1), .second, .val (.int p2)] [(.long ((p2).toInt64)), (.long w), (.long q1)]))
      refine OGo.st (fun t k => XS.ldiv X103.here hx rfl (hb hby d3_17) rfl (own_nz hc7_102) k) ?_
      show OGo p.tables e below _ (T103.setTop (mkF m 18 #[.val (.ref a0), .val (.long q1), .second, .val (.int p2)] [(.long (w / ((p2).toInt64))), (.long q1)]))
      refine OGo.st (fun t k => XS.lcmp X103.here hx rfl (hb hby d3_18) rfl k) ?_
      show OGo p.tables e below _ (T103.setTop (mkF m 19 #[.val (.ref a0), .val (.long q1), .second, .val (.int p2)] [(.int (lcmpW q1 (w / ((p2).toInt64))))]))
      by_cases hc19_104 : (0 : Int32) < (lcmpW q1 (w / ((p2).toInt64)))
      ·
        refine OGo.st (fun t k => XS.ifNo X103.here hx rfl (hb hby d3_19) rfl ((if0 _ _).trans (tlt hc19_104).2.2.2) k) ?_
        show OGo p.tables e below _ (T103.setTop (mkF m 22 #[.val (.ref a0), .val (.long q1), .second, .val (.int p2)] []))
        refine OGo.st (fun t k => XS.iconst X103.here hx rfl (hb hby d3_22) k) ?_
        show OGo p.tables e below _ (T103.setTop (mkF m 23 #[.val (.ref a0), .val (.long q1), .second, .val (.int p2)] [(.int (0 : Int32))]))
        obtain ⟨fs, hr, hrun, hended, hW, hsame⟩ := X103.leave (v := some (.int (0 : Int32))) (fun h => by rw [Bd.returns] at h; cases h)
        refine OGo.done (retN X103 hx (t := .boolean) Bd.returns (by simp) (hb hby d3_23) hr) ⟨hrun, hended, _, _, rfl, ?_, ⟨_, rfl⟩, hW, hsame.mono (by decide) (by decide)⟩
        show Q3 Z a0 q1 p2 w h0 n0 _ T103.heap _
        rw [e103]
        exact ⟨(congrArg (fun z => some (Value.int z)) (show (0 : Int32) = (own_spent w q1 p2) from by rw [own_spent, if_pos ((lw_gt _ _).mp hc3_101), if_pos hc7_102, if_pos ((lw_gt _ _).mp hc19_104)])), N0, (Keep.refl h0 [a0]), (own_fld F (by rw [own_left, if_pos ((lw_gt _ _).mp hc3_101), if_pos hc7_102, if_pos ((lw_gt _ _).mp hc19_104)]))⟩
      ·
        refine OGo.st (fun t k => XS.ifYes X103.here hx rfl (pc0 := 19) (pc' := 24) rfl (hb hby d3_19) rfl ((if0 _ _).trans (flt hc19_104).2.2.2) (by decide) (by decide) k) ?_
        show OGo p.tables e below _ (T103.setTop (mkF m 24 #[.val (.ref a0), .val (.long q1), .second, .val (.int p2)] []))
        refine OGo.st (fun t k => XS.aloadN X103.here hx rfl (hb hby d3_24) rfl rfl k) ?_
        show OGo p.tables e below _ (T103.setTop (mkF m 25 #[.val (.ref a0), .val (.long q1), .second, .val (.int p2)] [(.ref a0)]))
        refine OGo.st (fun t k => XS.dup X103.here hx rfl (hb hby d3_25) rfl rfl k) ?_
        show OGo p.tables e below _ (T103.setTop (mkF m 26 #[.val (.ref a0), .val (.long q1), .second, .val (.int p2)] [(.ref a0), (.ref a0)]))
        obtain ⟨T106, X106, e106, st106⟩ := getF X103 hx hZ hown (host := "") (Or.inl (hw _ (List.mem_of_getElem? (i := 21) rfl))) Via.refl e103 F (g := (mkF m 26 #[.val (.ref a0), .val (.long q1), .second, .val (.int p2)] [(.ref a0), (.ref a0)])) rfl rfl (hb hby d3_26)
        refine OGo.st st106 ?_
        show OGo p.tables e below _ (T106.setTop (mkF m 29 #[.val (.ref a0), .val (.long q1), .second, .val (.int p2)] [(.long w), (.ref a0)]))
        refine OGo.st (fun t k => XS.lloadN X106.here hx rfl (hb hby d3_29) rfl k) ?_
        show OGo p.tables e below _ (T106.setTop (mkF m 30 #[.val (.ref a0), .val (.long q1), .second, .val (.int p2)] [(.long q1), (.long w), (.ref a0)]))
        refine OGo.st (fun t k => XS.iloadN X106.here hx rfl (hb hby d3_30) rfl k) ?_
        show OGo p.tables e below _ (T106.setTop (mkF m 31 #[.val (.ref a0), .val (.long q1), .second, .val (.int p2)] [(.int p2), (.long q1), (.long w), (.ref a0)]))
        refine OGo.st (fun t k => XS.i2l X106.here hx rfl (hb hby d3_31) rfl k) ?_
        show OGo p.tables e below _ (T106.setTop (mkF m 32 #[.val (.ref a0), .val (.long q1), .second, .val (.int p2)] [(.long ((p2).toInt64)), (.long q1), (.long w), (.ref a0)]))
        refine OGo.st (fun t k => XS.lmul X106.here hx rfl (hb hby d3_32) rfl k) ?_
        show OGo p.tables e below _ (T106.setTop (mkF m 33 #[.val (.ref a0), .val (.long q1), .second, .val (.int p2)] [(.long (q1 * ((p2).toInt64))), (.long w), (.ref a0)]))
        refine OGo.st (fun t k => XS.lsub X106.here hx rfl (hb hby d3_33) rfl k) ?_
        show OGo p.tables e below _ (T106.setTop (mkF m 34 #[.val (.ref a0), .val (.long q1), .second, .val (.int p2)] [(.long (w - (q1 * ((p2).toInt64)))), (.ref a0)]))
        obtain ⟨T107, h107, X107, e107, W107, st107⟩ := putF X106 hx hZ hown (host := "") (Or.inl (hw _ (List.mem_of_getElem? (i := 21) rfl))) Via.refl e106 F E0 (Or.inl (hw _ (List.mem_of_getElem? (i := 22) rfl))) (hw _ (List.mem_of_getElem? (i := 3) rfl)) (ty := .long) (by decide) rfl rfl (g := (mkF m 34 #[.val (.ref a0), .val (.long q1), .second, .val (.int p2)] [(.long (w - (q1 * ((p2).toInt64)))), (.ref a0)])) rfl rfl (hb hby d3_34)
        refine OGo.st st107 ?_
        have Fw107 : Fld Z h107 a0 "com/example/crossweave/crossweave/KeyVisits" "left" "J" (.long (w - (q1 * ((p2).toInt64)))) := Fld.same W107 F
        have N107 := Fr.snoc X107 N0 g0
        show OGo p.tables e below _ (T107.setTop (mkF m 37 #[.val (.ref a0), .val (.long q1), .second, .val (.int p2)] []))
        refine OGo.st (fun t k => XS.iconst X107.here hx rfl (hb hby d3_37) k) ?_
        show OGo p.tables e below _ (T107.setTop (mkF m 38 #[.val (.ref a0), .val (.long q1), .second, .val (.int p2)] [(.int (1 : Int32))]))
        obtain ⟨fs, hr, hrun, hended, hW, hsame⟩ := X107.leave (v := some (.int (1 : Int32))) (fun h => by rw [Bd.returns] at h; cases h)
        refine OGo.done (retN X107 hx (t := .boolean) Bd.returns (by simp) (hb hby d3_38) hr) ⟨hrun, hended, _, _, rfl, ?_, ⟨_, rfl⟩, hW, hsame.mono (by decide) (by decide)⟩
        show Q3 Z a0 q1 p2 w h0 n0 _ T107.heap _
        rw [e107]
        exact ⟨(congrArg (fun z => some (Value.int z)) (show (1 : Int32) = (own_spent w q1 p2) from by rw [own_spent, if_pos ((lw_gt _ _).mp hc3_101), if_pos hc7_102, if_neg (fun q => hc19_104 ((lw_gt _ _).mpr q))])), N107, ((Keep.refl h0 [a0]).wr W107 (Or.inl (List.mem_of_getElem? (i := 0) rfl))), (own_fld Fw107 (by rw [own_left, if_pos ((lw_gt _ _).mp hc3_101), if_pos hc7_102, if_neg (fun q => hc19_104 ((lw_gt _ _).mpr q))]))⟩
    ·
      refine OGo.st (fun t k => XS.ifYes X0.here hx rfl (pc0 := 7) (pc' := 24) rfl (hb hby d3_7) rfl ((if0 _ _).trans (flt hc7_102).2.2.2) (by decide) (by decide) k) ?_
      show OGo p.tables e below _ (s₁.setTop (mkF m 24 #[.val (.ref a0), .val (.long q1), .second, .val (.int p2)] []))
      refine OGo.st (fun t k => XS.aloadN X0.here hx rfl (hb hby d3_24) rfl rfl k) ?_
      show OGo p.tables e below _ (s₁.setTop (mkF m 25 #[.val (.ref a0), .val (.long q1), .second, .val (.int p2)] [(.ref a0)]))
      refine OGo.st (fun t k => XS.dup X0.here hx rfl (hb hby d3_25) rfl rfl k) ?_
      show OGo p.tables e below _ (s₁.setTop (mkF m 26 #[.val (.ref a0), .val (.long q1), .second, .val (.int p2)] [(.ref a0), (.ref a0)]))
      obtain ⟨T109, X109, e109, st109⟩ := getF X0 hx hZ hown (host := "") (Or.inl (hw _ (List.mem_of_getElem? (i := 21) rfl))) Via.refl e0 F (g := (mkF m 26 #[.val (.ref a0), .val (.long q1), .second, .val (.int p2)] [(.ref a0), (.ref a0)])) rfl rfl (hb hby d3_26)
      refine OGo.st st109 ?_
      show OGo p.tables e below _ (T109.setTop (mkF m 29 #[.val (.ref a0), .val (.long q1), .second, .val (.int p2)] [(.long w), (.ref a0)]))
      refine OGo.st (fun t k => XS.lloadN X109.here hx rfl (hb hby d3_29) rfl k) ?_
      show OGo p.tables e below _ (T109.setTop (mkF m 30 #[.val (.ref a0), .val (.long q1), .second, .val (.int p2)] [(.long q1), (.long w), (.ref a0)]))
      refine OGo.st (fun t k => XS.iloadN X109.here hx rfl (hb hby d3_30) rfl k) ?_
      show OGo p.tables e below _ (T109.setTop (mkF m 31 #[.val (.ref a0), .val (.long q1), .second, .val (.int p2)] [(.int p2), (.long q1), (.long w), (.ref a0)]))
      refine OGo.st (fun t k => XS.i2l X109.here hx rfl (hb hby d3_31) rfl k) ?_
      show OGo p.tables e below _ (T109.setTop (mkF m 32 #[.val (.ref a0), .val (.long q1), .second, .val (.int p2)] [(.long ((p2).toInt64)), (.long q1), (.long w), (.ref a0)]))
      refine OGo.st (fun t k => XS.lmul X109.here hx rfl (hb hby d3_32) rfl k) ?_
      show OGo p.tables e below _ (T109.setTop (mkF m 33 #[.val (.ref a0), .val (.long q1), .second, .val (.int p2)] [(.long (q1 * ((p2).toInt64))), (.long w), (.ref a0)]))
      refine OGo.st (fun t k => XS.lsub X109.here hx rfl (hb hby d3_33) rfl k) ?_
      show OGo p.tables e below _ (T109.setTop (mkF m 34 #[.val (.ref a0), .val (.long q1), .second, .val (.int p2)] [(.long (w - (q1 * ((p2).toInt64)))), (.ref a0)]))
      obtain ⟨T110, h110, X110, e110, W110, st110⟩ := putF X109 hx hZ hown (host := "") (Or.inl (hw _ (List.mem_of_getElem? (i := 21) rfl))) Via.refl e109 F E0 (Or.inl (hw _ (List.mem_of_getElem? (i := 22) rfl))) (hw _ (List.mem_of_getElem? (i := 3) rfl)) (ty := .long) (by decide) rfl rfl (g := (mkF m 34 #[.val (.ref a0), .val (.long q1), .second, .val (.int p2)] [(.long (w - (q1 * ((p2).toInt64)))), (.ref a0)])) rfl rfl (hb hby d3_34)
      refine OGo.st st110 ?_
      have Fw110 : Fld Z h110 a0 "com/example/crossweave/crossweave/KeyVisits" "left" "J" (.long (w - (q1 * ((p2).toInt64)))) := Fld.same W110 F
      have N110 := Fr.snoc X110 N0 g0
      show OGo p.tables e below _ (T110.setTop (mkF m 37 #[.val (.ref a0), .val (.long q1), .second, .val (.int p2)] []))
      refine OGo.st (fun t k => XS.iconst X110.here hx rfl (hb hby d3_37) k) ?_
      show OGo p.tables e below _ (T110.setTop (mkF m 38 #[.val (.ref a0), .val (.long q1), .second, .val (.int p2)] [(.int (1 : Int32))]))
      obtain ⟨fs, hr, hrun, hended, hW, hsame⟩ := X110.leave (v := some (.int (1 : Int32))) (fun h => by rw [Bd.returns] at h; cases h)
      refine OGo.done (retN X110 hx (t := .boolean) Bd.returns (by simp) (hb hby d3_38) hr) ⟨hrun, hended, _, _, rfl, ?_, ⟨_, rfl⟩, hW, hsame.mono (by decide) (by decide)⟩
      show Q3 Z a0 q1 p2 w h0 n0 _ T110.heap _
      rw [e110]
      exact ⟨(congrArg (fun z => some (Value.int z)) (show (1 : Int32) = (own_spent w q1 p2) from by rw [own_spent, if_pos ((lw_gt _ _).mp hc3_101), if_neg hc7_102])), N110, ((Keep.refl h0 [a0]).wr W110 (Or.inl (List.mem_of_getElem? (i := 0) rfl))), (own_fld Fw110 (by rw [own_left, if_pos ((lw_gt _ _).mp hc3_101), if_neg hc7_102]))⟩
  ·
    refine OGo.st (fun t k => XS.ifYes X0.here hx rfl (pc0 := 3) (pc' := 24) rfl (hb hby d3_3) rfl ((if0 _ _).trans (flt hc3_101).2.2.2) (by decide) (by decide) k) ?_
    show OGo p.tables e below _ (s₁.setTop (mkF m 24 #[.val (.ref a0), .val (.long q1), .second, .val (.int p2)] []))
    refine OGo.st (fun t k => XS.aloadN X0.here hx rfl (hb hby d3_24) rfl rfl k) ?_
    show OGo p.tables e below _ (s₁.setTop (mkF m 25 #[.val (.ref a0), .val (.long q1), .second, .val (.int p2)] [(.ref a0)]))
    refine OGo.st (fun t k => XS.dup X0.here hx rfl (hb hby d3_25) rfl rfl k) ?_
    show OGo p.tables e below _ (s₁.setTop (mkF m 26 #[.val (.ref a0), .val (.long q1), .second, .val (.int p2)] [(.ref a0), (.ref a0)]))
    obtain ⟨T112, X112, e112, st112⟩ := getF X0 hx hZ hown (host := "") (Or.inl (hw _ (List.mem_of_getElem? (i := 21) rfl))) Via.refl e0 F (g := (mkF m 26 #[.val (.ref a0), .val (.long q1), .second, .val (.int p2)] [(.ref a0), (.ref a0)])) rfl rfl (hb hby d3_26)
    refine OGo.st st112 ?_
    show OGo p.tables e below _ (T112.setTop (mkF m 29 #[.val (.ref a0), .val (.long q1), .second, .val (.int p2)] [(.long w), (.ref a0)]))
    refine OGo.st (fun t k => XS.lloadN X112.here hx rfl (hb hby d3_29) rfl k) ?_
    show OGo p.tables e below _ (T112.setTop (mkF m 30 #[.val (.ref a0), .val (.long q1), .second, .val (.int p2)] [(.long q1), (.long w), (.ref a0)]))
    refine OGo.st (fun t k => XS.iloadN X112.here hx rfl (hb hby d3_30) rfl k) ?_
    show OGo p.tables e below _ (T112.setTop (mkF m 31 #[.val (.ref a0), .val (.long q1), .second, .val (.int p2)] [(.int p2), (.long q1), (.long w), (.ref a0)]))
    refine OGo.st (fun t k => XS.i2l X112.here hx rfl (hb hby d3_31) rfl k) ?_
    show OGo p.tables e below _ (T112.setTop (mkF m 32 #[.val (.ref a0), .val (.long q1), .second, .val (.int p2)] [(.long ((p2).toInt64)), (.long q1), (.long w), (.ref a0)]))
    refine OGo.st (fun t k => XS.lmul X112.here hx rfl (hb hby d3_32) rfl k) ?_
    show OGo p.tables e below _ (T112.setTop (mkF m 33 #[.val (.ref a0), .val (.long q1), .second, .val (.int p2)] [(.long (q1 * ((p2).toInt64))), (.long w), (.ref a0)]))
    refine OGo.st (fun t k => XS.lsub X112.here hx rfl (hb hby d3_33) rfl k) ?_
    show OGo p.tables e below _ (T112.setTop (mkF m 34 #[.val (.ref a0), .val (.long q1), .second, .val (.int p2)] [(.long (w - (q1 * ((p2).toInt64)))), (.ref a0)]))
    obtain ⟨T113, h113, X113, e113, W113, st113⟩ := putF X112 hx hZ hown (host := "") (Or.inl (hw _ (List.mem_of_getElem? (i := 21) rfl))) Via.refl e112 F E0 (Or.inl (hw _ (List.mem_of_getElem? (i := 22) rfl))) (hw _ (List.mem_of_getElem? (i := 3) rfl)) (ty := .long) (by decide) rfl rfl (g := (mkF m 34 #[.val (.ref a0), .val (.long q1), .second, .val (.int p2)] [(.long (w - (q1 * ((p2).toInt64)))), (.ref a0)])) rfl rfl (hb hby d3_34)
    refine OGo.st st113 ?_
    have Fw113 : Fld Z h113 a0 "com/example/crossweave/crossweave/KeyVisits" "left" "J" (.long (w - (q1 * ((p2).toInt64)))) := Fld.same W113 F
    have N113 := Fr.snoc X113 N0 g0
    show OGo p.tables e below _ (T113.setTop (mkF m 37 #[.val (.ref a0), .val (.long q1), .second, .val (.int p2)] []))
    refine OGo.st (fun t k => XS.iconst X113.here hx rfl (hb hby d3_37) k) ?_
    show OGo p.tables e below _ (T113.setTop (mkF m 38 #[.val (.ref a0), .val (.long q1), .second, .val (.int p2)] [(.int (1 : Int32))]))
    obtain ⟨fs, hr, hrun, hended, hW, hsame⟩ := X113.leave (v := some (.int (1 : Int32))) (fun h => by rw [Bd.returns] at h; cases h)
    refine OGo.done (retN X113 hx (t := .boolean) Bd.returns (by simp) (hb hby d3_38) hr) ⟨hrun, hended, _, _, rfl, ?_, ⟨_, rfl⟩, hW, hsame.mono (by decide) (by decide)⟩
    show Q3 Z a0 q1 p2 w h0 n0 _ T113.heap _
    rw [e113]
    exact ⟨(congrArg (fun z => some (Value.int z)) (show (1 : Int32) = (own_spent w q1 p2) from by rw [own_spent, if_neg (fun q => hc3_101 ((lw_gt _ _).mpr q))])), N113, ((Keep.refl h0 [a0]).wr W113 (Or.inl (List.mem_of_getElem? (i := 0) rfl))), (own_fld Fw113 (by rw [own_left, if_neg (fun q => hc3_101 ((lw_gt _ _).mpr q))]))⟩
theorem pd_0 : parseMethodDescriptor "(IILcom/example/crossweave/crossweave/TypeRegistry;)V" = some ⟨[.int, .int, (.object "com/example/crossweave/crossweave/TypeRegistry")], none⟩ := by decide +kernel
theorem pd_1 : parseMethodDescriptor "()J" = some ⟨[], some .long⟩ := by decide +kernel
theorem pd_2 : parseMethodDescriptor "(JJJ)Z" = some ⟨[.long, .long, .long], some .boolean⟩ := by decide +kernel
theorem pd_3 : parseMethodDescriptor "(JI)Z" = some ⟨[.long, .int], some .boolean⟩ := by decide +kernel
theorem ef_4 (m : MethodId) (x0 : Int64) (x1 : Int32) (x2 : Int32) (x3 : Int32) : entryFrame m #[(.long x0), (.int x1), (.int x2), (.int x3)] maxLocals = mkF m 0 #[.val (.long x0), .second, .val (.int x1), .val (.int x2), .val (.int x3), .unset, .unset, .unset, .unset, .unset, .unset, .unset, .unset, .unset, .unset, .unset, .unset] [] := by first | (simp [entryFrame, mkF, argsToLocals, Value.category, maxLocals]; done) | rfl
def Q4 (Z : State) (q0 : Int64) (p1 : Int32) (p2 : Int32) (p3 : Int32) (h0 : Heap) (n0 : Nat) (v : Option Value) (h : Heap) (L : List Loc) : Prop := v = some (.int (1 : Int32)) ∧ Fr n0 L
set_option maxRecDepth 65536 in
set_option maxHeartbeats 40000000 in
theorem rm4 (l : Launch) (Z : State) (ar : Array Value) (hw : ∀ d ∈ tables_1, d.before ar Z = true) (ws : List Jvm.Cond) (q0 : Int64) (p1 : Int32) (p2 : Int32) (p3 : Int32) (h0 : Heap) (n0 : Nat) (Z0 : n0 ≤ h0.size)  :
    MetFree l x (head1 (Jvm.Cond.code x code maxLocals ret :: ws) room_1) (fun a U => a = #[(.long q0), (.int p1), (.int p2), (.int p3)] ∧ Z.Warmed39 U.vm ∧ U.heap = h0) (fun _ _ _ _ _ => True) (fun _ U o U' => ∃ v L, o = .returned v ∧ Q4 Z q0 p1 p2 p3 h0 n0 v U'.heap L ∧ FrameEnd U o U' L room_1.cells room_1.slots) := by
  refine MetFree.of_bodySF (plainFor_of_name pn_1) hisR ?_
  intro p e s m args below meth c s₁ Bd hml0 hP hK
  obtain ⟨rfl, hZ, hh⟩ := hP
  have hx := Bd.exec
  have hby := Bd.bytes
  have hml : c.maxLocals = 17 := hml0
  have hown : s.vm.findClass "com/example/crossweave/crossweave/KeyVisitsSpendPinLaw" = some m.cls := findClass_of_methodNamed Bd.named
  have hnm := (name_of_methodNamed Bd.named Bd.method).1
  have X0 : Stand p l e room_1 s m #[(.long q0), (.int p1), (.int p2), (.int p3)] below meth c s₁ [] 0 0 := Stand.of_body Bd
  have e0 : s₁.heap = h0 := by rw [← hh, Bd.state]; rfl
  have N0 := Fr.nil n0
  have pre0 : ∀ t, Steps p.tables e below (s₁.setTop (mkF m 0 #[.val (.long q0), .second, .val (.int p1), .val (.int p2), .val (.int p3), .unset, .unset, .unset, .unset, .unset, .unset, .unset, .unset, .unset, .unset, .unset, .unset] [])) t → Steps p.tables e below (s₁.setTop (entryFrame m #[(.long q0), (.int p1), (.int p2), (.int p3)] maxLocals)) t := fun t k => castTop (ef_4 m q0 p1 p2 p3) k
  refine OGo.start pre0 ?_
  show OGo p.tables e below _ (s₁.setTop (mkF m 0 #[.val (.long q0), .second, .val (.int p1), .val (.int p2), .val (.int p3), .unset, .unset, .unset, .unset, .unset, .unset, .unset, .unset, .unset, .unset, .unset, .unset] []))
  refine OGo.st (fun t k => XS.lloadN X0.here hx rfl (hb hby at_0) rfl k) ?_
  show OGo p.tables e below _ (s₁.setTop (mkF m 1 #[.val (.long q0), .second, .val (.int p1), .val (.int p2), .val (.int p3), .unset, .unset, .unset, .unset, .unset, .unset, .unset, .unset, .unset, .unset, .unset, .unset] [(.long q0)]))
  refine OGo.st (fun t k => X0.ldc2Long hx hown (mvT hZ (hw _ (List.mem_of_getElem? (i := 0) rfl))) (g := (mkF m 1 #[.val (.long q0), .second, .val (.int p1), .val (.int p2), .val (.int p3), .unset, .unset, .unset, .unset, .unset, .unset, .unset, .unset, .unset, .unset, .unset, .unset] [(.long q0)])) rfl (hb hby at_1) _ k) ?_
  show OGo p.tables e below _ (s₁.setTop (mkF m 4 #[.val (.long q0), .second, .val (.int p1), .val (.int p2), .val (.int p3), .unset, .unset, .unset, .unset, .unset, .unset, .unset, .unset, .unset, .unset, .unset, .unset] [(.long (9223372036854775807 : Int64)), (.long q0)]))
  refine OGo.st (fun t k => XS.land X0.here hx rfl (hb hby at_4) rfl k) ?_
  show OGo p.tables e below _ (s₁.setTop (mkF m 5 #[.val (.long q0), .second, .val (.int p1), .val (.int p2), .val (.int p3), .unset, .unset, .unset, .unset, .unset, .unset, .unset, .unset, .unset, .unset, .unset, .unset] [(.long (q0 &&& (9223372036854775807 : Int64)))]))
  refine OGo.st (fun t k => XS.lstore X0.here hx rfl (hb hby at_5) rfl (l' := #[.val (.long q0), .second, .val (.int p1), .val (.int p2), .val (.int p3), .val (.long (q0 &&& (9223372036854775807 : Int64))), .second, .unset, .unset, .unset, .unset, .unset, .unset, .unset, .unset, .unset, .unset]) rfl k) ?_
  show OGo p.tables e below _ (s₁.setTop (mkF m 7 #[.val (.long q0), .second, .val (.int p1), .val (.int p2), .val (.int p3), .val (.long (q0 &&& (9223372036854775807 : Int64))), .second, .unset, .unset, .unset, .unset, .unset, .unset, .unset, .unset, .unset, .unset] []))
  refine OGo.st (fun t k => XS.iloadN X0.here hx rfl (hb hby at_7) rfl k) ?_
  show OGo p.tables e below _ (s₁.setTop (mkF m 8 #[.val (.long q0), .second, .val (.int p1), .val (.int p2), .val (.int p3), .val (.long (q0 &&& (9223372036854775807 : Int64))), .second, .unset, .unset, .unset, .unset, .unset, .unset, .unset, .unset, .unset, .unset] [(.int p1)]))
  refine OGo.st (fun t k => X0.ldcInt hx hown (mvT hZ (hw _ (List.mem_of_getElem? (i := 1) rfl))) (g := (mkF m 8 #[.val (.long q0), .second, .val (.int p1), .val (.int p2), .val (.int p3), .val (.long (q0 &&& (9223372036854775807 : Int64))), .second, .unset, .unset, .unset, .unset, .unset, .unset, .unset, .unset, .unset, .unset] [(.int p1)])) rfl (hb hby at_8) _ k) ?_
  show OGo p.tables e below _ (s₁.setTop (mkF m 10 #[.val (.long q0), .second, .val (.int p1), .val (.int p2), .val (.int p3), .val (.long (q0 &&& (9223372036854775807 : Int64))), .second, .unset, .unset, .unset, .unset, .unset, .unset, .unset, .unset, .unset, .unset] [(.int (2147483647 : Int32)), (.int p1)]))
  refine OGo.st (fun t k => XS.iand X0.here hx rfl (hb hby at_10) rfl k) ?_
  show OGo p.tables e below _ (s₁.setTop (mkF m 11 #[.val (.long q0), .second, .val (.int p1), .val (.int p2), .val (.int p3), .val (.long (q0 &&& (9223372036854775807 : Int64))), .second, .unset, .unset, .unset, .unset, .unset, .unset, .unset, .unset, .unset, .unset] [(.int (p1 &&& (2147483647 : Int32)))]))
  refine OGo.st (fun t k => XS.istore X0.here hx rfl (hb hby at_11) rfl (l' := #[.val (.long q0), .second, .val (.int p1), .val (.int p2), .val (.int p3), .val (.long (q0 &&& (9223372036854775807 : Int64))), .second, .val (.int (p1 &&& (2147483647 : Int32))), .unset, .unset, .unset, .unset, .unset, .unset, .unset, .unset, .unset]) rfl k) ?_
  show OGo p.tables e below _ (s₁.setTop (mkF m 13 #[.val (.long q0), .second, .val (.int p1), .val (.int p2), .val (.int p3), .val (.long (q0 &&& (9223372036854775807 : Int64))), .second, .val (.int (p1 &&& (2147483647 : Int32))), .unset, .unset, .unset, .unset, .unset, .unset, .unset, .unset, .unset] []))
  refine OGo.st (fun t k => XS.iloadN X0.here hx rfl (hb hby at_13) rfl k) ?_
  show OGo p.tables e below _ (s₁.setTop (mkF m 14 #[.val (.long q0), .second, .val (.int p1), .val (.int p2), .val (.int p3), .val (.long (q0 &&& (9223372036854775807 : Int64))), .second, .val (.int (p1 &&& (2147483647 : Int32))), .unset, .unset, .unset, .unset, .unset, .unset, .unset, .unset, .unset] [(.int p2)]))
  refine OGo.st (fun t k => X0.ldcInt hx hown (mvT hZ (hw _ (List.mem_of_getElem? (i := 1) rfl))) (g := (mkF m 14 #[.val (.long q0), .second, .val (.int p1), .val (.int p2), .val (.int p3), .val (.long (q0 &&& (9223372036854775807 : Int64))), .second, .val (.int (p1 &&& (2147483647 : Int32))), .unset, .unset, .unset, .unset, .unset, .unset, .unset, .unset, .unset] [(.int p2)])) rfl (hb hby at_14) _ k) ?_
  show OGo p.tables e below _ (s₁.setTop (mkF m 16 #[.val (.long q0), .second, .val (.int p1), .val (.int p2), .val (.int p3), .val (.long (q0 &&& (9223372036854775807 : Int64))), .second, .val (.int (p1 &&& (2147483647 : Int32))), .unset, .unset, .unset, .unset, .unset, .unset, .unset, .unset, .unset] [(.int (2147483647 : Int32)), (.int p2)]))
  refine OGo.st (fun t k => XS.iand X0.here hx rfl (hb hby at_16) rfl k) ?_
  show OGo p.tables e below _ (s₁.setTop (mkF m 17 #[.val (.long q0), .second, .val (.int p1), .val (.int p2), .val (.int p3), .val (.long (q0 &&& (9223372036854775807 : Int64))), .second, .val (.int (p1 &&& (2147483647 : Int32))), .unset, .unset, .unset, .unset, .unset, .unset, .unset, .unset, .unset] [(.int (p2 &&& (2147483647 : Int32)))]))
  refine OGo.st (fun t k => XS.istore X0.here hx rfl (hb hby at_17) rfl (l' := #[.val (.long q0), .second, .val (.int p1), .val (.int p2), .val (.int p3), .val (.long (q0 &&& (9223372036854775807 : Int64))), .second, .val (.int (p1 &&& (2147483647 : Int32))), .val (.int (p2 &&& (2147483647 : Int32))), .unset, .unset, .unset, .unset, .unset, .unset, .unset, .unset]) rfl k) ?_
  show OGo p.tables e below _ (s₁.setTop (mkF m 19 #[.val (.long q0), .second, .val (.int p1), .val (.int p2), .val (.int p3), .val (.long (q0 &&& (9223372036854775807 : Int64))), .second, .val (.int (p1 &&& (2147483647 : Int32))), .val (.int (p2 &&& (2147483647 : Int32))), .unset, .unset, .unset, .unset, .unset, .unset, .unset, .unset] []))
  refine OGo.st (fun t k => XS.iload X0.here hx rfl (hb hby at_19) rfl k) ?_
  show OGo p.tables e below _ (s₁.setTop (mkF m 21 #[.val (.long q0), .second, .val (.int p1), .val (.int p2), .val (.int p3), .val (.long (q0 &&& (9223372036854775807 : Int64))), .second, .val (.int (p1 &&& (2147483647 : Int32))), .val (.int (p2 &&& (2147483647 : Int32))), .unset, .unset, .unset, .unset, .unset, .unset, .unset, .unset] [(.int p3)]))
  refine OGo.st (fun t k => X0.ldcInt hx hown (mvT hZ (hw _ (List.mem_of_getElem? (i := 1) rfl))) (g := (mkF m 21 #[.val (.long q0), .second, .val (.int p1), .val (.int p2), .val (.int p3), .val (.long (q0 &&& (9223372036854775807 : Int64))), .second, .val (.int (p1 &&& (2147483647 : Int32))), .val (.int (p2 &&& (2147483647 : Int32))), .unset, .unset, .unset, .unset, .unset, .unset, .unset, .unset] [(.int p3)])) rfl (hb hby at_21) _ k) ?_
  show OGo p.tables e below _ (s₁.setTop (mkF m 23 #[.val (.long q0), .second, .val (.int p1), .val (.int p2), .val (.int p3), .val (.long (q0 &&& (9223372036854775807 : Int64))), .second, .val (.int (p1 &&& (2147483647 : Int32))), .val (.int (p2 &&& (2147483647 : Int32))), .unset, .unset, .unset, .unset, .unset, .unset, .unset, .unset] [(.int (2147483647 : Int32)), (.int p3)]))
  refine OGo.st (fun t k => XS.iand X0.here hx rfl (hb hby at_23) rfl k) ?_
  show OGo p.tables e below _ (s₁.setTop (mkF m 24 #[.val (.long q0), .second, .val (.int p1), .val (.int p2), .val (.int p3), .val (.long (q0 &&& (9223372036854775807 : Int64))), .second, .val (.int (p1 &&& (2147483647 : Int32))), .val (.int (p2 &&& (2147483647 : Int32))), .unset, .unset, .unset, .unset, .unset, .unset, .unset, .unset] [(.int (p3 &&& (2147483647 : Int32)))]))
  refine OGo.st (fun t k => XS.istore X0.here hx rfl (hb hby at_24) rfl (l' := #[.val (.long q0), .second, .val (.int p1), .val (.int p2), .val (.int p3), .val (.long (q0 &&& (9223372036854775807 : Int64))), .second, .val (.int (p1 &&& (2147483647 : Int32))), .val (.int (p2 &&& (2147483647 : Int32))), .val (.int (p3 &&& (2147483647 : Int32))), .unset, .unset, .unset, .unset, .unset, .unset, .unset]) rfl k) ?_
  show OGo p.tables e below _ (s₁.setTop (mkF m 26 #[.val (.long q0), .second, .val (.int p1), .val (.int p2), .val (.int p3), .val (.long (q0 &&& (9223372036854775807 : Int64))), .second, .val (.int (p1 &&& (2147483647 : Int32))), .val (.int (p2 &&& (2147483647 : Int32))), .val (.int (p3 &&& (2147483647 : Int32))), .unset, .unset, .unset, .unset, .unset, .unset, .unset] []))
  refine OGo.st (fun t k => XS.iload X0.here hx rfl (hb hby at_26) rfl k) ?_
  show OGo p.tables e below _ (s₁.setTop (mkF m 28 #[.val (.long q0), .second, .val (.int p1), .val (.int p2), .val (.int p3), .val (.long (q0 &&& (9223372036854775807 : Int64))), .second, .val (.int (p1 &&& (2147483647 : Int32))), .val (.int (p2 &&& (2147483647 : Int32))), .val (.int (p3 &&& (2147483647 : Int32))), .unset, .unset, .unset, .unset, .unset, .unset, .unset] [(.int (p2 &&& (2147483647 : Int32)))]))
  refine OGo.st (fun t k => XS.i2l X0.here hx rfl (hb hby at_28) rfl k) ?_
  show OGo p.tables e below _ (s₁.setTop (mkF m 29 #[.val (.long q0), .second, .val (.int p1), .val (.int p2), .val (.int p3), .val (.long (q0 &&& (9223372036854775807 : Int64))), .second, .val (.int (p1 &&& (2147483647 : Int32))), .val (.int (p2 &&& (2147483647 : Int32))), .val (.int (p3 &&& (2147483647 : Int32))), .unset, .unset, .unset, .unset, .unset, .unset, .unset] [(.long (((p2 &&& (2147483647 : Int32))).toInt64))]))
  refine OGo.st (fun t k => XS.iload X0.here hx rfl (hb hby at_29) rfl k) ?_
  show OGo p.tables e below _ (s₁.setTop (mkF m 31 #[.val (.long q0), .second, .val (.int p1), .val (.int p2), .val (.int p3), .val (.long (q0 &&& (9223372036854775807 : Int64))), .second, .val (.int (p1 &&& (2147483647 : Int32))), .val (.int (p2 &&& (2147483647 : Int32))), .val (.int (p3 &&& (2147483647 : Int32))), .unset, .unset, .unset, .unset, .unset, .unset, .unset] [(.int (p3 &&& (2147483647 : Int32))), (.long (((p2 &&& (2147483647 : Int32))).toInt64))]))
  refine OGo.st (fun t k => XS.i2l X0.here hx rfl (hb hby at_31) rfl k) ?_
  show OGo p.tables e below _ (s₁.setTop (mkF m 32 #[.val (.long q0), .second, .val (.int p1), .val (.int p2), .val (.int p3), .val (.long (q0 &&& (9223372036854775807 : Int64))), .second, .val (.int (p1 &&& (2147483647 : Int32))), .val (.int (p2 &&& (2147483647 : Int32))), .val (.int (p3 &&& (2147483647 : Int32))), .unset, .unset, .unset, .unset, .unset, .unset, .unset] [(.long (((p3 &&& (2147483647 : Int32))).toInt64)), (.long (((p2 &&& (2147483647 : Int32))).toInt64))]))
  refine OGo.st (fun t k => XS.lmul X0.here hx rfl (hb hby at_32) rfl k) ?_
  show OGo p.tables e below _ (s₁.setTop (mkF m 33 #[.val (.long q0), .second, .val (.int p1), .val (.int p2), .val (.int p3), .val (.long (q0 &&& (9223372036854775807 : Int64))), .second, .val (.int (p1 &&& (2147483647 : Int32))), .val (.int (p2 &&& (2147483647 : Int32))), .val (.int (p3 &&& (2147483647 : Int32))), .unset, .unset, .unset, .unset, .unset, .unset, .unset] [(.long ((((p2 &&& (2147483647 : Int32))).toInt64) * (((p3 &&& (2147483647 : Int32))).toInt64)))]))
  refine OGo.st (fun t k => XS.lstore X0.here hx rfl (hb hby at_33) rfl (l' := #[.val (.long q0), .second, .val (.int p1), .val (.int p2), .val (.int p3), .val (.long (q0 &&& (9223372036854775807 : Int64))), .second, .val (.int (p1 &&& (2147483647 : Int32))), .val (.int (p2 &&& (2147483647 : Int32))), .val (.int (p3 &&& (2147483647 : Int32))), .val (.long ((((p2 &&& (2147483647 : Int32))).toInt64) * (((p3 &&& (2147483647 : Int32))).toInt64))), .second, .unset, .unset, .unset, .unset, .unset]) rfl k) ?_
  show OGo p.tables e below _ (s₁.setTop (mkF m 35 #[.val (.long q0), .second, .val (.int p1), .val (.int p2), .val (.int p3), .val (.long (q0 &&& (9223372036854775807 : Int64))), .second, .val (.int (p1 &&& (2147483647 : Int32))), .val (.int (p2 &&& (2147483647 : Int32))), .val (.int (p3 &&& (2147483647 : Int32))), .val (.long ((((p2 &&& (2147483647 : Int32))).toInt64) * (((p3 &&& (2147483647 : Int32))).toInt64))), .second, .unset, .unset, .unset, .unset, .unset] []))
  have hvv := own_n1 q0
  generalize (q0 &&& (9223372036854775807 : Int64)) = vv at hvv ⊢
  have htt := own_i1 p1
  generalize (p1 &&& (2147483647 : Int32)) = tt at htt ⊢
  have hpb := own_i1 p2
  generalize (p2 &&& (2147483647 : Int32)) = pb at hpb ⊢
  have hpl := own_i1 p3
  generalize (p3 &&& (2147483647 : Int32)) = pl at hpl ⊢
  have hbud := own_bud pb pl hpb hpl
  show OGo p.tables e below _ (s₁.setTop (mkF m 35 #[.val (.long q0), .second, .val (.int p1), .val (.int p2), .val (.int p3), .val (.long vv), .second, .val (.int tt), .val (.int pb), .val (.int pl), .val (.long (((pb).toInt64) * ((pl).toInt64))), .second, .unset, .unset, .unset, .unset, .unset] []))
  obtain ⟨T101, h101, X101, e101, E101, A101, D101, -, st101⟩ := newO X0 hx hZ hown (hw _ (List.mem_of_getElem? (i := 2) rfl)) (hw _ (List.mem_of_getElem? (i := 3) rfl)) (hw _ (List.mem_of_getElem? (i := 4) rfl)) e0 (g := (mkF m 35 #[.val (.long q0), .second, .val (.int p1), .val (.int p2), .val (.int p3), .val (.long vv), .second, .val (.int tt), .val (.int pb), .val (.int pl), .val (.long (((pb).toInt64) * ((pl).toInt64))), .second, .unset, .unset, .unset, .unset, .unset] [])) rfl (hb hby at_35) (by decide) (by decide)
  obtain ⟨b101, g101⟩ : ∃ z, z = h0.size := ⟨_, rfl⟩
  rw [← g101] at A101 D101 st101
  have ge_b101 : n0 ≤ b101 := Nat.le_trans Z0 (Nat.le_of_eq g101.symm)
  have sz_b101 : h0.size ≤ b101 := Nat.le_trans (Nat.le_refl h0.size) (Nat.le_of_eq g101.symm)
  refine OGo.st st101 ?_
  have Fn101_lastReferenceAt : Fld Z h101 b101 "com/example/crossweave/crossweave/KeyVisits" "lastReferenceAt" "I" (.int (0 : Int32)) := D101 (Or.inl (hw _ (List.mem_of_getElem? (i := 12) rfl))) (ty := .int) (by decide)
  have Fn101_lastSetOrMapAt : Fld Z h101 b101 "com/example/crossweave/crossweave/KeyVisits" "lastSetOrMapAt" "I" (.int (0 : Int32)) := D101 (Or.inl (hw _ (List.mem_of_getElem? (i := 14) rfl))) (ty := .int) (by decide)
  have Fn101_perByte : Fld Z h101 b101 "com/example/crossweave/crossweave/KeyVisits" "perByte" "I" (.int (0 : Int32)) := D101 (Or.inr (hw _ (List.mem_of_getElem? (i := 16) rfl))) (ty := .int) (by decide)
  have Fn101_payloadLength : Fld Z h101 b101 "com/example/crossweave/crossweave/KeyVisits" "payloadLength" "I" (.int (0 : Int32)) := D101 (Or.inr (hw _ (List.mem_of_getElem? (i := 18) rfl))) (ty := .int) (by decide)
  have Fn101_types : Fld Z h101 b101 "com/example/crossweave/crossweave/KeyVisits" "types" "Lcom/example/crossweave/crossweave/TypeRegistry;" .null := D101 (Or.inr (hw _ (List.mem_of_getElem? (i := 20) rfl))) (ty := (.object "com/example/crossweave/crossweave/TypeRegistry")) (by decide)
  have Fn101_left : Fld Z h101 b101 "com/example/crossweave/crossweave/KeyVisits" "left" "J" (.long (0 : Int64)) := D101 (Or.inl (hw _ (List.mem_of_getElem? (i := 22) rfl))) (ty := .long) (by decide)
  show OGo p.tables e below _ (T101.setTop (mkF m 38 #[.val (.long q0), .second, .val (.int p1), .val (.int p2), .val (.int p3), .val (.long vv), .second, .val (.int tt), .val (.int pb), .val (.int pl), .val (.long (((pb).toInt64) * ((pl).toInt64))), .second, .unset, .unset, .unset, .unset, .unset] [(.ref b101)]))
  refine OGo.st (fun t k => XS.dup X101.here hx rfl (hb hby at_38) rfl rfl k) ?_
  show OGo p.tables e below _ (T101.setTop (mkF m 39 #[.val (.long q0), .second, .val (.int p1), .val (.int p2), .val (.int p3), .val (.long vv), .second, .val (.int tt), .val (.int pb), .val (.int pl), .val (.long (((pb).toInt64) * ((pl).toInt64))), .second, .unset, .unset, .unset, .unset, .unset] [(.ref b101), (.ref b101)]))
  refine OGo.st (fun t k => XS.iload X101.here hx rfl (hb hby at_39) rfl k) ?_
  show OGo p.tables e below _ (T101.setTop (mkF m 41 #[.val (.long q0), .second, .val (.int p1), .val (.int p2), .val (.int p3), .val (.long vv), .second, .val (.int tt), .val (.int pb), .val (.int pl), .val (.long (((pb).toInt64) * ((pl).toInt64))), .second, .unset, .unset, .unset, .unset, .unset] [(.int pb), (.ref b101), (.ref b101)]))
  refine OGo.st (fun t k => XS.iload X101.here hx rfl (hb hby at_41) rfl k) ?_
  show OGo p.tables e below _ (T101.setTop (mkF m 43 #[.val (.long q0), .second, .val (.int p1), .val (.int p2), .val (.int p3), .val (.long vv), .second, .val (.int tt), .val (.int pb), .val (.int pl), .val (.long (((pb).toInt64) * ((pl).toInt64))), .second, .unset, .unset, .unset, .unset, .unset] [(.int pl), (.int pb), (.ref b101), (.ref b101)]))
  refine OGo.st (fun t k => XS.aconstNull X101.here hx rfl (hb hby at_43) k) ?_
  show OGo p.tables e below _ (T101.setTop (mkF m 44 #[.val (.long q0), .second, .val (.int p1), .val (.int p2), .val (.int p3), .val (.long vv), .second, .val (.int tt), .val (.int pb), .val (.int pl), .val (.long (((pb).toInt64) * ((pl).toInt64))), .second, .unset, .unset, .unset, .unset, .unset] [.null, (.int pl), (.int pb), (.ref b101), (.ref b101)]))
  obtain ⟨_, _, ⟨T102, L102, kk102, nn102⟩, -, X102, ⟨Lc102, hQ102, l102, y102, z102⟩, st102⟩ := X101.specialBack hx (y := (⟨"com/example/crossweave/crossweave/KeyVisits", "<init>", "(IILcom/example/crossweave/crossweave/TypeRegistry;)V"⟩ : MethodName)) rfl hown (mvT hZ (hw _ (List.mem_of_getElem? (i := 5) rfl))) (mvT hZ (hw _ (List.mem_of_getElem? (i := 6) rfl))) (mvT hZ (hw _ (List.mem_of_getElem? (i := 7) rfl))) (by decide) (backOf (W := 1) (rm0 l Z ar hw [] b101 pb pl h101 n0 (Nat.le_trans Z0 E101.1) A101 ge_b101 Fn101_lastReferenceAt Fn101_lastSetOrMapAt Fn101_perByte Fn101_payloadLength Fn101_types Fn101_left) hZ (hw _ (List.mem_of_getElem? (i := 7) rfl)) (hw _ (List.mem_of_getElem? (i := 4) rfl)) (by decide) (by decide)) (g := (mkF m 44 #[.val (.long q0), .second, .val (.int p1), .val (.int p2), .val (.int p3), .val (.long vv), .second, .val (.int tt), .val (.int pb), .val (.int pl), .val (.long (((pb).toInt64) * ((pl).toInt64))), .second, .unset, .unset, .unset, .unset, .unset] [.null, (.int pl), (.int pb), (.ref b101), (.ref b101)])) rfl (by rw [hml]; rfl) (Steps.refl _) (a := b101) (argsL := [(.int pb), (.int pl), .null]) (rest := [(.ref b101)]) (lenOf pd_0 rfl) rfl (by show 2 * 0 + _ ≤ _; exact Nat.le_of_eq rfl) (hb hby at_44) (fun _ _ => ⟨rfl, e101, (by decide : 1 + 0 ≤ _), (by decide : 8 + 0 ≤ _)⟩)
  dsimp only [Pt.U, Pt.locs, Pt.cells, Pt.slots] at X102 l102 y102 z102 st102 hQ102
  subst l102 y102 z102
  obtain ⟨rfl, Nq102, K102, P102_0⟩ := hQ102
  have N102 := Fr.app N0 Nq102
  refine OGo.st (fun t k => st102.trans k) ?_
  show OGo p.tables e below _ (T102.setTop (mkF m 47 #[.val (.long q0), .second, .val (.int p1), .val (.int p2), .val (.int p3), .val (.long vv), .second, .val (.int tt), .val (.int pb), .val (.int pl), .val (.long (((pb).toInt64) * ((pl).toInt64))), .second, .unset, .unset, .unset, .unset, .unset] [(.ref b101)]))
  refine OGo.st (fun t k => XS.astore X102.here hx rfl (hb hby at_47) rfl rfl (l' := #[.val (.long q0), .second, .val (.int p1), .val (.int p2), .val (.int p3), .val (.long vv), .second, .val (.int tt), .val (.int pb), .val (.int pl), .val (.long (((pb).toInt64) * ((pl).toInt64))), .second, .val (.ref b101), .unset, .unset, .unset, .unset]) rfl k) ?_
  show OGo p.tables e below _ (T102.setTop (mkF m 49 #[.val (.long q0), .second, .val (.int p1), .val (.int p2), .val (.int p3), .val (.long vv), .second, .val (.int tt), .val (.int pb), .val (.int pl), .val (.long (((pb).toInt64) * ((pl).toInt64))), .second, .val (.ref b101), .unset, .unset, .unset, .unset] []))
  refine OGo.st (fun t k => XS.aload X102.here hx rfl (hb hby at_49) rfl rfl k) ?_
  show OGo p.tables e below _ (T102.setTop (mkF m 51 #[.val (.long q0), .second, .val (.int p1), .val (.int p2), .val (.int p3), .val (.long vv), .second, .val (.int tt), .val (.int pb), .val (.int pl), .val (.long (((pb).toInt64) * ((pl).toInt64))), .second, .val (.ref b101), .unset, .unset, .unset, .unset] [(.ref b101)]))
  have G104 : Exa Z T102.heap b101 "com/example/crossweave/crossweave/KeyVisits" := (A101.keep K102)
  obtain ⟨cq103, kq103, q103a, q103b, q103c⟩ := isOf hZ rfl G104
  obtain ⟨_, _, ⟨T103, L103, kk103, nn103⟩, -, X103, ⟨Lc103, hQ103, l103, y103, z103⟩, st103⟩ := X102.virtualBack hx (y := (⟨"com/example/crossweave/crossweave/KeyVisits", "left", "()J"⟩ : MethodName)) (z := (⟨"com/example/crossweave/crossweave/KeyVisits", "left", "()J"⟩ : MethodName)) hown (mvT hZ (hw _ (List.mem_of_getElem? (i := 23) rfl))) (mvT hZ (hw _ (List.mem_of_getElem? (i := 24) rfl))) (notFace_of_selects (args := #[]) (mvT hZ (hw _ (List.mem_of_getElem? (i := 26) rfl)))) (mvT hZ (hw _ (List.mem_of_getElem? (i := 26) rfl))) (mvT hZ (hw _ (List.mem_of_getElem? (i := 25) rfl))) (by decide) (backOf (W := 0) (rm1 l Z ar hw [] b101 (((pb).toInt64) * ((pl).toInt64)) T102.heap n0 (Nat.le_trans (Nat.le_trans Z0 E101.1) K102.1) P102_0) hZ (hw _ (List.mem_of_getElem? (i := 27) rfl)) (hw _ (List.mem_of_getElem? (i := 4) rfl)) (by decide) (by decide)) q103a q103c (g := (mkF m 51 #[.val (.long q0), .second, .val (.int p1), .val (.int p2), .val (.int p3), .val (.long vv), .second, .val (.int tt), .val (.int pb), .val (.int pl), .val (.long (((pb).toInt64) * ((pl).toInt64))), .second, .val (.ref b101), .unset, .unset, .unset, .unset] [(.ref b101)])) rfl (by rw [hml]; rfl) (Steps.refl _) (argsL := []) (rest := []) (lenOf pd_1 rfl) rfl (by show 2 * 0 + _ ≤ _; exact Nat.le_of_eq rfl) (hb hby at_51) (fun _ _ => ⟨rfl, rfl, (by decide : 1 + 0 ≤ _), (by decide : 8 + 0 ≤ _)⟩)
  dsimp only [Pt.U, Pt.locs, Pt.cells, Pt.slots] at X103 l103 y103 z103 st103 hQ103
  subst l103 y103 z103
  obtain ⟨rfl, Nq103, hh103⟩ := hQ103
  have N103 := Fr.app N102 Nq103
  refine OGo.st (fun t k => st103.trans k) ?_
  have e103 : T103.heap = T102.heap := hh103
  show OGo p.tables e below _ (T103.setTop (mkF m 54 #[.val (.long q0), .second, .val (.int p1), .val (.int p2), .val (.int p3), .val (.long vv), .second, .val (.int tt), .val (.int pb), .val (.int pl), .val (.long (((pb).toInt64) * ((pl).toInt64))), .second, .val (.ref b101), .unset, .unset, .unset, .unset] [(.long (((pb).toInt64) * ((pl).toInt64)))]))
  refine OGo.st (fun t k => XS.lload X103.here hx rfl (hb hby at_54) rfl k) ?_
  show OGo p.tables e below _ (T103.setTop (mkF m 56 #[.val (.long q0), .second, .val (.int p1), .val (.int p2), .val (.int p3), .val (.long vv), .second, .val (.int tt), .val (.int pb), .val (.int pl), .val (.long (((pb).toInt64) * ((pl).toInt64))), .second, .val (.ref b101), .unset, .unset, .unset, .unset] [(.long (((pb).toInt64) * ((pl).toInt64))), (.long (((pb).toInt64) * ((pl).toInt64)))]))
  refine OGo.st (fun t k => XS.lcmp X103.here hx rfl (hb hby at_56) rfl k) ?_
  show OGo p.tables e below _ (T103.setTop (mkF m 57 #[.val (.long q0), .second, .val (.int p1), .val (.int p2), .val (.int p3), .val (.long vv), .second, .val (.int tt), .val (.int pb), .val (.int pl), .val (.long (((pb).toInt64) * ((pl).toInt64))), .second, .val (.ref b101), .unset, .unset, .unset, .unset] [(.int (lcmpW (((pb).toInt64) * ((pl).toInt64)) (((pb).toInt64) * ((pl).toInt64))))]))
  refine OGo.st (fun t k => XS.ifYes X103.here hx rfl (pc0 := 57) (pc' := 62) rfl (hb hby at_57) rfl ((if0 _ _).trans (teq (((lw_eq _ _).mpr rfl) : (lcmpW (((pb).toInt64) * ((pl).toInt64)) (((pb).toInt64) * ((pl).toInt64))) = (0 : Int32))).1) (by decide) (by decide) k) ?_
  show OGo p.tables e below _ (T103.setTop (mkF m 62 #[.val (.long q0), .second, .val (.int p1), .val (.int p2), .val (.int p3), .val (.long vv), .second, .val (.int tt), .val (.int pb), .val (.int pl), .val (.long (((pb).toInt64) * ((pl).toInt64))), .second, .val (.ref b101), .unset, .unset, .unset, .unset] []))
  refine OGo.st (fun t k => XS.lload X103.here hx rfl (hb hby at_62) rfl k) ?_
  show OGo p.tables e below _ (T103.setTop (mkF m 64 #[.val (.long q0), .second, .val (.int p1), .val (.int p2), .val (.int p3), .val (.long vv), .second, .val (.int tt), .val (.int pb), .val (.int pl), .val (.long (((pb).toInt64) * ((pl).toInt64))), .second, .val (.ref b101), .unset, .unset, .unset, .unset] [(.long vv)]))
  refine OGo.st (fun t k => XS.iload X103.here hx rfl (hb hby at_64) rfl k) ?_
  show OGo p.tables e below _ (T103.setTop (mkF m 66 #[.val (.long q0), .second, .val (.int p1), .val (.int p2), .val (.int p3), .val (.long vv), .second, .val (.int tt), .val (.int pb), .val (.int pl), .val (.long (((pb).toInt64) * ((pl).toInt64))), .second, .val (.ref b101), .unset, .unset, .unset, .unset] [(.int tt), (.long vv)]))
  refine OGo.st (fun t k => XS.i2l X103.here hx rfl (hb hby at_66) rfl k) ?_
  show OGo p.tables e below _ (T103.setTop (mkF m 67 #[.val (.long q0), .second, .val (.int p1), .val (.int p2), .val (.int p3), .val (.long vv), .second, .val (.int tt), .val (.int pb), .val (.int pl), .val (.long (((pb).toInt64) * ((pl).toInt64))), .second, .val (.ref b101), .unset, .unset, .unset, .unset] [(.long ((tt).toInt64)), (.long vv)]))
  refine OGo.st (fun t k => XS.lload X103.here hx rfl (hb hby at_67) rfl k) ?_
  show OGo p.tables e below _ (T103.setTop (mkF m 69 #[.val (.long q0), .second, .val (.int p1), .val (.int p2), .val (.int p3), .val (.long vv), .second, .val (.int tt), .val (.int pb), .val (.int pl), .val (.long (((pb).toInt64) * ((pl).toInt64))), .second, .val (.ref b101), .unset, .unset, .unset, .unset] [(.long (((pb).toInt64) * ((pl).toInt64))), (.long ((tt).toInt64)), (.long vv)]))
  obtain ⟨_, _, ⟨T105, L105, kk105, nn105⟩, -, X105, ⟨Lc105, hQ105, l105, y105, z105⟩, st105⟩ := Jvm.LawKit.callS X103 hx (y := (⟨"com/example/crossweave/crossweave/KeyVisitsSpendPinLaw", "productAtMost", "(JJJ)Z"⟩ : MethodName)) hown (mvT hZ (hw _ (List.mem_of_getElem? (i := 28) rfl))) (mvT hZ (hw _ (List.mem_of_getElem? (i := 29) rfl))) (mvT hZ (hw _ (List.mem_of_getElem? (i := 30) rfl))) (mvT hZ (hw _ (List.mem_of_getElem? (i := 31) rfl))) (by decide) (backOf (W := 0) (rm2 l Z ar hw [] vv ((tt).toInt64) (((pb).toInt64) * ((pl).toInt64)) T102.heap n0 (Nat.le_trans (Nat.le_trans Z0 E101.1) K102.1) ) hZ (hw _ (List.mem_of_getElem? (i := 31) rfl)) (hw _ (List.mem_of_getElem? (i := 30) rfl)) (by decide) (by decide)) (g := (mkF m 69 #[.val (.long q0), .second, .val (.int p1), .val (.int p2), .val (.int p3), .val (.long vv), .second, .val (.int tt), .val (.int pb), .val (.int pl), .val (.long (((pb).toInt64) * ((pl).toInt64))), .second, .val (.ref b101), .unset, .unset, .unset, .unset] [(.long (((pb).toInt64) * ((pl).toInt64))), (.long ((tt).toInt64)), (.long vv)])) rfl (by rw [hml]; rfl) (argsL := [(.long vv), (.long ((tt).toInt64)), (.long (((pb).toInt64) * ((pl).toInt64)))]) (rest := []) (lenOf pd_2 rfl) rfl (by show 2 * 0 + _ ≤ _; exact Nat.le_of_eq rfl) (hb hby at_69) (fun _ _ => ⟨rfl, e103, (by decide : 1 + 0 ≤ _), (by decide : 8 + 0 ≤ _)⟩)
  dsimp only [Pt.U, Pt.locs, Pt.cells, Pt.slots] at X105 l105 y105 z105 st105 hQ105
  subst l105 y105 z105
  obtain ⟨rfl, Nq105, hh105⟩ := hQ105
  have N105 := Fr.app N103 Nq105
  refine OGo.st st105 ?_
  have e105 : T105.heap = T102.heap := hh105
  show OGo p.tables e below _ (T105.setTop (mkF m 72 #[.val (.long q0), .second, .val (.int p1), .val (.int p2), .val (.int p3), .val (.long vv), .second, .val (.int tt), .val (.int pb), .val (.int pl), .val (.long (((pb).toInt64) * ((pl).toInt64))), .second, .val (.ref b101), .unset, .unset, .unset, .unset] [(.int (own_pam vv ((tt).toInt64) (((pb).toInt64) * ((pl).toInt64))))]))
  refine OGo.st (fun t k => XS.istore X105.here hx rfl (hb hby at_72) rfl (l' := #[.val (.long q0), .second, .val (.int p1), .val (.int p2), .val (.int p3), .val (.long vv), .second, .val (.int tt), .val (.int pb), .val (.int pl), .val (.long (((pb).toInt64) * ((pl).toInt64))), .second, .val (.ref b101), .val (.int (own_pam vv ((tt).toInt64) (((pb).toInt64) * ((pl).toInt64)))), .unset, .unset, .unset]) rfl k) ?_
  show OGo p.tables e below _ (T105.setTop (mkF m 74 #[.val (.long q0), .second, .val (.int p1), .val (.int p2), .val (.int p3), .val (.long vv), .second, .val (.int tt), .val (.int pb), .val (.int pl), .val (.long (((pb).toInt64) * ((pl).toInt64))), .second, .val (.ref b101), .val (.int (own_pam vv ((tt).toInt64) (((pb).toInt64) * ((pl).toInt64)))), .unset, .unset, .unset] []))
  refine OGo.st (fun t k => XS.aload X105.here hx rfl (hb hby at_74) rfl rfl k) ?_
  show OGo p.tables e below _ (T105.setTop (mkF m 76 #[.val (.long q0), .second, .val (.int p1), .val (.int p2), .val (.int p3), .val (.long vv), .second, .val (.int tt), .val (.int pb), .val (.int pl), .val (.long (((pb).toInt64) * ((pl).toInt64))), .second, .val (.ref b101), .val (.int (own_pam vv ((tt).toInt64) (((pb).toInt64) * ((pl).toInt64)))), .unset, .unset, .unset] [(.ref b101)]))
  refine OGo.st (fun t k => XS.lload X105.here hx rfl (hb hby at_76) rfl k) ?_
  show OGo p.tables e below _ (T105.setTop (mkF m 78 #[.val (.long q0), .second, .val (.int p1), .val (.int p2), .val (.int p3), .val (.long vv), .second, .val (.int tt), .val (.int pb), .val (.int pl), .val (.long (((pb).toInt64) * ((pl).toInt64))), .second, .val (.ref b101), .val (.int (own_pam vv ((tt).toInt64) (((pb).toInt64) * ((pl).toInt64)))), .unset, .unset, .unset] [(.long vv), (.ref b101)]))
  refine OGo.st (fun t k => XS.iload X105.here hx rfl (hb hby at_78) rfl k) ?_
  show OGo p.tables e below _ (T105.setTop (mkF m 80 #[.val (.long q0), .second, .val (.int p1), .val (.int p2), .val (.int p3), .val (.long vv), .second, .val (.int tt), .val (.int pb), .val (.int pl), .val (.long (((pb).toInt64) * ((pl).toInt64))), .second, .val (.ref b101), .val (.int (own_pam vv ((tt).toInt64) (((pb).toInt64) * ((pl).toInt64)))), .unset, .unset, .unset] [(.int tt), (.long vv), (.ref b101)]))
  obtain ⟨cq106, kq106, q106a, q106b, q106c⟩ := isOf hZ e105 G104
  obtain ⟨_, _, ⟨T106, L106, kk106, nn106⟩, -, X106, ⟨Lc106, hQ106, l106, y106, z106⟩, st106⟩ := X105.virtualBack hx (y := (⟨"com/example/crossweave/crossweave/KeyVisits", "spend", "(JI)Z"⟩ : MethodName)) (z := (⟨"com/example/crossweave/crossweave/KeyVisits", "spend", "(JI)Z"⟩ : MethodName)) hown (mvT hZ (hw _ (List.mem_of_getElem? (i := 33) rfl))) (mvT hZ (hw _ (List.mem_of_getElem? (i := 34) rfl))) (notFace_of_selects (args := #[]) (mvT hZ (hw _ (List.mem_of_getElem? (i := 36) rfl)))) (mvT hZ (hw _ (List.mem_of_getElem? (i := 36) rfl))) (mvT hZ (hw _ (List.mem_of_getElem? (i := 35) rfl))) (by decide) (backOf (W := 0) (rm3 l Z ar hw [] b101 vv tt (((pb).toInt64) * ((pl).toInt64)) T102.heap n0 (Nat.le_trans (Nat.le_trans Z0 E101.1) K102.1) G104 ge_b101 P102_0) hZ (hw _ (List.mem_of_getElem? (i := 37) rfl)) (hw _ (List.mem_of_getElem? (i := 4) rfl)) (by decide) (by decide)) q106a q106c (g := (mkF m 80 #[.val (.long q0), .second, .val (.int p1), .val (.int p2), .val (.int p3), .val (.long vv), .second, .val (.int tt), .val (.int pb), .val (.int pl), .val (.long (((pb).toInt64) * ((pl).toInt64))), .second, .val (.ref b101), .val (.int (own_pam vv ((tt).toInt64) (((pb).toInt64) * ((pl).toInt64)))), .unset, .unset, .unset] [(.int tt), (.long vv), (.ref b101)])) rfl (by rw [hml]; rfl) (Steps.refl _) (argsL := [(.long vv), (.int tt)]) (rest := []) (lenOf pd_3 rfl) rfl (by show 2 * 0 + _ ≤ _; exact Nat.le_of_eq rfl) (hb hby at_80) (fun _ _ => ⟨rfl, e105, (by decide : 1 + 0 ≤ _), (by decide : 8 + 0 ≤ _)⟩)
  dsimp only [Pt.U, Pt.locs, Pt.cells, Pt.slots] at X106 l106 y106 z106 st106 hQ106
  subst l106 y106 z106
  obtain ⟨rfl, Nq106, K106, P106_0⟩ := hQ106
  have N106 := Fr.app N105 Nq106
  refine OGo.st (fun t k => st106.trans k) ?_
  show OGo p.tables e below _ (T106.setTop (mkF m 83 #[.val (.long q0), .second, .val (.int p1), .val (.int p2), .val (.int p3), .val (.long vv), .second, .val (.int tt), .val (.int pb), .val (.int pl), .val (.long (((pb).toInt64) * ((pl).toInt64))), .second, .val (.ref b101), .val (.int (own_pam vv ((tt).toInt64) (((pb).toInt64) * ((pl).toInt64)))), .unset, .unset, .unset] [(.int (own_spent (((pb).toInt64) * ((pl).toInt64)) vv tt))]))
  refine OGo.st (fun t k => XS.istore X106.here hx rfl (hb hby at_83) rfl (l' := #[.val (.long q0), .second, .val (.int p1), .val (.int p2), .val (.int p3), .val (.long vv), .second, .val (.int tt), .val (.int pb), .val (.int pl), .val (.long (((pb).toInt64) * ((pl).toInt64))), .second, .val (.ref b101), .val (.int (own_pam vv ((tt).toInt64) (((pb).toInt64) * ((pl).toInt64)))), .val (.int (own_spent (((pb).toInt64) * ((pl).toInt64)) vv tt)), .unset, .unset]) rfl k) ?_
  show OGo p.tables e below _ (T106.setTop (mkF m 85 #[.val (.long q0), .second, .val (.int p1), .val (.int p2), .val (.int p3), .val (.long vv), .second, .val (.int tt), .val (.int pb), .val (.int pl), .val (.long (((pb).toInt64) * ((pl).toInt64))), .second, .val (.ref b101), .val (.int (own_pam vv ((tt).toInt64) (((pb).toInt64) * ((pl).toInt64)))), .val (.int (own_spent (((pb).toInt64) * ((pl).toInt64)) vv tt)), .unset, .unset] []))
  refine OGo.st (fun t k => XS.iload X106.here hx rfl (hb hby at_85) rfl k) ?_
  show OGo p.tables e below _ (T106.setTop (mkF m 87 #[.val (.long q0), .second, .val (.int p1), .val (.int p2), .val (.int p3), .val (.long vv), .second, .val (.int tt), .val (.int pb), .val (.int pl), .val (.long (((pb).toInt64) * ((pl).toInt64))), .second, .val (.ref b101), .val (.int (own_pam vv ((tt).toInt64) (((pb).toInt64) * ((pl).toInt64)))), .val (.int (own_spent (((pb).toInt64) * ((pl).toInt64)) vv tt)), .unset, .unset] [(.int (own_spent (((pb).toInt64) * ((pl).toInt64)) vv tt))]))
  refine OGo.st (fun t k => XS.iload X106.here hx rfl (hb hby at_87) rfl k) ?_
  show OGo p.tables e below _ (T106.setTop (mkF m 89 #[.val (.long q0), .second, .val (.int p1), .val (.int p2), .val (.int p3), .val (.long vv), .second, .val (.int tt), .val (.int pb), .val (.int pl), .val (.long (((pb).toInt64) * ((pl).toInt64))), .second, .val (.ref b101), .val (.int (own_pam vv ((tt).toInt64) (((pb).toInt64) * ((pl).toInt64)))), .val (.int (own_spent (((pb).toInt64) * ((pl).toInt64)) vv tt)), .unset, .unset] [(.int (own_pam vv ((tt).toInt64) (((pb).toInt64) * ((pl).toInt64)))), (.int (own_spent (((pb).toInt64) * ((pl).toInt64)) vv tt))]))
  refine OGo.st (fun t k => XS.icmpYes X106.here hx rfl (pc0 := 89) (pc' := 94) rfl (hb hby at_89) rfl (teq ((own_main vv _ tt hvv htt hbud) : (own_spent (((pb).toInt64) * ((pl).toInt64)) vv tt) = (own_pam vv ((tt).toInt64) (((pb).toInt64) * ((pl).toInt64))))).1 (by decide) (by decide) k) ?_
  show OGo p.tables e below _ (T106.setTop (mkF m 94 #[.val (.long q0), .second, .val (.int p1), .val (.int p2), .val (.int p3), .val (.long vv), .second, .val (.int tt), .val (.int pb), .val (.int pl), .val (.long (((pb).toInt64) * ((pl).toInt64))), .second, .val (.ref b101), .val (.int (own_pam vv ((tt).toInt64) (((pb).toInt64) * ((pl).toInt64)))), .val (.int (own_spent (((pb).toInt64) * ((pl).toInt64)) vv tt)), .unset, .unset] []))
  refine OGo.st (fun t k => XS.iload X106.here hx rfl (hb hby at_94) rfl k) ?_
  show OGo p.tables e below _ (T106.setTop (mkF m 96 #[.val (.long q0), .second, .val (.int p1), .val (.int p2), .val (.int p3), .val (.long vv), .second, .val (.int tt), .val (.int pb), .val (.int pl), .val (.long (((pb).toInt64) * ((pl).toInt64))), .second, .val (.ref b101), .val (.int (own_pam vv ((tt).toInt64) (((pb).toInt64) * ((pl).toInt64)))), .val (.int (own_spent (((pb).toInt64) * ((pl).toInt64)) vv tt)), .unset, .unset] [(.int (own_pam vv ((tt).toInt64) (((pb).toInt64) * ((pl).toInt64))))]))
  by_cases hc96_107 : (own_pam vv ((tt).toInt64) (((pb).toInt64) * ((pl).toInt64))) = (0 : Int32)
  ·
    refine OGo.st (fun t k => XS.ifYes X106.here hx rfl (pc0 := 96) (pc' := 111) rfl (hb hby at_96) rfl ((if0 _ _).trans (teq hc96_107).1) (by decide) (by decide) k) ?_
    show OGo p.tables e below _ (T106.setTop (mkF m 111 #[.val (.long q0), .second, .val (.int p1), .val (.int p2), .val (.int p3), .val (.long vv), .second, .val (.int tt), .val (.int pb), .val (.int pl), .val (.long (((pb).toInt64) * ((pl).toInt64))), .second, .val (.ref b101), .val (.int (own_pam vv ((tt).toInt64) (((pb).toInt64) * ((pl).toInt64)))), .val (.int (own_spent (((pb).toInt64) * ((pl).toInt64)) vv tt)), .unset, .unset] []))
    refine OGo.st (fun t k => XS.lload X106.here hx rfl (hb hby at_111) rfl k) ?_
    show OGo p.tables e below _ (T106.setTop (mkF m 113 #[.val (.long q0), .second, .val (.int p1), .val (.int p2), .val (.int p3), .val (.long vv), .second, .val (.int tt), .val (.int pb), .val (.int pl), .val (.long (((pb).toInt64) * ((pl).toInt64))), .second, .val (.ref b101), .val (.int (own_pam vv ((tt).toInt64) (((pb).toInt64) * ((pl).toInt64)))), .val (.int (own_spent (((pb).toInt64) * ((pl).toInt64)) vv tt)), .unset, .unset] [(.long (((pb).toInt64) * ((pl).toInt64)))]))
    refine OGo.st (fun t k => XS.lstore X106.here hx rfl (hb hby at_113) rfl (l' := #[.val (.long q0), .second, .val (.int p1), .val (.int p2), .val (.int p3), .val (.long vv), .second, .val (.int tt), .val (.int pb), .val (.int pl), .val (.long (((pb).toInt64) * ((pl).toInt64))), .second, .val (.ref b101), .val (.int (own_pam vv ((tt).toInt64) (((pb).toInt64) * ((pl).toInt64)))), .val (.int (own_spent (((pb).toInt64) * ((pl).toInt64)) vv tt)), .val (.long (((pb).toInt64) * ((pl).toInt64))), .second]) rfl k) ?_
    show OGo p.tables e below _ (T106.setTop (mkF m 115 #[.val (.long q0), .second, .val (.int p1), .val (.int p2), .val (.int p3), .val (.long vv), .second, .val (.int tt), .val (.int pb), .val (.int pl), .val (.long (((pb).toInt64) * ((pl).toInt64))), .second, .val (.ref b101), .val (.int (own_pam vv ((tt).toInt64) (((pb).toInt64) * ((pl).toInt64)))), .val (.int (own_spent (((pb).toInt64) * ((pl).toInt64)) vv tt)), .val (.long (((pb).toInt64) * ((pl).toInt64))), .second] []))
    refine OGo.st (fun t k => XS.aload X106.here hx rfl (hb hby at_115) rfl rfl k) ?_
    show OGo p.tables e below _ (T106.setTop (mkF m 117 #[.val (.long q0), .second, .val (.int p1), .val (.int p2), .val (.int p3), .val (.long vv), .second, .val (.int tt), .val (.int pb), .val (.int pl), .val (.long (((pb).toInt64) * ((pl).toInt64))), .second, .val (.ref b101), .val (.int (own_pam vv ((tt).toInt64) (((pb).toInt64) * ((pl).toInt64)))), .val (.int (own_spent (((pb).toInt64) * ((pl).toInt64)) vv tt)), .val (.long (((pb).toInt64) * ((pl).toInt64))), .second] [(.ref b101)]))
    have G109 : Exa Z T106.heap b101 "com/example/crossweave/crossweave/KeyVisits" := (G104.keep K106)
    obtain ⟨cq108, kq108, q108a, q108b, q108c⟩ := isOf hZ rfl G109
    obtain ⟨_, _, ⟨T108, L108, kk108, nn108⟩, -, X108, ⟨Lc108, hQ108, l108, y108, z108⟩, st108⟩ := X106.virtualBack hx (y := (⟨"com/example/crossweave/crossweave/KeyVisits", "left", "()J"⟩ : MethodName)) (z := (⟨"com/example/crossweave/crossweave/KeyVisits", "left", "()J"⟩ : MethodName)) hown (mvT hZ (hw _ (List.mem_of_getElem? (i := 23) rfl))) (mvT hZ (hw _ (List.mem_of_getElem? (i := 24) rfl))) (notFace_of_selects (args := #[]) (mvT hZ (hw _ (List.mem_of_getElem? (i := 26) rfl)))) (mvT hZ (hw _ (List.mem_of_getElem? (i := 26) rfl))) (mvT hZ (hw _ (List.mem_of_getElem? (i := 25) rfl))) (by decide) (backOf (W := 0) (rm1 l Z ar hw [] b101 (own_left (((pb).toInt64) * ((pl).toInt64)) vv tt) T106.heap n0 (Nat.le_trans (Nat.le_trans (Nat.le_trans Z0 E101.1) K102.1) K106.1) P106_0) hZ (hw _ (List.mem_of_getElem? (i := 27) rfl)) (hw _ (List.mem_of_getElem? (i := 4) rfl)) (by decide) (by decide)) q108a q108c (g := (mkF m 117 #[.val (.long q0), .second, .val (.int p1), .val (.int p2), .val (.int p3), .val (.long vv), .second, .val (.int tt), .val (.int pb), .val (.int pl), .val (.long (((pb).toInt64) * ((pl).toInt64))), .second, .val (.ref b101), .val (.int (own_pam vv ((tt).toInt64) (((pb).toInt64) * ((pl).toInt64)))), .val (.int (own_spent (((pb).toInt64) * ((pl).toInt64)) vv tt)), .val (.long (((pb).toInt64) * ((pl).toInt64))), .second] [(.ref b101)])) rfl (by rw [hml]; rfl) (Steps.refl _) (argsL := []) (rest := []) (lenOf pd_1 rfl) rfl (by show 2 * 0 + _ ≤ _; exact Nat.le_of_eq rfl) (hb hby at_117) (fun _ _ => ⟨rfl, rfl, (by decide : 1 + 0 ≤ _), (by decide : 8 + 0 ≤ _)⟩)
    dsimp only [Pt.U, Pt.locs, Pt.cells, Pt.slots] at X108 l108 y108 z108 st108 hQ108
    subst l108 y108 z108
    obtain ⟨rfl, Nq108, hh108⟩ := hQ108
    have N108 := Fr.app N106 Nq108
    refine OGo.st (fun t k => st108.trans k) ?_
    have e108 : T108.heap = T106.heap := hh108
    show OGo p.tables e below _ (T108.setTop (mkF m 120 #[.val (.long q0), .second, .val (.int p1), .val (.int p2), .val (.int p3), .val (.long vv), .second, .val (.int tt), .val (.int pb), .val (.int pl), .val (.long (((pb).toInt64) * ((pl).toInt64))), .second, .val (.ref b101), .val (.int (own_pam vv ((tt).toInt64) (((pb).toInt64) * ((pl).toInt64)))), .val (.int (own_spent (((pb).toInt64) * ((pl).toInt64)) vv tt)), .val (.long (((pb).toInt64) * ((pl).toInt64))), .second] [(.long (own_left (((pb).toInt64) * ((pl).toInt64)) vv tt))]))
    refine OGo.st (fun t k => XS.lload X108.here hx rfl (hb hby at_120) rfl k) ?_
    show OGo p.tables e below _ (T108.setTop (mkF m 122 #[.val (.long q0), .second, .val (.int p1), .val (.int p2), .val (.int p3), .val (.long vv), .second, .val (.int tt), .val (.int pb), .val (.int pl), .val (.long (((pb).toInt64) * ((pl).toInt64))), .second, .val (.ref b101), .val (.int (own_pam vv ((tt).toInt64) (((pb).toInt64) * ((pl).toInt64)))), .val (.int (own_spent (((pb).toInt64) * ((pl).toInt64)) vv tt)), .val (.long (((pb).toInt64) * ((pl).toInt64))), .second] [(.long (((pb).toInt64) * ((pl).toInt64))), (.long (own_left (((pb).toInt64) * ((pl).toInt64)) vv tt))]))
    refine OGo.st (fun t k => XS.lcmp X108.here hx rfl (hb hby at_122) rfl k) ?_
    show OGo p.tables e below _ (T108.setTop (mkF m 123 #[.val (.long q0), .second, .val (.int p1), .val (.int p2), .val (.int p3), .val (.long vv), .second, .val (.int tt), .val (.int pb), .val (.int pl), .val (.long (((pb).toInt64) * ((pl).toInt64))), .second, .val (.ref b101), .val (.int (own_pam vv ((tt).toInt64) (((pb).toInt64) * ((pl).toInt64)))), .val (.int (own_spent (((pb).toInt64) * ((pl).toInt64)) vv tt)), .val (.long (((pb).toInt64) * ((pl).toInt64))), .second] [(.int (lcmpW (own_left (((pb).toInt64) * ((pl).toInt64)) vv tt) (((pb).toInt64) * ((pl).toInt64))))]))
    refine OGo.st (fun t k => XS.ifNo X108.here hx rfl (hb hby at_123) rfl ((if0 _ _).trans (teq (((lw_eq _ _).mpr (own_left1 vv _ tt hvv htt hbud hc96_107)) : (lcmpW (own_left (((pb).toInt64) * ((pl).toInt64)) vv tt) (((pb).toInt64) * ((pl).toInt64))) = (0 : Int32))).2) k) ?_
    show OGo p.tables e below _ (T108.setTop (mkF m 126 #[.val (.long q0), .second, .val (.int p1), .val (.int p2), .val (.int p3), .val (.long vv), .second, .val (.int tt), .val (.int pb), .val (.int pl), .val (.long (((pb).toInt64) * ((pl).toInt64))), .second, .val (.ref b101), .val (.int (own_pam vv ((tt).toInt64) (((pb).toInt64) * ((pl).toInt64)))), .val (.int (own_spent (((pb).toInt64) * ((pl).toInt64)) vv tt)), .val (.long (((pb).toInt64) * ((pl).toInt64))), .second] []))
    refine OGo.st (fun t k => XS.iconst X108.here hx rfl (hb hby at_126) k) ?_
    show OGo p.tables e below _ (T108.setTop (mkF m 127 #[.val (.long q0), .second, .val (.int p1), .val (.int p2), .val (.int p3), .val (.long vv), .second, .val (.int tt), .val (.int pb), .val (.int pl), .val (.long (((pb).toInt64) * ((pl).toInt64))), .second, .val (.ref b101), .val (.int (own_pam vv ((tt).toInt64) (((pb).toInt64) * ((pl).toInt64)))), .val (.int (own_spent (((pb).toInt64) * ((pl).toInt64)) vv tt)), .val (.long (((pb).toInt64) * ((pl).toInt64))), .second] [(.int (1 : Int32))]))
    refine OGo.st (fun t k => XS.goto X108.here hx rfl (pc0 := 127) (pc' := 131) rfl (hb hby at_127) (by decide) (by decide) k) ?_
    show OGo p.tables e below _ (T108.setTop (mkF m 131 #[.val (.long q0), .second, .val (.int p1), .val (.int p2), .val (.int p3), .val (.long vv), .second, .val (.int tt), .val (.int pb), .val (.int pl), .val (.long (((pb).toInt64) * ((pl).toInt64))), .second, .val (.ref b101), .val (.int (own_pam vv ((tt).toInt64) (((pb).toInt64) * ((pl).toInt64)))), .val (.int (own_spent (((pb).toInt64) * ((pl).toInt64)) vv tt)), .val (.long (((pb).toInt64) * ((pl).toInt64))), .second] [(.int (1 : Int32))]))
    obtain ⟨fs, hr, hrun, hended, hW, hsame⟩ := X108.leave (v := some (.int (1 : Int32))) (fun h => by rw [Bd.returns] at h; cases h)
    refine OGo.done (retN X108 hx (t := .boolean) Bd.returns (by simp) (hb hby at_131) hr) ⟨hrun, hended, _, _, rfl, ?_, ⟨_, rfl⟩, hW, hsame.mono (by decide) (by decide)⟩
    show Q4 Z q0 p1 p2 p3 h0 n0 _ T108.heap _
    rw [e108]
    exact ⟨rfl, N108⟩
  ·
    refine OGo.st (fun t k => XS.ifNo X106.here hx rfl (hb hby at_96) rfl ((if0 _ _).trans (feq hc96_107).1) k) ?_
    show OGo p.tables e below _ (T106.setTop (mkF m 99 #[.val (.long q0), .second, .val (.int p1), .val (.int p2), .val (.int p3), .val (.long vv), .second, .val (.int tt), .val (.int pb), .val (.int pl), .val (.long (((pb).toInt64) * ((pl).toInt64))), .second, .val (.ref b101), .val (.int (own_pam vv ((tt).toInt64) (((pb).toInt64) * ((pl).toInt64)))), .val (.int (own_spent (((pb).toInt64) * ((pl).toInt64)) vv tt)), .unset, .unset] []))
    refine OGo.st (fun t k => XS.lload X106.here hx rfl (hb hby at_99) rfl k) ?_
    show OGo p.tables e below _ (T106.setTop (mkF m 101 #[.val (.long q0), .second, .val (.int p1), .val (.int p2), .val (.int p3), .val (.long vv), .second, .val (.int tt), .val (.int pb), .val (.int pl), .val (.long (((pb).toInt64) * ((pl).toInt64))), .second, .val (.ref b101), .val (.int (own_pam vv ((tt).toInt64) (((pb).toInt64) * ((pl).toInt64)))), .val (.int (own_spent (((pb).toInt64) * ((pl).toInt64)) vv tt)), .unset, .unset] [(.long (((pb).toInt64) * ((pl).toInt64)))]))
    refine OGo.st (fun t k => XS.lload X106.here hx rfl (hb hby at_101) rfl k) ?_
    show OGo p.tables e below _ (T106.setTop (mkF m 103 #[.val (.long q0), .second, .val (.int p1), .val (.int p2), .val (.int p3), .val (.long vv), .second, .val (.int tt), .val (.int pb), .val (.int pl), .val (.long (((pb).toInt64) * ((pl).toInt64))), .second, .val (.ref b101), .val (.int (own_pam vv ((tt).toInt64) (((pb).toInt64) * ((pl).toInt64)))), .val (.int (own_spent (((pb).toInt64) * ((pl).toInt64)) vv tt)), .unset, .unset] [(.long vv), (.long (((pb).toInt64) * ((pl).toInt64)))]))
    refine OGo.st (fun t k => XS.iload X106.here hx rfl (hb hby at_103) rfl k) ?_
    show OGo p.tables e below _ (T106.setTop (mkF m 105 #[.val (.long q0), .second, .val (.int p1), .val (.int p2), .val (.int p3), .val (.long vv), .second, .val (.int tt), .val (.int pb), .val (.int pl), .val (.long (((pb).toInt64) * ((pl).toInt64))), .second, .val (.ref b101), .val (.int (own_pam vv ((tt).toInt64) (((pb).toInt64) * ((pl).toInt64)))), .val (.int (own_spent (((pb).toInt64) * ((pl).toInt64)) vv tt)), .unset, .unset] [(.int tt), (.long vv), (.long (((pb).toInt64) * ((pl).toInt64)))]))
    refine OGo.st (fun t k => XS.i2l X106.here hx rfl (hb hby at_105) rfl k) ?_
    show OGo p.tables e below _ (T106.setTop (mkF m 106 #[.val (.long q0), .second, .val (.int p1), .val (.int p2), .val (.int p3), .val (.long vv), .second, .val (.int tt), .val (.int pb), .val (.int pl), .val (.long (((pb).toInt64) * ((pl).toInt64))), .second, .val (.ref b101), .val (.int (own_pam vv ((tt).toInt64) (((pb).toInt64) * ((pl).toInt64)))), .val (.int (own_spent (((pb).toInt64) * ((pl).toInt64)) vv tt)), .unset, .unset] [(.long ((tt).toInt64)), (.long vv), (.long (((pb).toInt64) * ((pl).toInt64)))]))
    refine OGo.st (fun t k => XS.lmul X106.here hx rfl (hb hby at_106) rfl k) ?_
    show OGo p.tables e below _ (T106.setTop (mkF m 107 #[.val (.long q0), .second, .val (.int p1), .val (.int p2), .val (.int p3), .val (.long vv), .second, .val (.int tt), .val (.int pb), .val (.int pl), .val (.long (((pb).toInt64) * ((pl).toInt64))), .second, .val (.ref b101), .val (.int (own_pam vv ((tt).toInt64) (((pb).toInt64) * ((pl).toInt64)))), .val (.int (own_spent (((pb).toInt64) * ((pl).toInt64)) vv tt)), .unset, .unset] [(.long (vv * ((tt).toInt64))), (.long (((pb).toInt64) * ((pl).toInt64)))]))
    refine OGo.st (fun t k => XS.lsub X106.here hx rfl (hb hby at_107) rfl k) ?_
    show OGo p.tables e below _ (T106.setTop (mkF m 108 #[.val (.long q0), .second, .val (.int p1), .val (.int p2), .val (.int p3), .val (.long vv), .second, .val (.int tt), .val (.int pb), .val (.int pl), .val (.long (((pb).toInt64) * ((pl).toInt64))), .second, .val (.ref b101), .val (.int (own_pam vv ((tt).toInt64) (((pb).toInt64) * ((pl).toInt64)))), .val (.int (own_spent (((pb).toInt64) * ((pl).toInt64)) vv tt)), .unset, .unset] [(.long ((((pb).toInt64) * ((pl).toInt64)) - (vv * ((tt).toInt64))))]))
    refine OGo.st (fun t k => XS.goto X106.here hx rfl (pc0 := 108) (pc' := 113) rfl (hb hby at_108) (by decide) (by decide) k) ?_
    show OGo p.tables e below _ (T106.setTop (mkF m 113 #[.val (.long q0), .second, .val (.int p1), .val (.int p2), .val (.int p3), .val (.long vv), .second, .val (.int tt), .val (.int pb), .val (.int pl), .val (.long (((pb).toInt64) * ((pl).toInt64))), .second, .val (.ref b101), .val (.int (own_pam vv ((tt).toInt64) (((pb).toInt64) * ((pl).toInt64)))), .val (.int (own_spent (((pb).toInt64) * ((pl).toInt64)) vv tt)), .unset, .unset] [(.long ((((pb).toInt64) * ((pl).toInt64)) - (vv * ((tt).toInt64))))]))
    refine OGo.st (fun t k => XS.lstore X106.here hx rfl (hb hby at_113) rfl (l' := #[.val (.long q0), .second, .val (.int p1), .val (.int p2), .val (.int p3), .val (.long vv), .second, .val (.int tt), .val (.int pb), .val (.int pl), .val (.long (((pb).toInt64) * ((pl).toInt64))), .second, .val (.ref b101), .val (.int (own_pam vv ((tt).toInt64) (((pb).toInt64) * ((pl).toInt64)))), .val (.int (own_spent (((pb).toInt64) * ((pl).toInt64)) vv tt)), .val (.long ((((pb).toInt64) * ((pl).toInt64)) - (vv * ((tt).toInt64)))), .second]) rfl k) ?_
    show OGo p.tables e below _ (T106.setTop (mkF m 115 #[.val (.long q0), .second, .val (.int p1), .val (.int p2), .val (.int p3), .val (.long vv), .second, .val (.int tt), .val (.int pb), .val (.int pl), .val (.long (((pb).toInt64) * ((pl).toInt64))), .second, .val (.ref b101), .val (.int (own_pam vv ((tt).toInt64) (((pb).toInt64) * ((pl).toInt64)))), .val (.int (own_spent (((pb).toInt64) * ((pl).toInt64)) vv tt)), .val (.long ((((pb).toInt64) * ((pl).toInt64)) - (vv * ((tt).toInt64)))), .second] []))
    refine OGo.st (fun t k => XS.aload X106.here hx rfl (hb hby at_115) rfl rfl k) ?_
    show OGo p.tables e below _ (T106.setTop (mkF m 117 #[.val (.long q0), .second, .val (.int p1), .val (.int p2), .val (.int p3), .val (.long vv), .second, .val (.int tt), .val (.int pb), .val (.int pl), .val (.long (((pb).toInt64) * ((pl).toInt64))), .second, .val (.ref b101), .val (.int (own_pam vv ((tt).toInt64) (((pb).toInt64) * ((pl).toInt64)))), .val (.int (own_spent (((pb).toInt64) * ((pl).toInt64)) vv tt)), .val (.long ((((pb).toInt64) * ((pl).toInt64)) - (vv * ((tt).toInt64)))), .second] [(.ref b101)]))
    have G112 : Exa Z T106.heap b101 "com/example/crossweave/crossweave/KeyVisits" := (G104.keep K106)
    obtain ⟨cq111, kq111, q111a, q111b, q111c⟩ := isOf hZ rfl G112
    obtain ⟨_, _, ⟨T111, L111, kk111, nn111⟩, -, X111, ⟨Lc111, hQ111, l111, y111, z111⟩, st111⟩ := X106.virtualBack hx (y := (⟨"com/example/crossweave/crossweave/KeyVisits", "left", "()J"⟩ : MethodName)) (z := (⟨"com/example/crossweave/crossweave/KeyVisits", "left", "()J"⟩ : MethodName)) hown (mvT hZ (hw _ (List.mem_of_getElem? (i := 23) rfl))) (mvT hZ (hw _ (List.mem_of_getElem? (i := 24) rfl))) (notFace_of_selects (args := #[]) (mvT hZ (hw _ (List.mem_of_getElem? (i := 26) rfl)))) (mvT hZ (hw _ (List.mem_of_getElem? (i := 26) rfl))) (mvT hZ (hw _ (List.mem_of_getElem? (i := 25) rfl))) (by decide) (backOf (W := 0) (rm1 l Z ar hw [] b101 (own_left (((pb).toInt64) * ((pl).toInt64)) vv tt) T106.heap n0 (Nat.le_trans (Nat.le_trans (Nat.le_trans Z0 E101.1) K102.1) K106.1) P106_0) hZ (hw _ (List.mem_of_getElem? (i := 27) rfl)) (hw _ (List.mem_of_getElem? (i := 4) rfl)) (by decide) (by decide)) q111a q111c (g := (mkF m 117 #[.val (.long q0), .second, .val (.int p1), .val (.int p2), .val (.int p3), .val (.long vv), .second, .val (.int tt), .val (.int pb), .val (.int pl), .val (.long (((pb).toInt64) * ((pl).toInt64))), .second, .val (.ref b101), .val (.int (own_pam vv ((tt).toInt64) (((pb).toInt64) * ((pl).toInt64)))), .val (.int (own_spent (((pb).toInt64) * ((pl).toInt64)) vv tt)), .val (.long ((((pb).toInt64) * ((pl).toInt64)) - (vv * ((tt).toInt64)))), .second] [(.ref b101)])) rfl (by rw [hml]; rfl) (Steps.refl _) (argsL := []) (rest := []) (lenOf pd_1 rfl) rfl (by show 2 * 0 + _ ≤ _; exact Nat.le_of_eq rfl) (hb hby at_117) (fun _ _ => ⟨rfl, rfl, (by decide : 1 + 0 ≤ _), (by decide : 8 + 0 ≤ _)⟩)
    dsimp only [Pt.U, Pt.locs, Pt.cells, Pt.slots] at X111 l111 y111 z111 st111 hQ111
    subst l111 y111 z111
    obtain ⟨rfl, Nq111, hh111⟩ := hQ111
    have N111 := Fr.app N106 Nq111
    refine OGo.st (fun t k => st111.trans k) ?_
    have e111 : T111.heap = T106.heap := hh111
    show OGo p.tables e below _ (T111.setTop (mkF m 120 #[.val (.long q0), .second, .val (.int p1), .val (.int p2), .val (.int p3), .val (.long vv), .second, .val (.int tt), .val (.int pb), .val (.int pl), .val (.long (((pb).toInt64) * ((pl).toInt64))), .second, .val (.ref b101), .val (.int (own_pam vv ((tt).toInt64) (((pb).toInt64) * ((pl).toInt64)))), .val (.int (own_spent (((pb).toInt64) * ((pl).toInt64)) vv tt)), .val (.long ((((pb).toInt64) * ((pl).toInt64)) - (vv * ((tt).toInt64)))), .second] [(.long (own_left (((pb).toInt64) * ((pl).toInt64)) vv tt))]))
    refine OGo.st (fun t k => XS.lload X111.here hx rfl (hb hby at_120) rfl k) ?_
    show OGo p.tables e below _ (T111.setTop (mkF m 122 #[.val (.long q0), .second, .val (.int p1), .val (.int p2), .val (.int p3), .val (.long vv), .second, .val (.int tt), .val (.int pb), .val (.int pl), .val (.long (((pb).toInt64) * ((pl).toInt64))), .second, .val (.ref b101), .val (.int (own_pam vv ((tt).toInt64) (((pb).toInt64) * ((pl).toInt64)))), .val (.int (own_spent (((pb).toInt64) * ((pl).toInt64)) vv tt)), .val (.long ((((pb).toInt64) * ((pl).toInt64)) - (vv * ((tt).toInt64)))), .second] [(.long ((((pb).toInt64) * ((pl).toInt64)) - (vv * ((tt).toInt64)))), (.long (own_left (((pb).toInt64) * ((pl).toInt64)) vv tt))]))
    refine OGo.st (fun t k => XS.lcmp X111.here hx rfl (hb hby at_122) rfl k) ?_
    show OGo p.tables e below _ (T111.setTop (mkF m 123 #[.val (.long q0), .second, .val (.int p1), .val (.int p2), .val (.int p3), .val (.long vv), .second, .val (.int tt), .val (.int pb), .val (.int pl), .val (.long (((pb).toInt64) * ((pl).toInt64))), .second, .val (.ref b101), .val (.int (own_pam vv ((tt).toInt64) (((pb).toInt64) * ((pl).toInt64)))), .val (.int (own_spent (((pb).toInt64) * ((pl).toInt64)) vv tt)), .val (.long ((((pb).toInt64) * ((pl).toInt64)) - (vv * ((tt).toInt64)))), .second] [(.int (lcmpW (own_left (((pb).toInt64) * ((pl).toInt64)) vv tt) ((((pb).toInt64) * ((pl).toInt64)) - (vv * ((tt).toInt64)))))]))
    refine OGo.st (fun t k => XS.ifNo X111.here hx rfl (hb hby at_123) rfl ((if0 _ _).trans (teq (((lw_eq _ _).mpr (own_left2 vv _ tt hvv htt hbud hc96_107)) : (lcmpW (own_left (((pb).toInt64) * ((pl).toInt64)) vv tt) ((((pb).toInt64) * ((pl).toInt64)) - (vv * ((tt).toInt64)))) = (0 : Int32))).2) k) ?_
    show OGo p.tables e below _ (T111.setTop (mkF m 126 #[.val (.long q0), .second, .val (.int p1), .val (.int p2), .val (.int p3), .val (.long vv), .second, .val (.int tt), .val (.int pb), .val (.int pl), .val (.long (((pb).toInt64) * ((pl).toInt64))), .second, .val (.ref b101), .val (.int (own_pam vv ((tt).toInt64) (((pb).toInt64) * ((pl).toInt64)))), .val (.int (own_spent (((pb).toInt64) * ((pl).toInt64)) vv tt)), .val (.long ((((pb).toInt64) * ((pl).toInt64)) - (vv * ((tt).toInt64)))), .second] []))
    refine OGo.st (fun t k => XS.iconst X111.here hx rfl (hb hby at_126) k) ?_
    show OGo p.tables e below _ (T111.setTop (mkF m 127 #[.val (.long q0), .second, .val (.int p1), .val (.int p2), .val (.int p3), .val (.long vv), .second, .val (.int tt), .val (.int pb), .val (.int pl), .val (.long (((pb).toInt64) * ((pl).toInt64))), .second, .val (.ref b101), .val (.int (own_pam vv ((tt).toInt64) (((pb).toInt64) * ((pl).toInt64)))), .val (.int (own_spent (((pb).toInt64) * ((pl).toInt64)) vv tt)), .val (.long ((((pb).toInt64) * ((pl).toInt64)) - (vv * ((tt).toInt64)))), .second] [(.int (1 : Int32))]))
    refine OGo.st (fun t k => XS.goto X111.here hx rfl (pc0 := 127) (pc' := 131) rfl (hb hby at_127) (by decide) (by decide) k) ?_
    show OGo p.tables e below _ (T111.setTop (mkF m 131 #[.val (.long q0), .second, .val (.int p1), .val (.int p2), .val (.int p3), .val (.long vv), .second, .val (.int tt), .val (.int pb), .val (.int pl), .val (.long (((pb).toInt64) * ((pl).toInt64))), .second, .val (.ref b101), .val (.int (own_pam vv ((tt).toInt64) (((pb).toInt64) * ((pl).toInt64)))), .val (.int (own_spent (((pb).toInt64) * ((pl).toInt64)) vv tt)), .val (.long ((((pb).toInt64) * ((pl).toInt64)) - (vv * ((tt).toInt64)))), .second] [(.int (1 : Int32))]))
    obtain ⟨fs, hr, hrun, hended, hW, hsame⟩ := X111.leave (v := some (.int (1 : Int32))) (fun h => by rw [Bd.returns] at h; cases h)
    refine OGo.done (retN X111 hx (t := .boolean) Bd.returns (by simp) (hb hby at_131) hr) ⟨hrun, hended, _, _, rfl, ?_, ⟨_, rfl⟩, hW, hsame.mono (by decide) (by decide)⟩
    show Q4 Z q0 p1 p2 p3 h0 n0 _ T111.heap _
    rw [e111]
    exact ⟨rfl, N111⟩
set_option maxRecDepth 65536 in
set_option maxHeartbeats 40000000 in
theorem comes_1 {Post : Tables → Env → Array Value → State → Outcome → State → Prop} (hpost : ∀ tb e args s v u, (limb_1_1.after args s (.returned v) u = true ∧ limb_1_2.after args s (.returned v) u = true ∧ True) → FrameEnd s (.returned v) u (Jvm.fieldLocs frame_1_writes args s ++ Jvm.arrayLocs frame_1_arrays args s ++ Jvm.staticLocs frame_1_statics s) 16 128 → Post tb e args s (.returned v) u) :
    ArmFor flags0 classFile x code maxLocals ret World_1 tables_1 room_1 Calls_1 rest_1 Pre_1 Post := by
  intro l hfl _ _ p e ha hc hk s m args below hf hA hF happ hP
  obtain ⟨hcalls, hrest, hpre⟩ := hP
  obtain ⟨-, -, -, hnamed, -, -, -, hat⟩ := (Spec.applies_iff hf).mp happ
  obtain ⟨hg, hn⟩ := and_e (Cond.before_iff.mp (show (Jvm.Cond.and given_1 narrow_1).before args s = true from hpre))
  obtain ⟨gc, gr0⟩ := and_e hg
  obtain ⟨g_0, gr1⟩ := and_e gr0
  obtain ⟨g_1, gr2⟩ := and_e gr1
  obtain ⟨g_2, gr3⟩ := and_e gr2
  have g_3 := gr3
  obtain ⟨w0, w1, w2, w3, rfl⟩ : ∃ w0 w1 w2 w3 : Value, args = #[w0, w1, w2, w3] := by
    have hs : args.size = 4 := by simpa [Cond.value, given_1] using gc
    obtain ⟨L⟩ := args
    match L, hs with
    | [w0, w1, w2, w3], _ => exact ⟨w0, w1, w2, w3, rfl⟩
  have hw := fun d (hd : d ∈ tables_1) => atoms_spec (ws := Jvm.Cond.code x code maxLocals ret :: tables_1) hat d (List.mem_cons_of_mem _ hd)
  have hfit : Fit s := fun {y c} hc i hi => by
    obtain ⟨ha, rfl⟩ := Array.getElem?_eq_some_iff.mp hc
    have q := List.all_eq_true.mp ((Array.all_eq_true_iff_forall_mem.mp hF) _ (Array.getElem_mem ha)) i (List.mem_range.mpr hi)
    simpa [Array.getElem?_eq_getElem hi] using q
  obtain ⟨i0, ei0⟩ := isL_v g_0
  obtain rfl : w0 = (.long i0) := Option.some.inj ei0
  obtain ⟨i1, ei1⟩ := is_v g_1
  obtain rfl : w1 = (.int i1) := Option.some.inj ei1
  obtain ⟨i2, ei2⟩ := is_v g_2
  obtain rfl : w2 = (.int i2) := Option.some.inj ei2
  obtain ⟨i3, ei3⟩ := is_v g_3
  obtain rfl : w3 = (.int i3) := Option.some.inj ei3
  obtain ⟨n, o, h1, h2, h3, _, L, rfl, ⟨rfl, N⟩, hq⟩ := rm4 l s _ hw tables_1 i0 i1 i2 i3 s.heap s.heap.size (Nat.le_refl _)  p e ha hc hk s m _ below hf ((Spec.applies_iff_loose hf).mp happ).1 ⟨rfl, State.Warmed39.refl s, rfl⟩ trivial
  refine ⟨n, _, h1, h2, h3, hpost _ _ _ _ _ _ ⟨Cond.after_iff.mpr rfl, Cond.after_iff.mpr (eq_i res_at (Term.int_eval (1)) rfl), trivial⟩ ⟨hq.1, hq.2.1, (hq.2.2.sift fun y hy => Or.inr (N y hy)).mono (by decide) (by decide)⟩⟩
theorem main_1_1 : Claimed_1_1 := comes_1 fun _ _ _ _ _ _ h hF => ⟨h.1, hF⟩
theorem main_1_2 : Claimed_1_2 := comes_1 fun _ _ _ _ _ _ h hF => ⟨h.2.1, hF⟩
end Jvm.Pilot.@@N@@
namespace Jvm.Pilot.@@N@@
open Jvm Jvm.ClassFile Sem Op Lib Jvm.Free Jvm.Stand Jvm.Pilot.@@N@@.Jvm.D
/-! MADE BY PROGRAM (witnessworld.py) out of the Statement's table words and the real class files: 9 classes; the members and pool entries that the words name. The judged class is class 1, her method 1. -/
namespace start1
open Jvm.ClassFile
def u (s : String) : CpInfo := .utf8 (stringToUtf16 s)
/-- a pool by its gaps: so many unusable entries, then the entry; so many at the end -/
def gap : Nat → List CpInfo → List CpInfo
  | 0, r => r
  | n + 1, r => .unusable :: gap n r
def poolList (es : List (Nat × CpInfo)) (last : Nat) : List CpInfo := es.foldr (fun e r => gap e.1 (e.2 :: r)) (gap last [])
def pool (es : List (Nat × CpInfo)) (last : Nat) : Array CpInfo := ⟨poolList es last⟩
def fileOf (pool : Array CpInfo) (this : Nat) (attrs : Array Attribute := #[]) (ms : Array MethodInfo := #[]) (fl : Nat := 33) (sup : Nat := 0) (ifs : Array Nat := #[]) (fds : Array FieldInfo := #[]) : ClassFile where
  minorVersion := 0
  majorVersion := 65
  constantPool := pool
  accessFlags := fl
  thisClass := this
  superClass := sup
  interfaces := ifs
  fields := fds
  methods := ms
  attributes := attrs
def plain (name : String) (sup : Option ClassId) : Class where
  name := name
  kind := .ordinary
  loader := none
  accessFlags := 33
  super := sup
  interfaces := #[]
  cf := none
  fields := #[]
  methods := #[]
  instanceTypes := #[]
  staticTypes := #[]
  resolved := #[]
  callSites := []
  init := .initialized
  statics := none
  mirror := none

def pool0 : Array CpInfo := pool [(5, u "<init>"), (0, u "()V"), (1, .class_ 10), (1, u "java/lang/Object")] 113

def k0c0 : Code := { maxStack := 0, maxLocals := 1, code := object_method_1_code, exceptionTable := #[], attributes := #[] }
def k0m0 : Method := { name := "<init>", desc := "()V", sig := { parameters := [], returnType := none }, accessFlags := 1, code := some k0c0 }
/-- java/lang/Object -/
def k0 : Class := { plain "java/lang/Object" none with
  accessFlags := 33
  interfaces := #[]
  cf := some (fileOf pool0 8 #[] #[{ accessFlags := 1, nameIndex := 5, descriptorIndex := 6, attributes := #[] }] 33 0 #[] #[])
  fields := #[]
  methods := #[k0m0]
  instanceTypes := #[]
  staticTypes := #[]
  resolved := Array.replicate 124 none
  statics := none }

def pool1 : Array CpInfo := pool [(2, .class_ 4), (1, u "java/lang/Object"), (0, u "<init>"), (0, u "()V"), (2, .long 9223372036854775807), (1, .integer 2147483647), (0, .class_ 13), (0, u "com/example/crossweave/crossweave/KeyVisits"), (0, .methodref 12 15), (0, .nameAndType 5 16), (0, u "(IILcom/example/crossweave/crossweave/TypeRegistry;)V"), (0, .methodref 12 18), (0, .nameAndType 19 20), (0, u "left"), (0, u "()J"), (0, .methodref 22 23), (0, .class_ 24), (0, .nameAndType 25 26), (0, u "com/example/crossweave/crossweave/KeyVisitsSpendPinLaw"), (0, u "productAtMost"), (0, u "(JJJ)Z"), (0, .methodref 12 28), (0, .nameAndType 29 30), (0, u "spend"), (0, u "(JI)Z"), (0, .long 2147483647), (3, u "law"), (0, u "(JIII)Z")] 3

def k1m0 : Method := { name := "<init>", desc := "()V", sig := { parameters := [], returnType := none }, accessFlags := 1, code := none }
def k1c1 : Code := { maxStack := 6, maxLocals := 17, code := code, exceptionTable := #[], attributes := #[] }
def k1m1 : Method := { name := "law", desc := "(JIII)Z", sig := { parameters := [.long, .int, .int, .int], returnType := some .boolean }, accessFlags := 9, code := some k1c1 }
def k1c2 : Code := { maxStack := 5, maxLocals := 22, code := method_3_code, exceptionTable := #[], attributes := #[] }
def k1m2 : Method := { name := "productAtMost", desc := "(JJJ)Z", sig := { parameters := [.long, .long, .long], returnType := some .boolean }, accessFlags := 10, code := some k1c2 }
/-- com/example/crossweave/crossweave/KeyVisitsSpendPinLaw -/
def k1 : Class := { plain "com/example/crossweave/crossweave/KeyVisitsSpendPinLaw" (some 0) with
  accessFlags := 49
  interfaces := #[]
  cf := some (fileOf pool1 22 #[] #[{ accessFlags := 1, nameIndex := 5, descriptorIndex := 6, attributes := #[] }, { accessFlags := 9, nameIndex := 35, descriptorIndex := 36, attributes := #[] }, { accessFlags := 10, nameIndex := 25, descriptorIndex := 26, attributes := #[] }] 49 2 #[] #[])
  fields := #[]
  methods := #[k1m0, k1m1, k1m2]
  instanceTypes := #[]
  staticTypes := #[]
  resolved := Array.replicate 40 none
  statics := none }

def pool2 : Array CpInfo := pool [(3, .methodref 4 5), (0, .class_ 6), (0, .nameAndType 7 8), (0, u "java/lang/Object"), (0, u "<init>"), (0, u "()V"), (0, .fieldref 10 11), (0, .class_ 12), (0, .nameAndType 13 14), (0, u "com/example/crossweave/crossweave/KeyVisits"), (0, u "lastReferenceAt"), (0, u "I"), (0, .fieldref 10 16), (0, .nameAndType 17 14), (0, u "lastSetOrMapAt"), (0, .fieldref 10 19), (0, .nameAndType 20 14), (0, u "perByte"), (0, .fieldref 10 22), (0, .nameAndType 23 14), (0, u "payloadLength"), (0, .fieldref 10 25), (0, .nameAndType 26 27), (0, u "types"), (0, u "Lcom/example/crossweave/crossweave/TypeRegistry;"), (0, .fieldref 10 29), (0, .nameAndType 30 31), (0, u "left"), (0, u "J"), (2, u "metSetOrMap"), (0, u "Z"), (6, u "walked"), (0, u "Ljava/util/IdentityHashMap;"), (42, u "ORDERED"), (0, u "[Ljava/lang/Class;"), (29, u "()J"), (94, u "ENDLESS"), (3, u "BEING_WALKED"), (1, u "(IILcom/example/crossweave/crossweave/TypeRegistry;)V"), (12, u "spend"), (0, u "(JI)Z")] 31

def k2c0 : Code := { maxStack := 5, maxLocals := 4, code := prog_31_method_1_code, exceptionTable := #[], attributes := #[] }
def k2m0 : Method := { name := "<init>", desc := "(IILcom/example/crossweave/crossweave/TypeRegistry;)V", sig := { parameters := [.int, .int, (.object "com/example/crossweave/crossweave/TypeRegistry")], returnType := none }, accessFlags := 0, code := some k2c0 }
def k2c1 : Code := { maxStack := 2, maxLocals := 1, code := prog_31_method_8_code, exceptionTable := #[], attributes := #[] }
def k2m1 : Method := { name := "left", desc := "()J", sig := { parameters := [], returnType := some .long }, accessFlags := 0, code := some k2c1 }
def k2c2 : Code := { maxStack := 7, maxLocals := 4, code := prog_31_method_9_code, exceptionTable := #[], attributes := #[] }
def k2m2 : Method := { name := "spend", desc := "(JI)Z", sig := { parameters := [.long, .int], returnType := some .boolean }, accessFlags := 0, code := some k2c2 }
/-- com/example/crossweave/crossweave/KeyVisits -/
def k2 : Class := { plain "com/example/crossweave/crossweave/KeyVisits" (some 0) with
  accessFlags := 48
  interfaces := #[]
  cf := some (fileOf pool2 10 #[] #[{ accessFlags := 0, nameIndex := 7, descriptorIndex := 218, attributes := #[] }, { accessFlags := 0, nameIndex := 30, descriptorIndex := 117, attributes := #[] }, { accessFlags := 0, nameIndex := 231, descriptorIndex := 232, attributes := #[] }] 48 4 #[] #[{ accessFlags := 24, nameIndex := 212, descriptorIndex := 31, attributes := #[] }, { accessFlags := 26, nameIndex := 86, descriptorIndex := 87, attributes := #[] }, { accessFlags := 26, nameIndex := 216, descriptorIndex := 31, attributes := #[] }, { accessFlags := 18, nameIndex := 20, descriptorIndex := 14, attributes := #[] }, { accessFlags := 18, nameIndex := 23, descriptorIndex := 14, attributes := #[] }, { accessFlags := 18, nameIndex := 26, descriptorIndex := 27, attributes := #[] }, { accessFlags := 2, nameIndex := 30, descriptorIndex := 31, attributes := #[] }, { accessFlags := 2, nameIndex := 42, descriptorIndex := 43, attributes := #[] }, { accessFlags := 2, nameIndex := 34, descriptorIndex := 35, attributes := #[] }, { accessFlags := 2, nameIndex := 13, descriptorIndex := 14, attributes := #[] }, { accessFlags := 2, nameIndex := 17, descriptorIndex := 14, attributes := #[] }])
  fields := #[{ name := "ENDLESS", type := .long, accessFlags := 24, slot := 0, constantValue := 0 }, { name := "ORDERED", type := (.array (.object "java/lang/Class")), accessFlags := 26, slot := 1, constantValue := 0 }, { name := "BEING_WALKED", type := .long, accessFlags := 26, slot := 2, constantValue := 0 }, { name := "perByte", type := .int, accessFlags := 18, slot := 0, constantValue := 0 }, { name := "payloadLength", type := .int, accessFlags := 18, slot := 1, constantValue := 0 }, { name := "types", type := (.object "com/example/crossweave/crossweave/TypeRegistry"), accessFlags := 18, slot := 2, constantValue := 0 }, { name := "left", type := .long, accessFlags := 2, slot := 3, constantValue := 0 }, { name := "walked", type := (.object "java/util/IdentityHashMap"), accessFlags := 2, slot := 4, constantValue := 0 }, { name := "metSetOrMap", type := .boolean, accessFlags := 2, slot := 5, constantValue := 0 }, { name := "lastReferenceAt", type := .int, accessFlags := 2, slot := 6, constantValue := 0 }, { name := "lastSetOrMapAt", type := .int, accessFlags := 2, slot := 7, constantValue := 0 }]
  methods := #[k2m0, k2m1, k2m2]
  instanceTypes := #[.int, .int, (.object "com/example/crossweave/crossweave/TypeRegistry"), .long, (.object "java/util/IdentityHashMap"), .boolean, .int, .int]
  staticTypes := #[.long, (.array (.object "java/lang/Class")), .long]
  resolved := Array.replicate 264 none
  statics := none }

def pool3 : Array CpInfo := pool [(1, u "java/lang/Cloneable"), (0, .class_ 1), (0, u "java/lang/Object"), (0, .class_ 3)] 3

/-- java/lang/Cloneable -/
def k3 : Class := { plain "java/lang/Cloneable" (some 0) with
  accessFlags := 1537
  interfaces := #[]
  cf := some (fileOf pool3 2 #[] #[] 1537 4 #[] #[])
  fields := #[]
  methods := #[]
  instanceTypes := #[]
  staticTypes := #[]
  resolved := Array.replicate 8 none
  statics := none }

def pool4 : Array CpInfo := pool [(1, u "java/io/Serializable"), (0, .class_ 1), (0, u "java/lang/Object"), (0, .class_ 3)] 3

/-- java/io/Serializable -/
def k4 : Class := { plain "java/io/Serializable" (some 0) with
  accessFlags := 1537
  interfaces := #[]
  cf := some (fileOf pool4 2 #[] #[] 1537 4 #[] #[])
  fields := #[]
  methods := #[]
  instanceTypes := #[]
  staticTypes := #[]
  resolved := Array.replicate 8 none
  statics := none }

/-- the primitive byte -/
def k5 : Class := { plain "byte" none with kind := .primitive 'B', accessFlags := 0x411 }
/-- [B -/
def k6 : Class := { plain "[B" (some 0) with kind := .array 5 .byte, interfaces := #[3, 4], accessFlags := 1041 }

/-- the primitive int -/
def k7 : Class := { plain "int" none with kind := .primitive 'I', accessFlags := 0x411 }
/-- [I -/
def k8 : Class := { plain "[I" (some 0) with kind := .array 7 .int, interfaces := #[3, 4], accessFlags := 1041 }

def heap : Heap := #[]
def classes : Array Class := #[k0, k1, k2, k3, k4, k5, k6, k7, k8]
def interned : List (Array UInt16 × Addr) := []
def slotsUsed : Nat := 0
def theMethod : MethodId := ⟨1, 1⟩
def args0 : Array Value := #[.long 5, .int 7, .int 9, .int 11]
def aboutOver (below : List Frame) : State where
  vm := { classes := classes, interned := interned.toArray }
  heap := heap
  slotsUsed := slotsUsed
  threads := #[{ frames := .invoking theMethod args0 :: below }]
def below0 : List Frame := [.native { method := ⟨0, 0⟩, args := #[] }]
def about1 : State := aboutOver below0
def p0 : Program := .bare "" "" ""
def e0 : Env := launch0.env 0 0 0
theorem w_frames : about1.frames = Frame.invoking theMethod args0 :: below0 := rfl
set_option maxRecDepth 65536 in
theorem w_args : argsFit about1.vm theMethod args0 = true := by decide +kernel
set_option maxRecDepth 65536 in
theorem w_heap : heapFits about1 = true := by decide +kernel
set_option maxRecDepth 65536 in
theorem w_runnable : about1.curStatus? = some .runnable := by decide +kernel
set_option maxRecDepth 65536 in
theorem w_alone : about1.alone = true := by decide +kernel
set_option maxRecDepth 65536 in
theorem w_named : about1.methodNamed? x = some theMethod := by decide +kernel
set_option maxRecDepth 65536 in
theorem w_hears : about1.hears theMethod below0 = true := by decide +kernel
set_option maxRecDepth 65536 in
theorem w_ripe : about1.ripe theMethod args0 below0 = true := by decide +kernel
theorem w_running : about1.status = .running := rfl
set_option maxRecDepth 65536 in
theorem w_room : about1.hasRoom e0.platform room_1 = true :=
  launch0.hasRoom_least _ room_1 (by decide +kernel) (by decide +kernel) (by decide +kernel) (by decide +kernel) (by decide +kernel) (by decide +kernel)
theorem allAtoms_all (ts : List Jvm.Cond) (a : Array Jvm.Value) (st : Jvm.State) : (allAtoms ts).before a st = ts.all (fun c => c.before a st) := by
  induction ts with
  | nil => rfl
  | cons c t ih =>
    show (Jvm.Cond.and c (allAtoms t)).before a st = _
    rw [Jvm.Cond.before_and, ih, List.all_cons]
def words1 : List Jvm.Cond := Jvm.Cond.code x code maxLocals ret :: tables_1
/-- a 'code' word, met by the world's own term for the bytes: nothing is compared byte by byte -/
theorem code_word {y : MethodName} {bytes : ByteArray} {mx : Nat} {rt : Option FieldType} {a : Array Value} {s : State} {m : MethodId} {meth : Method} {c : Code} (h1 : s.methodNamed? y = some m) (h2 : s.vm.method? m = some meth) (h3 : meth.code = some c) (h4 : c.code = bytes)
    (h5 : (c.maxLocals == mx && c.exceptionTable.isEmpty && decide (c.maxStack ≤ mostOperands) && decide (meth.sig.returnType = rt) && !meth.locks && decide (parseMethodDescriptor y.desc = some meth.sig)) = true) : (Jvm.Cond.code y bytes mx rt).before a s = true := by
  simp only [Bool.and_eq_true, beq_iff_eq, Bool.not_eq_true', decide_eq_true_eq] at h5
  obtain ⟨⟨⟨⟨⟨g1, g2⟩, g3⟩, g4⟩, g5⟩, g6⟩ := h5
  simp [Cond.before, Cond.holds, Cond.value, h1, h2, h3, h4, g1, g2, g3, g4, g5, g6]
def isCode : Jvm.Cond → Bool
  | .code _ _ _ _ => true
  | _ => false
theorem all_split {L : List Jvm.Cond} {P : Jvm.Cond → Bool} (h1 : L.all (fun c => isCode c || P c) = true) (h2 : ∀ c ∈ L.filter isCode, P c = true) : L.all P = true := by
  refine List.all_eq_true.mpr fun c hc => ?_
  have h := List.all_eq_true.mp h1 c hc
  rcases Bool.eq_false_or_eq_true (isCode c) with hi | hi
  · exact h2 c (List.mem_filter.mpr ⟨hc, hi⟩)
  · simpa [hi] using h
set_option maxRecDepth 65536 in
theorem w_c0 : (Jvm.Cond.code x code maxLocals ret).before args0 about1 = true := code_word (m := ⟨1, 1⟩) (meth := k1m1) (c := k1c1) (by decide +kernel) rfl rfl rfl (by decide +kernel)
set_option maxRecDepth 65536 in
theorem w_c1 : (Jvm.Cond.code ({ cls := "com/example/crossweave/crossweave/KeyVisits", name := "<init>", desc := "(IILcom/example/crossweave/crossweave/TypeRegistry;)V" } : Jvm.MethodName) prog_31_method_1_code (4 : Nat) (Option.none : Option Jvm.ClassFile.FieldType)).before args0 about1 = true := code_word (m := ⟨2, 0⟩) (meth := k2m0) (c := k2c0) (by decide +kernel) rfl rfl rfl (by decide +kernel)
set_option maxRecDepth 65536 in
theorem w_c2 : (Jvm.Cond.code ({ cls := "java/lang/Object", name := "<init>", desc := "()V" } : Jvm.MethodName) object_method_1_code (1 : Nat) (Option.none : Option Jvm.ClassFile.FieldType)).before args0 about1 = true := code_word (m := ⟨0, 0⟩) (meth := k0m0) (c := k0c0) (by decide +kernel) rfl rfl rfl (by decide +kernel)
set_option maxRecDepth 65536 in
theorem w_c3 : (Jvm.Cond.code ({ cls := "com/example/crossweave/crossweave/KeyVisits", name := "left", desc := "()J" } : Jvm.MethodName) prog_31_method_8_code (1 : Nat) (Option.some Jvm.ClassFile.FieldType.long)).before args0 about1 = true := code_word (m := ⟨2, 1⟩) (meth := k2m1) (c := k2c1) (by decide +kernel) rfl rfl rfl (by decide +kernel)
set_option maxRecDepth 65536 in
theorem w_c4 : (Jvm.Cond.code ({ cls := "com/example/crossweave/crossweave/KeyVisitsSpendPinLaw", name := "productAtMost", desc := "(JJJ)Z" } : Jvm.MethodName) method_3_code (22 : Nat) (Option.some Jvm.ClassFile.FieldType.boolean)).before args0 about1 = true := code_word (m := ⟨1, 2⟩) (meth := k1m2) (c := k1c2) (by decide +kernel) rfl rfl rfl (by decide +kernel)
set_option maxRecDepth 65536 in
theorem w_c5 : (Jvm.Cond.code ({ cls := "com/example/crossweave/crossweave/KeyVisits", name := "spend", desc := "(JI)Z" } : Jvm.MethodName) prog_31_method_9_code (4 : Nat) (Option.some Jvm.ClassFile.FieldType.boolean)).before args0 about1 = true := code_word (m := ⟨2, 2⟩) (meth := k2m2) (c := k2c2) (by decide +kernel) rfl rfl rfl (by decide +kernel)
def codes1 : List Jvm.Cond := [Jvm.Cond.code x code maxLocals ret, Jvm.Cond.code ({ cls := "com/example/crossweave/crossweave/KeyVisits", name := "<init>", desc := "(IILcom/example/crossweave/crossweave/TypeRegistry;)V" } : Jvm.MethodName) prog_31_method_1_code (4 : Nat) (Option.none : Option Jvm.ClassFile.FieldType), Jvm.Cond.code ({ cls := "java/lang/Object", name := "<init>", desc := "()V" } : Jvm.MethodName) object_method_1_code (1 : Nat) (Option.none : Option Jvm.ClassFile.FieldType), Jvm.Cond.code ({ cls := "com/example/crossweave/crossweave/KeyVisits", name := "left", desc := "()J" } : Jvm.MethodName) prog_31_method_8_code (1 : Nat) (Option.some Jvm.ClassFile.FieldType.long), Jvm.Cond.code ({ cls := "com/example/crossweave/crossweave/KeyVisitsSpendPinLaw", name := "productAtMost", desc := "(JJJ)Z" } : Jvm.MethodName) method_3_code (22 : Nat) (Option.some Jvm.ClassFile.FieldType.boolean), Jvm.Cond.code ({ cls := "com/example/crossweave/crossweave/KeyVisits", name := "spend", desc := "(JI)Z" } : Jvm.MethodName) prog_31_method_9_code (4 : Nat) (Option.some Jvm.ClassFile.FieldType.boolean)]
set_option maxRecDepth 65536 in
theorem codes_eq : words1.filter isCode = codes1 := rfl
theorem w_codes : ∀ c ∈ words1.filter isCode, c.before args0 about1 = true := by
  rw [codes_eq]
  intro c hc
  simp only [codes1, List.mem_cons, List.not_mem_nil, or_false] at hc
  rcases hc with rfl | rfl | rfl | rfl | rfl | rfl
  · exact w_c0
  · exact w_c1
  · exact w_c2
  · exact w_c3
  · exact w_c4
  · exact w_c5
set_option maxRecDepth 65536 in
theorem w_t1 : (words1.take 24).all (fun c => isCode c || c.before args0 about1) = true := by decide +kernel
set_option maxRecDepth 65536 in
theorem w_t2 : (words1.drop 24).all (fun c => isCode c || c.before args0 about1) = true := by decide +kernel
theorem w_tables : (allAtoms (Jvm.Cond.code x code maxLocals ret :: tables_1)).before args0 about1 = true := by
  rw [allAtoms_all]
  show words1.all (fun c => c.before args0 about1) = true
  refine all_split ?_ w_codes
  rw [← List.take_append_drop 24 words1, List.all_append, w_t1, w_t2]
  rfl
set_option maxRecDepth 65536 in
theorem w_case : (Jvm.Cond.and given_1 narrow_1).before args0 about1 = true := by decide +kernel
theorem w_applies : (headSpec (Jvm.Cond.code x code maxLocals ret :: tables_1) room_1).applies x e0.platform about1 = true :=
  (Spec.applies_iff w_frames).mpr ⟨w_running, w_runnable, w_alone, w_named, w_hears, w_ripe, w_room, w_tables⟩
theorem atStart : AtStart classFile x code maxLocals ret World_1 tables_1 room_1 Calls_1 rest_1 Pre_1 launch0 p0 e0 about1 theMethod args0 below0 :=
  ⟨lists_1, trivial, launch0.admits_env _ _ _, launch0.least_env, fairChoices_fair.cas, fairChoices_fair.clock, w_frames, w_args, w_heap, w_applies, trivial, trivial, w_case⟩
end start1
theorem witness_1 : WitnessClaimed_1 := ⟨start1.p0, start1.e0, start1.about1, start1.theMethod, start1.args0, start1.below0, start1.atStart⟩
end Jvm.Pilot.@@N@@
