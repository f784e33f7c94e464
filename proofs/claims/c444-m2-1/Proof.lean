import JvmDerived
import JvmDerived.Pilot.@@N@@Statement
import JvmDerived.Pilot.@@N@@Code
set_option linter.unusedVariables false
set_option linter.unusedSimpArgs false
namespace Jvm.RoadKit
open Sem ClassFile Op Lib Jvm.Stand Jvm.Free Jvm.LawKit
section New
variable {p : Program} {l : Launch} {e : Env} {R : Room} {s : State} {m : MethodId} {args : Array Value} {below : List Frame} {meth : Method} {c : Code} {T : State} {locs : List Loc} {cells slots : Nat}
theorem retI (X : Stand p l e R s m args below meth c T locs cells slots) (hx : p.tables.exec = Jvm.exec) {pc : Nat} {Ls : Array Slot} {z : Int32} {rest : List Value} (hret : meth.sig.returnType = some .int) (hd : decode c.code pc = .ok (.ireturn, 1)) {fs : List Frame}
    (hl : ∀ (f : JFrame) (acts : List Action), f.method = m → f.locked = none → f.entered = [] → (doReturn e (T.setTop f) acts (some (.int z))).1 = T.setFrames fs) : Steps p.tables e below (T.setTop (mkF m pc Ls (.int z :: rest))) (T.setFrames fs) := by
  have hm' : T.vm.method? m = some meth := X.method'
  have hn : narrow .int (.int z) = .int z := rfl
  show Steps p.tables e below (T.setTop { method := m, pc := pc, locals := Ls, stack := _ :: rest, locked := none }) _
  jvm_step X.here [X.here.top, hx, hd, hm', hret, hn]
  first | (intro acts; rw [hl _ acts rfl rfl rfl]) | rw [hl _ _ rfl rfl rfl]
  exact Steps.refl _
theorem own_retL (X : Stand p l e R s m args below meth c T locs cells slots) (hx : p.tables.exec = Jvm.exec) {pc : Nat} {Ls : Array Slot} {z : Int64} {rest : List Value} (hret : meth.sig.returnType = some .long) (hd : decode c.code pc = .ok (.lreturn, 1)) {fs : List Frame}
    (hl : ∀ (f : JFrame) (acts : List Action), f.method = m → f.locked = none → f.entered = [] → (doReturn e (T.setTop f) acts (some (.long z))).1 = T.setFrames fs) : Steps p.tables e below (T.setTop (mkF m pc Ls (.long z :: rest))) (T.setFrames fs) := by
  have hm' : T.vm.method? m = some meth := X.method'
  have hn : narrow .long (.long z) = .long z := rfl
  show Steps p.tables e below (T.setTop { method := m, pc := pc, locals := Ls, stack := _ :: rest, locked := none }) _
  jvm_step X.here [X.here.top, hx, hd, hm', hret, hn]
  first | (intro acts; rw [hl _ acts rfl rfl rfl]) | rw [hl _ _ rfl rfl rfl]
  exact Steps.refl _
theorem own_retR (X : Stand p l e R s m args below meth c T locs cells slots) (hx : p.tables.exec = Jvm.exec) {pc : Nat} {Ls : Array Slot} {v : Value} {t : FieldType} {rest : List Value} (hret : meth.sig.returnType = some t) (ht : t.isReference = true) (hv : v.isRef = true) (hd : decode c.code pc = .ok (.areturn, 1)) {fs : List Frame}
    (hl : ∀ (f : JFrame) (acts : List Action), f.method = m → f.locked = none → f.entered = [] → (doReturn e (T.setTop f) acts (some v)).1 = T.setFrames fs) : Steps p.tables e below (T.setTop (mkF m pc Ls (v :: rest))) (T.setFrames fs) := by
  have hm' : T.vm.method? m = some meth := X.method'
  show Steps p.tables e below (T.setTop { method := m, pc := pc, locals := Ls, stack := _ :: rest, locked := none }) _
  rcases ref_cases hv with rfl | ⟨a, rfl⟩
  · jvm_step X.here [X.here.top, hx, hd, hm', hret, ht, Value.isRef]
    first | (intro acts; rw [hl _ acts rfl rfl rfl]) | rw [hl _ _ rfl rfl rfl]
    exact Steps.refl _
  · jvm_step X.here [X.here.top, hx, hd, hm', hret, ht, Value.isRef]
    first | (intro acts; rw [hl _ acts rfl rfl rfl]) | rw [hl _ _ rfl rfl rfl]
    exact Steps.refl _
end New
/-- an end that the run comes to from S, with what is said of it -/
def OGo (tb : Tables) (e : Env) (below : List Frame) (Φ : State → Outcome → Prop) (S : State) : Prop := ∃ t o, Steps tb e below S t ∧ Φ t o
section Own
variable {tb : Tables} {e : Env} {below : List Frame} {Φ : State → Outcome → Prop} {S S' t : State} {o : Outcome}
theorem OGo.start (pre : ∀ t, Steps tb e below S' t → Steps tb e below S t) (k : OGo tb e below Φ S') : ∃ t o, Steps tb e below S t ∧ Φ t o := by
  obtain ⟨t, o, h1, h2⟩ := k
  exact ⟨t, o, pre t h1, h2⟩
theorem OGo.st (h : ∀ t, Steps tb e below S' t → Steps tb e below S t) (k : OGo tb e below Φ S') : OGo tb e below Φ S := OGo.start h k
theorem OGo.tr (h : Steps tb e below S S') (k : OGo tb e below Φ S') : OGo tb e below Φ S := OGo.start (fun _ q => h.trans q) k
theorem OGo.done (h : Steps tb e below S t) (q : Φ t o) : OGo tb e below Φ S := ⟨t, o, h, q⟩
theorem OGo.join {α : Type} (P : α → Prop) (F : α → State) (h : ∀ v, P v → OGo tb e below Φ (F v)) (k : (∀ v, P v → OGo tb e below Φ (F v)) → OGo tb e below Φ S) : OGo tb e below Φ S := k h
theorem own_fld {Z : State} {h : Heap} {a : Addr} {C n d : String} {v w : Value} (F : Fld Z h a C n d v) (q : v = w) : Fld Z h a C n d w := q ▸ F
end Own
end Jvm.RoadKit
namespace Jvm.Pilot.@@N@@
open Jvm Jvm.ClassFile Sem Op Lib Jvm.Free Jvm.Stand Jvm.LawKit Jvm.RoadKit Bundle Jvm.Pilot.@@N@@.Jvm.D
def own_lt (x y : Int32) : Int32 := if x < y then 1 else 0
theorem own_ltT {x y : Int32} (h : x < y) : own_lt x y = 1 := if_pos h
theorem own_ltF {x y : Int32} (h : ¬ x < y) : own_lt x y = 0 := if_neg h
theorem own_ltN {x y : Int32} (h : x < y) : ¬ own_lt x y = 0 := by rw [own_ltT h]; decide
theorem own_and1 (x : Int32) : x &&& 1 = 0 ∨ x &&& 1 = 1 := by
  have h := c_mask x 1 1 (by decide) (by decide)
  have e : ((2 ^ 1 : Nat) : Int) = 2 := rfl
  rw [e] at h
  simp only [← Int32.toInt_inj]
  have e0 : (0 : Int32).toInt = 0 := rfl
  have e1 : (1 : Int32).toInt = 1 := rfl
  omega
theorem own_m3 (x : Int32) : 0 ≤ (x &&& 3).toInt ∧ (x &&& 3).toInt < 4 := by
  have h := c_mask x 3 2 (by decide) (by decide)
  have e : ((2 ^ 2 : Nat) : Int) = 4 := rfl
  rw [e] at h; omega
theorem own_bl (x : Int32) (h : 0 ≤ x.toInt ∧ x.toInt < 4) : (x.toInt8.toInt32.toInt8.toInt32 &&& 255) = x := by
  have a := c_i2b x
  have b := c_i2b x.toInt8.toInt32
  have c := c_mask x.toInt8.toInt32.toInt8.toInt32 255 8 (by decide) (by decide)
  have e : ((2 ^ 8 : Nat) : Int) = 256 := rfl
  rw [e] at c
  apply Int32.toInt_inj.mp
  rw [c]; omega
theorem own_tag (x : Int32) : ¬ ((((x &&& 254).toInt8.toInt32.toInt8.toInt32 &&& 255) &&& 31) = 31) := by
  intro h
  have a := c_i2b (x &&& 254)
  have b := c_i2b (x &&& 254).toInt8.toInt32
  have c := c_mask (x &&& 254).toInt8.toInt32.toInt8.toInt32 255 8 (by decide) (by decide)
  have d := c_mask ((x &&& 254).toInt8.toInt32.toInt8.toInt32 &&& 255) 31 5 (by decide) (by decide)
  have e : ((2 ^ 8 : Nat) : Int) = 256 := rfl
  have e2 : ((2 ^ 5 : Nat) : Int) = 32 := rfl
  have e3 : (31 : Int32).toInt = 31 := rfl
  have z : (x &&& 254) &&& 1 = 0 := by
    rw [Int32.and_assoc, show (254 : Int32) &&& 1 = 0 by decide, Int32.and_zero]
  have f := c_mask (x &&& 254) 1 1 (by decide) (by decide)
  rw [z] at f
  have e4 : ((2 ^ 1 : Nat) : Int) = 2 := rfl
  have e5 : (0 : Int32).toInt = 0 := rfl
  rw [e] at c
  rw [e2] at d
  rw [e4, e5] at f
  rw [h, e3] at d
  omega
theorem own_i (x y : Int32) (h1 : 0 ≤ x.toInt) (h2 : x.toInt < 100) (h3 : 0 ≤ y.toInt) (h4 : y.toInt < 100) : (x + y).toInt = x.toInt + y.toInt := by
  have q := c_iadd x y
  have r := rng32 (x + y)
  omega
theorem own_s (x y : Int32) (h1 : 0 ≤ x.toInt) (h2 : x.toInt < 100) (h3 : 0 ≤ y.toInt) (h4 : y.toInt < 100) : (x - y).toInt = x.toInt - y.toInt := by
  have q := c_isub x y
  have r := rng32 (x - y)
  omega
theorem own_stop (o l r : Int32) (ho : 2 ≤ o.toInt ∧ o.toInt < 4) (hl : 0 ≤ l.toInt ∧ l.toInt < 4) (hr : 0 ≤ r.toInt ∧ r.toInt < 4) : ((o + l) + r).toInt = o.toInt + l.toInt + r.toInt := by
  have q := own_i o l (by omega) (by omega) (by omega) (by omega)
  rw [own_i (o + l) r (by omega) (by omega) (by omega) (by omega)]; omega
theorem own_lti (x y : Int32) (h : x.toInt < y.toInt) : x < y := Int32.lt_iff_toInt_lt.mpr h
theorem own_fit (o l r : Int32) (ho : 2 ≤ o.toInt ∧ o.toInt < 4) (hl : 0 ≤ l.toInt ∧ l.toInt < 4) (hr : 0 ≤ r.toInt ∧ r.toInt < 4) : ¬ 0 < lcmpW l.toInt64 (((o + l) + r) - o).toInt64 := by
  rw [lw_gt, Int64.lt_iff_toInt_lt, c_i2l, c_i2l]
  have q := own_stop o l r ho hl hr
  rw [own_s _ o (by omega) (by omega) (by omega) (by omega)]; omega
theorem own_pos (o l : Int32) (ho : 2 ≤ o.toInt ∧ o.toInt < 4) (hl : 0 ≤ l.toInt ∧ l.toInt < 4) : (o + l.toInt64.toInt32).toInt = o.toInt + l.toInt := by
  have a := c_l2i l.toInt64
  have b := c_i2l l
  have r := rng32 l.toInt64.toInt32
  have r2 := rng32 l
  rw [own_i o _ (by omega) (by omega) (by omega) (by omega)]; omega
theorem own_after (o l r : Int32) (ho : 2 ≤ o.toInt ∧ o.toInt < 4) (hl : 0 ≤ l.toInt ∧ l.toInt < 4) (hr : 0 ≤ r.toInt ∧ r.toInt < 4) : (o + l.toInt64.toInt32 < (o + l) + r) ↔ (0 : Int32) < r := by
  rw [Int32.lt_iff_toInt_lt, Int32.lt_iff_toInt_lt, own_stop o l r ho hl hr, own_pos o l ho hl]
  have e0 : (0 : Int32).toInt = 0 := rfl
  omega
theorem d0_0 : decode prog_43_method_2_code 0 = .ok (.aload_n 0, 1) := by decide +kernel
theorem d0_1 : decode prog_43_method_2_code 1 = .ok (.invokespecial 7, 3) := by decide +kernel
theorem d0_4 : decode prog_43_method_2_code 4 = .ok (.aload_n 0, 1) := by decide +kernel
theorem d0_5 : decode prog_43_method_2_code 5 = .ok (.aload_n 1, 1) := by decide +kernel
theorem d0_6 : decode prog_43_method_2_code 6 = .ok (.putfield 12, 3) := by decide +kernel
theorem d0_9 : decode prog_43_method_2_code 9 = .ok (.aload_n 0, 1) := by decide +kernel
theorem d0_10 : decode prog_43_method_2_code 10 = .ok (.iload_n 2, 1) := by decide +kernel
theorem d0_11 : decode prog_43_method_2_code 11 = .ok (.putfield 16, 3) := by decide +kernel
theorem d0_14 : decode prog_43_method_2_code 14 = .ok (.aload_n 0, 1) := by decide +kernel
theorem d0_15 : decode prog_43_method_2_code 15 = .ok (.iload_n 3, 1) := by decide +kernel
theorem d0_16 : decode prog_43_method_2_code 16 = .ok (.putfield 20, 3) := by decide +kernel
theorem d0_19 : decode prog_43_method_2_code 19 = .ok (.return_, 1) := by decide +kernel
theorem pn_0 : plainName "com/example/holdfast/holdfast/resources/DerReader" = true := by first | (simp [plainName, overriddenIn]; done) | decide +kernel
theorem ef_0 (m : MethodId) (x0 : Addr) (x1 : Addr) (x2 : Int32) (x3 : Int32) : entryFrame m #[(.ref x0), (.ref x1), (.int x2), (.int x3)] 4 = mkF m 0 #[.val (.ref x0), .val (.ref x1), .val (.int x2), .val (.int x3)] [] := by first | (simp [entryFrame, mkF, argsToLocals, Value.category]; done) | rfl
def Q0 (Z : State) (a0 : Addr) (a1 : Addr) (p2 : Int32) (p3 : Int32) (h0 : Heap) (n0 : Nat) (v : Option Value) (h : Heap) (L : List Loc) : Prop := v = none ∧ Fr n0 L ∧ Keep h0 h [a0] ∧ (Fld Z h a0 "com/example/holdfast/holdfast/resources/DerReader" "bytes" "[B" (.ref a1)) ∧ (Fld Z h a0 "com/example/holdfast/holdfast/resources/DerReader" "position" "I" (.int p2)) ∧ (Fld Z h a0 "com/example/holdfast/holdfast/resources/DerReader" "end" "I" (.int p3))
set_option maxRecDepth 65536 in
set_option maxHeartbeats 40000000 in
theorem rm0 (l : Launch) (Z : State) (ar : Array Value) (hw : ∀ d ∈ tables_1, d.before ar Z = true) (ws : List Jvm.Cond) (a0 : Addr) (a1 : Addr) (p2 : Int32) (p3 : Int32) (h0 : Heap) (n0 : Nat) (Z0 : n0 ≤ h0.size) (E0 : Exa Z h0 a0 "com/example/holdfast/holdfast/resources/DerReader") (g0 : n0 ≤ a0) (F1 : Fld Z h0 a0 "com/example/holdfast/holdfast/resources/DerReader" "bytes" "[B" .null) (F2 : Fld Z h0 a0 "com/example/holdfast/holdfast/resources/DerReader" "position" "I" (.int (0 : Int32))) (F3 : Fld Z h0 a0 "com/example/holdfast/holdfast/resources/DerReader" "end" "I" (.int (0 : Int32))) :
    MetFree l (⟨"com/example/holdfast/holdfast/resources/DerReader", "<init>", "([BII)V"⟩ : MethodName) (head1 (Jvm.Cond.code (⟨"com/example/holdfast/holdfast/resources/DerReader", "<init>", "([BII)V"⟩ : MethodName) prog_43_method_2_code 4 none :: ws) ({ frames := 1, cells := 0, slots := 0, locals := 12 } : Room)) (fun a U => a = #[(.ref a0), (.ref a1), (.int p2), (.int p3)] ∧ Z.Warmed39 U.vm ∧ U.heap = h0) (fun _ _ _ _ _ => True) (fun _ U o U' => ∃ v L, o = .returned v ∧ Q0 Z a0 a1 p2 p3 h0 n0 v U'.heap L ∧ FrameEnd U o U' L ({ frames := 1, cells := 0, slots := 0, locals := 12 } : Room).cells ({ frames := 1, cells := 0, slots := 0, locals := 12 } : Room).slots) := by
  refine MetFree.of_bodySF (plainFor_of_name pn_0) hisR ?_
  intro p e s m args below meth c s₁ Bd hml0 hP hK
  obtain ⟨rfl, hZ, hh⟩ := hP
  have hx := Bd.exec
  have hby := Bd.bytes
  have hml : c.maxLocals = 4 := hml0
  have hown : s.vm.findClass "com/example/holdfast/holdfast/resources/DerReader" = some m.cls := findClass_of_methodNamed Bd.named
  have hnm := (name_of_methodNamed Bd.named Bd.method).1
  have X0 : Stand p l e ({ frames := 1, cells := 0, slots := 0, locals := 12 } : Room) s m #[(.ref a0), (.ref a1), (.int p2), (.int p3)] below meth c s₁ [] 0 0 := Stand.of_body Bd
  have e0 : s₁.heap = h0 := by rw [← hh, Bd.state]; rfl
  have N0 := Fr.nil n0
  have pre0 : ∀ t, Steps p.tables e below (s₁.setTop (mkF m 0 #[.val (.ref a0), .val (.ref a1), .val (.int p2), .val (.int p3)] [])) t → Steps p.tables e below (s₁.setTop (entryFrame m #[(.ref a0), (.ref a1), (.int p2), (.int p3)] 4)) t := fun t k => castTop (ef_0 m a0 a1 p2 p3) k
  refine OGo.start pre0 ?_
  show OGo p.tables e below _ (s₁.setTop (mkF m 0 #[.val (.ref a0), .val (.ref a1), .val (.int p2), .val (.int p3)] []))
  refine OGo.st (fun t k => XS.aloadN X0.here hx rfl (hb hby d0_0) rfl rfl k) ?_
  show OGo p.tables e below _ (s₁.setTop (mkF m 1 #[.val (.ref a0), .val (.ref a1), .val (.int p2), .val (.int p3)] [(.ref a0)]))
  obtain ⟨T101, X101, e101, st101⟩ := initO X0 hx hZ hown (hw _ (List.mem_of_getElem? (i := 7) rfl)) (hw _ (List.mem_of_getElem? (i := 8) rfl)) (hw _ (List.mem_of_getElem? (i := 9) rfl)) e0 (g := (mkF m 1 #[.val (.ref a0), .val (.ref a1), .val (.int p2), .val (.int p3)] [(.ref a0)])) rfl (by rw [hml]; rfl) rfl (hb hby d0_1) (by decide) (W := 0) (by show 2 * 0 + _ ≤ _; exact Nat.le_of_eq rfl) (by decide)
  refine OGo.st st101 ?_
  show OGo p.tables e below _ (T101.setTop (mkF m 4 #[.val (.ref a0), .val (.ref a1), .val (.int p2), .val (.int p3)] []))
  refine OGo.st (fun t k => XS.aloadN X101.here hx rfl (hb hby d0_4) rfl rfl k) ?_
  show OGo p.tables e below _ (T101.setTop (mkF m 5 #[.val (.ref a0), .val (.ref a1), .val (.int p2), .val (.int p3)] [(.ref a0)]))
  refine OGo.st (fun t k => XS.aloadN X101.here hx rfl (hb hby d0_5) rfl rfl k) ?_
  show OGo p.tables e below _ (T101.setTop (mkF m 6 #[.val (.ref a0), .val (.ref a1), .val (.int p2), .val (.int p3)] [(.ref a1), (.ref a0)]))
  obtain ⟨T102, h102, X102, e102, W102, st102⟩ := putF X101 hx hZ hown (host := "") (Or.inl (hw _ (List.mem_of_getElem? (i := 10) rfl))) Via.refl e101 F1 E0 (Or.inr ⟨(hw _ (List.mem_of_getElem? (i := 11) rfl)), rfl, hnm⟩) (hw _ (List.mem_of_getElem? (i := 1) rfl)) (ty := (.array .byte)) (by decide) rfl rfl (g := (mkF m 6 #[.val (.ref a0), .val (.ref a1), .val (.int p2), .val (.int p3)] [(.ref a1), (.ref a0)])) rfl rfl (hb hby d0_6)
  refine OGo.st st102 ?_
  have Fw102 : Fld Z h102 a0 "com/example/holdfast/holdfast/resources/DerReader" "bytes" "[B" (.ref a1) := Fld.same W102 F1
  have N102 := Fr.snoc X102 N0 g0
  show OGo p.tables e below _ (T102.setTop (mkF m 9 #[.val (.ref a0), .val (.ref a1), .val (.int p2), .val (.int p3)] []))
  refine OGo.st (fun t k => XS.aloadN X102.here hx rfl (hb hby d0_9) rfl rfl k) ?_
  show OGo p.tables e below _ (T102.setTop (mkF m 10 #[.val (.ref a0), .val (.ref a1), .val (.int p2), .val (.int p3)] [(.ref a0)]))
  refine OGo.st (fun t k => XS.iloadN X102.here hx rfl (hb hby d0_10) rfl k) ?_
  show OGo p.tables e below _ (T102.setTop (mkF m 11 #[.val (.ref a0), .val (.ref a1), .val (.int p2), .val (.int p3)] [(.int p2), (.ref a0)]))
  have G103 : Exa Z h102 a0 "com/example/holdfast/holdfast/resources/DerReader" := (Exa.wr W102 E0)
  have G104 : Fld Z h102 a0 "com/example/holdfast/holdfast/resources/DerReader" "position" "I" (.int (0 : Int32)) := (Fld.other W102 F2 (Or.inr (slot_ne (Or.inl (hw _ (List.mem_of_getElem? (i := 13) rfl))) (Or.inr (hw _ (List.mem_of_getElem? (i := 11) rfl))) (by decide) (t := .int) (t' := (.array .byte)) (by decide) (by decide))))
  obtain ⟨T105, h105, X105, e105, W105, st105⟩ := putF X102 hx hZ hown (host := "") (Or.inl (hw _ (List.mem_of_getElem? (i := 12) rfl))) Via.refl e102 G104 G103 (Or.inl (hw _ (List.mem_of_getElem? (i := 13) rfl))) (hw _ (List.mem_of_getElem? (i := 1) rfl)) (ty := .int) (by decide) rfl rfl (g := (mkF m 11 #[.val (.ref a0), .val (.ref a1), .val (.int p2), .val (.int p3)] [(.int p2), (.ref a0)])) rfl rfl (hb hby d0_11)
  refine OGo.st st105 ?_
  have Fw105 : Fld Z h105 a0 "com/example/holdfast/holdfast/resources/DerReader" "position" "I" (.int p2) := Fld.same W105 G104
  have N105 := Fr.snoc X105 N102 g0
  show OGo p.tables e below _ (T105.setTop (mkF m 14 #[.val (.ref a0), .val (.ref a1), .val (.int p2), .val (.int p3)] []))
  refine OGo.st (fun t k => XS.aloadN X105.here hx rfl (hb hby d0_14) rfl rfl k) ?_
  show OGo p.tables e below _ (T105.setTop (mkF m 15 #[.val (.ref a0), .val (.ref a1), .val (.int p2), .val (.int p3)] [(.ref a0)]))
  refine OGo.st (fun t k => XS.iloadN X105.here hx rfl (hb hby d0_15) rfl k) ?_
  show OGo p.tables e below _ (T105.setTop (mkF m 16 #[.val (.ref a0), .val (.ref a1), .val (.int p2), .val (.int p3)] [(.int p3), (.ref a0)]))
  have G106 : Exa Z h105 a0 "com/example/holdfast/holdfast/resources/DerReader" := (Exa.wr W105 G103)
  have G107 : Fld Z h105 a0 "com/example/holdfast/holdfast/resources/DerReader" "end" "I" (.int (0 : Int32)) := (Fld.other W105 (Fld.other W102 F3 (Or.inr (slot_ne (Or.inr (hw _ (List.mem_of_getElem? (i := 15) rfl))) (Or.inr (hw _ (List.mem_of_getElem? (i := 11) rfl))) (by decide) (t := .int) (t' := (.array .byte)) (by decide) (by decide)))) (Or.inr (slot_ne (Or.inr (hw _ (List.mem_of_getElem? (i := 15) rfl))) (Or.inl (hw _ (List.mem_of_getElem? (i := 13) rfl))) (by decide) (t := .int) (t' := .int) (by decide) (by decide))))
  obtain ⟨T108, h108, X108, e108, W108, st108⟩ := putF X105 hx hZ hown (host := "") (Or.inl (hw _ (List.mem_of_getElem? (i := 14) rfl))) Via.refl e105 G107 G106 (Or.inr ⟨(hw _ (List.mem_of_getElem? (i := 15) rfl)), rfl, hnm⟩) (hw _ (List.mem_of_getElem? (i := 1) rfl)) (ty := .int) (by decide) rfl rfl (g := (mkF m 16 #[.val (.ref a0), .val (.ref a1), .val (.int p2), .val (.int p3)] [(.int p3), (.ref a0)])) rfl rfl (hb hby d0_16)
  refine OGo.st st108 ?_
  have Fw108 : Fld Z h108 a0 "com/example/holdfast/holdfast/resources/DerReader" "end" "I" (.int p3) := Fld.same W108 G107
  have N108 := Fr.snoc X108 N105 g0
  show OGo p.tables e below _ (T108.setTop (mkF m 19 #[.val (.ref a0), .val (.ref a1), .val (.int p2), .val (.int p3)] []))
  obtain ⟨fs, hr, hrun, hended, hW, hsame⟩ := X108.leave (v := none) (fun _ => rfl)
  have G110 : Fld Z h108 a0 "com/example/holdfast/holdfast/resources/DerReader" "bytes" "[B" (.ref a1) := (Fld.other W108 (Fld.other W105 Fw102 (Or.inr (slot_ne (Or.inr (hw _ (List.mem_of_getElem? (i := 11) rfl))) (Or.inl (hw _ (List.mem_of_getElem? (i := 13) rfl))) (by decide) (t := (.array .byte)) (t' := .int) (by decide) (by decide)))) (Or.inr (slot_ne (Or.inr (hw _ (List.mem_of_getElem? (i := 11) rfl))) (Or.inr (hw _ (List.mem_of_getElem? (i := 15) rfl))) (by decide) (t := (.array .byte)) (t' := .int) (by decide) (by decide))))
  have G111 : Fld Z h108 a0 "com/example/holdfast/holdfast/resources/DerReader" "position" "I" (.int p2) := (Fld.other W108 Fw105 (Or.inr (slot_ne (Or.inl (hw _ (List.mem_of_getElem? (i := 13) rfl))) (Or.inr (hw _ (List.mem_of_getElem? (i := 15) rfl))) (by decide) (t := .int) (t' := .int) (by decide) (by decide))))
  refine OGo.done (X108.returnOut hx Bd.returns (hb hby d0_19) hr) ⟨hrun, hended, _, _, rfl, ?_, ⟨_, rfl⟩, hW, hsame.mono (by decide) (by decide)⟩
  show Q0 Z a0 a1 p2 p3 h0 n0 _ T108.heap _
  rw [e108]
  exact ⟨rfl, N108, ((((Keep.refl h0 [a0]).wr W102 (Or.inl (List.mem_of_getElem? (i := 0) rfl))).wr W105 (Or.inl (List.mem_of_getElem? (i := 0) rfl))).wr W108 (Or.inl (List.mem_of_getElem? (i := 0) rfl))), G110, G111, Fw108⟩
theorem d1_0 : decode prog_43_method_4_code 0 = .ok (.aload_n 0, 1) := by decide +kernel
theorem d1_1 : decode prog_43_method_4_code 1 = .ok (.getfield 16, 3) := by decide +kernel
theorem d1_4 : decode prog_43_method_4_code 4 = .ok (.aload_n 0, 1) := by decide +kernel
theorem d1_5 : decode prog_43_method_4_code 5 = .ok (.getfield 20, 3) := by decide +kernel
theorem d1_8 : decode prog_43_method_4_code 8 = .ok (.if_icmp .ge 7, 3) := by decide +kernel
theorem d1_11 : decode prog_43_method_4_code 11 = .ok (.iconst 1, 1) := by decide +kernel
theorem d1_12 : decode prog_43_method_4_code 12 = .ok (.goto 4, 3) := by decide +kernel
theorem d1_15 : decode prog_43_method_4_code 15 = .ok (.iconst 0, 1) := by decide +kernel
theorem d1_16 : decode prog_43_method_4_code 16 = .ok (.ireturn, 1) := by decide +kernel
theorem ef_1 (m : MethodId) (x0 : Addr) : entryFrame m #[(.ref x0)] 1 = mkF m 0 #[.val (.ref x0)] [] := by first | (simp [entryFrame, mkF, argsToLocals, Value.category]; done) | rfl
def Q1 (Z : State) (a0 : Addr) (w1 : Int32) (w2 : Int32) (h0 : Heap) (n0 : Nat) (v : Option Value) (h : Heap) (L : List Loc) : Prop := v = some (.int (own_lt w1 w2)) ∧ Fr n0 L ∧ h = h0
set_option maxRecDepth 65536 in
set_option maxHeartbeats 40000000 in
theorem rm1 (l : Launch) (Z : State) (ar : Array Value) (hw : ∀ d ∈ tables_1, d.before ar Z = true) (ws : List Jvm.Cond) (a0 : Addr) (w1 : Int32) (w2 : Int32) (h0 : Heap) (n0 : Nat) (Z0 : n0 ≤ h0.size) (F2 : Fld Z h0 a0 "com/example/holdfast/holdfast/resources/DerReader" "position" "I" (.int w1)) (F3 : Fld Z h0 a0 "com/example/holdfast/holdfast/resources/DerReader" "end" "I" (.int w2)) :
    MetFree l (⟨"com/example/holdfast/holdfast/resources/DerReader", "hasMore", "()Z"⟩ : MethodName) (head1 (Jvm.Cond.code (⟨"com/example/holdfast/holdfast/resources/DerReader", "hasMore", "()Z"⟩ : MethodName) prog_43_method_4_code 1 (some .boolean) :: ws) ({ frames := 0, cells := 0, slots := 0, locals := 0 } : Room)) (fun a U => a = #[(.ref a0)] ∧ Z.Warmed39 U.vm ∧ U.heap = h0) (fun _ _ _ _ _ => True) (fun _ U o U' => ∃ v L, o = .returned v ∧ Q1 Z a0 w1 w2 h0 n0 v U'.heap L ∧ FrameEnd U o U' L ({ frames := 0, cells := 0, slots := 0, locals := 0 } : Room).cells ({ frames := 0, cells := 0, slots := 0, locals := 0 } : Room).slots) := by
  refine MetFree.of_bodySF (plainFor_of_name pn_0) hisR ?_
  intro p e s m args below meth c s₁ Bd hml0 hP hK
  obtain ⟨rfl, hZ, hh⟩ := hP
  have hx := Bd.exec
  have hby := Bd.bytes
  have hml : c.maxLocals = 1 := hml0
  have hown : s.vm.findClass "com/example/holdfast/holdfast/resources/DerReader" = some m.cls := findClass_of_methodNamed Bd.named
  have hnm := (name_of_methodNamed Bd.named Bd.method).1
  have X0 : Stand p l e ({ frames := 0, cells := 0, slots := 0, locals := 0 } : Room) s m #[(.ref a0)] below meth c s₁ [] 0 0 := Stand.of_body Bd
  have e0 : s₁.heap = h0 := by rw [← hh, Bd.state]; rfl
  have N0 := Fr.nil n0
  have pre0 : ∀ t, Steps p.tables e below (s₁.setTop (mkF m 0 #[.val (.ref a0)] [])) t → Steps p.tables e below (s₁.setTop (entryFrame m #[(.ref a0)] 1)) t := fun t k => castTop (ef_1 m a0) k
  refine OGo.start pre0 ?_
  show OGo p.tables e below _ (s₁.setTop (mkF m 0 #[.val (.ref a0)] []))
  refine OGo.st (fun t k => XS.aloadN X0.here hx rfl (hb hby d1_0) rfl rfl k) ?_
  show OGo p.tables e below _ (s₁.setTop (mkF m 1 #[.val (.ref a0)] [(.ref a0)]))
  obtain ⟨T101, X101, e101, st101⟩ := getF X0 hx hZ hown (host := "") (Or.inl (hw _ (List.mem_of_getElem? (i := 12) rfl))) Via.refl e0 F2 (g := (mkF m 1 #[.val (.ref a0)] [(.ref a0)])) rfl rfl (hb hby d1_1)
  refine OGo.st st101 ?_
  show OGo p.tables e below _ (T101.setTop (mkF m 4 #[.val (.ref a0)] [(.int w1)]))
  refine OGo.st (fun t k => XS.aloadN X101.here hx rfl (hb hby d1_4) rfl rfl k) ?_
  show OGo p.tables e below _ (T101.setTop (mkF m 5 #[.val (.ref a0)] [(.ref a0), (.int w1)]))
  obtain ⟨T102, X102, e102, st102⟩ := getF X101 hx hZ hown (host := "") (Or.inl (hw _ (List.mem_of_getElem? (i := 14) rfl))) Via.refl e101 F3 (g := (mkF m 5 #[.val (.ref a0)] [(.ref a0), (.int w1)])) rfl rfl (hb hby d1_5)
  refine OGo.st st102 ?_
  show OGo p.tables e below _ (T102.setTop (mkF m 8 #[.val (.ref a0)] [(.int w2), (.int w1)]))
  by_cases hc8_103 : w1 < w2
  ·
    refine OGo.st (fun t k => XS.icmpNo X102.here hx rfl (hb hby d1_8) rfl (tlt hc8_103).2.1 k) ?_
    show OGo p.tables e below _ (T102.setTop (mkF m 11 #[.val (.ref a0)] []))
    refine OGo.st (fun t k => XS.iconst X102.here hx rfl (hb hby d1_11) k) ?_
    show OGo p.tables e below _ (T102.setTop (mkF m 12 #[.val (.ref a0)] [(.int (1 : Int32))]))
    refine OGo.st (fun t k => XS.goto X102.here hx rfl (pc0 := 12) (pc' := 16) rfl (hb hby d1_12) (by decide) (by decide) k) ?_
    show OGo p.tables e below _ (T102.setTop (mkF m 16 #[.val (.ref a0)] [(.int (1 : Int32))]))
    obtain ⟨fs, hr, hrun, hended, hW, hsame⟩ := X102.leave (v := some (.int (1 : Int32))) (fun h => by rw [Bd.returns] at h; cases h)
    refine OGo.done (retN X102 hx (t := .boolean) Bd.returns (by simp) (hb hby d1_16) hr) ⟨hrun, hended, _, _, rfl, ?_, ⟨_, rfl⟩, hW, hsame.mono (by decide) (by decide)⟩
    show Q1 Z a0 w1 w2 h0 n0 _ T102.heap _
    rw [e102]
    exact ⟨(congrArg (fun z => some (Value.int z)) (show (1 : Int32) = (own_lt w1 w2) from by rw [own_lt, if_pos hc8_103])), N0, rfl⟩
  ·
    refine OGo.st (fun t k => XS.icmpYes X102.here hx rfl (pc0 := 8) (pc' := 15) rfl (hb hby d1_8) rfl (flt hc8_103).2.1 (by decide) (by decide) k) ?_
    show OGo p.tables e below _ (T102.setTop (mkF m 15 #[.val (.ref a0)] []))
    refine OGo.st (fun t k => XS.iconst X102.here hx rfl (hb hby d1_15) k) ?_
    show OGo p.tables e below _ (T102.setTop (mkF m 16 #[.val (.ref a0)] [(.int (0 : Int32))]))
    obtain ⟨fs, hr, hrun, hended, hW, hsame⟩ := X102.leave (v := some (.int (0 : Int32))) (fun h => by rw [Bd.returns] at h; cases h)
    refine OGo.done (retN X102 hx (t := .boolean) Bd.returns (by simp) (hb hby d1_16) hr) ⟨hrun, hended, _, _, rfl, ?_, ⟨_, rfl⟩, hW, hsame.mono (by decide) (by decide)⟩
    show Q1 Z a0 w1 w2 h0 n0 _ T102.heap _
    rw [e102]
    exact ⟨(congrArg (fun z => some (Value.int z)) (show (0 : Int32) = (own_lt w1 w2) from by rw [own_lt, if_neg hc8_103])), N0, rfl⟩
theorem d2_0 : decode prog_45_method_1_code 0 = .ok (.aload_n 0, 1) := by decide +kernel
theorem d2_1 : decode prog_45_method_1_code 1 = .ok (.invokespecial 1, 3) := by decide +kernel
theorem d2_4 : decode prog_45_method_1_code 4 = .ok (.aload_n 0, 1) := by decide +kernel
theorem d2_5 : decode prog_45_method_1_code 5 = .ok (.aload_n 1, 1) := by decide +kernel
theorem d2_6 : decode prog_45_method_1_code 6 = .ok (.putfield 7, 3) := by decide +kernel
theorem d2_9 : decode prog_45_method_1_code 9 = .ok (.aload_n 0, 1) := by decide +kernel
theorem d2_10 : decode prog_45_method_1_code 10 = .ok (.iload_n 2, 1) := by decide +kernel
theorem d2_11 : decode prog_45_method_1_code 11 = .ok (.putfield 13, 3) := by decide +kernel
theorem d2_14 : decode prog_45_method_1_code 14 = .ok (.aload_n 0, 1) := by decide +kernel
theorem d2_15 : decode prog_45_method_1_code 15 = .ok (.iload_n 3, 1) := by decide +kernel
theorem d2_16 : decode prog_45_method_1_code 16 = .ok (.putfield 17, 3) := by decide +kernel
theorem d2_19 : decode prog_45_method_1_code 19 = .ok (.aload_n 0, 1) := by decide +kernel
theorem d2_20 : decode prog_45_method_1_code 20 = .ok (.iload 4, 2) := by decide +kernel
theorem d2_22 : decode prog_45_method_1_code 22 = .ok (.putfield 20, 3) := by decide +kernel
theorem d2_25 : decode prog_45_method_1_code 25 = .ok (.aload_n 0, 1) := by decide +kernel
theorem d2_26 : decode prog_45_method_1_code 26 = .ok (.iload 5, 2) := by decide +kernel
theorem d2_28 : decode prog_45_method_1_code 28 = .ok (.putfield 23, 3) := by decide +kernel
theorem d2_31 : decode prog_45_method_1_code 31 = .ok (.return_, 1) := by decide +kernel
theorem pn_1 : plainName "com/example/holdfast/holdfast/resources/DerValue" = true := by first | (simp [plainName, overriddenIn]; done) | decide +kernel
theorem ef_2 (m : MethodId) (x0 : Addr) (x1 : Addr) (x2 : Int32) (x3 : Int32) (x4 : Int32) (x5 : Int32) : entryFrame m #[(.ref x0), (.ref x1), (.int x2), (.int x3), (.int x4), (.int x5)] 6 = mkF m 0 #[.val (.ref x0), .val (.ref x1), .val (.int x2), .val (.int x3), .val (.int x4), .val (.int x5)] [] := by first | (simp [entryFrame, mkF, argsToLocals, Value.category]; done) | rfl
def Q2 (Z : State) (a0 : Addr) (a1 : Addr) (p2 : Int32) (p3 : Int32) (p4 : Int32) (p5 : Int32) (h0 : Heap) (n0 : Nat) (v : Option Value) (h : Heap) (L : List Loc) : Prop := v = none ∧ Fr n0 L ∧ Keep h0 h [a0]
set_option maxRecDepth 65536 in
set_option maxHeartbeats 40000000 in
theorem rm2 (l : Launch) (Z : State) (ar : Array Value) (hw : ∀ d ∈ tables_1, d.before ar Z = true) (ws : List Jvm.Cond) (a0 : Addr) (a1 : Addr) (p2 : Int32) (p3 : Int32) (p4 : Int32) (p5 : Int32) (h0 : Heap) (n0 : Nat) (Z0 : n0 ≤ h0.size) (E0 : Exa Z h0 a0 "com/example/holdfast/holdfast/resources/DerValue") (g0 : n0 ≤ a0) (F_source : Fld Z h0 a0 "com/example/holdfast/holdfast/resources/DerValue" "source" "[B" .null) (F_tag : Fld Z h0 a0 "com/example/holdfast/holdfast/resources/DerValue" "tag" "I" (.int (0 : Int32))) (F_offset : Fld Z h0 a0 "com/example/holdfast/holdfast/resources/DerValue" "offset" "I" (.int (0 : Int32))) (F_contentStart : Fld Z h0 a0 "com/example/holdfast/holdfast/resources/DerValue" "contentStart" "I" (.int (0 : Int32))) (F_end : Fld Z h0 a0 "com/example/holdfast/holdfast/resources/DerValue" "end" "I" (.int (0 : Int32))) :
    MetFree l (⟨"com/example/holdfast/holdfast/resources/DerValue", "<init>", "([BIIII)V"⟩ : MethodName) (head1 (Jvm.Cond.code (⟨"com/example/holdfast/holdfast/resources/DerValue", "<init>", "([BIIII)V"⟩ : MethodName) prog_45_method_1_code 6 none :: ws) ({ frames := 1, cells := 0, slots := 0, locals := 12 } : Room)) (fun a U => a = #[(.ref a0), (.ref a1), (.int p2), (.int p3), (.int p4), (.int p5)] ∧ Z.Warmed39 U.vm ∧ U.heap = h0) (fun _ _ _ _ _ => True) (fun _ U o U' => ∃ v L, o = .returned v ∧ Q2 Z a0 a1 p2 p3 p4 p5 h0 n0 v U'.heap L ∧ FrameEnd U o U' L ({ frames := 1, cells := 0, slots := 0, locals := 12 } : Room).cells ({ frames := 1, cells := 0, slots := 0, locals := 12 } : Room).slots) := by
  refine MetFree.of_bodySF (plainFor_of_name pn_1) hisR ?_
  intro p e s m args below meth c s₁ Bd hml0 hP hK
  obtain ⟨rfl, hZ, hh⟩ := hP
  have hx := Bd.exec
  have hby := Bd.bytes
  have hml : c.maxLocals = 6 := hml0
  have hown : s.vm.findClass "com/example/holdfast/holdfast/resources/DerValue" = some m.cls := findClass_of_methodNamed Bd.named
  have hnm := (name_of_methodNamed Bd.named Bd.method).1
  have X0 : Stand p l e ({ frames := 1, cells := 0, slots := 0, locals := 12 } : Room) s m #[(.ref a0), (.ref a1), (.int p2), (.int p3), (.int p4), (.int p5)] below meth c s₁ [] 0 0 := Stand.of_body Bd
  have e0 : s₁.heap = h0 := by rw [← hh, Bd.state]; rfl
  have N0 := Fr.nil n0
  have pre0 : ∀ t, Steps p.tables e below (s₁.setTop (mkF m 0 #[.val (.ref a0), .val (.ref a1), .val (.int p2), .val (.int p3), .val (.int p4), .val (.int p5)] [])) t → Steps p.tables e below (s₁.setTop (entryFrame m #[(.ref a0), (.ref a1), (.int p2), (.int p3), (.int p4), (.int p5)] 6)) t := fun t k => castTop (ef_2 m a0 a1 p2 p3 p4 p5) k
  refine OGo.start pre0 ?_
  show OGo p.tables e below _ (s₁.setTop (mkF m 0 #[.val (.ref a0), .val (.ref a1), .val (.int p2), .val (.int p3), .val (.int p4), .val (.int p5)] []))
  refine OGo.st (fun t k => XS.aloadN X0.here hx rfl (hb hby d2_0) rfl rfl k) ?_
  show OGo p.tables e below _ (s₁.setTop (mkF m 1 #[.val (.ref a0), .val (.ref a1), .val (.int p2), .val (.int p3), .val (.int p4), .val (.int p5)] [(.ref a0)]))
  obtain ⟨T101, X101, e101, st101⟩ := initO X0 hx hZ hown (hw _ (List.mem_of_getElem? (i := 38) rfl)) (hw _ (List.mem_of_getElem? (i := 8) rfl)) (hw _ (List.mem_of_getElem? (i := 9) rfl)) e0 (g := (mkF m 1 #[.val (.ref a0), .val (.ref a1), .val (.int p2), .val (.int p3), .val (.int p4), .val (.int p5)] [(.ref a0)])) rfl (by rw [hml]; rfl) rfl (hb hby d2_1) (by decide) (W := 0) (by show 2 * 0 + _ ≤ _; exact Nat.le_of_eq rfl) (by decide)
  refine OGo.st st101 ?_
  show OGo p.tables e below _ (T101.setTop (mkF m 4 #[.val (.ref a0), .val (.ref a1), .val (.int p2), .val (.int p3), .val (.int p4), .val (.int p5)] []))
  refine OGo.st (fun t k => XS.aloadN X101.here hx rfl (hb hby d2_4) rfl rfl k) ?_
  show OGo p.tables e below _ (T101.setTop (mkF m 5 #[.val (.ref a0), .val (.ref a1), .val (.int p2), .val (.int p3), .val (.int p4), .val (.int p5)] [(.ref a0)]))
  refine OGo.st (fun t k => XS.aloadN X101.here hx rfl (hb hby d2_5) rfl rfl k) ?_
  show OGo p.tables e below _ (T101.setTop (mkF m 6 #[.val (.ref a0), .val (.ref a1), .val (.int p2), .val (.int p3), .val (.int p4), .val (.int p5)] [(.ref a1), (.ref a0)]))
  obtain ⟨T102, h102, X102, e102, W102, st102⟩ := putF X101 hx hZ hown (host := "") (Or.inl (hw _ (List.mem_of_getElem? (i := 39) rfl))) Via.refl e101 F_source E0 (Or.inr ⟨(hw _ (List.mem_of_getElem? (i := 40) rfl)), rfl, hnm⟩) (hw _ (List.mem_of_getElem? (i := 33) rfl)) (ty := (.array .byte)) (by decide) rfl rfl (g := (mkF m 6 #[.val (.ref a0), .val (.ref a1), .val (.int p2), .val (.int p3), .val (.int p4), .val (.int p5)] [(.ref a1), (.ref a0)])) rfl rfl (hb hby d2_6)
  refine OGo.st st102 ?_
  have Fw102 : Fld Z h102 a0 "com/example/holdfast/holdfast/resources/DerValue" "source" "[B" (.ref a1) := Fld.same W102 F_source
  have N102 := Fr.snoc X102 N0 g0
  show OGo p.tables e below _ (T102.setTop (mkF m 9 #[.val (.ref a0), .val (.ref a1), .val (.int p2), .val (.int p3), .val (.int p4), .val (.int p5)] []))
  refine OGo.st (fun t k => XS.aloadN X102.here hx rfl (hb hby d2_9) rfl rfl k) ?_
  show OGo p.tables e below _ (T102.setTop (mkF m 10 #[.val (.ref a0), .val (.ref a1), .val (.int p2), .val (.int p3), .val (.int p4), .val (.int p5)] [(.ref a0)]))
  refine OGo.st (fun t k => XS.iloadN X102.here hx rfl (hb hby d2_10) rfl k) ?_
  show OGo p.tables e below _ (T102.setTop (mkF m 11 #[.val (.ref a0), .val (.ref a1), .val (.int p2), .val (.int p3), .val (.int p4), .val (.int p5)] [(.int p2), (.ref a0)]))
  have G103 : Exa Z h102 a0 "com/example/holdfast/holdfast/resources/DerValue" := (Exa.wr W102 E0)
  have G104 : Fld Z h102 a0 "com/example/holdfast/holdfast/resources/DerValue" "tag" "I" (.int (0 : Int32)) := (Fld.other W102 F_tag (Or.inr (slot_ne (Or.inr (hw _ (List.mem_of_getElem? (i := 42) rfl))) (Or.inr (hw _ (List.mem_of_getElem? (i := 40) rfl))) (by decide) (t := .int) (t' := (.array .byte)) (by decide) (by decide))))
  obtain ⟨T105, h105, X105, e105, W105, st105⟩ := putF X102 hx hZ hown (host := "") (Or.inl (hw _ (List.mem_of_getElem? (i := 41) rfl))) Via.refl e102 G104 G103 (Or.inr ⟨(hw _ (List.mem_of_getElem? (i := 42) rfl)), rfl, hnm⟩) (hw _ (List.mem_of_getElem? (i := 33) rfl)) (ty := .int) (by decide) rfl rfl (g := (mkF m 11 #[.val (.ref a0), .val (.ref a1), .val (.int p2), .val (.int p3), .val (.int p4), .val (.int p5)] [(.int p2), (.ref a0)])) rfl rfl (hb hby d2_11)
  refine OGo.st st105 ?_
  have Fw105 : Fld Z h105 a0 "com/example/holdfast/holdfast/resources/DerValue" "tag" "I" (.int p2) := Fld.same W105 G104
  have N105 := Fr.snoc X105 N102 g0
  show OGo p.tables e below _ (T105.setTop (mkF m 14 #[.val (.ref a0), .val (.ref a1), .val (.int p2), .val (.int p3), .val (.int p4), .val (.int p5)] []))
  refine OGo.st (fun t k => XS.aloadN X105.here hx rfl (hb hby d2_14) rfl rfl k) ?_
  show OGo p.tables e below _ (T105.setTop (mkF m 15 #[.val (.ref a0), .val (.ref a1), .val (.int p2), .val (.int p3), .val (.int p4), .val (.int p5)] [(.ref a0)]))
  refine OGo.st (fun t k => XS.iloadN X105.here hx rfl (hb hby d2_15) rfl k) ?_
  show OGo p.tables e below _ (T105.setTop (mkF m 16 #[.val (.ref a0), .val (.ref a1), .val (.int p2), .val (.int p3), .val (.int p4), .val (.int p5)] [(.int p3), (.ref a0)]))
  have G106 : Exa Z h105 a0 "com/example/holdfast/holdfast/resources/DerValue" := (Exa.wr W105 G103)
  have G107 : Fld Z h105 a0 "com/example/holdfast/holdfast/resources/DerValue" "offset" "I" (.int (0 : Int32)) := (Fld.other W105 (Fld.other W102 F_offset (Or.inr (slot_ne (Or.inr (hw _ (List.mem_of_getElem? (i := 44) rfl))) (Or.inr (hw _ (List.mem_of_getElem? (i := 40) rfl))) (by decide) (t := .int) (t' := (.array .byte)) (by decide) (by decide)))) (Or.inr (slot_ne (Or.inr (hw _ (List.mem_of_getElem? (i := 44) rfl))) (Or.inr (hw _ (List.mem_of_getElem? (i := 42) rfl))) (by decide) (t := .int) (t' := .int) (by decide) (by decide))))
  obtain ⟨T108, h108, X108, e108, W108, st108⟩ := putF X105 hx hZ hown (host := "") (Or.inl (hw _ (List.mem_of_getElem? (i := 43) rfl))) Via.refl e105 G107 G106 (Or.inr ⟨(hw _ (List.mem_of_getElem? (i := 44) rfl)), rfl, hnm⟩) (hw _ (List.mem_of_getElem? (i := 33) rfl)) (ty := .int) (by decide) rfl rfl (g := (mkF m 16 #[.val (.ref a0), .val (.ref a1), .val (.int p2), .val (.int p3), .val (.int p4), .val (.int p5)] [(.int p3), (.ref a0)])) rfl rfl (hb hby d2_16)
  refine OGo.st st108 ?_
  have Fw108 : Fld Z h108 a0 "com/example/holdfast/holdfast/resources/DerValue" "offset" "I" (.int p3) := Fld.same W108 G107
  have N108 := Fr.snoc X108 N105 g0
  show OGo p.tables e below _ (T108.setTop (mkF m 19 #[.val (.ref a0), .val (.ref a1), .val (.int p2), .val (.int p3), .val (.int p4), .val (.int p5)] []))
  refine OGo.st (fun t k => XS.aloadN X108.here hx rfl (hb hby d2_19) rfl rfl k) ?_
  show OGo p.tables e below _ (T108.setTop (mkF m 20 #[.val (.ref a0), .val (.ref a1), .val (.int p2), .val (.int p3), .val (.int p4), .val (.int p5)] [(.ref a0)]))
  refine OGo.st (fun t k => XS.iload X108.here hx rfl (hb hby d2_20) rfl k) ?_
  show OGo p.tables e below _ (T108.setTop (mkF m 22 #[.val (.ref a0), .val (.ref a1), .val (.int p2), .val (.int p3), .val (.int p4), .val (.int p5)] [(.int p4), (.ref a0)]))
  have G109 : Exa Z h108 a0 "com/example/holdfast/holdfast/resources/DerValue" := (Exa.wr W108 G106)
  have G110 : Fld Z h108 a0 "com/example/holdfast/holdfast/resources/DerValue" "contentStart" "I" (.int (0 : Int32)) := (Fld.other W108 (Fld.other W105 (Fld.other W102 F_contentStart (Or.inr (slot_ne (Or.inr (hw _ (List.mem_of_getElem? (i := 46) rfl))) (Or.inr (hw _ (List.mem_of_getElem? (i := 40) rfl))) (by decide) (t := .int) (t' := (.array .byte)) (by decide) (by decide)))) (Or.inr (slot_ne (Or.inr (hw _ (List.mem_of_getElem? (i := 46) rfl))) (Or.inr (hw _ (List.mem_of_getElem? (i := 42) rfl))) (by decide) (t := .int) (t' := .int) (by decide) (by decide)))) (Or.inr (slot_ne (Or.inr (hw _ (List.mem_of_getElem? (i := 46) rfl))) (Or.inr (hw _ (List.mem_of_getElem? (i := 44) rfl))) (by decide) (t := .int) (t' := .int) (by decide) (by decide))))
  obtain ⟨T111, h111, X111, e111, W111, st111⟩ := putF X108 hx hZ hown (host := "") (Or.inl (hw _ (List.mem_of_getElem? (i := 45) rfl))) Via.refl e108 G110 G109 (Or.inr ⟨(hw _ (List.mem_of_getElem? (i := 46) rfl)), rfl, hnm⟩) (hw _ (List.mem_of_getElem? (i := 33) rfl)) (ty := .int) (by decide) rfl rfl (g := (mkF m 22 #[.val (.ref a0), .val (.ref a1), .val (.int p2), .val (.int p3), .val (.int p4), .val (.int p5)] [(.int p4), (.ref a0)])) rfl rfl (hb hby d2_22)
  refine OGo.st st111 ?_
  have Fw111 : Fld Z h111 a0 "com/example/holdfast/holdfast/resources/DerValue" "contentStart" "I" (.int p4) := Fld.same W111 G110
  have N111 := Fr.snoc X111 N108 g0
  show OGo p.tables e below _ (T111.setTop (mkF m 25 #[.val (.ref a0), .val (.ref a1), .val (.int p2), .val (.int p3), .val (.int p4), .val (.int p5)] []))
  refine OGo.st (fun t k => XS.aloadN X111.here hx rfl (hb hby d2_25) rfl rfl k) ?_
  show OGo p.tables e below _ (T111.setTop (mkF m 26 #[.val (.ref a0), .val (.ref a1), .val (.int p2), .val (.int p3), .val (.int p4), .val (.int p5)] [(.ref a0)]))
  refine OGo.st (fun t k => XS.iload X111.here hx rfl (hb hby d2_26) rfl k) ?_
  show OGo p.tables e below _ (T111.setTop (mkF m 28 #[.val (.ref a0), .val (.ref a1), .val (.int p2), .val (.int p3), .val (.int p4), .val (.int p5)] [(.int p5), (.ref a0)]))
  have G112 : Exa Z h111 a0 "com/example/holdfast/holdfast/resources/DerValue" := (Exa.wr W111 G109)
  have G113 : Fld Z h111 a0 "com/example/holdfast/holdfast/resources/DerValue" "end" "I" (.int (0 : Int32)) := (Fld.other W111 (Fld.other W108 (Fld.other W105 (Fld.other W102 F_end (Or.inr (slot_ne (Or.inr (hw _ (List.mem_of_getElem? (i := 48) rfl))) (Or.inr (hw _ (List.mem_of_getElem? (i := 40) rfl))) (by decide) (t := .int) (t' := (.array .byte)) (by decide) (by decide)))) (Or.inr (slot_ne (Or.inr (hw _ (List.mem_of_getElem? (i := 48) rfl))) (Or.inr (hw _ (List.mem_of_getElem? (i := 42) rfl))) (by decide) (t := .int) (t' := .int) (by decide) (by decide)))) (Or.inr (slot_ne (Or.inr (hw _ (List.mem_of_getElem? (i := 48) rfl))) (Or.inr (hw _ (List.mem_of_getElem? (i := 44) rfl))) (by decide) (t := .int) (t' := .int) (by decide) (by decide)))) (Or.inr (slot_ne (Or.inr (hw _ (List.mem_of_getElem? (i := 48) rfl))) (Or.inr (hw _ (List.mem_of_getElem? (i := 46) rfl))) (by decide) (t := .int) (t' := .int) (by decide) (by decide))))
  obtain ⟨T114, h114, X114, e114, W114, st114⟩ := putF X111 hx hZ hown (host := "") (Or.inl (hw _ (List.mem_of_getElem? (i := 47) rfl))) Via.refl e111 G113 G112 (Or.inr ⟨(hw _ (List.mem_of_getElem? (i := 48) rfl)), rfl, hnm⟩) (hw _ (List.mem_of_getElem? (i := 33) rfl)) (ty := .int) (by decide) rfl rfl (g := (mkF m 28 #[.val (.ref a0), .val (.ref a1), .val (.int p2), .val (.int p3), .val (.int p4), .val (.int p5)] [(.int p5), (.ref a0)])) rfl rfl (hb hby d2_28)
  refine OGo.st st114 ?_
  have Fw114 : Fld Z h114 a0 "com/example/holdfast/holdfast/resources/DerValue" "end" "I" (.int p5) := Fld.same W114 G113
  have N114 := Fr.snoc X114 N111 g0
  show OGo p.tables e below _ (T114.setTop (mkF m 31 #[.val (.ref a0), .val (.ref a1), .val (.int p2), .val (.int p3), .val (.int p4), .val (.int p5)] []))
  obtain ⟨fs, hr, hrun, hended, hW, hsame⟩ := X114.leave (v := none) (fun _ => rfl)
  refine OGo.done (X114.returnOut hx Bd.returns (hb hby d2_31) hr) ⟨hrun, hended, _, _, rfl, ?_, ⟨_, rfl⟩, hW, hsame.mono (by decide) (by decide)⟩
  show Q2 Z a0 a1 p2 p3 p4 p5 h0 n0 _ T114.heap _
  rw [e114]
  exact ⟨rfl, N114, ((((((Keep.refl h0 [a0]).wr W102 (Or.inl (List.mem_of_getElem? (i := 0) rfl))).wr W105 (Or.inl (List.mem_of_getElem? (i := 0) rfl))).wr W108 (Or.inl (List.mem_of_getElem? (i := 0) rfl))).wr W111 (Or.inl (List.mem_of_getElem? (i := 0) rfl))).wr W114 (Or.inl (List.mem_of_getElem? (i := 0) rfl)))⟩
theorem pd_0 : parseMethodDescriptor "()Z" = some ⟨[], some .boolean⟩ := by decide +kernel
theorem d3_0 : decode prog_43_method_5_code 0 = .ok (.aload_n 0, 1) := by decide +kernel
theorem d3_1 : decode prog_43_method_5_code 1 = .ok (.invokevirtual 32, 3) := by decide +kernel
theorem d3_4 : decode prog_43_method_5_code 4 = .ok (.ifCond .ne 20, 3) := by decide +kernel
theorem d3_24 : decode prog_43_method_5_code 24 = .ok (.aload_n 0, 1) := by decide +kernel
theorem d3_25 : decode prog_43_method_5_code 25 = .ok (.getfield 12, 3) := by decide +kernel
theorem d3_28 : decode prog_43_method_5_code 28 = .ok (.aload_n 0, 1) := by decide +kernel
theorem d3_29 : decode prog_43_method_5_code 29 = .ok (.getfield 16, 3) := by decide +kernel
theorem d3_32 : decode prog_43_method_5_code 32 = .ok (.baload, 1) := by decide +kernel
theorem d3_33 : decode prog_43_method_5_code 33 = .ok (.sipush 255, 3) := by decide +kernel
theorem d3_36 : decode prog_43_method_5_code 36 = .ok (.iand, 1) := by decide +kernel
theorem d3_37 : decode prog_43_method_5_code 37 = .ok (.ireturn, 1) := by decide +kernel
theorem ef_3 (m : MethodId) (x0 : Addr) : entryFrame m #[(.ref x0)] 1 = mkF m 0 #[.val (.ref x0)] [] := by first | (simp [entryFrame, mkF, argsToLocals, Value.category]; done) | rfl
def Q3 (Z : State) (a0 : Addr) (b : Addr) (k : ClassId) (v0 : Int32) (v1 : Int32) (v2 : Int32) (v3 : Int32) (en : Int32) (h0 : Heap) (n0 : Nat) (v : Option Value) (h : Heap) (L : List Loc) : Prop := v = some (.int (v0 &&& (255 : Int32))) ∧ Fr n0 L ∧ h = h0
set_option maxRecDepth 65536 in
set_option maxHeartbeats 40000000 in
theorem rm3 (l : Launch) (Z : State) (ar : Array Value) (hw : ∀ d ∈ tables_1, d.before ar Z = true) (ws : List Jvm.Cond) (a0 : Addr) (b : Addr) (k : ClassId) (v0 : Int32) (v1 : Int32) (v2 : Int32) (v3 : Int32) (en : Int32) (h0 : Heap) (n0 : Nat) (Z0 : n0 ≤ h0.size) (F1 : Fld Z h0 a0 "com/example/holdfast/holdfast/resources/DerReader" "bytes" "[B" (.ref b)) (V0 : Arv Z h0 b k .byte (10 : Int32) [(.int v0), (.int v1), (.int v2), (.int v3)] (.int (0 : Int32))) (F2 : Fld Z h0 a0 "com/example/holdfast/holdfast/resources/DerReader" "position" "I" (.int (0 : Int32))) (F3 : Fld Z h0 a0 "com/example/holdfast/holdfast/resources/DerReader" "end" "I" (.int en)) (E0 : Exa Z h0 a0 "com/example/holdfast/holdfast/resources/DerReader") (hp : (0 : Int32) < en) :
    MetFree l (⟨"com/example/holdfast/holdfast/resources/DerReader", "peekTag", "()I"⟩ : MethodName) (head1 (Jvm.Cond.code (⟨"com/example/holdfast/holdfast/resources/DerReader", "peekTag", "()I"⟩ : MethodName) prog_43_method_5_code 1 (some .int) :: ws) ({ frames := 1, cells := 0, slots := 0, locals := 12 } : Room)) (fun a U => a = #[(.ref a0)] ∧ Z.Warmed39 U.vm ∧ U.heap = h0) (fun _ _ _ _ _ => True) (fun _ U o U' => ∃ v L, o = .returned v ∧ Q3 Z a0 b k v0 v1 v2 v3 en h0 n0 v U'.heap L ∧ FrameEnd U o U' L ({ frames := 1, cells := 0, slots := 0, locals := 12 } : Room).cells ({ frames := 1, cells := 0, slots := 0, locals := 12 } : Room).slots) := by
  refine MetFree.of_bodySF (plainFor_of_name pn_0) hisR ?_
  intro p e s m args below meth c s₁ Bd hml0 hP hK
  obtain ⟨rfl, hZ, hh⟩ := hP
  have hx := Bd.exec
  have hby := Bd.bytes
  have hml : c.maxLocals = 1 := hml0
  have hown : s.vm.findClass "com/example/holdfast/holdfast/resources/DerReader" = some m.cls := findClass_of_methodNamed Bd.named
  have hnm := (name_of_methodNamed Bd.named Bd.method).1
  have X0 : Stand p l e ({ frames := 1, cells := 0, slots := 0, locals := 12 } : Room) s m #[(.ref a0)] below meth c s₁ [] 0 0 := Stand.of_body Bd
  have e0 : s₁.heap = h0 := by rw [← hh, Bd.state]; rfl
  have N0 := Fr.nil n0
  have pre0 : ∀ t, Steps p.tables e below (s₁.setTop (mkF m 0 #[.val (.ref a0)] [])) t → Steps p.tables e below (s₁.setTop (entryFrame m #[(.ref a0)] 1)) t := fun t k => castTop (ef_3 m a0) k
  refine OGo.start pre0 ?_
  show OGo p.tables e below _ (s₁.setTop (mkF m 0 #[.val (.ref a0)] []))
  refine OGo.st (fun t k => XS.aloadN X0.here hx rfl (hb hby d3_0) rfl rfl k) ?_
  show OGo p.tables e below _ (s₁.setTop (mkF m 1 #[.val (.ref a0)] [(.ref a0)]))
  obtain ⟨cq101, kq101, q101a, q101b, q101c⟩ := isOf hZ e0 E0
  obtain ⟨_, _, ⟨T101, L101, kk101, nn101⟩, -, X101, ⟨Lc101, hQ101, l101, y101, z101⟩, st101⟩ := X0.virtualBack hx (y := (⟨"com/example/holdfast/holdfast/resources/DerReader", "hasMore", "()Z"⟩ : MethodName)) (z := (⟨"com/example/holdfast/holdfast/resources/DerReader", "hasMore", "()Z"⟩ : MethodName)) hown (mvT hZ (hw _ (List.mem_of_getElem? (i := 31) rfl))) (mvT hZ (hw _ (List.mem_of_getElem? (i := 17) rfl))) (notFace_of_selects (args := #[]) (mvT hZ (hw _ (List.mem_of_getElem? (i := 19) rfl)))) (mvT hZ (hw _ (List.mem_of_getElem? (i := 19) rfl))) (mvT hZ (hw _ (List.mem_of_getElem? (i := 18) rfl))) (by decide) (backOf (W := 0) (rm1 l Z ar hw [] a0 (0 : Int32) en h0 n0 Z0 F2 F3) hZ (hw _ (List.mem_of_getElem? (i := 20) rfl)) (hw _ (List.mem_of_getElem? (i := 2) rfl)) (by decide) (by decide)) q101a q101c (g := (mkF m 1 #[.val (.ref a0)] [(.ref a0)])) rfl (by rw [hml]; rfl) (Steps.refl _) (argsL := []) (rest := []) (lenOf pd_0 rfl) rfl (by show 2 * 0 + _ ≤ _; exact Nat.le_of_eq rfl) (hb hby d3_1) (fun _ _ => ⟨rfl, e0, (by decide : 0 + 0 ≤ _), (by decide : 0 + 0 ≤ _)⟩)
  dsimp only [Pt.U, Pt.locs, Pt.cells, Pt.slots] at X101 l101 y101 z101 st101 hQ101
  subst l101 y101 z101
  obtain ⟨rfl, Nq101, hh101⟩ := hQ101
  have N101 := Fr.app N0 Nq101
  refine OGo.st (fun t k => st101.trans k) ?_
  have e101 : T101.heap = h0 := hh101
  show OGo p.tables e below _ (T101.setTop (mkF m 4 #[.val (.ref a0)] [(.int (own_lt (0 : Int32) en))]))
  refine OGo.st (fun t k => XS.ifYes X101.here hx rfl (pc0 := 4) (pc' := 24) rfl (hb hby d3_4) rfl ((if0 _ _).trans (feq ((own_ltN hp) : ¬ ((own_lt (0 : Int32) en) = (0 : Int32)))).2) (by decide) (by decide) k) ?_
  show OGo p.tables e below _ (T101.setTop (mkF m 24 #[.val (.ref a0)] []))
  refine OGo.st (fun t k => XS.aloadN X101.here hx rfl (hb hby d3_24) rfl rfl k) ?_
  show OGo p.tables e below _ (T101.setTop (mkF m 25 #[.val (.ref a0)] [(.ref a0)]))
  obtain ⟨T102, X102, e102, st102⟩ := getF X101 hx hZ hown (host := "") (Or.inl (hw _ (List.mem_of_getElem? (i := 10) rfl))) Via.refl e101 F1 (g := (mkF m 25 #[.val (.ref a0)] [(.ref a0)])) rfl rfl (hb hby d3_25)
  refine OGo.st st102 ?_
  show OGo p.tables e below _ (T102.setTop (mkF m 28 #[.val (.ref a0)] [(.ref b)]))
  refine OGo.st (fun t k => XS.aloadN X102.here hx rfl (hb hby d3_28) rfl rfl k) ?_
  show OGo p.tables e below _ (T102.setTop (mkF m 29 #[.val (.ref a0)] [(.ref a0), (.ref b)]))
  obtain ⟨T103, X103, e103, st103⟩ := getF X102 hx hZ hown (host := "") (Or.inl (hw _ (List.mem_of_getElem? (i := 12) rfl))) Via.refl e102 F2 (g := (mkF m 29 #[.val (.ref a0)] [(.ref a0), (.ref b)])) rfl rfl (hb hby d3_29)
  refine OGo.st st103 ?_
  show OGo p.tables e below _ (T103.setTop (mkF m 32 #[.val (.ref a0)] [(.int (0 : Int32)), (.ref b)]))
  obtain ⟨cl104, Ar104, qc104, Sz104, Nz104, Hs104, Gs104⟩ := id V0
  have hin104 : ¬ ((0 : Int32) < 0 ∨ cl104.slots.size ≤ ((0 : Int32)).toNatClampNeg) := inb_of Sz104 ⟨by decide, by decide⟩
  have hat104 : cl104.slots[((0 : Int32)).toNatClampNeg]? = some (.int v0) := Has.at Hs104 hin104 rfl
  refine OGo.st (fun t k => X103.baloadBytes hx (j := (0 : Int32)) (v := (.int v0)) (by rw [e103]; exact Ar104.1) (State.isArrayOf_alike hZ.alike Ar104.2.1) Ar104.2.2 hin104 hat104 (g := (mkF m 32 #[.val (.ref a0)] [(.int (0 : Int32)), (.ref b)])) rfl rfl (hb hby d3_32) _ k) ?_
  show OGo p.tables e below _ (T103.setTop (mkF m 33 #[.val (.ref a0)] [(.int v0)]))
  refine OGo.st (fun t k => XS.sipush X103.here hx rfl (hb hby d3_33) k) ?_
  show OGo p.tables e below _ (T103.setTop (mkF m 36 #[.val (.ref a0)] [(.int (255 : Int32)), (.int v0)]))
  refine OGo.st (fun t k => XS.iand X103.here hx rfl (hb hby d3_36) rfl k) ?_
  show OGo p.tables e below _ (T103.setTop (mkF m 37 #[.val (.ref a0)] [(.int (v0 &&& (255 : Int32)))]))
  obtain ⟨fs, hr, hrun, hended, hW, hsame⟩ := X103.leave (v := some (.int (v0 &&& (255 : Int32)))) (fun h => by rw [Bd.returns] at h; cases h)
  refine OGo.done (retI X103 hx Bd.returns (hb hby d3_37) hr) ⟨hrun, hended, _, _, rfl, ?_, ⟨_, rfl⟩, hW, hsame.mono (by decide) (by decide)⟩
  show Q3 Z a0 b k v0 v1 v2 v3 en h0 n0 _ T103.heap _
  rw [e103]
  exact ⟨rfl, N101, rfl⟩
theorem pd_1 : parseMethodDescriptor "()I" = some ⟨[], some .int⟩ := by decide +kernel
theorem pd_2 : parseMethodDescriptor "([BIIII)V" = some ⟨[(.array .byte), .int, .int, .int, .int], none⟩ := by decide +kernel
theorem d4_0 : decode prog_43_method_6_code 0 = .ok (.aload_n 0, 1) := by decide +kernel
theorem d4_1 : decode prog_43_method_6_code 1 = .ok (.getfield 16, 3) := by decide +kernel
theorem d4_4 : decode prog_43_method_6_code 4 = .ok (.istore_n 1, 1) := by decide +kernel
theorem d4_5 : decode prog_43_method_6_code 5 = .ok (.aload_n 0, 1) := by decide +kernel
theorem d4_6 : decode prog_43_method_6_code 6 = .ok (.invokevirtual 40, 3) := by decide +kernel
theorem d4_9 : decode prog_43_method_6_code 9 = .ok (.istore_n 2, 1) := by decide +kernel
theorem d4_10 : decode prog_43_method_6_code 10 = .ok (.iload_n 2, 1) := by decide +kernel
theorem d4_11 : decode prog_43_method_6_code 11 = .ok (.bipush 31, 2) := by decide +kernel
theorem d4_13 : decode prog_43_method_6_code 13 = .ok (.iand, 1) := by decide +kernel
theorem d4_14 : decode prog_43_method_6_code 14 = .ok (.bipush 31, 2) := by decide +kernel
theorem d4_16 : decode prog_43_method_6_code 16 = .ok (.if_icmp .ne 17, 3) := by decide +kernel
theorem d4_33 : decode prog_43_method_6_code 33 = .ok (.iload_n 1, 1) := by decide +kernel
theorem d4_34 : decode prog_43_method_6_code 34 = .ok (.iconst 1, 1) := by decide +kernel
theorem d4_35 : decode prog_43_method_6_code 35 = .ok (.iadd, 1) := by decide +kernel
theorem d4_36 : decode prog_43_method_6_code 36 = .ok (.istore_n 3, 1) := by decide +kernel
theorem d4_37 : decode prog_43_method_6_code 37 = .ok (.iload_n 3, 1) := by decide +kernel
theorem d4_38 : decode prog_43_method_6_code 38 = .ok (.aload_n 0, 1) := by decide +kernel
theorem d4_39 : decode prog_43_method_6_code 39 = .ok (.getfield 20, 3) := by decide +kernel
theorem d4_42 : decode prog_43_method_6_code 42 = .ok (.if_icmp .lt 17, 3) := by decide +kernel
theorem d4_59 : decode prog_43_method_6_code 59 = .ok (.aload_n 0, 1) := by decide +kernel
theorem d4_60 : decode prog_43_method_6_code 60 = .ok (.getfield 12, 3) := by decide +kernel
theorem d4_63 : decode prog_43_method_6_code 63 = .ok (.iload_n 3, 1) := by decide +kernel
theorem d4_64 : decode prog_43_method_6_code 64 = .ok (.iinc 3 1, 3) := by decide +kernel
theorem d4_67 : decode prog_43_method_6_code 67 = .ok (.baload, 1) := by decide +kernel
theorem d4_68 : decode prog_43_method_6_code 68 = .ok (.sipush 255, 3) := by decide +kernel
theorem d4_71 : decode prog_43_method_6_code 71 = .ok (.iand, 1) := by decide +kernel
theorem d4_72 : decode prog_43_method_6_code 72 = .ok (.istore 4, 2) := by decide +kernel
theorem d4_74 : decode prog_43_method_6_code 74 = .ok (.iload 4, 2) := by decide +kernel
theorem d4_76 : decode prog_43_method_6_code 76 = .ok (.sipush 128, 3) := by decide +kernel
theorem d4_79 : decode prog_43_method_6_code 79 = .ok (.if_icmp .ge 11, 3) := by decide +kernel
theorem d4_82 : decode prog_43_method_6_code 82 = .ok (.iload 4, 2) := by decide +kernel
theorem d4_84 : decode prog_43_method_6_code 84 = .ok (.i2l, 1) := by decide +kernel
theorem d4_85 : decode prog_43_method_6_code 85 = .ok (.lstore 5, 2) := by decide +kernel
theorem d4_87 : decode prog_43_method_6_code 87 = .ok (.goto 155, 3) := by decide +kernel
theorem d4_242 : decode prog_43_method_6_code 242 = .ok (.lload 5, 2) := by decide +kernel
theorem d4_244 : decode prog_43_method_6_code 244 = .ok (.aload_n 0, 1) := by decide +kernel
theorem d4_245 : decode prog_43_method_6_code 245 = .ok (.getfield 20, 3) := by decide +kernel
theorem d4_248 : decode prog_43_method_6_code 248 = .ok (.iload_n 3, 1) := by decide +kernel
theorem d4_249 : decode prog_43_method_6_code 249 = .ok (.isub, 1) := by decide +kernel
theorem d4_250 : decode prog_43_method_6_code 250 = .ok (.i2l, 1) := by decide +kernel
theorem d4_251 : decode prog_43_method_6_code 251 = .ok (.lcmp, 1) := by decide +kernel
theorem d4_252 : decode prog_43_method_6_code 252 = .ok (.ifCond .le 25, 3) := by decide +kernel
theorem d4_277 : decode prog_43_method_6_code 277 = .ok (.aload_n 0, 1) := by decide +kernel
theorem d4_278 : decode prog_43_method_6_code 278 = .ok (.iload_n 3, 1) := by decide +kernel
theorem d4_279 : decode prog_43_method_6_code 279 = .ok (.lload 5, 2) := by decide +kernel
theorem d4_281 : decode prog_43_method_6_code 281 = .ok (.l2i, 1) := by decide +kernel
theorem d4_282 : decode prog_43_method_6_code 282 = .ok (.iadd, 1) := by decide +kernel
theorem d4_283 : decode prog_43_method_6_code 283 = .ok (.putfield 16, 3) := by decide +kernel
theorem d4_286 : decode prog_43_method_6_code 286 = .ok (.new 57, 3) := by decide +kernel
theorem d4_289 : decode prog_43_method_6_code 289 = .ok (.dup, 1) := by decide +kernel
theorem d4_290 : decode prog_43_method_6_code 290 = .ok (.aload_n 0, 1) := by decide +kernel
theorem d4_291 : decode prog_43_method_6_code 291 = .ok (.getfield 12, 3) := by decide +kernel
theorem d4_294 : decode prog_43_method_6_code 294 = .ok (.iload_n 2, 1) := by decide +kernel
theorem d4_295 : decode prog_43_method_6_code 295 = .ok (.iload_n 1, 1) := by decide +kernel
theorem d4_296 : decode prog_43_method_6_code 296 = .ok (.iload_n 3, 1) := by decide +kernel
theorem d4_297 : decode prog_43_method_6_code 297 = .ok (.aload_n 0, 1) := by decide +kernel
theorem d4_298 : decode prog_43_method_6_code 298 = .ok (.getfield 16, 3) := by decide +kernel
theorem d4_301 : decode prog_43_method_6_code 301 = .ok (.invokespecial 59, 3) := by decide +kernel
theorem d4_304 : decode prog_43_method_6_code 304 = .ok (.areturn, 1) := by decide +kernel
theorem ef_4 (m : MethodId) (x0 : Addr) : entryFrame m #[(.ref x0)] 9 = mkF m 0 #[.val (.ref x0), .unset, .unset, .unset, .unset, .unset, .unset, .unset, .unset] [] := by first | (simp [entryFrame, mkF, argsToLocals, Value.category]; done) | rfl
def Q4 (Z : State) (a0 : Addr) (b : Addr) (k : ClassId) (v0 : Int32) (v1 : Int32) (v2 : Int32) (v3 : Int32) (en : Int32) (ll : Int32) (h0 : Heap) (n0 : Nat) (v : Option Value) (h : Heap) (L : List Loc) : Prop := ∃ d : Addr, v = some (.ref d) ∧ Fr n0 L ∧ Keep h0 h [a0] ∧ (Fld Z h a0 "com/example/holdfast/holdfast/resources/DerReader" "position" "I" (.int ((2 : Int32) + ((((ll).toInt64)).toInt32)))) ∧ (Fld Z h a0 "com/example/holdfast/holdfast/resources/DerReader" "end" "I" (.int en))
set_option maxRecDepth 65536 in
set_option maxHeartbeats 40000000 in
theorem rm4 (l : Launch) (Z : State) (ar : Array Value) (hw : ∀ d ∈ tables_1, d.before ar Z = true) (ws : List Jvm.Cond) (a0 : Addr) (b : Addr) (k : ClassId) (v0 : Int32) (v1 : Int32) (v2 : Int32) (v3 : Int32) (en : Int32) (ll : Int32) (h0 : Heap) (n0 : Nat) (Z0 : n0 ≤ h0.size) (F1 : Fld Z h0 a0 "com/example/holdfast/holdfast/resources/DerReader" "bytes" "[B" (.ref b)) (V0 : Arv Z h0 b k .byte (10 : Int32) [(.int v0), (.int v1), (.int v2), (.int v3)] (.int (0 : Int32))) (F2 : Fld Z h0 a0 "com/example/holdfast/holdfast/resources/DerReader" "position" "I" (.int (0 : Int32))) (F3 : Fld Z h0 a0 "com/example/holdfast/holdfast/resources/DerReader" "end" "I" (.int en)) (E0 : Exa Z h0 a0 "com/example/holdfast/holdfast/resources/DerReader") (hp : (0 : Int32) < en) (g0 : n0 ≤ a0) (nab : a0 ≠ b) (ht : ¬ (((v0 &&& (255 : Int32)) &&& (31 : Int32)) = (31 : Int32))) (he : (1 : Int32) < en) (hl : (v1 &&& (255 : Int32)) = ll) (hl2 : ll < (128 : Int32)) (hf : ¬ (0 : Int32) < lcmpW ll.toInt64 (en - (2 : Int32)).toInt64) :
    MetFree l (⟨"com/example/holdfast/holdfast/resources/DerReader", "read", "()Lcom/example/holdfast/holdfast/resources/DerValue;"⟩ : MethodName) (head1 (Jvm.Cond.code (⟨"com/example/holdfast/holdfast/resources/DerReader", "read", "()Lcom/example/holdfast/holdfast/resources/DerValue;"⟩ : MethodName) prog_43_method_6_code 9 (some (.object "com/example/holdfast/holdfast/resources/DerValue")) :: ws) ({ frames := 2, cells := 1, slots := 5, locals := 30 } : Room)) (fun a U => a = #[(.ref a0)] ∧ Z.Warmed39 U.vm ∧ U.heap = h0) (fun _ _ _ _ _ => True) (fun _ U o U' => ∃ v L, o = .returned v ∧ Q4 Z a0 b k v0 v1 v2 v3 en ll h0 n0 v U'.heap L ∧ FrameEnd U o U' L ({ frames := 2, cells := 1, slots := 5, locals := 30 } : Room).cells ({ frames := 2, cells := 1, slots := 5, locals := 30 } : Room).slots) := by
  refine MetFree.of_bodySF (plainFor_of_name pn_0) hisR ?_
  intro p e s m args below meth c s₁ Bd hml0 hP hK
  obtain ⟨rfl, hZ, hh⟩ := hP
  have hx := Bd.exec
  have hby := Bd.bytes
  have hml : c.maxLocals = 9 := hml0
  have hown : s.vm.findClass "com/example/holdfast/holdfast/resources/DerReader" = some m.cls := findClass_of_methodNamed Bd.named
  have hnm := (name_of_methodNamed Bd.named Bd.method).1
  have X0 : Stand p l e ({ frames := 2, cells := 1, slots := 5, locals := 30 } : Room) s m #[(.ref a0)] below meth c s₁ [] 0 0 := Stand.of_body Bd
  have e0 : s₁.heap = h0 := by rw [← hh, Bd.state]; rfl
  have N0 := Fr.nil n0
  have pre0 : ∀ t, Steps p.tables e below (s₁.setTop (mkF m 0 #[.val (.ref a0), .unset, .unset, .unset, .unset, .unset, .unset, .unset, .unset] [])) t → Steps p.tables e below (s₁.setTop (entryFrame m #[(.ref a0)] 9)) t := fun t k => castTop (ef_4 m a0) k
  refine OGo.start pre0 ?_
  show OGo p.tables e below _ (s₁.setTop (mkF m 0 #[.val (.ref a0), .unset, .unset, .unset, .unset, .unset, .unset, .unset, .unset] []))
  refine OGo.st (fun t k => XS.aloadN X0.here hx rfl (hb hby d4_0) rfl rfl k) ?_
  show OGo p.tables e below _ (s₁.setTop (mkF m 1 #[.val (.ref a0), .unset, .unset, .unset, .unset, .unset, .unset, .unset, .unset] [(.ref a0)]))
  obtain ⟨T101, X101, e101, st101⟩ := getF X0 hx hZ hown (host := "") (Or.inl (hw _ (List.mem_of_getElem? (i := 12) rfl))) Via.refl e0 F2 (g := (mkF m 1 #[.val (.ref a0), .unset, .unset, .unset, .unset, .unset, .unset, .unset, .unset] [(.ref a0)])) rfl rfl (hb hby d4_1)
  refine OGo.st st101 ?_
  show OGo p.tables e below _ (T101.setTop (mkF m 4 #[.val (.ref a0), .unset, .unset, .unset, .unset, .unset, .unset, .unset, .unset] [(.int (0 : Int32))]))
  refine OGo.st (fun t k => XS.istoreN X101.here hx rfl (hb hby d4_4) rfl (l' := #[.val (.ref a0), .val (.int (0 : Int32)), .unset, .unset, .unset, .unset, .unset, .unset, .unset]) rfl k) ?_
  show OGo p.tables e below _ (T101.setTop (mkF m 5 #[.val (.ref a0), .val (.int (0 : Int32)), .unset, .unset, .unset, .unset, .unset, .unset, .unset] []))
  refine OGo.st (fun t k => XS.aloadN X101.here hx rfl (hb hby d4_5) rfl rfl k) ?_
  show OGo p.tables e below _ (T101.setTop (mkF m 6 #[.val (.ref a0), .val (.int (0 : Int32)), .unset, .unset, .unset, .unset, .unset, .unset, .unset] [(.ref a0)]))
  obtain ⟨cq102, kq102, q102a, q102b, q102c⟩ := isOf hZ e101 E0
  obtain ⟨_, _, ⟨T102, L102, kk102, nn102⟩, -, X102, ⟨Lc102, hQ102, l102, y102, z102⟩, st102⟩ := X101.virtualBack hx (y := (⟨"com/example/holdfast/holdfast/resources/DerReader", "peekTag", "()I"⟩ : MethodName)) (z := (⟨"com/example/holdfast/holdfast/resources/DerReader", "peekTag", "()I"⟩ : MethodName)) hown (mvT hZ (hw _ (List.mem_of_getElem? (i := 26) rfl))) (mvT hZ (hw _ (List.mem_of_getElem? (i := 27) rfl))) (notFace_of_selects (args := #[]) (mvT hZ (hw _ (List.mem_of_getElem? (i := 29) rfl)))) (mvT hZ (hw _ (List.mem_of_getElem? (i := 29) rfl))) (mvT hZ (hw _ (List.mem_of_getElem? (i := 28) rfl))) (by decide) (backOf (W := 0) (rm3 l Z ar hw [] a0 b k v0 v1 v2 v3 en h0 n0 Z0 F1 V0 F2 F3 E0 hp) hZ (hw _ (List.mem_of_getElem? (i := 30) rfl)) (hw _ (List.mem_of_getElem? (i := 2) rfl)) (by decide) (by decide)) q102a q102c (g := (mkF m 6 #[.val (.ref a0), .val (.int (0 : Int32)), .unset, .unset, .unset, .unset, .unset, .unset, .unset] [(.ref a0)])) rfl (by rw [hml]; rfl) (Steps.refl _) (argsL := []) (rest := []) (lenOf pd_1 rfl) rfl (by show 2 * 0 + _ ≤ _; exact Nat.le_of_eq rfl) (hb hby d4_6) (fun _ _ => ⟨rfl, e101, (by decide : 0 + 0 ≤ _), (by decide : 0 + 0 ≤ _)⟩)
  dsimp only [Pt.U, Pt.locs, Pt.cells, Pt.slots] at X102 l102 y102 z102 st102 hQ102
  subst l102 y102 z102
  obtain ⟨rfl, Nq102, hh102⟩ := hQ102
  have N102 := Fr.app N0 Nq102
  refine OGo.st (fun t k => st102.trans k) ?_
  have e102 : T102.heap = h0 := hh102
  show OGo p.tables e below _ (T102.setTop (mkF m 9 #[.val (.ref a0), .val (.int (0 : Int32)), .unset, .unset, .unset, .unset, .unset, .unset, .unset] [(.int (v0 &&& (255 : Int32)))]))
  refine OGo.st (fun t k => XS.istoreN X102.here hx rfl (hb hby d4_9) rfl (l' := #[.val (.ref a0), .val (.int (0 : Int32)), .val (.int (v0 &&& (255 : Int32))), .unset, .unset, .unset, .unset, .unset, .unset]) rfl k) ?_
  show OGo p.tables e below _ (T102.setTop (mkF m 10 #[.val (.ref a0), .val (.int (0 : Int32)), .val (.int (v0 &&& (255 : Int32))), .unset, .unset, .unset, .unset, .unset, .unset] []))
  refine OGo.st (fun t k => XS.iloadN X102.here hx rfl (hb hby d4_10) rfl k) ?_
  show OGo p.tables e below _ (T102.setTop (mkF m 11 #[.val (.ref a0), .val (.int (0 : Int32)), .val (.int (v0 &&& (255 : Int32))), .unset, .unset, .unset, .unset, .unset, .unset] [(.int (v0 &&& (255 : Int32)))]))
  refine OGo.st (fun t k => XS.bipush X102.here hx rfl (hb hby d4_11) k) ?_
  show OGo p.tables e below _ (T102.setTop (mkF m 13 #[.val (.ref a0), .val (.int (0 : Int32)), .val (.int (v0 &&& (255 : Int32))), .unset, .unset, .unset, .unset, .unset, .unset] [(.int (31 : Int32)), (.int (v0 &&& (255 : Int32)))]))
  refine OGo.st (fun t k => XS.iand X102.here hx rfl (hb hby d4_13) rfl k) ?_
  show OGo p.tables e below _ (T102.setTop (mkF m 14 #[.val (.ref a0), .val (.int (0 : Int32)), .val (.int (v0 &&& (255 : Int32))), .unset, .unset, .unset, .unset, .unset, .unset] [(.int ((v0 &&& (255 : Int32)) &&& (31 : Int32)))]))
  refine OGo.st (fun t k => XS.bipush X102.here hx rfl (hb hby d4_14) k) ?_
  show OGo p.tables e below _ (T102.setTop (mkF m 16 #[.val (.ref a0), .val (.int (0 : Int32)), .val (.int (v0 &&& (255 : Int32))), .unset, .unset, .unset, .unset, .unset, .unset] [(.int (31 : Int32)), (.int ((v0 &&& (255 : Int32)) &&& (31 : Int32)))]))
  refine OGo.st (fun t k => XS.icmpYes X102.here hx rfl (pc0 := 16) (pc' := 33) rfl (hb hby d4_16) rfl (feq (ht : ¬ (((v0 &&& (255 : Int32)) &&& (31 : Int32)) = (31 : Int32)))).2 (by decide) (by decide) k) ?_
  show OGo p.tables e below _ (T102.setTop (mkF m 33 #[.val (.ref a0), .val (.int (0 : Int32)), .val (.int (v0 &&& (255 : Int32))), .unset, .unset, .unset, .unset, .unset, .unset] []))
  refine OGo.st (fun t k => XS.iloadN X102.here hx rfl (hb hby d4_33) rfl k) ?_
  show OGo p.tables e below _ (T102.setTop (mkF m 34 #[.val (.ref a0), .val (.int (0 : Int32)), .val (.int (v0 &&& (255 : Int32))), .unset, .unset, .unset, .unset, .unset, .unset] [(.int (0 : Int32))]))
  refine OGo.st (fun t k => XS.iconst X102.here hx rfl (hb hby d4_34) k) ?_
  show OGo p.tables e below _ (T102.setTop (mkF m 35 #[.val (.ref a0), .val (.int (0 : Int32)), .val (.int (v0 &&& (255 : Int32))), .unset, .unset, .unset, .unset, .unset, .unset] [(.int (1 : Int32)), (.int (0 : Int32))]))
  refine OGo.st (fun t k => XS.iadd X102.here hx rfl (hb hby d4_35) rfl k) ?_
  show OGo p.tables e below _ (T102.setTop (mkF m 36 #[.val (.ref a0), .val (.int (0 : Int32)), .val (.int (v0 &&& (255 : Int32))), .unset, .unset, .unset, .unset, .unset, .unset] [(.int (1 : Int32))]))
  refine OGo.st (fun t k => XS.istoreN X102.here hx rfl (hb hby d4_36) rfl (l' := #[.val (.ref a0), .val (.int (0 : Int32)), .val (.int (v0 &&& (255 : Int32))), .val (.int (1 : Int32)), .unset, .unset, .unset, .unset, .unset]) rfl k) ?_
  show OGo p.tables e below _ (T102.setTop (mkF m 37 #[.val (.ref a0), .val (.int (0 : Int32)), .val (.int (v0 &&& (255 : Int32))), .val (.int (1 : Int32)), .unset, .unset, .unset, .unset, .unset] []))
  refine OGo.st (fun t k => XS.iloadN X102.here hx rfl (hb hby d4_37) rfl k) ?_
  show OGo p.tables e below _ (T102.setTop (mkF m 38 #[.val (.ref a0), .val (.int (0 : Int32)), .val (.int (v0 &&& (255 : Int32))), .val (.int (1 : Int32)), .unset, .unset, .unset, .unset, .unset] [(.int (1 : Int32))]))
  refine OGo.st (fun t k => XS.aloadN X102.here hx rfl (hb hby d4_38) rfl rfl k) ?_
  show OGo p.tables e below _ (T102.setTop (mkF m 39 #[.val (.ref a0), .val (.int (0 : Int32)), .val (.int (v0 &&& (255 : Int32))), .val (.int (1 : Int32)), .unset, .unset, .unset, .unset, .unset] [(.ref a0), (.int (1 : Int32))]))
  obtain ⟨T103, X103, e103, st103⟩ := getF X102 hx hZ hown (host := "") (Or.inl (hw _ (List.mem_of_getElem? (i := 14) rfl))) Via.refl e102 F3 (g := (mkF m 39 #[.val (.ref a0), .val (.int (0 : Int32)), .val (.int (v0 &&& (255 : Int32))), .val (.int (1 : Int32)), .unset, .unset, .unset, .unset, .unset] [(.ref a0), (.int (1 : Int32))])) rfl rfl (hb hby d4_39)
  refine OGo.st st103 ?_
  show OGo p.tables e below _ (T103.setTop (mkF m 42 #[.val (.ref a0), .val (.int (0 : Int32)), .val (.int (v0 &&& (255 : Int32))), .val (.int (1 : Int32)), .unset, .unset, .unset, .unset, .unset] [(.int en), (.int (1 : Int32))]))
  refine OGo.st (fun t k => XS.icmpYes X103.here hx rfl (pc0 := 42) (pc' := 59) rfl (hb hby d4_42) rfl (tlt (he : (1 : Int32) < en)).1 (by decide) (by decide) k) ?_
  show OGo p.tables e below _ (T103.setTop (mkF m 59 #[.val (.ref a0), .val (.int (0 : Int32)), .val (.int (v0 &&& (255 : Int32))), .val (.int (1 : Int32)), .unset, .unset, .unset, .unset, .unset] []))
  refine OGo.st (fun t k => XS.aloadN X103.here hx rfl (hb hby d4_59) rfl rfl k) ?_
  show OGo p.tables e below _ (T103.setTop (mkF m 60 #[.val (.ref a0), .val (.int (0 : Int32)), .val (.int (v0 &&& (255 : Int32))), .val (.int (1 : Int32)), .unset, .unset, .unset, .unset, .unset] [(.ref a0)]))
  obtain ⟨T104, X104, e104, st104⟩ := getF X103 hx hZ hown (host := "") (Or.inl (hw _ (List.mem_of_getElem? (i := 10) rfl))) Via.refl e103 F1 (g := (mkF m 60 #[.val (.ref a0), .val (.int (0 : Int32)), .val (.int (v0 &&& (255 : Int32))), .val (.int (1 : Int32)), .unset, .unset, .unset, .unset, .unset] [(.ref a0)])) rfl rfl (hb hby d4_60)
  refine OGo.st st104 ?_
  show OGo p.tables e below _ (T104.setTop (mkF m 63 #[.val (.ref a0), .val (.int (0 : Int32)), .val (.int (v0 &&& (255 : Int32))), .val (.int (1 : Int32)), .unset, .unset, .unset, .unset, .unset] [(.ref b)]))
  refine OGo.st (fun t k => XS.iloadN X104.here hx rfl (hb hby d4_63) rfl k) ?_
  show OGo p.tables e below _ (T104.setTop (mkF m 64 #[.val (.ref a0), .val (.int (0 : Int32)), .val (.int (v0 &&& (255 : Int32))), .val (.int (1 : Int32)), .unset, .unset, .unset, .unset, .unset] [(.int (1 : Int32)), (.ref b)]))
  refine OGo.st (fun t k => XS.iinc X104.here hx rfl (hb hby d4_64) rfl (l' := #[.val (.ref a0), .val (.int (0 : Int32)), .val (.int (v0 &&& (255 : Int32))), .val (.int (2 : Int32)), .unset, .unset, .unset, .unset, .unset]) rfl k) ?_
  show OGo p.tables e below _ (T104.setTop (mkF m 67 #[.val (.ref a0), .val (.int (0 : Int32)), .val (.int (v0 &&& (255 : Int32))), .val (.int (2 : Int32)), .unset, .unset, .unset, .unset, .unset] [(.int (1 : Int32)), (.ref b)]))
  obtain ⟨cl105, Ar105, qc105, Sz105, Nz105, Hs105, Gs105⟩ := id V0
  have hin105 : ¬ ((1 : Int32) < 0 ∨ cl105.slots.size ≤ ((1 : Int32)).toNatClampNeg) := inb_of Sz105 ⟨by decide, by decide⟩
  have hat105 : cl105.slots[((1 : Int32)).toNatClampNeg]? = some (.int v1) := Has.at Hs105 hin105 rfl
  refine OGo.st (fun t k => X104.baloadBytes hx (j := (1 : Int32)) (v := (.int v1)) (by rw [e104]; exact Ar105.1) (State.isArrayOf_alike hZ.alike Ar105.2.1) Ar105.2.2 hin105 hat105 (g := (mkF m 67 #[.val (.ref a0), .val (.int (0 : Int32)), .val (.int (v0 &&& (255 : Int32))), .val (.int (2 : Int32)), .unset, .unset, .unset, .unset, .unset] [(.int (1 : Int32)), (.ref b)])) rfl rfl (hb hby d4_67) _ k) ?_
  show OGo p.tables e below _ (T104.setTop (mkF m 68 #[.val (.ref a0), .val (.int (0 : Int32)), .val (.int (v0 &&& (255 : Int32))), .val (.int (2 : Int32)), .unset, .unset, .unset, .unset, .unset] [(.int v1)]))
  refine OGo.st (fun t k => XS.sipush X104.here hx rfl (hb hby d4_68) k) ?_
  show OGo p.tables e below _ (T104.setTop (mkF m 71 #[.val (.ref a0), .val (.int (0 : Int32)), .val (.int (v0 &&& (255 : Int32))), .val (.int (2 : Int32)), .unset, .unset, .unset, .unset, .unset] [(.int (255 : Int32)), (.int v1)]))
  refine OGo.st (fun t k => XS.iand X104.here hx rfl (hb hby d4_71) rfl k) ?_
  show OGo p.tables e below _ (T104.setTop (mkF m 72 #[.val (.ref a0), .val (.int (0 : Int32)), .val (.int (v0 &&& (255 : Int32))), .val (.int (2 : Int32)), .unset, .unset, .unset, .unset, .unset] [(.int (v1 &&& (255 : Int32)))]))
  refine OGo.st (fun t k => XS.istore X104.here hx rfl (hb hby d4_72) rfl (l' := #[.val (.ref a0), .val (.int (0 : Int32)), .val (.int (v0 &&& (255 : Int32))), .val (.int (2 : Int32)), .val (.int (v1 &&& (255 : Int32))), .unset, .unset, .unset, .unset]) rfl k) ?_
  show OGo p.tables e below _ (T104.setTop (mkF m 74 #[.val (.ref a0), .val (.int (0 : Int32)), .val (.int (v0 &&& (255 : Int32))), .val (.int (2 : Int32)), .val (.int (v1 &&& (255 : Int32))), .unset, .unset, .unset, .unset] []))
  rw [hl]
  show OGo p.tables e below _ (T104.setTop (mkF m 74 #[.val (.ref a0), .val (.int (0 : Int32)), .val (.int (v0 &&& (255 : Int32))), .val (.int (2 : Int32)), .val (.int ll), .unset, .unset, .unset, .unset] []))
  refine OGo.st (fun t k => XS.iload X104.here hx rfl (hb hby d4_74) rfl k) ?_
  show OGo p.tables e below _ (T104.setTop (mkF m 76 #[.val (.ref a0), .val (.int (0 : Int32)), .val (.int (v0 &&& (255 : Int32))), .val (.int (2 : Int32)), .val (.int ll), .unset, .unset, .unset, .unset] [(.int ll)]))
  refine OGo.st (fun t k => XS.sipush X104.here hx rfl (hb hby d4_76) k) ?_
  show OGo p.tables e below _ (T104.setTop (mkF m 79 #[.val (.ref a0), .val (.int (0 : Int32)), .val (.int (v0 &&& (255 : Int32))), .val (.int (2 : Int32)), .val (.int ll), .unset, .unset, .unset, .unset] [(.int (128 : Int32)), (.int ll)]))
  refine OGo.st (fun t k => XS.icmpNo X104.here hx rfl (hb hby d4_79) rfl (tlt (hl2 : ll < (128 : Int32))).2.1 k) ?_
  show OGo p.tables e below _ (T104.setTop (mkF m 82 #[.val (.ref a0), .val (.int (0 : Int32)), .val (.int (v0 &&& (255 : Int32))), .val (.int (2 : Int32)), .val (.int ll), .unset, .unset, .unset, .unset] []))
  refine OGo.st (fun t k => XS.iload X104.here hx rfl (hb hby d4_82) rfl k) ?_
  show OGo p.tables e below _ (T104.setTop (mkF m 84 #[.val (.ref a0), .val (.int (0 : Int32)), .val (.int (v0 &&& (255 : Int32))), .val (.int (2 : Int32)), .val (.int ll), .unset, .unset, .unset, .unset] [(.int ll)]))
  refine OGo.st (fun t k => XS.i2l X104.here hx rfl (hb hby d4_84) rfl k) ?_
  show OGo p.tables e below _ (T104.setTop (mkF m 85 #[.val (.ref a0), .val (.int (0 : Int32)), .val (.int (v0 &&& (255 : Int32))), .val (.int (2 : Int32)), .val (.int ll), .unset, .unset, .unset, .unset] [(.long ((ll).toInt64))]))
  refine OGo.st (fun t k => XS.lstore X104.here hx rfl (hb hby d4_85) rfl (l' := #[.val (.ref a0), .val (.int (0 : Int32)), .val (.int (v0 &&& (255 : Int32))), .val (.int (2 : Int32)), .val (.int ll), .val (.long ((ll).toInt64)), .second, .unset, .unset]) rfl k) ?_
  show OGo p.tables e below _ (T104.setTop (mkF m 87 #[.val (.ref a0), .val (.int (0 : Int32)), .val (.int (v0 &&& (255 : Int32))), .val (.int (2 : Int32)), .val (.int ll), .val (.long ((ll).toInt64)), .second, .unset, .unset] []))
  refine OGo.st (fun t k => XS.goto X104.here hx rfl (pc0 := 87) (pc' := 242) rfl (hb hby d4_87) (by decide) (by decide) k) ?_
  show OGo p.tables e below _ (T104.setTop (mkF m 242 #[.val (.ref a0), .val (.int (0 : Int32)), .val (.int (v0 &&& (255 : Int32))), .val (.int (2 : Int32)), .val (.int ll), .val (.long ((ll).toInt64)), .second, .unset, .unset] []))
  refine OGo.st (fun t k => XS.lload X104.here hx rfl (hb hby d4_242) rfl k) ?_
  show OGo p.tables e below _ (T104.setTop (mkF m 244 #[.val (.ref a0), .val (.int (0 : Int32)), .val (.int (v0 &&& (255 : Int32))), .val (.int (2 : Int32)), .val (.int ll), .val (.long ((ll).toInt64)), .second, .unset, .unset] [(.long ((ll).toInt64))]))
  refine OGo.st (fun t k => XS.aloadN X104.here hx rfl (hb hby d4_244) rfl rfl k) ?_
  show OGo p.tables e below _ (T104.setTop (mkF m 245 #[.val (.ref a0), .val (.int (0 : Int32)), .val (.int (v0 &&& (255 : Int32))), .val (.int (2 : Int32)), .val (.int ll), .val (.long ((ll).toInt64)), .second, .unset, .unset] [(.ref a0), (.long ((ll).toInt64))]))
  obtain ⟨T106, X106, e106, st106⟩ := getF X104 hx hZ hown (host := "") (Or.inl (hw _ (List.mem_of_getElem? (i := 14) rfl))) Via.refl e104 F3 (g := (mkF m 245 #[.val (.ref a0), .val (.int (0 : Int32)), .val (.int (v0 &&& (255 : Int32))), .val (.int (2 : Int32)), .val (.int ll), .val (.long ((ll).toInt64)), .second, .unset, .unset] [(.ref a0), (.long ((ll).toInt64))])) rfl rfl (hb hby d4_245)
  refine OGo.st st106 ?_
  show OGo p.tables e below _ (T106.setTop (mkF m 248 #[.val (.ref a0), .val (.int (0 : Int32)), .val (.int (v0 &&& (255 : Int32))), .val (.int (2 : Int32)), .val (.int ll), .val (.long ((ll).toInt64)), .second, .unset, .unset] [(.int en), (.long ((ll).toInt64))]))
  refine OGo.st (fun t k => XS.iloadN X106.here hx rfl (hb hby d4_248) rfl k) ?_
  show OGo p.tables e below _ (T106.setTop (mkF m 249 #[.val (.ref a0), .val (.int (0 : Int32)), .val (.int (v0 &&& (255 : Int32))), .val (.int (2 : Int32)), .val (.int ll), .val (.long ((ll).toInt64)), .second, .unset, .unset] [(.int (2 : Int32)), (.int en), (.long ((ll).toInt64))]))
  refine OGo.st (fun t k => XS.isub X106.here hx rfl (hb hby d4_249) rfl k) ?_
  show OGo p.tables e below _ (T106.setTop (mkF m 250 #[.val (.ref a0), .val (.int (0 : Int32)), .val (.int (v0 &&& (255 : Int32))), .val (.int (2 : Int32)), .val (.int ll), .val (.long ((ll).toInt64)), .second, .unset, .unset] [(.int (en - (2 : Int32))), (.long ((ll).toInt64))]))
  refine OGo.st (fun t k => XS.i2l X106.here hx rfl (hb hby d4_250) rfl k) ?_
  show OGo p.tables e below _ (T106.setTop (mkF m 251 #[.val (.ref a0), .val (.int (0 : Int32)), .val (.int (v0 &&& (255 : Int32))), .val (.int (2 : Int32)), .val (.int ll), .val (.long ((ll).toInt64)), .second, .unset, .unset] [(.long (((en - (2 : Int32))).toInt64)), (.long ((ll).toInt64))]))
  refine OGo.st (fun t k => XS.lcmp X106.here hx rfl (hb hby d4_251) rfl k) ?_
  show OGo p.tables e below _ (T106.setTop (mkF m 252 #[.val (.ref a0), .val (.int (0 : Int32)), .val (.int (v0 &&& (255 : Int32))), .val (.int (2 : Int32)), .val (.int ll), .val (.long ((ll).toInt64)), .second, .unset, .unset] [(.int (lcmpW ((ll).toInt64) (((en - (2 : Int32))).toInt64)))]))
  refine OGo.st (fun t k => XS.ifYes X106.here hx rfl (pc0 := 252) (pc' := 277) rfl (hb hby d4_252) rfl ((if0 _ _).trans (flt (hf : ¬ ((0 : Int32) < (lcmpW ((ll).toInt64) (((en - (2 : Int32))).toInt64))))).2.2.2) (by decide) (by decide) k) ?_
  show OGo p.tables e below _ (T106.setTop (mkF m 277 #[.val (.ref a0), .val (.int (0 : Int32)), .val (.int (v0 &&& (255 : Int32))), .val (.int (2 : Int32)), .val (.int ll), .val (.long ((ll).toInt64)), .second, .unset, .unset] []))
  refine OGo.st (fun t k => XS.aloadN X106.here hx rfl (hb hby d4_277) rfl rfl k) ?_
  show OGo p.tables e below _ (T106.setTop (mkF m 278 #[.val (.ref a0), .val (.int (0 : Int32)), .val (.int (v0 &&& (255 : Int32))), .val (.int (2 : Int32)), .val (.int ll), .val (.long ((ll).toInt64)), .second, .unset, .unset] [(.ref a0)]))
  refine OGo.st (fun t k => XS.iloadN X106.here hx rfl (hb hby d4_278) rfl k) ?_
  show OGo p.tables e below _ (T106.setTop (mkF m 279 #[.val (.ref a0), .val (.int (0 : Int32)), .val (.int (v0 &&& (255 : Int32))), .val (.int (2 : Int32)), .val (.int ll), .val (.long ((ll).toInt64)), .second, .unset, .unset] [(.int (2 : Int32)), (.ref a0)]))
  refine OGo.st (fun t k => XS.lload X106.here hx rfl (hb hby d4_279) rfl k) ?_
  show OGo p.tables e below _ (T106.setTop (mkF m 281 #[.val (.ref a0), .val (.int (0 : Int32)), .val (.int (v0 &&& (255 : Int32))), .val (.int (2 : Int32)), .val (.int ll), .val (.long ((ll).toInt64)), .second, .unset, .unset] [(.long ((ll).toInt64)), (.int (2 : Int32)), (.ref a0)]))
  refine OGo.st (fun t k => XS.l2i X106.here hx rfl (hb hby d4_281) rfl k) ?_
  show OGo p.tables e below _ (T106.setTop (mkF m 282 #[.val (.ref a0), .val (.int (0 : Int32)), .val (.int (v0 &&& (255 : Int32))), .val (.int (2 : Int32)), .val (.int ll), .val (.long ((ll).toInt64)), .second, .unset, .unset] [(.int ((((ll).toInt64)).toInt32)), (.int (2 : Int32)), (.ref a0)]))
  refine OGo.st (fun t k => XS.iadd X106.here hx rfl (hb hby d4_282) rfl k) ?_
  show OGo p.tables e below _ (T106.setTop (mkF m 283 #[.val (.ref a0), .val (.int (0 : Int32)), .val (.int (v0 &&& (255 : Int32))), .val (.int (2 : Int32)), .val (.int ll), .val (.long ((ll).toInt64)), .second, .unset, .unset] [(.int ((2 : Int32) + ((((ll).toInt64)).toInt32))), (.ref a0)]))
  obtain ⟨T107, h107, X107, e107, W107, st107⟩ := putF X106 hx hZ hown (host := "") (Or.inl (hw _ (List.mem_of_getElem? (i := 12) rfl))) Via.refl e106 F2 E0 (Or.inl (hw _ (List.mem_of_getElem? (i := 13) rfl))) (hw _ (List.mem_of_getElem? (i := 1) rfl)) (ty := .int) (by decide) rfl rfl (g := (mkF m 283 #[.val (.ref a0), .val (.int (0 : Int32)), .val (.int (v0 &&& (255 : Int32))), .val (.int (2 : Int32)), .val (.int ll), .val (.long ((ll).toInt64)), .second, .unset, .unset] [(.int ((2 : Int32) + ((((ll).toInt64)).toInt32))), (.ref a0)])) rfl rfl (hb hby d4_283)
  refine OGo.st st107 ?_
  have Fw107 : Fld Z h107 a0 "com/example/holdfast/holdfast/resources/DerReader" "position" "I" (.int ((2 : Int32) + ((((ll).toInt64)).toInt32))) := Fld.same W107 F2
  have N107 := Fr.snoc X107 N102 g0
  show OGo p.tables e below _ (T107.setTop (mkF m 286 #[.val (.ref a0), .val (.int (0 : Int32)), .val (.int (v0 &&& (255 : Int32))), .val (.int (2 : Int32)), .val (.int ll), .val (.long ((ll).toInt64)), .second, .unset, .unset] []))
  have G108 : Exa Z h107 a0 "com/example/holdfast/holdfast/resources/DerReader" := (Exa.wr W107 E0)
  have G109 : Arv Z h107 b k .byte (10 : Int32) [(.int v0), (.int v1), (.int v2), (.int v3)] (.int (0 : Int32)) := (V0.other W107 (Ne.symm nab))
  obtain ⟨T110, h110, X110, e110, E110, A110, D110, -, st110⟩ := newO X107 hx hZ hown (hw _ (List.mem_of_getElem? (i := 32) rfl)) (hw _ (List.mem_of_getElem? (i := 33) rfl)) (hw _ (List.mem_of_getElem? (i := 34) rfl)) e107 (g := (mkF m 286 #[.val (.ref a0), .val (.int (0 : Int32)), .val (.int (v0 &&& (255 : Int32))), .val (.int (2 : Int32)), .val (.int ll), .val (.long ((ll).toInt64)), .second, .unset, .unset] [])) rfl (hb hby d4_286) (by decide) (by decide)
  obtain ⟨b110, g110⟩ : ∃ z, z = h107.size := ⟨_, rfl⟩
  rw [← g110] at A110 D110 st110
  have ge_b110 : n0 ≤ b110 := Nat.le_trans (Nat.le_trans Z0 (Keep.of_wr W107).1) (Nat.le_of_eq g110.symm)
  have sz_b110 : h0.size ≤ b110 := Nat.le_trans (Nat.le_trans (Nat.le_refl h0.size) (Keep.of_wr W107).1) (Nat.le_of_eq g110.symm)
  have ne_a0_b110 : a0 ≠ b110 := Nat.ne_of_lt (Nat.lt_of_lt_of_le G108.lt (Nat.le_of_eq g110.symm))
  have ne_b_b110 : b ≠ b110 := Nat.ne_of_lt (Nat.lt_of_lt_of_le G109.lt (Nat.le_of_eq g110.symm))
  refine OGo.st st110 ?_
  have Fn110_source : Fld Z h110 b110 "com/example/holdfast/holdfast/resources/DerValue" "source" "[B" .null := D110 (Or.inr (hw _ (List.mem_of_getElem? (i := 40) rfl))) (ty := (.array .byte)) (by decide)
  have Fn110_tag : Fld Z h110 b110 "com/example/holdfast/holdfast/resources/DerValue" "tag" "I" (.int (0 : Int32)) := D110 (Or.inr (hw _ (List.mem_of_getElem? (i := 42) rfl))) (ty := .int) (by decide)
  have Fn110_offset : Fld Z h110 b110 "com/example/holdfast/holdfast/resources/DerValue" "offset" "I" (.int (0 : Int32)) := D110 (Or.inr (hw _ (List.mem_of_getElem? (i := 44) rfl))) (ty := .int) (by decide)
  have Fn110_contentStart : Fld Z h110 b110 "com/example/holdfast/holdfast/resources/DerValue" "contentStart" "I" (.int (0 : Int32)) := D110 (Or.inr (hw _ (List.mem_of_getElem? (i := 46) rfl))) (ty := .int) (by decide)
  have Fn110_end : Fld Z h110 b110 "com/example/holdfast/holdfast/resources/DerValue" "end" "I" (.int (0 : Int32)) := D110 (Or.inr (hw _ (List.mem_of_getElem? (i := 48) rfl))) (ty := .int) (by decide)
  show OGo p.tables e below _ (T110.setTop (mkF m 289 #[.val (.ref a0), .val (.int (0 : Int32)), .val (.int (v0 &&& (255 : Int32))), .val (.int (2 : Int32)), .val (.int ll), .val (.long ((ll).toInt64)), .second, .unset, .unset] [(.ref b110)]))
  refine OGo.st (fun t k => XS.dup X110.here hx rfl (hb hby d4_289) rfl rfl k) ?_
  show OGo p.tables e below _ (T110.setTop (mkF m 290 #[.val (.ref a0), .val (.int (0 : Int32)), .val (.int (v0 &&& (255 : Int32))), .val (.int (2 : Int32)), .val (.int ll), .val (.long ((ll).toInt64)), .second, .unset, .unset] [(.ref b110), (.ref b110)]))
  refine OGo.st (fun t k => XS.aloadN X110.here hx rfl (hb hby d4_290) rfl rfl k) ?_
  show OGo p.tables e below _ (T110.setTop (mkF m 291 #[.val (.ref a0), .val (.int (0 : Int32)), .val (.int (v0 &&& (255 : Int32))), .val (.int (2 : Int32)), .val (.int ll), .val (.long ((ll).toInt64)), .second, .unset, .unset] [(.ref a0), (.ref b110), (.ref b110)]))
  have G111 : Fld Z h110 a0 "com/example/holdfast/holdfast/resources/DerReader" "bytes" "[B" (.ref b) := (Fld.ext E110 (Fld.other W107 F1 (Or.inr (slot_ne (Or.inr (hw _ (List.mem_of_getElem? (i := 11) rfl))) (Or.inl (hw _ (List.mem_of_getElem? (i := 13) rfl))) (by decide) (t := (.array .byte)) (t' := .int) (by decide) (by decide)))))
  obtain ⟨T112, X112, e112, st112⟩ := getF X110 hx hZ hown (host := "") (Or.inl (hw _ (List.mem_of_getElem? (i := 10) rfl))) Via.refl e110 G111 (g := (mkF m 291 #[.val (.ref a0), .val (.int (0 : Int32)), .val (.int (v0 &&& (255 : Int32))), .val (.int (2 : Int32)), .val (.int ll), .val (.long ((ll).toInt64)), .second, .unset, .unset] [(.ref a0), (.ref b110), (.ref b110)])) rfl rfl (hb hby d4_291)
  refine OGo.st st112 ?_
  show OGo p.tables e below _ (T112.setTop (mkF m 294 #[.val (.ref a0), .val (.int (0 : Int32)), .val (.int (v0 &&& (255 : Int32))), .val (.int (2 : Int32)), .val (.int ll), .val (.long ((ll).toInt64)), .second, .unset, .unset] [(.ref b), (.ref b110), (.ref b110)]))
  refine OGo.st (fun t k => XS.iloadN X112.here hx rfl (hb hby d4_294) rfl k) ?_
  show OGo p.tables e below _ (T112.setTop (mkF m 295 #[.val (.ref a0), .val (.int (0 : Int32)), .val (.int (v0 &&& (255 : Int32))), .val (.int (2 : Int32)), .val (.int ll), .val (.long ((ll).toInt64)), .second, .unset, .unset] [(.int (v0 &&& (255 : Int32))), (.ref b), (.ref b110), (.ref b110)]))
  refine OGo.st (fun t k => XS.iloadN X112.here hx rfl (hb hby d4_295) rfl k) ?_
  show OGo p.tables e below _ (T112.setTop (mkF m 296 #[.val (.ref a0), .val (.int (0 : Int32)), .val (.int (v0 &&& (255 : Int32))), .val (.int (2 : Int32)), .val (.int ll), .val (.long ((ll).toInt64)), .second, .unset, .unset] [(.int (0 : Int32)), (.int (v0 &&& (255 : Int32))), (.ref b), (.ref b110), (.ref b110)]))
  refine OGo.st (fun t k => XS.iloadN X112.here hx rfl (hb hby d4_296) rfl k) ?_
  show OGo p.tables e below _ (T112.setTop (mkF m 297 #[.val (.ref a0), .val (.int (0 : Int32)), .val (.int (v0 &&& (255 : Int32))), .val (.int (2 : Int32)), .val (.int ll), .val (.long ((ll).toInt64)), .second, .unset, .unset] [(.int (2 : Int32)), (.int (0 : Int32)), (.int (v0 &&& (255 : Int32))), (.ref b), (.ref b110), (.ref b110)]))
  refine OGo.st (fun t k => XS.aloadN X112.here hx rfl (hb hby d4_297) rfl rfl k) ?_
  show OGo p.tables e below _ (T112.setTop (mkF m 298 #[.val (.ref a0), .val (.int (0 : Int32)), .val (.int (v0 &&& (255 : Int32))), .val (.int (2 : Int32)), .val (.int ll), .val (.long ((ll).toInt64)), .second, .unset, .unset] [(.ref a0), (.int (2 : Int32)), (.int (0 : Int32)), (.int (v0 &&& (255 : Int32))), (.ref b), (.ref b110), (.ref b110)]))
  have G113 : Fld Z h110 a0 "com/example/holdfast/holdfast/resources/DerReader" "position" "I" (.int ((2 : Int32) + ((((ll).toInt64)).toInt32))) := (Fld.ext E110 Fw107)
  obtain ⟨T114, X114, e114, st114⟩ := getF X112 hx hZ hown (host := "") (Or.inl (hw _ (List.mem_of_getElem? (i := 12) rfl))) Via.refl e112 G113 (g := (mkF m 298 #[.val (.ref a0), .val (.int (0 : Int32)), .val (.int (v0 &&& (255 : Int32))), .val (.int (2 : Int32)), .val (.int ll), .val (.long ((ll).toInt64)), .second, .unset, .unset] [(.ref a0), (.int (2 : Int32)), (.int (0 : Int32)), (.int (v0 &&& (255 : Int32))), (.ref b), (.ref b110), (.ref b110)])) rfl rfl (hb hby d4_298)
  refine OGo.st st114 ?_
  show OGo p.tables e below _ (T114.setTop (mkF m 301 #[.val (.ref a0), .val (.int (0 : Int32)), .val (.int (v0 &&& (255 : Int32))), .val (.int (2 : Int32)), .val (.int ll), .val (.long ((ll).toInt64)), .second, .unset, .unset] [(.int ((2 : Int32) + ((((ll).toInt64)).toInt32))), (.int (2 : Int32)), (.int (0 : Int32)), (.int (v0 &&& (255 : Int32))), (.ref b), (.ref b110), (.ref b110)]))
  obtain ⟨_, _, ⟨T115, L115, kk115, nn115⟩, -, X115, ⟨Lc115, hQ115, l115, y115, z115⟩, st115⟩ := X114.specialBack hx (y := (⟨"com/example/holdfast/holdfast/resources/DerValue", "<init>", "([BIIII)V"⟩ : MethodName)) rfl hown (mvT hZ (hw _ (List.mem_of_getElem? (i := 35) rfl))) (mvT hZ (hw _ (List.mem_of_getElem? (i := 36) rfl))) (mvT hZ (hw _ (List.mem_of_getElem? (i := 37) rfl))) (by decide) (backOf (W := 1) (rm2 l Z ar hw [] b110 b (v0 &&& (255 : Int32)) (0 : Int32) (2 : Int32) ((2 : Int32) + ((((ll).toInt64)).toInt32)) h110 n0 (Nat.le_trans (Nat.le_trans Z0 (Keep.of_wr W107).1) E110.1) A110 ge_b110 Fn110_source Fn110_tag Fn110_offset Fn110_contentStart Fn110_end) hZ (hw _ (List.mem_of_getElem? (i := 37) rfl)) (hw _ (List.mem_of_getElem? (i := 34) rfl)) (by decide) (by decide)) (g := (mkF m 301 #[.val (.ref a0), .val (.int (0 : Int32)), .val (.int (v0 &&& (255 : Int32))), .val (.int (2 : Int32)), .val (.int ll), .val (.long ((ll).toInt64)), .second, .unset, .unset] [(.int ((2 : Int32) + ((((ll).toInt64)).toInt32))), (.int (2 : Int32)), (.int (0 : Int32)), (.int (v0 &&& (255 : Int32))), (.ref b), (.ref b110), (.ref b110)])) rfl (by rw [hml]; rfl) (Steps.refl _) (a := b110) (argsL := [(.ref b), (.int (v0 &&& (255 : Int32))), (.int (0 : Int32)), (.int (2 : Int32)), (.int ((2 : Int32) + ((((ll).toInt64)).toInt32)))]) (rest := [(.ref b110)]) (lenOf pd_2 rfl) rfl (by show 2 * 0 + _ ≤ _; exact Nat.le_of_eq rfl) (hb hby d4_301) (fun _ _ => ⟨rfl, e114, (by decide : 1 + 0 ≤ _), (by decide : 5 + 0 ≤ _)⟩)
  dsimp only [Pt.U, Pt.locs, Pt.cells, Pt.slots] at X115 l115 y115 z115 st115 hQ115
  subst l115 y115 z115
  obtain ⟨rfl, Nq115, K115⟩ := hQ115
  have N115 := Fr.app N107 Nq115
  refine OGo.st (fun t k => st115.trans k) ?_
  show OGo p.tables e below _ (T115.setTop (mkF m 304 #[.val (.ref a0), .val (.int (0 : Int32)), .val (.int (v0 &&& (255 : Int32))), .val (.int (2 : Int32)), .val (.int ll), .val (.long ((ll).toInt64)), .second, .unset, .unset] [(.ref b110)]))
  obtain ⟨fs, hr, hrun, hended, hW, hsame⟩ := X115.leave (v := some (.ref b110)) (fun h => by rw [Bd.returns] at h; cases h)
  have G117 : Fld Z T115.heap a0 "com/example/holdfast/holdfast/resources/DerReader" "position" "I" (.int ((2 : Int32) + ((((ll).toInt64)).toInt32))) := (G113.keep K115 (ninS ne_a0_b110 nin0))
  have G118 : Fld Z T115.heap a0 "com/example/holdfast/holdfast/resources/DerReader" "end" "I" (.int en) := ((Fld.ext E110 (Fld.other W107 F3 (Or.inr (slot_ne (Or.inr (hw _ (List.mem_of_getElem? (i := 15) rfl))) (Or.inl (hw _ (List.mem_of_getElem? (i := 13) rfl))) (by decide) (t := .int) (t' := .int) (by decide) (by decide))))).keep K115 (ninS ne_a0_b110 nin0))
  refine OGo.done (own_retR X115 hx Bd.returns rfl rfl (hb hby d4_304) hr) ⟨hrun, hended, _, _, rfl, ?_, ⟨_, rfl⟩, hW, hsame.mono (by decide) (by decide)⟩
  show Q4 Z a0 b k v0 v1 v2 v3 en ll h0 n0 _ T115.heap _
  exact ⟨b110, rfl, N115, ((((Keep.refl h0 [a0]).wr W107 (Or.inl (List.mem_of_getElem? (i := 0) rfl))).ext E110).trans K115 (allS (Or.inr sz_b110) all0)), G117, G118⟩
theorem d5_0 : decode prog_43_method_5_code 0 = .ok (.aload_n 0, 1) := by decide +kernel
theorem d5_1 : decode prog_43_method_5_code 1 = .ok (.invokevirtual 32, 3) := by decide +kernel
theorem d5_4 : decode prog_43_method_5_code 4 = .ok (.ifCond .ne 20, 3) := by decide +kernel
theorem d5_24 : decode prog_43_method_5_code 24 = .ok (.aload_n 0, 1) := by decide +kernel
theorem d5_25 : decode prog_43_method_5_code 25 = .ok (.getfield 12, 3) := by decide +kernel
theorem d5_28 : decode prog_43_method_5_code 28 = .ok (.aload_n 0, 1) := by decide +kernel
theorem d5_29 : decode prog_43_method_5_code 29 = .ok (.getfield 16, 3) := by decide +kernel
theorem d5_32 : decode prog_43_method_5_code 32 = .ok (.baload, 1) := by decide +kernel
theorem d5_33 : decode prog_43_method_5_code 33 = .ok (.sipush 255, 3) := by decide +kernel
theorem d5_36 : decode prog_43_method_5_code 36 = .ok (.iand, 1) := by decide +kernel
theorem d5_37 : decode prog_43_method_5_code 37 = .ok (.ireturn, 1) := by decide +kernel
theorem ef_5 (m : MethodId) (x0 : Addr) : entryFrame m #[(.ref x0)] 1 = mkF m 0 #[.val (.ref x0)] [] := by first | (simp [entryFrame, mkF, argsToLocals, Value.category]; done) | rfl
def Q5 (Z : State) (a0 : Addr) (b : Addr) (k : ClassId) (v0 : Int32) (v1 : Int32) (v2 : Int32) (v3 : Int32) (en : Int32) (h0 : Heap) (n0 : Nat) (v : Option Value) (h : Heap) (L : List Loc) : Prop := v = some (.int (v1 &&& (255 : Int32))) ∧ Fr n0 L ∧ h = h0
set_option maxRecDepth 65536 in
set_option maxHeartbeats 40000000 in
theorem rm5 (l : Launch) (Z : State) (ar : Array Value) (hw : ∀ d ∈ tables_1, d.before ar Z = true) (ws : List Jvm.Cond) (a0 : Addr) (b : Addr) (k : ClassId) (v0 : Int32) (v1 : Int32) (v2 : Int32) (v3 : Int32) (en : Int32) (h0 : Heap) (n0 : Nat) (Z0 : n0 ≤ h0.size) (F1 : Fld Z h0 a0 "com/example/holdfast/holdfast/resources/DerReader" "bytes" "[B" (.ref b)) (V0 : Arv Z h0 b k .byte (10 : Int32) [(.int v0), (.int v1), (.int v2), (.int v3)] (.int (0 : Int32))) (F2 : Fld Z h0 a0 "com/example/holdfast/holdfast/resources/DerReader" "position" "I" (.int (1 : Int32))) (F3 : Fld Z h0 a0 "com/example/holdfast/holdfast/resources/DerReader" "end" "I" (.int en)) (E0 : Exa Z h0 a0 "com/example/holdfast/holdfast/resources/DerReader") (hp : (1 : Int32) < en) :
    MetFree l (⟨"com/example/holdfast/holdfast/resources/DerReader", "peekTag", "()I"⟩ : MethodName) (head1 (Jvm.Cond.code (⟨"com/example/holdfast/holdfast/resources/DerReader", "peekTag", "()I"⟩ : MethodName) prog_43_method_5_code 1 (some .int) :: ws) ({ frames := 1, cells := 0, slots := 0, locals := 12 } : Room)) (fun a U => a = #[(.ref a0)] ∧ Z.Warmed39 U.vm ∧ U.heap = h0) (fun _ _ _ _ _ => True) (fun _ U o U' => ∃ v L, o = .returned v ∧ Q5 Z a0 b k v0 v1 v2 v3 en h0 n0 v U'.heap L ∧ FrameEnd U o U' L ({ frames := 1, cells := 0, slots := 0, locals := 12 } : Room).cells ({ frames := 1, cells := 0, slots := 0, locals := 12 } : Room).slots) := by
  refine MetFree.of_bodySF (plainFor_of_name pn_0) hisR ?_
  intro p e s m args below meth c s₁ Bd hml0 hP hK
  obtain ⟨rfl, hZ, hh⟩ := hP
  have hx := Bd.exec
  have hby := Bd.bytes
  have hml : c.maxLocals = 1 := hml0
  have hown : s.vm.findClass "com/example/holdfast/holdfast/resources/DerReader" = some m.cls := findClass_of_methodNamed Bd.named
  have hnm := (name_of_methodNamed Bd.named Bd.method).1
  have X0 : Stand p l e ({ frames := 1, cells := 0, slots := 0, locals := 12 } : Room) s m #[(.ref a0)] below meth c s₁ [] 0 0 := Stand.of_body Bd
  have e0 : s₁.heap = h0 := by rw [← hh, Bd.state]; rfl
  have N0 := Fr.nil n0
  have pre0 : ∀ t, Steps p.tables e below (s₁.setTop (mkF m 0 #[.val (.ref a0)] [])) t → Steps p.tables e below (s₁.setTop (entryFrame m #[(.ref a0)] 1)) t := fun t k => castTop (ef_5 m a0) k
  refine OGo.start pre0 ?_
  show OGo p.tables e below _ (s₁.setTop (mkF m 0 #[.val (.ref a0)] []))
  refine OGo.st (fun t k => XS.aloadN X0.here hx rfl (hb hby d5_0) rfl rfl k) ?_
  show OGo p.tables e below _ (s₁.setTop (mkF m 1 #[.val (.ref a0)] [(.ref a0)]))
  obtain ⟨cq101, kq101, q101a, q101b, q101c⟩ := isOf hZ e0 E0
  obtain ⟨_, _, ⟨T101, L101, kk101, nn101⟩, -, X101, ⟨Lc101, hQ101, l101, y101, z101⟩, st101⟩ := X0.virtualBack hx (y := (⟨"com/example/holdfast/holdfast/resources/DerReader", "hasMore", "()Z"⟩ : MethodName)) (z := (⟨"com/example/holdfast/holdfast/resources/DerReader", "hasMore", "()Z"⟩ : MethodName)) hown (mvT hZ (hw _ (List.mem_of_getElem? (i := 31) rfl))) (mvT hZ (hw _ (List.mem_of_getElem? (i := 17) rfl))) (notFace_of_selects (args := #[]) (mvT hZ (hw _ (List.mem_of_getElem? (i := 19) rfl)))) (mvT hZ (hw _ (List.mem_of_getElem? (i := 19) rfl))) (mvT hZ (hw _ (List.mem_of_getElem? (i := 18) rfl))) (by decide) (backOf (W := 0) (rm1 l Z ar hw [] a0 (1 : Int32) en h0 n0 Z0 F2 F3) hZ (hw _ (List.mem_of_getElem? (i := 20) rfl)) (hw _ (List.mem_of_getElem? (i := 2) rfl)) (by decide) (by decide)) q101a q101c (g := (mkF m 1 #[.val (.ref a0)] [(.ref a0)])) rfl (by rw [hml]; rfl) (Steps.refl _) (argsL := []) (rest := []) (lenOf pd_0 rfl) rfl (by show 2 * 0 + _ ≤ _; exact Nat.le_of_eq rfl) (hb hby d5_1) (fun _ _ => ⟨rfl, e0, (by decide : 0 + 0 ≤ _), (by decide : 0 + 0 ≤ _)⟩)
  dsimp only [Pt.U, Pt.locs, Pt.cells, Pt.slots] at X101 l101 y101 z101 st101 hQ101
  subst l101 y101 z101
  obtain ⟨rfl, Nq101, hh101⟩ := hQ101
  have N101 := Fr.app N0 Nq101
  refine OGo.st (fun t k => st101.trans k) ?_
  have e101 : T101.heap = h0 := hh101
  show OGo p.tables e below _ (T101.setTop (mkF m 4 #[.val (.ref a0)] [(.int (own_lt (1 : Int32) en))]))
  refine OGo.st (fun t k => XS.ifYes X101.here hx rfl (pc0 := 4) (pc' := 24) rfl (hb hby d5_4) rfl ((if0 _ _).trans (feq ((own_ltN hp) : ¬ ((own_lt (1 : Int32) en) = (0 : Int32)))).2) (by decide) (by decide) k) ?_
  show OGo p.tables e below _ (T101.setTop (mkF m 24 #[.val (.ref a0)] []))
  refine OGo.st (fun t k => XS.aloadN X101.here hx rfl (hb hby d5_24) rfl rfl k) ?_
  show OGo p.tables e below _ (T101.setTop (mkF m 25 #[.val (.ref a0)] [(.ref a0)]))
  obtain ⟨T102, X102, e102, st102⟩ := getF X101 hx hZ hown (host := "") (Or.inl (hw _ (List.mem_of_getElem? (i := 10) rfl))) Via.refl e101 F1 (g := (mkF m 25 #[.val (.ref a0)] [(.ref a0)])) rfl rfl (hb hby d5_25)
  refine OGo.st st102 ?_
  show OGo p.tables e below _ (T102.setTop (mkF m 28 #[.val (.ref a0)] [(.ref b)]))
  refine OGo.st (fun t k => XS.aloadN X102.here hx rfl (hb hby d5_28) rfl rfl k) ?_
  show OGo p.tables e below _ (T102.setTop (mkF m 29 #[.val (.ref a0)] [(.ref a0), (.ref b)]))
  obtain ⟨T103, X103, e103, st103⟩ := getF X102 hx hZ hown (host := "") (Or.inl (hw _ (List.mem_of_getElem? (i := 12) rfl))) Via.refl e102 F2 (g := (mkF m 29 #[.val (.ref a0)] [(.ref a0), (.ref b)])) rfl rfl (hb hby d5_29)
  refine OGo.st st103 ?_
  show OGo p.tables e below _ (T103.setTop (mkF m 32 #[.val (.ref a0)] [(.int (1 : Int32)), (.ref b)]))
  obtain ⟨cl104, Ar104, qc104, Sz104, Nz104, Hs104, Gs104⟩ := id V0
  have hin104 : ¬ ((1 : Int32) < 0 ∨ cl104.slots.size ≤ ((1 : Int32)).toNatClampNeg) := inb_of Sz104 ⟨by decide, by decide⟩
  have hat104 : cl104.slots[((1 : Int32)).toNatClampNeg]? = some (.int v1) := Has.at Hs104 hin104 rfl
  refine OGo.st (fun t k => X103.baloadBytes hx (j := (1 : Int32)) (v := (.int v1)) (by rw [e103]; exact Ar104.1) (State.isArrayOf_alike hZ.alike Ar104.2.1) Ar104.2.2 hin104 hat104 (g := (mkF m 32 #[.val (.ref a0)] [(.int (1 : Int32)), (.ref b)])) rfl rfl (hb hby d5_32) _ k) ?_
  show OGo p.tables e below _ (T103.setTop (mkF m 33 #[.val (.ref a0)] [(.int v1)]))
  refine OGo.st (fun t k => XS.sipush X103.here hx rfl (hb hby d5_33) k) ?_
  show OGo p.tables e below _ (T103.setTop (mkF m 36 #[.val (.ref a0)] [(.int (255 : Int32)), (.int v1)]))
  refine OGo.st (fun t k => XS.iand X103.here hx rfl (hb hby d5_36) rfl k) ?_
  show OGo p.tables e below _ (T103.setTop (mkF m 37 #[.val (.ref a0)] [(.int (v1 &&& (255 : Int32)))]))
  obtain ⟨fs, hr, hrun, hended, hW, hsame⟩ := X103.leave (v := some (.int (v1 &&& (255 : Int32)))) (fun h => by rw [Bd.returns] at h; cases h)
  refine OGo.done (retI X103 hx Bd.returns (hb hby d5_37) hr) ⟨hrun, hended, _, _, rfl, ?_, ⟨_, rfl⟩, hW, hsame.mono (by decide) (by decide)⟩
  show Q5 Z a0 b k v0 v1 v2 v3 en h0 n0 _ T103.heap _
  rw [e103]
  exact ⟨rfl, N101, rfl⟩
theorem d6_0 : decode prog_43_method_6_code 0 = .ok (.aload_n 0, 1) := by decide +kernel
theorem d6_1 : decode prog_43_method_6_code 1 = .ok (.getfield 16, 3) := by decide +kernel
theorem d6_4 : decode prog_43_method_6_code 4 = .ok (.istore_n 1, 1) := by decide +kernel
theorem d6_5 : decode prog_43_method_6_code 5 = .ok (.aload_n 0, 1) := by decide +kernel
theorem d6_6 : decode prog_43_method_6_code 6 = .ok (.invokevirtual 40, 3) := by decide +kernel
theorem d6_9 : decode prog_43_method_6_code 9 = .ok (.istore_n 2, 1) := by decide +kernel
theorem d6_10 : decode prog_43_method_6_code 10 = .ok (.iload_n 2, 1) := by decide +kernel
theorem d6_11 : decode prog_43_method_6_code 11 = .ok (.bipush 31, 2) := by decide +kernel
theorem d6_13 : decode prog_43_method_6_code 13 = .ok (.iand, 1) := by decide +kernel
theorem d6_14 : decode prog_43_method_6_code 14 = .ok (.bipush 31, 2) := by decide +kernel
theorem d6_16 : decode prog_43_method_6_code 16 = .ok (.if_icmp .ne 17, 3) := by decide +kernel
theorem d6_33 : decode prog_43_method_6_code 33 = .ok (.iload_n 1, 1) := by decide +kernel
theorem d6_34 : decode prog_43_method_6_code 34 = .ok (.iconst 1, 1) := by decide +kernel
theorem d6_35 : decode prog_43_method_6_code 35 = .ok (.iadd, 1) := by decide +kernel
theorem d6_36 : decode prog_43_method_6_code 36 = .ok (.istore_n 3, 1) := by decide +kernel
theorem d6_37 : decode prog_43_method_6_code 37 = .ok (.iload_n 3, 1) := by decide +kernel
theorem d6_38 : decode prog_43_method_6_code 38 = .ok (.aload_n 0, 1) := by decide +kernel
theorem d6_39 : decode prog_43_method_6_code 39 = .ok (.getfield 20, 3) := by decide +kernel
theorem d6_42 : decode prog_43_method_6_code 42 = .ok (.if_icmp .lt 17, 3) := by decide +kernel
theorem d6_59 : decode prog_43_method_6_code 59 = .ok (.aload_n 0, 1) := by decide +kernel
theorem d6_60 : decode prog_43_method_6_code 60 = .ok (.getfield 12, 3) := by decide +kernel
theorem d6_63 : decode prog_43_method_6_code 63 = .ok (.iload_n 3, 1) := by decide +kernel
theorem d6_64 : decode prog_43_method_6_code 64 = .ok (.iinc 3 1, 3) := by decide +kernel
theorem d6_67 : decode prog_43_method_6_code 67 = .ok (.baload, 1) := by decide +kernel
theorem d6_68 : decode prog_43_method_6_code 68 = .ok (.sipush 255, 3) := by decide +kernel
theorem d6_71 : decode prog_43_method_6_code 71 = .ok (.iand, 1) := by decide +kernel
theorem d6_72 : decode prog_43_method_6_code 72 = .ok (.istore 4, 2) := by decide +kernel
theorem d6_74 : decode prog_43_method_6_code 74 = .ok (.iload 4, 2) := by decide +kernel
theorem d6_76 : decode prog_43_method_6_code 76 = .ok (.sipush 128, 3) := by decide +kernel
theorem d6_79 : decode prog_43_method_6_code 79 = .ok (.if_icmp .ge 11, 3) := by decide +kernel
theorem d6_82 : decode prog_43_method_6_code 82 = .ok (.iload 4, 2) := by decide +kernel
theorem d6_84 : decode prog_43_method_6_code 84 = .ok (.i2l, 1) := by decide +kernel
theorem d6_85 : decode prog_43_method_6_code 85 = .ok (.lstore 5, 2) := by decide +kernel
theorem d6_87 : decode prog_43_method_6_code 87 = .ok (.goto 155, 3) := by decide +kernel
theorem d6_242 : decode prog_43_method_6_code 242 = .ok (.lload 5, 2) := by decide +kernel
theorem d6_244 : decode prog_43_method_6_code 244 = .ok (.aload_n 0, 1) := by decide +kernel
theorem d6_245 : decode prog_43_method_6_code 245 = .ok (.getfield 20, 3) := by decide +kernel
theorem d6_248 : decode prog_43_method_6_code 248 = .ok (.iload_n 3, 1) := by decide +kernel
theorem d6_249 : decode prog_43_method_6_code 249 = .ok (.isub, 1) := by decide +kernel
theorem d6_250 : decode prog_43_method_6_code 250 = .ok (.i2l, 1) := by decide +kernel
theorem d6_251 : decode prog_43_method_6_code 251 = .ok (.lcmp, 1) := by decide +kernel
theorem d6_252 : decode prog_43_method_6_code 252 = .ok (.ifCond .le 25, 3) := by decide +kernel
theorem d6_277 : decode prog_43_method_6_code 277 = .ok (.aload_n 0, 1) := by decide +kernel
theorem d6_278 : decode prog_43_method_6_code 278 = .ok (.iload_n 3, 1) := by decide +kernel
theorem d6_279 : decode prog_43_method_6_code 279 = .ok (.lload 5, 2) := by decide +kernel
theorem d6_281 : decode prog_43_method_6_code 281 = .ok (.l2i, 1) := by decide +kernel
theorem d6_282 : decode prog_43_method_6_code 282 = .ok (.iadd, 1) := by decide +kernel
theorem d6_283 : decode prog_43_method_6_code 283 = .ok (.putfield 16, 3) := by decide +kernel
theorem d6_286 : decode prog_43_method_6_code 286 = .ok (.new 57, 3) := by decide +kernel
theorem d6_289 : decode prog_43_method_6_code 289 = .ok (.dup, 1) := by decide +kernel
theorem d6_290 : decode prog_43_method_6_code 290 = .ok (.aload_n 0, 1) := by decide +kernel
theorem d6_291 : decode prog_43_method_6_code 291 = .ok (.getfield 12, 3) := by decide +kernel
theorem d6_294 : decode prog_43_method_6_code 294 = .ok (.iload_n 2, 1) := by decide +kernel
theorem d6_295 : decode prog_43_method_6_code 295 = .ok (.iload_n 1, 1) := by decide +kernel
theorem d6_296 : decode prog_43_method_6_code 296 = .ok (.iload_n 3, 1) := by decide +kernel
theorem d6_297 : decode prog_43_method_6_code 297 = .ok (.aload_n 0, 1) := by decide +kernel
theorem d6_298 : decode prog_43_method_6_code 298 = .ok (.getfield 16, 3) := by decide +kernel
theorem d6_301 : decode prog_43_method_6_code 301 = .ok (.invokespecial 59, 3) := by decide +kernel
theorem d6_304 : decode prog_43_method_6_code 304 = .ok (.areturn, 1) := by decide +kernel
theorem ef_6 (m : MethodId) (x0 : Addr) : entryFrame m #[(.ref x0)] 9 = mkF m 0 #[.val (.ref x0), .unset, .unset, .unset, .unset, .unset, .unset, .unset, .unset] [] := by first | (simp [entryFrame, mkF, argsToLocals, Value.category]; done) | rfl
def Q6 (Z : State) (a0 : Addr) (b : Addr) (k : ClassId) (v0 : Int32) (v1 : Int32) (v2 : Int32) (v3 : Int32) (en : Int32) (ll : Int32) (h0 : Heap) (n0 : Nat) (v : Option Value) (h : Heap) (L : List Loc) : Prop := ∃ d : Addr, v = some (.ref d) ∧ Fr n0 L ∧ Keep h0 h [a0] ∧ (Fld Z h a0 "com/example/holdfast/holdfast/resources/DerReader" "position" "I" (.int ((3 : Int32) + ((((ll).toInt64)).toInt32)))) ∧ (Fld Z h a0 "com/example/holdfast/holdfast/resources/DerReader" "end" "I" (.int en))
set_option maxRecDepth 65536 in
set_option maxHeartbeats 40000000 in
theorem rm6 (l : Launch) (Z : State) (ar : Array Value) (hw : ∀ d ∈ tables_1, d.before ar Z = true) (ws : List Jvm.Cond) (a0 : Addr) (b : Addr) (k : ClassId) (v0 : Int32) (v1 : Int32) (v2 : Int32) (v3 : Int32) (en : Int32) (ll : Int32) (h0 : Heap) (n0 : Nat) (Z0 : n0 ≤ h0.size) (F1 : Fld Z h0 a0 "com/example/holdfast/holdfast/resources/DerReader" "bytes" "[B" (.ref b)) (V0 : Arv Z h0 b k .byte (10 : Int32) [(.int v0), (.int v1), (.int v2), (.int v3)] (.int (0 : Int32))) (F2 : Fld Z h0 a0 "com/example/holdfast/holdfast/resources/DerReader" "position" "I" (.int (1 : Int32))) (F3 : Fld Z h0 a0 "com/example/holdfast/holdfast/resources/DerReader" "end" "I" (.int en)) (E0 : Exa Z h0 a0 "com/example/holdfast/holdfast/resources/DerReader") (hp : (1 : Int32) < en) (g0 : n0 ≤ a0) (nab : a0 ≠ b) (ht : ¬ (((v1 &&& (255 : Int32)) &&& (31 : Int32)) = (31 : Int32))) (he : (2 : Int32) < en) (hl : (v2 &&& (255 : Int32)) = ll) (hl2 : ll < (128 : Int32)) (hf : ¬ (0 : Int32) < lcmpW ll.toInt64 (en - (3 : Int32)).toInt64) :
    MetFree l (⟨"com/example/holdfast/holdfast/resources/DerReader", "read", "()Lcom/example/holdfast/holdfast/resources/DerValue;"⟩ : MethodName) (head1 (Jvm.Cond.code (⟨"com/example/holdfast/holdfast/resources/DerReader", "read", "()Lcom/example/holdfast/holdfast/resources/DerValue;"⟩ : MethodName) prog_43_method_6_code 9 (some (.object "com/example/holdfast/holdfast/resources/DerValue")) :: ws) ({ frames := 2, cells := 1, slots := 5, locals := 30 } : Room)) (fun a U => a = #[(.ref a0)] ∧ Z.Warmed39 U.vm ∧ U.heap = h0) (fun _ _ _ _ _ => True) (fun _ U o U' => ∃ v L, o = .returned v ∧ Q6 Z a0 b k v0 v1 v2 v3 en ll h0 n0 v U'.heap L ∧ FrameEnd U o U' L ({ frames := 2, cells := 1, slots := 5, locals := 30 } : Room).cells ({ frames := 2, cells := 1, slots := 5, locals := 30 } : Room).slots) := by
  refine MetFree.of_bodySF (plainFor_of_name pn_0) hisR ?_
  intro p e s m args below meth c s₁ Bd hml0 hP hK
  obtain ⟨rfl, hZ, hh⟩ := hP
  have hx := Bd.exec
  have hby := Bd.bytes
  have hml : c.maxLocals = 9 := hml0
  have hown : s.vm.findClass "com/example/holdfast/holdfast/resources/DerReader" = some m.cls := findClass_of_methodNamed Bd.named
  have hnm := (name_of_methodNamed Bd.named Bd.method).1
  have X0 : Stand p l e ({ frames := 2, cells := 1, slots := 5, locals := 30 } : Room) s m #[(.ref a0)] below meth c s₁ [] 0 0 := Stand.of_body Bd
  have e0 : s₁.heap = h0 := by rw [← hh, Bd.state]; rfl
  have N0 := Fr.nil n0
  have pre0 : ∀ t, Steps p.tables e below (s₁.setTop (mkF m 0 #[.val (.ref a0), .unset, .unset, .unset, .unset, .unset, .unset, .unset, .unset] [])) t → Steps p.tables e below (s₁.setTop (entryFrame m #[(.ref a0)] 9)) t := fun t k => castTop (ef_6 m a0) k
  refine OGo.start pre0 ?_
  show OGo p.tables e below _ (s₁.setTop (mkF m 0 #[.val (.ref a0), .unset, .unset, .unset, .unset, .unset, .unset, .unset, .unset] []))
  refine OGo.st (fun t k => XS.aloadN X0.here hx rfl (hb hby d6_0) rfl rfl k) ?_
  show OGo p.tables e below _ (s₁.setTop (mkF m 1 #[.val (.ref a0), .unset, .unset, .unset, .unset, .unset, .unset, .unset, .unset] [(.ref a0)]))
  obtain ⟨T101, X101, e101, st101⟩ := getF X0 hx hZ hown (host := "") (Or.inl (hw _ (List.mem_of_getElem? (i := 12) rfl))) Via.refl e0 F2 (g := (mkF m 1 #[.val (.ref a0), .unset, .unset, .unset, .unset, .unset, .unset, .unset, .unset] [(.ref a0)])) rfl rfl (hb hby d6_1)
  refine OGo.st st101 ?_
  show OGo p.tables e below _ (T101.setTop (mkF m 4 #[.val (.ref a0), .unset, .unset, .unset, .unset, .unset, .unset, .unset, .unset] [(.int (1 : Int32))]))
  refine OGo.st (fun t k => XS.istoreN X101.here hx rfl (hb hby d6_4) rfl (l' := #[.val (.ref a0), .val (.int (1 : Int32)), .unset, .unset, .unset, .unset, .unset, .unset, .unset]) rfl k) ?_
  show OGo p.tables e below _ (T101.setTop (mkF m 5 #[.val (.ref a0), .val (.int (1 : Int32)), .unset, .unset, .unset, .unset, .unset, .unset, .unset] []))
  refine OGo.st (fun t k => XS.aloadN X101.here hx rfl (hb hby d6_5) rfl rfl k) ?_
  show OGo p.tables e below _ (T101.setTop (mkF m 6 #[.val (.ref a0), .val (.int (1 : Int32)), .unset, .unset, .unset, .unset, .unset, .unset, .unset] [(.ref a0)]))
  obtain ⟨cq102, kq102, q102a, q102b, q102c⟩ := isOf hZ e101 E0
  obtain ⟨_, _, ⟨T102, L102, kk102, nn102⟩, -, X102, ⟨Lc102, hQ102, l102, y102, z102⟩, st102⟩ := X101.virtualBack hx (y := (⟨"com/example/holdfast/holdfast/resources/DerReader", "peekTag", "()I"⟩ : MethodName)) (z := (⟨"com/example/holdfast/holdfast/resources/DerReader", "peekTag", "()I"⟩ : MethodName)) hown (mvT hZ (hw _ (List.mem_of_getElem? (i := 26) rfl))) (mvT hZ (hw _ (List.mem_of_getElem? (i := 27) rfl))) (notFace_of_selects (args := #[]) (mvT hZ (hw _ (List.mem_of_getElem? (i := 29) rfl)))) (mvT hZ (hw _ (List.mem_of_getElem? (i := 29) rfl))) (mvT hZ (hw _ (List.mem_of_getElem? (i := 28) rfl))) (by decide) (backOf (W := 0) (rm5 l Z ar hw [] a0 b k v0 v1 v2 v3 en h0 n0 Z0 F1 V0 F2 F3 E0 hp) hZ (hw _ (List.mem_of_getElem? (i := 30) rfl)) (hw _ (List.mem_of_getElem? (i := 2) rfl)) (by decide) (by decide)) q102a q102c (g := (mkF m 6 #[.val (.ref a0), .val (.int (1 : Int32)), .unset, .unset, .unset, .unset, .unset, .unset, .unset] [(.ref a0)])) rfl (by rw [hml]; rfl) (Steps.refl _) (argsL := []) (rest := []) (lenOf pd_1 rfl) rfl (by show 2 * 0 + _ ≤ _; exact Nat.le_of_eq rfl) (hb hby d6_6) (fun _ _ => ⟨rfl, e101, (by decide : 0 + 0 ≤ _), (by decide : 0 + 0 ≤ _)⟩)
  dsimp only [Pt.U, Pt.locs, Pt.cells, Pt.slots] at X102 l102 y102 z102 st102 hQ102
  subst l102 y102 z102
  obtain ⟨rfl, Nq102, hh102⟩ := hQ102
  have N102 := Fr.app N0 Nq102
  refine OGo.st (fun t k => st102.trans k) ?_
  have e102 : T102.heap = h0 := hh102
  show OGo p.tables e below _ (T102.setTop (mkF m 9 #[.val (.ref a0), .val (.int (1 : Int32)), .unset, .unset, .unset, .unset, .unset, .unset, .unset] [(.int (v1 &&& (255 : Int32)))]))
  refine OGo.st (fun t k => XS.istoreN X102.here hx rfl (hb hby d6_9) rfl (l' := #[.val (.ref a0), .val (.int (1 : Int32)), .val (.int (v1 &&& (255 : Int32))), .unset, .unset, .unset, .unset, .unset, .unset]) rfl k) ?_
  show OGo p.tables e below _ (T102.setTop (mkF m 10 #[.val (.ref a0), .val (.int (1 : Int32)), .val (.int (v1 &&& (255 : Int32))), .unset, .unset, .unset, .unset, .unset, .unset] []))
  refine OGo.st (fun t k => XS.iloadN X102.here hx rfl (hb hby d6_10) rfl k) ?_
  show OGo p.tables e below _ (T102.setTop (mkF m 11 #[.val (.ref a0), .val (.int (1 : Int32)), .val (.int (v1 &&& (255 : Int32))), .unset, .unset, .unset, .unset, .unset, .unset] [(.int (v1 &&& (255 : Int32)))]))
  refine OGo.st (fun t k => XS.bipush X102.here hx rfl (hb hby d6_11) k) ?_
  show OGo p.tables e below _ (T102.setTop (mkF m 13 #[.val (.ref a0), .val (.int (1 : Int32)), .val (.int (v1 &&& (255 : Int32))), .unset, .unset, .unset, .unset, .unset, .unset] [(.int (31 : Int32)), (.int (v1 &&& (255 : Int32)))]))
  refine OGo.st (fun t k => XS.iand X102.here hx rfl (hb hby d6_13) rfl k) ?_
  show OGo p.tables e below _ (T102.setTop (mkF m 14 #[.val (.ref a0), .val (.int (1 : Int32)), .val (.int (v1 &&& (255 : Int32))), .unset, .unset, .unset, .unset, .unset, .unset] [(.int ((v1 &&& (255 : Int32)) &&& (31 : Int32)))]))
  refine OGo.st (fun t k => XS.bipush X102.here hx rfl (hb hby d6_14) k) ?_
  show OGo p.tables e below _ (T102.setTop (mkF m 16 #[.val (.ref a0), .val (.int (1 : Int32)), .val (.int (v1 &&& (255 : Int32))), .unset, .unset, .unset, .unset, .unset, .unset] [(.int (31 : Int32)), (.int ((v1 &&& (255 : Int32)) &&& (31 : Int32)))]))
  refine OGo.st (fun t k => XS.icmpYes X102.here hx rfl (pc0 := 16) (pc' := 33) rfl (hb hby d6_16) rfl (feq (ht : ¬ (((v1 &&& (255 : Int32)) &&& (31 : Int32)) = (31 : Int32)))).2 (by decide) (by decide) k) ?_
  show OGo p.tables e below _ (T102.setTop (mkF m 33 #[.val (.ref a0), .val (.int (1 : Int32)), .val (.int (v1 &&& (255 : Int32))), .unset, .unset, .unset, .unset, .unset, .unset] []))
  refine OGo.st (fun t k => XS.iloadN X102.here hx rfl (hb hby d6_33) rfl k) ?_
  show OGo p.tables e below _ (T102.setTop (mkF m 34 #[.val (.ref a0), .val (.int (1 : Int32)), .val (.int (v1 &&& (255 : Int32))), .unset, .unset, .unset, .unset, .unset, .unset] [(.int (1 : Int32))]))
  refine OGo.st (fun t k => XS.iconst X102.here hx rfl (hb hby d6_34) k) ?_
  show OGo p.tables e below _ (T102.setTop (mkF m 35 #[.val (.ref a0), .val (.int (1 : Int32)), .val (.int (v1 &&& (255 : Int32))), .unset, .unset, .unset, .unset, .unset, .unset] [(.int (1 : Int32)), (.int (1 : Int32))]))
  refine OGo.st (fun t k => XS.iadd X102.here hx rfl (hb hby d6_35) rfl k) ?_
  show OGo p.tables e below _ (T102.setTop (mkF m 36 #[.val (.ref a0), .val (.int (1 : Int32)), .val (.int (v1 &&& (255 : Int32))), .unset, .unset, .unset, .unset, .unset, .unset] [(.int (2 : Int32))]))
  refine OGo.st (fun t k => XS.istoreN X102.here hx rfl (hb hby d6_36) rfl (l' := #[.val (.ref a0), .val (.int (1 : Int32)), .val (.int (v1 &&& (255 : Int32))), .val (.int (2 : Int32)), .unset, .unset, .unset, .unset, .unset]) rfl k) ?_
  show OGo p.tables e below _ (T102.setTop (mkF m 37 #[.val (.ref a0), .val (.int (1 : Int32)), .val (.int (v1 &&& (255 : Int32))), .val (.int (2 : Int32)), .unset, .unset, .unset, .unset, .unset] []))
  refine OGo.st (fun t k => XS.iloadN X102.here hx rfl (hb hby d6_37) rfl k) ?_
  show OGo p.tables e below _ (T102.setTop (mkF m 38 #[.val (.ref a0), .val (.int (1 : Int32)), .val (.int (v1 &&& (255 : Int32))), .val (.int (2 : Int32)), .unset, .unset, .unset, .unset, .unset] [(.int (2 : Int32))]))
  refine OGo.st (fun t k => XS.aloadN X102.here hx rfl (hb hby d6_38) rfl rfl k) ?_
  show OGo p.tables e below _ (T102.setTop (mkF m 39 #[.val (.ref a0), .val (.int (1 : Int32)), .val (.int (v1 &&& (255 : Int32))), .val (.int (2 : Int32)), .unset, .unset, .unset, .unset, .unset] [(.ref a0), (.int (2 : Int32))]))
  obtain ⟨T103, X103, e103, st103⟩ := getF X102 hx hZ hown (host := "") (Or.inl (hw _ (List.mem_of_getElem? (i := 14) rfl))) Via.refl e102 F3 (g := (mkF m 39 #[.val (.ref a0), .val (.int (1 : Int32)), .val (.int (v1 &&& (255 : Int32))), .val (.int (2 : Int32)), .unset, .unset, .unset, .unset, .unset] [(.ref a0), (.int (2 : Int32))])) rfl rfl (hb hby d6_39)
  refine OGo.st st103 ?_
  show OGo p.tables e below _ (T103.setTop (mkF m 42 #[.val (.ref a0), .val (.int (1 : Int32)), .val (.int (v1 &&& (255 : Int32))), .val (.int (2 : Int32)), .unset, .unset, .unset, .unset, .unset] [(.int en), (.int (2 : Int32))]))
  refine OGo.st (fun t k => XS.icmpYes X103.here hx rfl (pc0 := 42) (pc' := 59) rfl (hb hby d6_42) rfl (tlt (he : (2 : Int32) < en)).1 (by decide) (by decide) k) ?_
  show OGo p.tables e below _ (T103.setTop (mkF m 59 #[.val (.ref a0), .val (.int (1 : Int32)), .val (.int (v1 &&& (255 : Int32))), .val (.int (2 : Int32)), .unset, .unset, .unset, .unset, .unset] []))
  refine OGo.st (fun t k => XS.aloadN X103.here hx rfl (hb hby d6_59) rfl rfl k) ?_
  show OGo p.tables e below _ (T103.setTop (mkF m 60 #[.val (.ref a0), .val (.int (1 : Int32)), .val (.int (v1 &&& (255 : Int32))), .val (.int (2 : Int32)), .unset, .unset, .unset, .unset, .unset] [(.ref a0)]))
  obtain ⟨T104, X104, e104, st104⟩ := getF X103 hx hZ hown (host := "") (Or.inl (hw _ (List.mem_of_getElem? (i := 10) rfl))) Via.refl e103 F1 (g := (mkF m 60 #[.val (.ref a0), .val (.int (1 : Int32)), .val (.int (v1 &&& (255 : Int32))), .val (.int (2 : Int32)), .unset, .unset, .unset, .unset, .unset] [(.ref a0)])) rfl rfl (hb hby d6_60)
  refine OGo.st st104 ?_
  show OGo p.tables e below _ (T104.setTop (mkF m 63 #[.val (.ref a0), .val (.int (1 : Int32)), .val (.int (v1 &&& (255 : Int32))), .val (.int (2 : Int32)), .unset, .unset, .unset, .unset, .unset] [(.ref b)]))
  refine OGo.st (fun t k => XS.iloadN X104.here hx rfl (hb hby d6_63) rfl k) ?_
  show OGo p.tables e below _ (T104.setTop (mkF m 64 #[.val (.ref a0), .val (.int (1 : Int32)), .val (.int (v1 &&& (255 : Int32))), .val (.int (2 : Int32)), .unset, .unset, .unset, .unset, .unset] [(.int (2 : Int32)), (.ref b)]))
  refine OGo.st (fun t k => XS.iinc X104.here hx rfl (hb hby d6_64) rfl (l' := #[.val (.ref a0), .val (.int (1 : Int32)), .val (.int (v1 &&& (255 : Int32))), .val (.int (3 : Int32)), .unset, .unset, .unset, .unset, .unset]) rfl k) ?_
  show OGo p.tables e below _ (T104.setTop (mkF m 67 #[.val (.ref a0), .val (.int (1 : Int32)), .val (.int (v1 &&& (255 : Int32))), .val (.int (3 : Int32)), .unset, .unset, .unset, .unset, .unset] [(.int (2 : Int32)), (.ref b)]))
  obtain ⟨cl105, Ar105, qc105, Sz105, Nz105, Hs105, Gs105⟩ := id V0
  have hin105 : ¬ ((2 : Int32) < 0 ∨ cl105.slots.size ≤ ((2 : Int32)).toNatClampNeg) := inb_of Sz105 ⟨by decide, by decide⟩
  have hat105 : cl105.slots[((2 : Int32)).toNatClampNeg]? = some (.int v2) := Has.at Hs105 hin105 rfl
  refine OGo.st (fun t k => X104.baloadBytes hx (j := (2 : Int32)) (v := (.int v2)) (by rw [e104]; exact Ar105.1) (State.isArrayOf_alike hZ.alike Ar105.2.1) Ar105.2.2 hin105 hat105 (g := (mkF m 67 #[.val (.ref a0), .val (.int (1 : Int32)), .val (.int (v1 &&& (255 : Int32))), .val (.int (3 : Int32)), .unset, .unset, .unset, .unset, .unset] [(.int (2 : Int32)), (.ref b)])) rfl rfl (hb hby d6_67) _ k) ?_
  show OGo p.tables e below _ (T104.setTop (mkF m 68 #[.val (.ref a0), .val (.int (1 : Int32)), .val (.int (v1 &&& (255 : Int32))), .val (.int (3 : Int32)), .unset, .unset, .unset, .unset, .unset] [(.int v2)]))
  refine OGo.st (fun t k => XS.sipush X104.here hx rfl (hb hby d6_68) k) ?_
  show OGo p.tables e below _ (T104.setTop (mkF m 71 #[.val (.ref a0), .val (.int (1 : Int32)), .val (.int (v1 &&& (255 : Int32))), .val (.int (3 : Int32)), .unset, .unset, .unset, .unset, .unset] [(.int (255 : Int32)), (.int v2)]))
  refine OGo.st (fun t k => XS.iand X104.here hx rfl (hb hby d6_71) rfl k) ?_
  show OGo p.tables e below _ (T104.setTop (mkF m 72 #[.val (.ref a0), .val (.int (1 : Int32)), .val (.int (v1 &&& (255 : Int32))), .val (.int (3 : Int32)), .unset, .unset, .unset, .unset, .unset] [(.int (v2 &&& (255 : Int32)))]))
  refine OGo.st (fun t k => XS.istore X104.here hx rfl (hb hby d6_72) rfl (l' := #[.val (.ref a0), .val (.int (1 : Int32)), .val (.int (v1 &&& (255 : Int32))), .val (.int (3 : Int32)), .val (.int (v2 &&& (255 : Int32))), .unset, .unset, .unset, .unset]) rfl k) ?_
  show OGo p.tables e below _ (T104.setTop (mkF m 74 #[.val (.ref a0), .val (.int (1 : Int32)), .val (.int (v1 &&& (255 : Int32))), .val (.int (3 : Int32)), .val (.int (v2 &&& (255 : Int32))), .unset, .unset, .unset, .unset] []))
  rw [hl]
  show OGo p.tables e below _ (T104.setTop (mkF m 74 #[.val (.ref a0), .val (.int (1 : Int32)), .val (.int (v1 &&& (255 : Int32))), .val (.int (3 : Int32)), .val (.int ll), .unset, .unset, .unset, .unset] []))
  refine OGo.st (fun t k => XS.iload X104.here hx rfl (hb hby d6_74) rfl k) ?_
  show OGo p.tables e below _ (T104.setTop (mkF m 76 #[.val (.ref a0), .val (.int (1 : Int32)), .val (.int (v1 &&& (255 : Int32))), .val (.int (3 : Int32)), .val (.int ll), .unset, .unset, .unset, .unset] [(.int ll)]))
  refine OGo.st (fun t k => XS.sipush X104.here hx rfl (hb hby d6_76) k) ?_
  show OGo p.tables e below _ (T104.setTop (mkF m 79 #[.val (.ref a0), .val (.int (1 : Int32)), .val (.int (v1 &&& (255 : Int32))), .val (.int (3 : Int32)), .val (.int ll), .unset, .unset, .unset, .unset] [(.int (128 : Int32)), (.int ll)]))
  refine OGo.st (fun t k => XS.icmpNo X104.here hx rfl (hb hby d6_79) rfl (tlt (hl2 : ll < (128 : Int32))).2.1 k) ?_
  show OGo p.tables e below _ (T104.setTop (mkF m 82 #[.val (.ref a0), .val (.int (1 : Int32)), .val (.int (v1 &&& (255 : Int32))), .val (.int (3 : Int32)), .val (.int ll), .unset, .unset, .unset, .unset] []))
  refine OGo.st (fun t k => XS.iload X104.here hx rfl (hb hby d6_82) rfl k) ?_
  show OGo p.tables e below _ (T104.setTop (mkF m 84 #[.val (.ref a0), .val (.int (1 : Int32)), .val (.int (v1 &&& (255 : Int32))), .val (.int (3 : Int32)), .val (.int ll), .unset, .unset, .unset, .unset] [(.int ll)]))
  refine OGo.st (fun t k => XS.i2l X104.here hx rfl (hb hby d6_84) rfl k) ?_
  show OGo p.tables e below _ (T104.setTop (mkF m 85 #[.val (.ref a0), .val (.int (1 : Int32)), .val (.int (v1 &&& (255 : Int32))), .val (.int (3 : Int32)), .val (.int ll), .unset, .unset, .unset, .unset] [(.long ((ll).toInt64))]))
  refine OGo.st (fun t k => XS.lstore X104.here hx rfl (hb hby d6_85) rfl (l' := #[.val (.ref a0), .val (.int (1 : Int32)), .val (.int (v1 &&& (255 : Int32))), .val (.int (3 : Int32)), .val (.int ll), .val (.long ((ll).toInt64)), .second, .unset, .unset]) rfl k) ?_
  show OGo p.tables e below _ (T104.setTop (mkF m 87 #[.val (.ref a0), .val (.int (1 : Int32)), .val (.int (v1 &&& (255 : Int32))), .val (.int (3 : Int32)), .val (.int ll), .val (.long ((ll).toInt64)), .second, .unset, .unset] []))
  refine OGo.st (fun t k => XS.goto X104.here hx rfl (pc0 := 87) (pc' := 242) rfl (hb hby d6_87) (by decide) (by decide) k) ?_
  show OGo p.tables e below _ (T104.setTop (mkF m 242 #[.val (.ref a0), .val (.int (1 : Int32)), .val (.int (v1 &&& (255 : Int32))), .val (.int (3 : Int32)), .val (.int ll), .val (.long ((ll).toInt64)), .second, .unset, .unset] []))
  refine OGo.st (fun t k => XS.lload X104.here hx rfl (hb hby d6_242) rfl k) ?_
  show OGo p.tables e below _ (T104.setTop (mkF m 244 #[.val (.ref a0), .val (.int (1 : Int32)), .val (.int (v1 &&& (255 : Int32))), .val (.int (3 : Int32)), .val (.int ll), .val (.long ((ll).toInt64)), .second, .unset, .unset] [(.long ((ll).toInt64))]))
  refine OGo.st (fun t k => XS.aloadN X104.here hx rfl (hb hby d6_244) rfl rfl k) ?_
  show OGo p.tables e below _ (T104.setTop (mkF m 245 #[.val (.ref a0), .val (.int (1 : Int32)), .val (.int (v1 &&& (255 : Int32))), .val (.int (3 : Int32)), .val (.int ll), .val (.long ((ll).toInt64)), .second, .unset, .unset] [(.ref a0), (.long ((ll).toInt64))]))
  obtain ⟨T106, X106, e106, st106⟩ := getF X104 hx hZ hown (host := "") (Or.inl (hw _ (List.mem_of_getElem? (i := 14) rfl))) Via.refl e104 F3 (g := (mkF m 245 #[.val (.ref a0), .val (.int (1 : Int32)), .val (.int (v1 &&& (255 : Int32))), .val (.int (3 : Int32)), .val (.int ll), .val (.long ((ll).toInt64)), .second, .unset, .unset] [(.ref a0), (.long ((ll).toInt64))])) rfl rfl (hb hby d6_245)
  refine OGo.st st106 ?_
  show OGo p.tables e below _ (T106.setTop (mkF m 248 #[.val (.ref a0), .val (.int (1 : Int32)), .val (.int (v1 &&& (255 : Int32))), .val (.int (3 : Int32)), .val (.int ll), .val (.long ((ll).toInt64)), .second, .unset, .unset] [(.int en), (.long ((ll).toInt64))]))
  refine OGo.st (fun t k => XS.iloadN X106.here hx rfl (hb hby d6_248) rfl k) ?_
  show OGo p.tables e below _ (T106.setTop (mkF m 249 #[.val (.ref a0), .val (.int (1 : Int32)), .val (.int (v1 &&& (255 : Int32))), .val (.int (3 : Int32)), .val (.int ll), .val (.long ((ll).toInt64)), .second, .unset, .unset] [(.int (3 : Int32)), (.int en), (.long ((ll).toInt64))]))
  refine OGo.st (fun t k => XS.isub X106.here hx rfl (hb hby d6_249) rfl k) ?_
  show OGo p.tables e below _ (T106.setTop (mkF m 250 #[.val (.ref a0), .val (.int (1 : Int32)), .val (.int (v1 &&& (255 : Int32))), .val (.int (3 : Int32)), .val (.int ll), .val (.long ((ll).toInt64)), .second, .unset, .unset] [(.int (en - (3 : Int32))), (.long ((ll).toInt64))]))
  refine OGo.st (fun t k => XS.i2l X106.here hx rfl (hb hby d6_250) rfl k) ?_
  show OGo p.tables e below _ (T106.setTop (mkF m 251 #[.val (.ref a0), .val (.int (1 : Int32)), .val (.int (v1 &&& (255 : Int32))), .val (.int (3 : Int32)), .val (.int ll), .val (.long ((ll).toInt64)), .second, .unset, .unset] [(.long (((en - (3 : Int32))).toInt64)), (.long ((ll).toInt64))]))
  refine OGo.st (fun t k => XS.lcmp X106.here hx rfl (hb hby d6_251) rfl k) ?_
  show OGo p.tables e below _ (T106.setTop (mkF m 252 #[.val (.ref a0), .val (.int (1 : Int32)), .val (.int (v1 &&& (255 : Int32))), .val (.int (3 : Int32)), .val (.int ll), .val (.long ((ll).toInt64)), .second, .unset, .unset] [(.int (lcmpW ((ll).toInt64) (((en - (3 : Int32))).toInt64)))]))
  refine OGo.st (fun t k => XS.ifYes X106.here hx rfl (pc0 := 252) (pc' := 277) rfl (hb hby d6_252) rfl ((if0 _ _).trans (flt (hf : ¬ ((0 : Int32) < (lcmpW ((ll).toInt64) (((en - (3 : Int32))).toInt64))))).2.2.2) (by decide) (by decide) k) ?_
  show OGo p.tables e below _ (T106.setTop (mkF m 277 #[.val (.ref a0), .val (.int (1 : Int32)), .val (.int (v1 &&& (255 : Int32))), .val (.int (3 : Int32)), .val (.int ll), .val (.long ((ll).toInt64)), .second, .unset, .unset] []))
  refine OGo.st (fun t k => XS.aloadN X106.here hx rfl (hb hby d6_277) rfl rfl k) ?_
  show OGo p.tables e below _ (T106.setTop (mkF m 278 #[.val (.ref a0), .val (.int (1 : Int32)), .val (.int (v1 &&& (255 : Int32))), .val (.int (3 : Int32)), .val (.int ll), .val (.long ((ll).toInt64)), .second, .unset, .unset] [(.ref a0)]))
  refine OGo.st (fun t k => XS.iloadN X106.here hx rfl (hb hby d6_278) rfl k) ?_
  show OGo p.tables e below _ (T106.setTop (mkF m 279 #[.val (.ref a0), .val (.int (1 : Int32)), .val (.int (v1 &&& (255 : Int32))), .val (.int (3 : Int32)), .val (.int ll), .val (.long ((ll).toInt64)), .second, .unset, .unset] [(.int (3 : Int32)), (.ref a0)]))
  refine OGo.st (fun t k => XS.lload X106.here hx rfl (hb hby d6_279) rfl k) ?_
  show OGo p.tables e below _ (T106.setTop (mkF m 281 #[.val (.ref a0), .val (.int (1 : Int32)), .val (.int (v1 &&& (255 : Int32))), .val (.int (3 : Int32)), .val (.int ll), .val (.long ((ll).toInt64)), .second, .unset, .unset] [(.long ((ll).toInt64)), (.int (3 : Int32)), (.ref a0)]))
  refine OGo.st (fun t k => XS.l2i X106.here hx rfl (hb hby d6_281) rfl k) ?_
  show OGo p.tables e below _ (T106.setTop (mkF m 282 #[.val (.ref a0), .val (.int (1 : Int32)), .val (.int (v1 &&& (255 : Int32))), .val (.int (3 : Int32)), .val (.int ll), .val (.long ((ll).toInt64)), .second, .unset, .unset] [(.int ((((ll).toInt64)).toInt32)), (.int (3 : Int32)), (.ref a0)]))
  refine OGo.st (fun t k => XS.iadd X106.here hx rfl (hb hby d6_282) rfl k) ?_
  show OGo p.tables e below _ (T106.setTop (mkF m 283 #[.val (.ref a0), .val (.int (1 : Int32)), .val (.int (v1 &&& (255 : Int32))), .val (.int (3 : Int32)), .val (.int ll), .val (.long ((ll).toInt64)), .second, .unset, .unset] [(.int ((3 : Int32) + ((((ll).toInt64)).toInt32))), (.ref a0)]))
  obtain ⟨T107, h107, X107, e107, W107, st107⟩ := putF X106 hx hZ hown (host := "") (Or.inl (hw _ (List.mem_of_getElem? (i := 12) rfl))) Via.refl e106 F2 E0 (Or.inl (hw _ (List.mem_of_getElem? (i := 13) rfl))) (hw _ (List.mem_of_getElem? (i := 1) rfl)) (ty := .int) (by decide) rfl rfl (g := (mkF m 283 #[.val (.ref a0), .val (.int (1 : Int32)), .val (.int (v1 &&& (255 : Int32))), .val (.int (3 : Int32)), .val (.int ll), .val (.long ((ll).toInt64)), .second, .unset, .unset] [(.int ((3 : Int32) + ((((ll).toInt64)).toInt32))), (.ref a0)])) rfl rfl (hb hby d6_283)
  refine OGo.st st107 ?_
  have Fw107 : Fld Z h107 a0 "com/example/holdfast/holdfast/resources/DerReader" "position" "I" (.int ((3 : Int32) + ((((ll).toInt64)).toInt32))) := Fld.same W107 F2
  have N107 := Fr.snoc X107 N102 g0
  show OGo p.tables e below _ (T107.setTop (mkF m 286 #[.val (.ref a0), .val (.int (1 : Int32)), .val (.int (v1 &&& (255 : Int32))), .val (.int (3 : Int32)), .val (.int ll), .val (.long ((ll).toInt64)), .second, .unset, .unset] []))
  have G108 : Exa Z h107 a0 "com/example/holdfast/holdfast/resources/DerReader" := (Exa.wr W107 E0)
  have G109 : Arv Z h107 b k .byte (10 : Int32) [(.int v0), (.int v1), (.int v2), (.int v3)] (.int (0 : Int32)) := (V0.other W107 (Ne.symm nab))
  obtain ⟨T110, h110, X110, e110, E110, A110, D110, -, st110⟩ := newO X107 hx hZ hown (hw _ (List.mem_of_getElem? (i := 32) rfl)) (hw _ (List.mem_of_getElem? (i := 33) rfl)) (hw _ (List.mem_of_getElem? (i := 34) rfl)) e107 (g := (mkF m 286 #[.val (.ref a0), .val (.int (1 : Int32)), .val (.int (v1 &&& (255 : Int32))), .val (.int (3 : Int32)), .val (.int ll), .val (.long ((ll).toInt64)), .second, .unset, .unset] [])) rfl (hb hby d6_286) (by decide) (by decide)
  obtain ⟨b110, g110⟩ : ∃ z, z = h107.size := ⟨_, rfl⟩
  rw [← g110] at A110 D110 st110
  have ge_b110 : n0 ≤ b110 := Nat.le_trans (Nat.le_trans Z0 (Keep.of_wr W107).1) (Nat.le_of_eq g110.symm)
  have sz_b110 : h0.size ≤ b110 := Nat.le_trans (Nat.le_trans (Nat.le_refl h0.size) (Keep.of_wr W107).1) (Nat.le_of_eq g110.symm)
  have ne_a0_b110 : a0 ≠ b110 := Nat.ne_of_lt (Nat.lt_of_lt_of_le G108.lt (Nat.le_of_eq g110.symm))
  have ne_b_b110 : b ≠ b110 := Nat.ne_of_lt (Nat.lt_of_lt_of_le G109.lt (Nat.le_of_eq g110.symm))
  refine OGo.st st110 ?_
  have Fn110_source : Fld Z h110 b110 "com/example/holdfast/holdfast/resources/DerValue" "source" "[B" .null := D110 (Or.inr (hw _ (List.mem_of_getElem? (i := 40) rfl))) (ty := (.array .byte)) (by decide)
  have Fn110_tag : Fld Z h110 b110 "com/example/holdfast/holdfast/resources/DerValue" "tag" "I" (.int (0 : Int32)) := D110 (Or.inr (hw _ (List.mem_of_getElem? (i := 42) rfl))) (ty := .int) (by decide)
  have Fn110_offset : Fld Z h110 b110 "com/example/holdfast/holdfast/resources/DerValue" "offset" "I" (.int (0 : Int32)) := D110 (Or.inr (hw _ (List.mem_of_getElem? (i := 44) rfl))) (ty := .int) (by decide)
  have Fn110_contentStart : Fld Z h110 b110 "com/example/holdfast/holdfast/resources/DerValue" "contentStart" "I" (.int (0 : Int32)) := D110 (Or.inr (hw _ (List.mem_of_getElem? (i := 46) rfl))) (ty := .int) (by decide)
  have Fn110_end : Fld Z h110 b110 "com/example/holdfast/holdfast/resources/DerValue" "end" "I" (.int (0 : Int32)) := D110 (Or.inr (hw _ (List.mem_of_getElem? (i := 48) rfl))) (ty := .int) (by decide)
  show OGo p.tables e below _ (T110.setTop (mkF m 289 #[.val (.ref a0), .val (.int (1 : Int32)), .val (.int (v1 &&& (255 : Int32))), .val (.int (3 : Int32)), .val (.int ll), .val (.long ((ll).toInt64)), .second, .unset, .unset] [(.ref b110)]))
  refine OGo.st (fun t k => XS.dup X110.here hx rfl (hb hby d6_289) rfl rfl k) ?_
  show OGo p.tables e below _ (T110.setTop (mkF m 290 #[.val (.ref a0), .val (.int (1 : Int32)), .val (.int (v1 &&& (255 : Int32))), .val (.int (3 : Int32)), .val (.int ll), .val (.long ((ll).toInt64)), .second, .unset, .unset] [(.ref b110), (.ref b110)]))
  refine OGo.st (fun t k => XS.aloadN X110.here hx rfl (hb hby d6_290) rfl rfl k) ?_
  show OGo p.tables e below _ (T110.setTop (mkF m 291 #[.val (.ref a0), .val (.int (1 : Int32)), .val (.int (v1 &&& (255 : Int32))), .val (.int (3 : Int32)), .val (.int ll), .val (.long ((ll).toInt64)), .second, .unset, .unset] [(.ref a0), (.ref b110), (.ref b110)]))
  have G111 : Fld Z h110 a0 "com/example/holdfast/holdfast/resources/DerReader" "bytes" "[B" (.ref b) := (Fld.ext E110 (Fld.other W107 F1 (Or.inr (slot_ne (Or.inr (hw _ (List.mem_of_getElem? (i := 11) rfl))) (Or.inl (hw _ (List.mem_of_getElem? (i := 13) rfl))) (by decide) (t := (.array .byte)) (t' := .int) (by decide) (by decide)))))
  obtain ⟨T112, X112, e112, st112⟩ := getF X110 hx hZ hown (host := "") (Or.inl (hw _ (List.mem_of_getElem? (i := 10) rfl))) Via.refl e110 G111 (g := (mkF m 291 #[.val (.ref a0), .val (.int (1 : Int32)), .val (.int (v1 &&& (255 : Int32))), .val (.int (3 : Int32)), .val (.int ll), .val (.long ((ll).toInt64)), .second, .unset, .unset] [(.ref a0), (.ref b110), (.ref b110)])) rfl rfl (hb hby d6_291)
  refine OGo.st st112 ?_
  show OGo p.tables e below _ (T112.setTop (mkF m 294 #[.val (.ref a0), .val (.int (1 : Int32)), .val (.int (v1 &&& (255 : Int32))), .val (.int (3 : Int32)), .val (.int ll), .val (.long ((ll).toInt64)), .second, .unset, .unset] [(.ref b), (.ref b110), (.ref b110)]))
  refine OGo.st (fun t k => XS.iloadN X112.here hx rfl (hb hby d6_294) rfl k) ?_
  show OGo p.tables e below _ (T112.setTop (mkF m 295 #[.val (.ref a0), .val (.int (1 : Int32)), .val (.int (v1 &&& (255 : Int32))), .val (.int (3 : Int32)), .val (.int ll), .val (.long ((ll).toInt64)), .second, .unset, .unset] [(.int (v1 &&& (255 : Int32))), (.ref b), (.ref b110), (.ref b110)]))
  refine OGo.st (fun t k => XS.iloadN X112.here hx rfl (hb hby d6_295) rfl k) ?_
  show OGo p.tables e below _ (T112.setTop (mkF m 296 #[.val (.ref a0), .val (.int (1 : Int32)), .val (.int (v1 &&& (255 : Int32))), .val (.int (3 : Int32)), .val (.int ll), .val (.long ((ll).toInt64)), .second, .unset, .unset] [(.int (1 : Int32)), (.int (v1 &&& (255 : Int32))), (.ref b), (.ref b110), (.ref b110)]))
  refine OGo.st (fun t k => XS.iloadN X112.here hx rfl (hb hby d6_296) rfl k) ?_
  show OGo p.tables e below _ (T112.setTop (mkF m 297 #[.val (.ref a0), .val (.int (1 : Int32)), .val (.int (v1 &&& (255 : Int32))), .val (.int (3 : Int32)), .val (.int ll), .val (.long ((ll).toInt64)), .second, .unset, .unset] [(.int (3 : Int32)), (.int (1 : Int32)), (.int (v1 &&& (255 : Int32))), (.ref b), (.ref b110), (.ref b110)]))
  refine OGo.st (fun t k => XS.aloadN X112.here hx rfl (hb hby d6_297) rfl rfl k) ?_
  show OGo p.tables e below _ (T112.setTop (mkF m 298 #[.val (.ref a0), .val (.int (1 : Int32)), .val (.int (v1 &&& (255 : Int32))), .val (.int (3 : Int32)), .val (.int ll), .val (.long ((ll).toInt64)), .second, .unset, .unset] [(.ref a0), (.int (3 : Int32)), (.int (1 : Int32)), (.int (v1 &&& (255 : Int32))), (.ref b), (.ref b110), (.ref b110)]))
  have G113 : Fld Z h110 a0 "com/example/holdfast/holdfast/resources/DerReader" "position" "I" (.int ((3 : Int32) + ((((ll).toInt64)).toInt32))) := (Fld.ext E110 Fw107)
  obtain ⟨T114, X114, e114, st114⟩ := getF X112 hx hZ hown (host := "") (Or.inl (hw _ (List.mem_of_getElem? (i := 12) rfl))) Via.refl e112 G113 (g := (mkF m 298 #[.val (.ref a0), .val (.int (1 : Int32)), .val (.int (v1 &&& (255 : Int32))), .val (.int (3 : Int32)), .val (.int ll), .val (.long ((ll).toInt64)), .second, .unset, .unset] [(.ref a0), (.int (3 : Int32)), (.int (1 : Int32)), (.int (v1 &&& (255 : Int32))), (.ref b), (.ref b110), (.ref b110)])) rfl rfl (hb hby d6_298)
  refine OGo.st st114 ?_
  show OGo p.tables e below _ (T114.setTop (mkF m 301 #[.val (.ref a0), .val (.int (1 : Int32)), .val (.int (v1 &&& (255 : Int32))), .val (.int (3 : Int32)), .val (.int ll), .val (.long ((ll).toInt64)), .second, .unset, .unset] [(.int ((3 : Int32) + ((((ll).toInt64)).toInt32))), (.int (3 : Int32)), (.int (1 : Int32)), (.int (v1 &&& (255 : Int32))), (.ref b), (.ref b110), (.ref b110)]))
  obtain ⟨_, _, ⟨T115, L115, kk115, nn115⟩, -, X115, ⟨Lc115, hQ115, l115, y115, z115⟩, st115⟩ := X114.specialBack hx (y := (⟨"com/example/holdfast/holdfast/resources/DerValue", "<init>", "([BIIII)V"⟩ : MethodName)) rfl hown (mvT hZ (hw _ (List.mem_of_getElem? (i := 35) rfl))) (mvT hZ (hw _ (List.mem_of_getElem? (i := 36) rfl))) (mvT hZ (hw _ (List.mem_of_getElem? (i := 37) rfl))) (by decide) (backOf (W := 1) (rm2 l Z ar hw [] b110 b (v1 &&& (255 : Int32)) (1 : Int32) (3 : Int32) ((3 : Int32) + ((((ll).toInt64)).toInt32)) h110 n0 (Nat.le_trans (Nat.le_trans Z0 (Keep.of_wr W107).1) E110.1) A110 ge_b110 Fn110_source Fn110_tag Fn110_offset Fn110_contentStart Fn110_end) hZ (hw _ (List.mem_of_getElem? (i := 37) rfl)) (hw _ (List.mem_of_getElem? (i := 34) rfl)) (by decide) (by decide)) (g := (mkF m 301 #[.val (.ref a0), .val (.int (1 : Int32)), .val (.int (v1 &&& (255 : Int32))), .val (.int (3 : Int32)), .val (.int ll), .val (.long ((ll).toInt64)), .second, .unset, .unset] [(.int ((3 : Int32) + ((((ll).toInt64)).toInt32))), (.int (3 : Int32)), (.int (1 : Int32)), (.int (v1 &&& (255 : Int32))), (.ref b), (.ref b110), (.ref b110)])) rfl (by rw [hml]; rfl) (Steps.refl _) (a := b110) (argsL := [(.ref b), (.int (v1 &&& (255 : Int32))), (.int (1 : Int32)), (.int (3 : Int32)), (.int ((3 : Int32) + ((((ll).toInt64)).toInt32)))]) (rest := [(.ref b110)]) (lenOf pd_2 rfl) rfl (by show 2 * 0 + _ ≤ _; exact Nat.le_of_eq rfl) (hb hby d6_301) (fun _ _ => ⟨rfl, e114, (by decide : 1 + 0 ≤ _), (by decide : 5 + 0 ≤ _)⟩)
  dsimp only [Pt.U, Pt.locs, Pt.cells, Pt.slots] at X115 l115 y115 z115 st115 hQ115
  subst l115 y115 z115
  obtain ⟨rfl, Nq115, K115⟩ := hQ115
  have N115 := Fr.app N107 Nq115
  refine OGo.st (fun t k => st115.trans k) ?_
  show OGo p.tables e below _ (T115.setTop (mkF m 304 #[.val (.ref a0), .val (.int (1 : Int32)), .val (.int (v1 &&& (255 : Int32))), .val (.int (3 : Int32)), .val (.int ll), .val (.long ((ll).toInt64)), .second, .unset, .unset] [(.ref b110)]))
  obtain ⟨fs, hr, hrun, hended, hW, hsame⟩ := X115.leave (v := some (.ref b110)) (fun h => by rw [Bd.returns] at h; cases h)
  have G117 : Fld Z T115.heap a0 "com/example/holdfast/holdfast/resources/DerReader" "position" "I" (.int ((3 : Int32) + ((((ll).toInt64)).toInt32))) := (G113.keep K115 (ninS ne_a0_b110 nin0))
  have G118 : Fld Z T115.heap a0 "com/example/holdfast/holdfast/resources/DerReader" "end" "I" (.int en) := ((Fld.ext E110 (Fld.other W107 F3 (Or.inr (slot_ne (Or.inr (hw _ (List.mem_of_getElem? (i := 15) rfl))) (Or.inl (hw _ (List.mem_of_getElem? (i := 13) rfl))) (by decide) (t := .int) (t' := .int) (by decide) (by decide))))).keep K115 (ninS ne_a0_b110 nin0))
  refine OGo.done (own_retR X115 hx Bd.returns rfl rfl (hb hby d6_304) hr) ⟨hrun, hended, _, _, rfl, ?_, ⟨_, rfl⟩, hW, hsame.mono (by decide) (by decide)⟩
  show Q6 Z a0 b k v0 v1 v2 v3 en ll h0 n0 _ T115.heap _
  exact ⟨b110, rfl, N115, ((((Keep.refl h0 [a0]).wr W107 (Or.inl (List.mem_of_getElem? (i := 0) rfl))).ext E110).trans K115 (allS (Or.inr sz_b110) all0)), G117, G118⟩
theorem pd_3 : parseMethodDescriptor "([BII)V" = some ⟨[(.array .byte), .int, .int], none⟩ := by decide +kernel
theorem pd_4 : parseMethodDescriptor "()Lcom/example/holdfast/holdfast/resources/DerValue;" = some ⟨[], some (.object "com/example/holdfast/holdfast/resources/DerValue")⟩ := by decide +kernel
theorem pn_2 : plainName "com/example/holdfast/holdfast/resources/DerReaderHasMorePinLaw" = true := by first | (simp [plainName, overriddenIn]; done) | decide +kernel
theorem ef_7 (m : MethodId) (x0 : Int32) (x1 : Int32) (x2 : Int32) (x3 : Int32) : entryFrame m #[(.int x0), (.int x1), (.int x2), (.int x3)] maxLocals = mkF m 0 #[.val (.int x0), .val (.int x1), .val (.int x2), .val (.int x3), .unset, .unset, .unset, .unset, .unset, .unset, .unset, .unset, .unset, .unset] [] := by first | (simp [entryFrame, mkF, argsToLocals, Value.category, maxLocals]; done) | rfl
def Q7 (Z : State) (p0 : Int32) (p1 : Int32) (p2 : Int32) (p3 : Int32) (h0 : Heap) (n0 : Nat) (v : Option Value) (h : Heap) (L : List Loc) : Prop := v = some (.int (1 : Int32)) ∧ Fr n0 L
set_option maxRecDepth 65536 in
set_option maxHeartbeats 40000000 in
theorem rm7 (l : Launch) (Z : State) (ar : Array Value) (hw : ∀ d ∈ tables_1, d.before ar Z = true) (ws : List Jvm.Cond) (p0 : Int32) (p1 : Int32) (p2 : Int32) (p3 : Int32) (h0 : Heap) (n0 : Nat) (Z0 : n0 ≤ h0.size)  :
    MetFree l x (head1 (Jvm.Cond.code x code maxLocals ret :: ws) room_1) (fun a U => a = #[(.int p0), (.int p1), (.int p2), (.int p3)] ∧ Z.Warmed39 U.vm ∧ U.heap = h0) (fun _ _ _ _ _ => True) (fun _ U o U' => ∃ v L, o = .returned v ∧ Q7 Z p0 p1 p2 p3 h0 n0 v U'.heap L ∧ FrameEnd U o U' L room_1.cells room_1.slots) := by
  refine MetFree.of_bodySF (plainFor_of_name pn_2) hisR ?_
  intro p e s m args below meth c s₁ Bd hml0 hP hK
  obtain ⟨rfl, hZ, hh⟩ := hP
  have hx := Bd.exec
  have hby := Bd.bytes
  have hml : c.maxLocals = 14 := hml0
  have hown : s.vm.findClass "com/example/holdfast/holdfast/resources/DerReaderHasMorePinLaw" = some m.cls := findClass_of_methodNamed Bd.named
  have hnm := (name_of_methodNamed Bd.named Bd.method).1
  have X0 : Stand p l e room_1 s m #[(.int p0), (.int p1), (.int p2), (.int p3)] below meth c s₁ [] 0 0 := Stand.of_body Bd
  have e0 : s₁.heap = h0 := by rw [← hh, Bd.state]; rfl
  have N0 := Fr.nil n0
  have pre0 : ∀ t, Steps p.tables e below (s₁.setTop (mkF m 0 #[.val (.int p0), .val (.int p1), .val (.int p2), .val (.int p3), .unset, .unset, .unset, .unset, .unset, .unset, .unset, .unset, .unset, .unset] [])) t → Steps p.tables e below (s₁.setTop (entryFrame m #[(.int p0), (.int p1), (.int p2), (.int p3)] maxLocals)) t := fun t k => castTop (ef_7 m p0 p1 p2 p3) k
  refine OGo.start pre0 ?_
  show OGo p.tables e below _ (s₁.setTop (mkF m 0 #[.val (.int p0), .val (.int p1), .val (.int p2), .val (.int p3), .unset, .unset, .unset, .unset, .unset, .unset, .unset, .unset, .unset, .unset] []))
  obtain ⟨T101, h101, X101, e101, E101, A101, D101, -, st101⟩ := newO X0 hx hZ hown (hw _ (List.mem_of_getElem? (i := 0) rfl)) (hw _ (List.mem_of_getElem? (i := 1) rfl)) (hw _ (List.mem_of_getElem? (i := 2) rfl)) e0 (g := (mkF m 0 #[.val (.int p0), .val (.int p1), .val (.int p2), .val (.int p3), .unset, .unset, .unset, .unset, .unset, .unset, .unset, .unset, .unset, .unset] [])) rfl (hb hby at_0) (by decide) (by decide)
  obtain ⟨b101, g101⟩ : ∃ z, z = h0.size := ⟨_, rfl⟩
  rw [← g101] at A101 D101 st101
  have ge_b101 : n0 ≤ b101 := Nat.le_trans Z0 (Nat.le_of_eq g101.symm)
  have sz_b101 : h0.size ≤ b101 := Nat.le_trans (Nat.le_refl h0.size) (Nat.le_of_eq g101.symm)
  refine OGo.st st101 ?_
  have Fn101_bytes : Fld Z h101 b101 "com/example/holdfast/holdfast/resources/DerReader" "bytes" "[B" .null := D101 (Or.inr (hw _ (List.mem_of_getElem? (i := 11) rfl))) (ty := (.array .byte)) (by decide)
  have Fn101_position : Fld Z h101 b101 "com/example/holdfast/holdfast/resources/DerReader" "position" "I" (.int (0 : Int32)) := D101 (Or.inl (hw _ (List.mem_of_getElem? (i := 13) rfl))) (ty := .int) (by decide)
  have Fn101_end : Fld Z h101 b101 "com/example/holdfast/holdfast/resources/DerReader" "end" "I" (.int (0 : Int32)) := D101 (Or.inr (hw _ (List.mem_of_getElem? (i := 15) rfl))) (ty := .int) (by decide)
  show OGo p.tables e below _ (T101.setTop (mkF m 3 #[.val (.int p0), .val (.int p1), .val (.int p2), .val (.int p3), .unset, .unset, .unset, .unset, .unset, .unset, .unset, .unset, .unset, .unset] [(.ref b101)]))
  refine OGo.st (fun t k => XS.dup X101.here hx rfl (hb hby at_3) rfl rfl k) ?_
  show OGo p.tables e below _ (T101.setTop (mkF m 4 #[.val (.int p0), .val (.int p1), .val (.int p2), .val (.int p3), .unset, .unset, .unset, .unset, .unset, .unset, .unset, .unset, .unset, .unset] [(.ref b101), (.ref b101)]))
  refine OGo.st (fun t k => XS.iconst X101.here hx rfl (hb hby at_4) k) ?_
  show OGo p.tables e below _ (T101.setTop (mkF m 5 #[.val (.int p0), .val (.int p1), .val (.int p2), .val (.int p3), .unset, .unset, .unset, .unset, .unset, .unset, .unset, .unset, .unset, .unset] [(.int (0 : Int32)), (.ref b101), (.ref b101)]))
  obtain ⟨T102, h102, k102, X102, e102, E102, A102, st102⟩ := newP X101 hx hZ (hw _ (List.mem_of_getElem? (i := 3) rfl)) e101 (g := (mkF m 5 #[.val (.int p0), .val (.int p1), .val (.int p2), .val (.int p3), .unset, .unset, .unset, .unset, .unset, .unset, .unset, .unset, .unset, .unset] [(.int (0 : Int32)), (.ref b101), (.ref b101)])) rfl (hb hby at_5) rfl (by decide) (cap := 0) (by decide) (by decide) (by decide) (by decide)
  obtain ⟨b102, g102⟩ : ∃ z, z = h101.size := ⟨_, rfl⟩
  rw [← g102] at A102 st102
  have ge_b102 : n0 ≤ b102 := Nat.le_trans (Nat.le_trans Z0 E101.1) (Nat.le_of_eq g102.symm)
  have sz_b102 : h0.size ≤ b102 := Nat.le_trans (Nat.le_trans (Nat.le_refl h0.size) E101.1) (Nat.le_of_eq g102.symm)
  have ne_b101_b102 : b101 ≠ b102 := Nat.ne_of_lt (Nat.lt_of_lt_of_le A101.lt (Nat.le_of_eq g102.symm))
  have V102 : Arv Z h102 b102 k102 .byte (0 : Int32) [] (.int (0 : Int32)) := Arv.new A102 (by decide)
  refine OGo.st st102 ?_
  show OGo p.tables e below _ (T102.setTop (mkF m 7 #[.val (.int p0), .val (.int p1), .val (.int p2), .val (.int p3), .unset, .unset, .unset, .unset, .unset, .unset, .unset, .unset, .unset, .unset] [(.ref b102), (.ref b101), (.ref b101)]))
  refine OGo.st (fun t k => XS.iloadN X102.here hx rfl (hb hby at_7) rfl k) ?_
  show OGo p.tables e below _ (T102.setTop (mkF m 8 #[.val (.int p0), .val (.int p1), .val (.int p2), .val (.int p3), .unset, .unset, .unset, .unset, .unset, .unset, .unset, .unset, .unset, .unset] [(.int p0), (.ref b102), (.ref b101), (.ref b101)]))
  refine OGo.st (fun t k => XS.iloadN X102.here hx rfl (hb hby at_8) rfl k) ?_
  show OGo p.tables e below _ (T102.setTop (mkF m 9 #[.val (.int p0), .val (.int p1), .val (.int p2), .val (.int p3), .unset, .unset, .unset, .unset, .unset, .unset, .unset, .unset, .unset, .unset] [(.int p1), (.int p0), (.ref b102), (.ref b101), (.ref b101)]))
  have G103 : Exa Z h102 b101 "com/example/holdfast/holdfast/resources/DerReader" := (Exa.ext E102 A101)
  have G104 : Fld Z h102 b101 "com/example/holdfast/holdfast/resources/DerReader" "bytes" "[B" .null := (Fld.ext E102 Fn101_bytes)
  have G105 : Fld Z h102 b101 "com/example/holdfast/holdfast/resources/DerReader" "position" "I" (.int (0 : Int32)) := (Fld.ext E102 Fn101_position)
  have G106 : Fld Z h102 b101 "com/example/holdfast/holdfast/resources/DerReader" "end" "I" (.int (0 : Int32)) := (Fld.ext E102 Fn101_end)
  obtain ⟨_, _, ⟨T107, L107, kk107, nn107⟩, -, X107, ⟨Lc107, hQ107, l107, y107, z107⟩, st107⟩ := X102.specialBack hx (y := (⟨"com/example/holdfast/holdfast/resources/DerReader", "<init>", "([BII)V"⟩ : MethodName)) rfl hown (mvT hZ (hw _ (List.mem_of_getElem? (i := 4) rfl))) (mvT hZ (hw _ (List.mem_of_getElem? (i := 5) rfl))) (mvT hZ (hw _ (List.mem_of_getElem? (i := 6) rfl))) (by decide) (backOf (W := 1) (rm0 l Z ar hw [] b101 b102 p0 p1 h102 n0 (Nat.le_trans (Nat.le_trans Z0 E101.1) E102.1) G103 ge_b101 G104 G105 G106) hZ (hw _ (List.mem_of_getElem? (i := 6) rfl)) (hw _ (List.mem_of_getElem? (i := 2) rfl)) (by decide) (by decide)) (g := (mkF m 9 #[.val (.int p0), .val (.int p1), .val (.int p2), .val (.int p3), .unset, .unset, .unset, .unset, .unset, .unset, .unset, .unset, .unset, .unset] [(.int p1), (.int p0), (.ref b102), (.ref b101), (.ref b101)])) rfl (by rw [hml]; rfl) (Steps.refl _) (a := b101) (argsL := [(.ref b102), (.int p0), (.int p1)]) (rest := [(.ref b101)]) (lenOf pd_3 rfl) rfl (by show 2 * 0 + _ ≤ _; exact Nat.le_of_eq rfl) (hb hby at_9) (fun _ _ => ⟨rfl, e102, (by decide : 2 + 0 ≤ _), (by decide : 3 + 0 ≤ _)⟩)
  dsimp only [Pt.U, Pt.locs, Pt.cells, Pt.slots] at X107 l107 y107 z107 st107 hQ107
  subst l107 y107 z107
  obtain ⟨rfl, Nq107, K107, P107_0, P107_1, P107_2⟩ := hQ107
  have N107 := Fr.app N0 Nq107
  refine OGo.st (fun t k => st107.trans k) ?_
  show OGo p.tables e below _ (T107.setTop (mkF m 12 #[.val (.int p0), .val (.int p1), .val (.int p2), .val (.int p3), .unset, .unset, .unset, .unset, .unset, .unset, .unset, .unset, .unset, .unset] [(.ref b101)]))
  refine OGo.st (fun t k => XS.astore X107.here hx rfl (hb hby at_12) rfl rfl (l' := #[.val (.int p0), .val (.int p1), .val (.int p2), .val (.int p3), .val (.ref b101), .unset, .unset, .unset, .unset, .unset, .unset, .unset, .unset, .unset]) rfl k) ?_
  show OGo p.tables e below _ (T107.setTop (mkF m 14 #[.val (.int p0), .val (.int p1), .val (.int p2), .val (.int p3), .val (.ref b101), .unset, .unset, .unset, .unset, .unset, .unset, .unset, .unset, .unset] []))
  refine OGo.st (fun t k => XS.aload X107.here hx rfl (hb hby at_14) rfl rfl k) ?_
  show OGo p.tables e below _ (T107.setTop (mkF m 16 #[.val (.int p0), .val (.int p1), .val (.int p2), .val (.int p3), .val (.ref b101), .unset, .unset, .unset, .unset, .unset, .unset, .unset, .unset, .unset] [(.ref b101)]))
  have G109 : Exa Z T107.heap b101 "com/example/holdfast/holdfast/resources/DerReader" := (G103.keep K107)
  obtain ⟨cq108, kq108, q108a, q108b, q108c⟩ := isOf hZ rfl G109
  obtain ⟨_, _, ⟨T108, L108, kk108, nn108⟩, -, X108, ⟨Lc108, hQ108, l108, y108, z108⟩, st108⟩ := X107.virtualBack hx (y := (⟨"com/example/holdfast/holdfast/resources/DerReader", "hasMore", "()Z"⟩ : MethodName)) (z := (⟨"com/example/holdfast/holdfast/resources/DerReader", "hasMore", "()Z"⟩ : MethodName)) hown (mvT hZ (hw _ (List.mem_of_getElem? (i := 16) rfl))) (mvT hZ (hw _ (List.mem_of_getElem? (i := 17) rfl))) (notFace_of_selects (args := #[]) (mvT hZ (hw _ (List.mem_of_getElem? (i := 19) rfl)))) (mvT hZ (hw _ (List.mem_of_getElem? (i := 19) rfl))) (mvT hZ (hw _ (List.mem_of_getElem? (i := 18) rfl))) (by decide) (backOf (W := 0) (rm1 l Z ar hw [] b101 p0 p1 T107.heap n0 (Nat.le_trans (Nat.le_trans (Nat.le_trans Z0 E101.1) E102.1) K107.1) P107_1 P107_2) hZ (hw _ (List.mem_of_getElem? (i := 20) rfl)) (hw _ (List.mem_of_getElem? (i := 2) rfl)) (by decide) (by decide)) q108a q108c (g := (mkF m 16 #[.val (.int p0), .val (.int p1), .val (.int p2), .val (.int p3), .val (.ref b101), .unset, .unset, .unset, .unset, .unset, .unset, .unset, .unset, .unset] [(.ref b101)])) rfl (by rw [hml]; rfl) (Steps.refl _) (argsL := []) (rest := []) (lenOf pd_0 rfl) rfl (by show 2 * 0 + _ ≤ _; exact Nat.le_of_eq rfl) (hb hby at_16) (fun _ _ => ⟨rfl, rfl, (by decide : 2 + 0 ≤ _), (by decide : 3 + 0 ≤ _)⟩)
  dsimp only [Pt.U, Pt.locs, Pt.cells, Pt.slots] at X108 l108 y108 z108 st108 hQ108
  subst l108 y108 z108
  obtain ⟨rfl, Nq108, hh108⟩ := hQ108
  have N108 := Fr.app N107 Nq108
  refine OGo.st (fun t k => st108.trans k) ?_
  have e108 : T108.heap = T107.heap := hh108
  show OGo p.tables e below _ (T108.setTop (mkF m 19 #[.val (.int p0), .val (.int p1), .val (.int p2), .val (.int p3), .val (.ref b101), .unset, .unset, .unset, .unset, .unset, .unset, .unset, .unset, .unset] [(.int (own_lt p0 p1))]))
  refine OGo.st (fun t k => XS.iloadN X108.here hx rfl (hb hby at_19) rfl k) ?_
  show OGo p.tables e below _ (T108.setTop (mkF m 20 #[.val (.int p0), .val (.int p1), .val (.int p2), .val (.int p3), .val (.ref b101), .unset, .unset, .unset, .unset, .unset, .unset, .unset, .unset, .unset] [(.int p0), (.int (own_lt p0 p1))]))
  refine OGo.st (fun t k => XS.iloadN X108.here hx rfl (hb hby at_20) rfl k) ?_
  show OGo p.tables e below _ (T108.setTop (mkF m 21 #[.val (.int p0), .val (.int p1), .val (.int p2), .val (.int p3), .val (.ref b101), .unset, .unset, .unset, .unset, .unset, .unset, .unset, .unset, .unset] [(.int p1), (.int p0), (.int (own_lt p0 p1))]))
  refine OGo.join (α := Unit) (fun _u => True) (fun _u => T108.setTop (mkF m 39 #[.val (.int p0), .val (.int p1), .val (.int p2), .val (.int p3), .val (.ref b101), .val (.int (1 : Int32)), .unset, .unset, .unset, .unset, .unset, .unset, .unset, .unset] [])) ?_ (fun jn39_110 => ?_)
  ·
    intro _u hj39_110
    show OGo p.tables e below _ (T108.setTop (mkF m 39 #[.val (.int p0), .val (.int p1), .val (.int p2), .val (.int p3), .val (.ref b101), .val (.int (1 : Int32)), .unset, .unset, .unset, .unset, .unset, .unset, .unset, .unset] []))
    refine OGo.st (fun t k => XS.iloadN X108.here hx rfl (hb hby at_39) rfl k) ?_
    show OGo p.tables e below _ (T108.setTop (mkF m 40 #[.val (.int p0), .val (.int p1), .val (.int p2), .val (.int p3), .val (.ref b101), .val (.int (1 : Int32)), .unset, .unset, .unset, .unset, .unset, .unset, .unset, .unset] [(.int p3)]))
    refine OGo.st (fun t k => XS.iconst X108.here hx rfl (hb hby at_40) k) ?_
    show OGo p.tables e below _ (T108.setTop (mkF m 41 #[.val (.int p0), .val (.int p1), .val (.int p2), .val (.int p3), .val (.ref b101), .val (.int (1 : Int32)), .unset, .unset, .unset, .unset, .unset, .unset, .unset, .unset] [(.int (1 : Int32)), (.int p3)]))
    refine OGo.st (fun t k => XS.iand X108.here hx rfl (hb hby at_41) rfl k) ?_
    show OGo p.tables e below _ (T108.setTop (mkF m 42 #[.val (.int p0), .val (.int p1), .val (.int p2), .val (.int p3), .val (.ref b101), .val (.int (1 : Int32)), .unset, .unset, .unset, .unset, .unset, .unset, .unset, .unset] [(.int (p3 &&& (1 : Int32)))]))
    refine OGo.st (fun t k => XS.istore X108.here hx rfl (hb hby at_42) rfl (l' := #[.val (.int p0), .val (.int p1), .val (.int p2), .val (.int p3), .val (.ref b101), .val (.int (1 : Int32)), .val (.int (p3 &&& (1 : Int32))), .unset, .unset, .unset, .unset, .unset, .unset, .unset]) rfl k) ?_
    show OGo p.tables e below _ (T108.setTop (mkF m 44 #[.val (.int p0), .val (.int p1), .val (.int p2), .val (.int p3), .val (.ref b101), .val (.int (1 : Int32)), .val (.int (p3 &&& (1 : Int32))), .unset, .unset, .unset, .unset, .unset, .unset, .unset] []))
    rcases own_and1 p3 with hn | hn
    ·
      rw [hn]
      show OGo p.tables e below _ (T108.setTop (mkF m 44 #[.val (.int p0), .val (.int p1), .val (.int p2), .val (.int p3), .val (.ref b101), .val (.int (1 : Int32)), .val (.int (0 : Int32)), .unset, .unset, .unset, .unset, .unset, .unset, .unset] []))
      refine OGo.st (fun t k => XS.iloadN X108.here hx rfl (hb hby at_44) rfl k) ?_
      show OGo p.tables e below _ (T108.setTop (mkF m 45 #[.val (.int p0), .val (.int p1), .val (.int p2), .val (.int p3), .val (.ref b101), .val (.int (1 : Int32)), .val (.int (0 : Int32)), .unset, .unset, .unset, .unset, .unset, .unset, .unset] [(.int p3)]))
      refine OGo.st (fun t k => XS.iconst X108.here hx rfl (hb hby at_45) k) ?_
      show OGo p.tables e below _ (T108.setTop (mkF m 46 #[.val (.int p0), .val (.int p1), .val (.int p2), .val (.int p3), .val (.ref b101), .val (.int (1 : Int32)), .val (.int (0 : Int32)), .unset, .unset, .unset, .unset, .unset, .unset, .unset] [(.int (1 : Int32)), (.int p3)]))
      refine OGo.st (fun t k => XS.iushr X108.here hx rfl (hb hby at_46) rfl k) ?_
      show OGo p.tables e below _ (T108.setTop (mkF m 47 #[.val (.int p0), .val (.int p1), .val (.int p2), .val (.int p3), .val (.ref b101), .val (.int (1 : Int32)), .val (.int (0 : Int32)), .unset, .unset, .unset, .unset, .unset, .unset, .unset] [(.int ((p3.toUInt32 >>> ((1 : Int32) &&& 31).toUInt32).toInt32))]))
      refine OGo.st (fun t k => XS.iconst X108.here hx rfl (hb hby at_47) k) ?_
      show OGo p.tables e below _ (T108.setTop (mkF m 48 #[.val (.int p0), .val (.int p1), .val (.int p2), .val (.int p3), .val (.ref b101), .val (.int (1 : Int32)), .val (.int (0 : Int32)), .unset, .unset, .unset, .unset, .unset, .unset, .unset] [(.int (3 : Int32)), (.int ((p3.toUInt32 >>> ((1 : Int32) &&& 31).toUInt32).toInt32))]))
      refine OGo.st (fun t k => XS.iand X108.here hx rfl (hb hby at_48) rfl k) ?_
      show OGo p.tables e below _ (T108.setTop (mkF m 49 #[.val (.int p0), .val (.int p1), .val (.int p2), .val (.int p3), .val (.ref b101), .val (.int (1 : Int32)), .val (.int (0 : Int32)), .unset, .unset, .unset, .unset, .unset, .unset, .unset] [(.int (((p3.toUInt32 >>> ((1 : Int32) &&& 31).toUInt32).toInt32) &&& (3 : Int32)))]))
      refine OGo.st (fun t k => XS.istore X108.here hx rfl (hb hby at_49) rfl (l' := #[.val (.int p0), .val (.int p1), .val (.int p2), .val (.int p3), .val (.ref b101), .val (.int (1 : Int32)), .val (.int (0 : Int32)), .val (.int (((p3.toUInt32 >>> ((1 : Int32) &&& 31).toUInt32).toInt32) &&& (3 : Int32))), .unset, .unset, .unset, .unset, .unset, .unset]) rfl k) ?_
      show OGo p.tables e below _ (T108.setTop (mkF m 51 #[.val (.int p0), .val (.int p1), .val (.int p2), .val (.int p3), .val (.ref b101), .val (.int (1 : Int32)), .val (.int (0 : Int32)), .val (.int (((p3.toUInt32 >>> ((1 : Int32) &&& 31).toUInt32).toInt32) &&& (3 : Int32))), .unset, .unset, .unset, .unset, .unset, .unset] []))
      refine OGo.st (fun t k => XS.iloadN X108.here hx rfl (hb hby at_51) rfl k) ?_
      show OGo p.tables e below _ (T108.setTop (mkF m 52 #[.val (.int p0), .val (.int p1), .val (.int p2), .val (.int p3), .val (.ref b101), .val (.int (1 : Int32)), .val (.int (0 : Int32)), .val (.int (((p3.toUInt32 >>> ((1 : Int32) &&& 31).toUInt32).toInt32) &&& (3 : Int32))), .unset, .unset, .unset, .unset, .unset, .unset] [(.int p3)]))
      refine OGo.st (fun t k => XS.iconst X108.here hx rfl (hb hby at_52) k) ?_
      show OGo p.tables e below _ (T108.setTop (mkF m 53 #[.val (.int p0), .val (.int p1), .val (.int p2), .val (.int p3), .val (.ref b101), .val (.int (1 : Int32)), .val (.int (0 : Int32)), .val (.int (((p3.toUInt32 >>> ((1 : Int32) &&& 31).toUInt32).toInt32) &&& (3 : Int32))), .unset, .unset, .unset, .unset, .unset, .unset] [(.int (3 : Int32)), (.int p3)]))
      refine OGo.st (fun t k => XS.iushr X108.here hx rfl (hb hby at_53) rfl k) ?_
      show OGo p.tables e below _ (T108.setTop (mkF m 54 #[.val (.int p0), .val (.int p1), .val (.int p2), .val (.int p3), .val (.ref b101), .val (.int (1 : Int32)), .val (.int (0 : Int32)), .val (.int (((p3.toUInt32 >>> ((1 : Int32) &&& 31).toUInt32).toInt32) &&& (3 : Int32))), .unset, .unset, .unset, .unset, .unset, .unset] [(.int ((p3.toUInt32 >>> ((3 : Int32) &&& 31).toUInt32).toInt32))]))
      refine OGo.st (fun t k => XS.iconst X108.here hx rfl (hb hby at_54) k) ?_
      show OGo p.tables e below _ (T108.setTop (mkF m 55 #[.val (.int p0), .val (.int p1), .val (.int p2), .val (.int p3), .val (.ref b101), .val (.int (1 : Int32)), .val (.int (0 : Int32)), .val (.int (((p3.toUInt32 >>> ((1 : Int32) &&& 31).toUInt32).toInt32) &&& (3 : Int32))), .unset, .unset, .unset, .unset, .unset, .unset] [(.int (3 : Int32)), (.int ((p3.toUInt32 >>> ((3 : Int32) &&& 31).toUInt32).toInt32))]))
      refine OGo.st (fun t k => XS.iand X108.here hx rfl (hb hby at_55) rfl k) ?_
      show OGo p.tables e below _ (T108.setTop (mkF m 56 #[.val (.int p0), .val (.int p1), .val (.int p2), .val (.int p3), .val (.ref b101), .val (.int (1 : Int32)), .val (.int (0 : Int32)), .val (.int (((p3.toUInt32 >>> ((1 : Int32) &&& 31).toUInt32).toInt32) &&& (3 : Int32))), .unset, .unset, .unset, .unset, .unset, .unset] [(.int (((p3.toUInt32 >>> ((3 : Int32) &&& 31).toUInt32).toInt32) &&& (3 : Int32)))]))
      refine OGo.st (fun t k => XS.istore X108.here hx rfl (hb hby at_56) rfl (l' := #[.val (.int p0), .val (.int p1), .val (.int p2), .val (.int p3), .val (.ref b101), .val (.int (1 : Int32)), .val (.int (0 : Int32)), .val (.int (((p3.toUInt32 >>> ((1 : Int32) &&& 31).toUInt32).toInt32) &&& (3 : Int32))), .val (.int (((p3.toUInt32 >>> ((3 : Int32) &&& 31).toUInt32).toInt32) &&& (3 : Int32))), .unset, .unset, .unset, .unset, .unset]) rfl k) ?_
      show OGo p.tables e below _ (T108.setTop (mkF m 58 #[.val (.int p0), .val (.int p1), .val (.int p2), .val (.int p3), .val (.ref b101), .val (.int (1 : Int32)), .val (.int (0 : Int32)), .val (.int (((p3.toUInt32 >>> ((1 : Int32) &&& 31).toUInt32).toInt32) &&& (3 : Int32))), .val (.int (((p3.toUInt32 >>> ((3 : Int32) &&& 31).toUInt32).toInt32) &&& (3 : Int32))), .unset, .unset, .unset, .unset, .unset] []))
      have hll := own_m3 ((p3.toUInt32 >>> ((1 : Int32) &&& 31).toUInt32).toInt32)
      generalize (((p3.toUInt32 >>> ((1 : Int32) &&& 31).toUInt32).toInt32) &&& (3 : Int32)) = ll at hll ⊢
      have hrr := own_m3 ((p3.toUInt32 >>> ((3 : Int32) &&& 31).toUInt32).toInt32)
      generalize (((p3.toUInt32 >>> ((3 : Int32) &&& 31).toUInt32).toInt32) &&& (3 : Int32)) = rr at hrr ⊢
      have ho : 2 ≤ (2 : Int32).toInt ∧ (2 : Int32).toInt < 4 := by decide
      have hst := own_stop (2 : Int32) ll rr ho hll hrr
      have k0 : (0 : Int32).toInt = 0 := rfl
      have k1 : (1 : Int32).toInt = 1 := rfl
      have k2 : (2 : Int32).toInt = 2 := rfl
      have k3 : (3 : Int32).toInt = 3 := rfl
      show OGo p.tables e below _ (T108.setTop (mkF m 58 #[.val (.int p0), .val (.int p1), .val (.int p2), .val (.int p3), .val (.ref b101), .val (.int (1 : Int32)), .val (.int (0 : Int32)), .val (.int ll), .val (.int rr), .unset, .unset, .unset, .unset, .unset] []))
      refine OGo.st (fun t k => XS.bipush X108.here hx rfl (hb hby at_58) k) ?_
      show OGo p.tables e below _ (T108.setTop (mkF m 60 #[.val (.int p0), .val (.int p1), .val (.int p2), .val (.int p3), .val (.ref b101), .val (.int (1 : Int32)), .val (.int (0 : Int32)), .val (.int ll), .val (.int rr), .unset, .unset, .unset, .unset, .unset] [(.int (10 : Int32))]))
      have G111 : Arv Z T107.heap b102 k102 .byte (0 : Int32) [] (.int (0 : Int32)) := (V102.keep K107 (ninS (Ne.symm ne_b101_b102) nin0))
      obtain ⟨T112, h112, k112, X112, e112, E112, A112, st112⟩ := newP X108 hx hZ (hw _ (List.mem_of_getElem? (i := 3) rfl)) e108 (g := (mkF m 60 #[.val (.int p0), .val (.int p1), .val (.int p2), .val (.int p3), .val (.ref b101), .val (.int (1 : Int32)), .val (.int (0 : Int32)), .val (.int ll), .val (.int rr), .unset, .unset, .unset, .unset, .unset] [(.int (10 : Int32))])) rfl (hb hby at_60) rfl (by decide) (cap := 10) (by decide) (by decide) (by decide) (by decide)
      obtain ⟨b112, g112⟩ : ∃ z, z = T107.heap.size := ⟨_, rfl⟩
      rw [← g112] at A112 st112
      have ge_b112 : n0 ≤ b112 := Nat.le_trans (Nat.le_trans (Nat.le_trans (Nat.le_trans Z0 E101.1) E102.1) K107.1) (Nat.le_of_eq g112.symm)
      have sz_b112 : h0.size ≤ b112 := Nat.le_trans (Nat.le_trans (Nat.le_trans (Nat.le_trans (Nat.le_refl h0.size) E101.1) E102.1) K107.1) (Nat.le_of_eq g112.symm)
      have ne_b101_b112 : b101 ≠ b112 := Nat.ne_of_lt (Nat.lt_of_lt_of_le G109.lt (Nat.le_of_eq g112.symm))
      have ne_b102_b112 : b102 ≠ b112 := Nat.ne_of_lt (Nat.lt_of_lt_of_le G111.lt (Nat.le_of_eq g112.symm))
      have V112 : Arv Z h112 b112 k112 .byte (10 : Int32) [(.int (0 : Int32)), (.int (0 : Int32)), (.int (0 : Int32)), (.int (0 : Int32))] (.int (0 : Int32)) := (Arv.new A112 (by decide)).pad (pad_rep [] (.int (0 : Int32)) 4)
      refine OGo.st st112 ?_
      show OGo p.tables e below _ (T112.setTop (mkF m 62 #[.val (.int p0), .val (.int p1), .val (.int p2), .val (.int p3), .val (.ref b101), .val (.int (1 : Int32)), .val (.int (0 : Int32)), .val (.int ll), .val (.int rr), .unset, .unset, .unset, .unset, .unset] [(.ref b112)]))
      refine OGo.st (fun t k => XS.astore X112.here hx rfl (hb hby at_62) rfl rfl (l' := #[.val (.int p0), .val (.int p1), .val (.int p2), .val (.int p3), .val (.ref b101), .val (.int (1 : Int32)), .val (.int (0 : Int32)), .val (.int ll), .val (.int rr), .val (.ref b112), .unset, .unset, .unset, .unset]) rfl k) ?_
      show OGo p.tables e below _ (T112.setTop (mkF m 64 #[.val (.int p0), .val (.int p1), .val (.int p2), .val (.int p3), .val (.ref b101), .val (.int (1 : Int32)), .val (.int (0 : Int32)), .val (.int ll), .val (.int rr), .val (.ref b112), .unset, .unset, .unset, .unset] []))
      refine OGo.st (fun t k => XS.aload X112.here hx rfl (hb hby at_64) rfl rfl k) ?_
      show OGo p.tables e below _ (T112.setTop (mkF m 66 #[.val (.int p0), .val (.int p1), .val (.int p2), .val (.int p3), .val (.ref b101), .val (.int (1 : Int32)), .val (.int (0 : Int32)), .val (.int ll), .val (.int rr), .val (.ref b112), .unset, .unset, .unset, .unset] [(.ref b112)]))
      refine OGo.st (fun t k => XS.iload X112.here hx rfl (hb hby at_66) rfl k) ?_
      show OGo p.tables e below _ (T112.setTop (mkF m 68 #[.val (.int p0), .val (.int p1), .val (.int p2), .val (.int p3), .val (.ref b101), .val (.int (1 : Int32)), .val (.int (0 : Int32)), .val (.int ll), .val (.int rr), .val (.ref b112), .unset, .unset, .unset, .unset] [(.int (0 : Int32)), (.ref b112)]))
      refine OGo.st (fun t k => XS.iloadN X112.here hx rfl (hb hby at_68) rfl k) ?_
      show OGo p.tables e below _ (T112.setTop (mkF m 69 #[.val (.int p0), .val (.int p1), .val (.int p2), .val (.int p3), .val (.ref b101), .val (.int (1 : Int32)), .val (.int (0 : Int32)), .val (.int ll), .val (.int rr), .val (.ref b112), .unset, .unset, .unset, .unset] [(.int p2), (.int (0 : Int32)), (.ref b112)]))
      refine OGo.st (fun t k => XS.sipush X112.here hx rfl (hb hby at_69) k) ?_
      show OGo p.tables e below _ (T112.setTop (mkF m 72 #[.val (.int p0), .val (.int p1), .val (.int p2), .val (.int p3), .val (.ref b101), .val (.int (1 : Int32)), .val (.int (0 : Int32)), .val (.int ll), .val (.int rr), .val (.ref b112), .unset, .unset, .unset, .unset] [(.int (254 : Int32)), (.int p2), (.int (0 : Int32)), (.ref b112)]))
      refine OGo.st (fun t k => XS.iand X112.here hx rfl (hb hby at_72) rfl k) ?_
      show OGo p.tables e below _ (T112.setTop (mkF m 73 #[.val (.int p0), .val (.int p1), .val (.int p2), .val (.int p3), .val (.ref b101), .val (.int (1 : Int32)), .val (.int (0 : Int32)), .val (.int ll), .val (.int rr), .val (.ref b112), .unset, .unset, .unset, .unset] [(.int (p2 &&& (254 : Int32))), (.int (0 : Int32)), (.ref b112)]))
      refine OGo.st (fun t k => XS.i2b X112.here hx rfl (hb hby at_73) rfl k) ?_
      show OGo p.tables e below _ (T112.setTop (mkF m 74 #[.val (.int p0), .val (.int p1), .val (.int p2), .val (.int p3), .val (.ref b101), .val (.int (1 : Int32)), .val (.int (0 : Int32)), .val (.int ll), .val (.int rr), .val (.ref b112), .unset, .unset, .unset, .unset] [(.int (((p2 &&& (254 : Int32))).toInt8.toInt32)), (.int (0 : Int32)), (.ref b112)]))
      obtain ⟨cl113, Ar113, qc113, Sz113, Nz113, Hs113, Gs113⟩ := id V112
      have hin113 : ¬ ((0 : Int32) < 0 ∨ cl113.slots.size ≤ ((0 : Int32)).toNatClampNeg) := inb_of Sz113 ⟨by decide, by decide⟩
      obtain ⟨T114, h114, X114, e114, W114, st114⟩ := stB X112 hx hZ e112 Ar113 (j := (0 : Int32)) hin113 (g := (mkF m 74 #[.val (.int p0), .val (.int p1), .val (.int p2), .val (.int p3), .val (.ref b101), .val (.int (1 : Int32)), .val (.int (0 : Int32)), .val (.int ll), .val (.int rr), .val (.ref b112), .unset, .unset, .unset, .unset] [(.int (((p2 &&& (254 : Int32))).toInt8.toInt32)), (.int (0 : Int32)), (.ref b112)])) rfl rfl (hb hby at_74)
      refine OGo.st st114 ?_
      have N114 := Fr.snoc X114 N108 ge_b112
      have V114 : Arv Z h114 b112 k112 .byte (10 : Int32) [(.int ((((p2 &&& (254 : Int32))).toInt8.toInt32)).toInt8.toInt32), (.int (0 : Int32)), (.int (0 : Int32)), (.int (0 : Int32))] (.int (0 : Int32)) := Arv.set Ar113 qc113 Sz113 Nz113 Hs113 Gs113 (fits_nar_byte _) W114 0 rfl (Nat.le_of_ble_eq_true rfl)
      show OGo p.tables e below _ (T114.setTop (mkF m 75 #[.val (.int p0), .val (.int p1), .val (.int p2), .val (.int p3), .val (.ref b101), .val (.int (1 : Int32)), .val (.int (0 : Int32)), .val (.int ll), .val (.int rr), .val (.ref b112), .unset, .unset, .unset, .unset] []))
      refine OGo.st (fun t k => XS.aload X114.here hx rfl (hb hby at_75) rfl rfl k) ?_
      show OGo p.tables e below _ (T114.setTop (mkF m 77 #[.val (.int p0), .val (.int p1), .val (.int p2), .val (.int p3), .val (.ref b101), .val (.int (1 : Int32)), .val (.int (0 : Int32)), .val (.int ll), .val (.int rr), .val (.ref b112), .unset, .unset, .unset, .unset] [(.ref b112)]))
      refine OGo.st (fun t k => XS.iload X114.here hx rfl (hb hby at_77) rfl k) ?_
      show OGo p.tables e below _ (T114.setTop (mkF m 79 #[.val (.int p0), .val (.int p1), .val (.int p2), .val (.int p3), .val (.ref b101), .val (.int (1 : Int32)), .val (.int (0 : Int32)), .val (.int ll), .val (.int rr), .val (.ref b112), .unset, .unset, .unset, .unset] [(.int (0 : Int32)), (.ref b112)]))
      refine OGo.st (fun t k => XS.iconst X114.here hx rfl (hb hby at_79) k) ?_
      show OGo p.tables e below _ (T114.setTop (mkF m 80 #[.val (.int p0), .val (.int p1), .val (.int p2), .val (.int p3), .val (.ref b101), .val (.int (1 : Int32)), .val (.int (0 : Int32)), .val (.int ll), .val (.int rr), .val (.ref b112), .unset, .unset, .unset, .unset] [(.int (1 : Int32)), (.int (0 : Int32)), (.ref b112)]))
      refine OGo.st (fun t k => XS.iadd X114.here hx rfl (hb hby at_80) rfl k) ?_
      show OGo p.tables e below _ (T114.setTop (mkF m 81 #[.val (.int p0), .val (.int p1), .val (.int p2), .val (.int p3), .val (.ref b101), .val (.int (1 : Int32)), .val (.int (0 : Int32)), .val (.int ll), .val (.int rr), .val (.ref b112), .unset, .unset, .unset, .unset] [(.int (1 : Int32)), (.ref b112)]))
      refine OGo.st (fun t k => XS.iload X114.here hx rfl (hb hby at_81) rfl k) ?_
      show OGo p.tables e below _ (T114.setTop (mkF m 83 #[.val (.int p0), .val (.int p1), .val (.int p2), .val (.int p3), .val (.ref b101), .val (.int (1 : Int32)), .val (.int (0 : Int32)), .val (.int ll), .val (.int rr), .val (.ref b112), .unset, .unset, .unset, .unset] [(.int ll), (.int (1 : Int32)), (.ref b112)]))
      refine OGo.st (fun t k => XS.i2b X114.here hx rfl (hb hby at_83) rfl k) ?_
      show OGo p.tables e below _ (T114.setTop (mkF m 84 #[.val (.int p0), .val (.int p1), .val (.int p2), .val (.int p3), .val (.ref b101), .val (.int (1 : Int32)), .val (.int (0 : Int32)), .val (.int ll), .val (.int rr), .val (.ref b112), .unset, .unset, .unset, .unset] [(.int ((ll).toInt8.toInt32)), (.int (1 : Int32)), (.ref b112)]))
      obtain ⟨cl115, Ar115, qc115, Sz115, Nz115, Hs115, Gs115⟩ := id V114
      have hin115 : ¬ ((1 : Int32) < 0 ∨ cl115.slots.size ≤ ((1 : Int32)).toNatClampNeg) := inb_of Sz115 ⟨by decide, by decide⟩
      obtain ⟨T116, h116, X116, e116, W116, st116⟩ := stB X114 hx hZ e114 Ar115 (j := (1 : Int32)) hin115 (g := (mkF m 84 #[.val (.int p0), .val (.int p1), .val (.int p2), .val (.int p3), .val (.ref b101), .val (.int (1 : Int32)), .val (.int (0 : Int32)), .val (.int ll), .val (.int rr), .val (.ref b112), .unset, .unset, .unset, .unset] [(.int ((ll).toInt8.toInt32)), (.int (1 : Int32)), (.ref b112)])) rfl rfl (hb hby at_84)
      refine OGo.st st116 ?_
      have N116 := Fr.snoc X116 N114 ge_b112
      have V116 : Arv Z h116 b112 k112 .byte (10 : Int32) [(.int ((((p2 &&& (254 : Int32))).toInt8.toInt32)).toInt8.toInt32), (.int (((ll).toInt8.toInt32)).toInt8.toInt32), (.int (0 : Int32)), (.int (0 : Int32))] (.int (0 : Int32)) := Arv.set Ar115 qc115 Sz115 Nz115 Hs115 Gs115 (fits_nar_byte _) W116 1 rfl (Nat.le_of_ble_eq_true rfl)
      show OGo p.tables e below _ (T116.setTop (mkF m 85 #[.val (.int p0), .val (.int p1), .val (.int p2), .val (.int p3), .val (.ref b101), .val (.int (1 : Int32)), .val (.int (0 : Int32)), .val (.int ll), .val (.int rr), .val (.ref b112), .unset, .unset, .unset, .unset] []))
      refine OGo.st (fun t k => XS.aload X116.here hx rfl (hb hby at_85) rfl rfl k) ?_
      show OGo p.tables e below _ (T116.setTop (mkF m 87 #[.val (.int p0), .val (.int p1), .val (.int p2), .val (.int p3), .val (.ref b101), .val (.int (1 : Int32)), .val (.int (0 : Int32)), .val (.int ll), .val (.int rr), .val (.ref b112), .unset, .unset, .unset, .unset] [(.ref b112)]))
      refine OGo.st (fun t k => XS.iload X116.here hx rfl (hb hby at_87) rfl k) ?_
      show OGo p.tables e below _ (T116.setTop (mkF m 89 #[.val (.int p0), .val (.int p1), .val (.int p2), .val (.int p3), .val (.ref b101), .val (.int (1 : Int32)), .val (.int (0 : Int32)), .val (.int ll), .val (.int rr), .val (.ref b112), .unset, .unset, .unset, .unset] [(.int (0 : Int32)), (.ref b112)]))
      refine OGo.st (fun t k => XS.iconst X116.here hx rfl (hb hby at_89) k) ?_
      show OGo p.tables e below _ (T116.setTop (mkF m 90 #[.val (.int p0), .val (.int p1), .val (.int p2), .val (.int p3), .val (.ref b101), .val (.int (1 : Int32)), .val (.int (0 : Int32)), .val (.int ll), .val (.int rr), .val (.ref b112), .unset, .unset, .unset, .unset] [(.int (2 : Int32)), (.int (0 : Int32)), (.ref b112)]))
      refine OGo.st (fun t k => XS.iadd X116.here hx rfl (hb hby at_90) rfl k) ?_
      show OGo p.tables e below _ (T116.setTop (mkF m 91 #[.val (.int p0), .val (.int p1), .val (.int p2), .val (.int p3), .val (.ref b101), .val (.int (1 : Int32)), .val (.int (0 : Int32)), .val (.int ll), .val (.int rr), .val (.ref b112), .unset, .unset, .unset, .unset] [(.int (2 : Int32)), (.ref b112)]))
      refine OGo.st (fun t k => XS.iloadN X116.here hx rfl (hb hby at_91) rfl k) ?_
      show OGo p.tables e below _ (T116.setTop (mkF m 92 #[.val (.int p0), .val (.int p1), .val (.int p2), .val (.int p3), .val (.ref b101), .val (.int (1 : Int32)), .val (.int (0 : Int32)), .val (.int ll), .val (.int rr), .val (.ref b112), .unset, .unset, .unset, .unset] [(.int p2), (.int (2 : Int32)), (.ref b112)]))
      refine OGo.st (fun t k => XS.bipush X116.here hx rfl (hb hby at_92) k) ?_
      show OGo p.tables e below _ (T116.setTop (mkF m 94 #[.val (.int p0), .val (.int p1), .val (.int p2), .val (.int p3), .val (.ref b101), .val (.int (1 : Int32)), .val (.int (0 : Int32)), .val (.int ll), .val (.int rr), .val (.ref b112), .unset, .unset, .unset, .unset] [(.int (8 : Int32)), (.int p2), (.int (2 : Int32)), (.ref b112)]))
      refine OGo.st (fun t k => XS.iushr X116.here hx rfl (hb hby at_94) rfl k) ?_
      show OGo p.tables e below _ (T116.setTop (mkF m 95 #[.val (.int p0), .val (.int p1), .val (.int p2), .val (.int p3), .val (.ref b101), .val (.int (1 : Int32)), .val (.int (0 : Int32)), .val (.int ll), .val (.int rr), .val (.ref b112), .unset, .unset, .unset, .unset] [(.int ((p2.toUInt32 >>> ((8 : Int32) &&& 31).toUInt32).toInt32)), (.int (2 : Int32)), (.ref b112)]))
      refine OGo.st (fun t k => XS.i2b X116.here hx rfl (hb hby at_95) rfl k) ?_
      show OGo p.tables e below _ (T116.setTop (mkF m 96 #[.val (.int p0), .val (.int p1), .val (.int p2), .val (.int p3), .val (.ref b101), .val (.int (1 : Int32)), .val (.int (0 : Int32)), .val (.int ll), .val (.int rr), .val (.ref b112), .unset, .unset, .unset, .unset] [(.int ((((p2.toUInt32 >>> ((8 : Int32) &&& 31).toUInt32).toInt32)).toInt8.toInt32)), (.int (2 : Int32)), (.ref b112)]))
      obtain ⟨cl117, Ar117, qc117, Sz117, Nz117, Hs117, Gs117⟩ := id V116
      have hin117 : ¬ ((2 : Int32) < 0 ∨ cl117.slots.size ≤ ((2 : Int32)).toNatClampNeg) := inb_of Sz117 ⟨by decide, by decide⟩
      obtain ⟨T118, h118, X118, e118, W118, st118⟩ := stB X116 hx hZ e116 Ar117 (j := (2 : Int32)) hin117 (g := (mkF m 96 #[.val (.int p0), .val (.int p1), .val (.int p2), .val (.int p3), .val (.ref b101), .val (.int (1 : Int32)), .val (.int (0 : Int32)), .val (.int ll), .val (.int rr), .val (.ref b112), .unset, .unset, .unset, .unset] [(.int ((((p2.toUInt32 >>> ((8 : Int32) &&& 31).toUInt32).toInt32)).toInt8.toInt32)), (.int (2 : Int32)), (.ref b112)])) rfl rfl (hb hby at_96)
      refine OGo.st st118 ?_
      have N118 := Fr.snoc X118 N116 ge_b112
      have V118 : Arv Z h118 b112 k112 .byte (10 : Int32) [(.int ((((p2 &&& (254 : Int32))).toInt8.toInt32)).toInt8.toInt32), (.int (((ll).toInt8.toInt32)).toInt8.toInt32), (.int (((((p2.toUInt32 >>> ((8 : Int32) &&& 31).toUInt32).toInt32)).toInt8.toInt32)).toInt8.toInt32), (.int (0 : Int32))] (.int (0 : Int32)) := Arv.set Ar117 qc117 Sz117 Nz117 Hs117 Gs117 (fits_nar_byte _) W118 2 rfl (Nat.le_of_ble_eq_true rfl)
      show OGo p.tables e below _ (T118.setTop (mkF m 97 #[.val (.int p0), .val (.int p1), .val (.int p2), .val (.int p3), .val (.ref b101), .val (.int (1 : Int32)), .val (.int (0 : Int32)), .val (.int ll), .val (.int rr), .val (.ref b112), .unset, .unset, .unset, .unset] []))
      refine OGo.st (fun t k => XS.iload X118.here hx rfl (hb hby at_97) rfl k) ?_
      show OGo p.tables e below _ (T118.setTop (mkF m 99 #[.val (.int p0), .val (.int p1), .val (.int p2), .val (.int p3), .val (.ref b101), .val (.int (1 : Int32)), .val (.int (0 : Int32)), .val (.int ll), .val (.int rr), .val (.ref b112), .unset, .unset, .unset, .unset] [(.int (0 : Int32))]))
      refine OGo.st (fun t k => XS.iconst X118.here hx rfl (hb hby at_99) k) ?_
      show OGo p.tables e below _ (T118.setTop (mkF m 100 #[.val (.int p0), .val (.int p1), .val (.int p2), .val (.int p3), .val (.ref b101), .val (.int (1 : Int32)), .val (.int (0 : Int32)), .val (.int ll), .val (.int rr), .val (.ref b112), .unset, .unset, .unset, .unset] [(.int (2 : Int32)), (.int (0 : Int32))]))
      refine OGo.st (fun t k => XS.iadd X118.here hx rfl (hb hby at_100) rfl k) ?_
      show OGo p.tables e below _ (T118.setTop (mkF m 101 #[.val (.int p0), .val (.int p1), .val (.int p2), .val (.int p3), .val (.ref b101), .val (.int (1 : Int32)), .val (.int (0 : Int32)), .val (.int ll), .val (.int rr), .val (.ref b112), .unset, .unset, .unset, .unset] [(.int (2 : Int32))]))
      refine OGo.st (fun t k => XS.iload X118.here hx rfl (hb hby at_101) rfl k) ?_
      show OGo p.tables e below _ (T118.setTop (mkF m 103 #[.val (.int p0), .val (.int p1), .val (.int p2), .val (.int p3), .val (.ref b101), .val (.int (1 : Int32)), .val (.int (0 : Int32)), .val (.int ll), .val (.int rr), .val (.ref b112), .unset, .unset, .unset, .unset] [(.int ll), (.int (2 : Int32))]))
      refine OGo.st (fun t k => XS.iadd X118.here hx rfl (hb hby at_103) rfl k) ?_
      show OGo p.tables e below _ (T118.setTop (mkF m 104 #[.val (.int p0), .val (.int p1), .val (.int p2), .val (.int p3), .val (.ref b101), .val (.int (1 : Int32)), .val (.int (0 : Int32)), .val (.int ll), .val (.int rr), .val (.ref b112), .unset, .unset, .unset, .unset] [(.int ((2 : Int32) + ll))]))
      refine OGo.st (fun t k => XS.iload X118.here hx rfl (hb hby at_104) rfl k) ?_
      show OGo p.tables e below _ (T118.setTop (mkF m 106 #[.val (.int p0), .val (.int p1), .val (.int p2), .val (.int p3), .val (.ref b101), .val (.int (1 : Int32)), .val (.int (0 : Int32)), .val (.int ll), .val (.int rr), .val (.ref b112), .unset, .unset, .unset, .unset] [(.int rr), (.int ((2 : Int32) + ll))]))
      refine OGo.st (fun t k => XS.iadd X118.here hx rfl (hb hby at_106) rfl k) ?_
      show OGo p.tables e below _ (T118.setTop (mkF m 107 #[.val (.int p0), .val (.int p1), .val (.int p2), .val (.int p3), .val (.ref b101), .val (.int (1 : Int32)), .val (.int (0 : Int32)), .val (.int ll), .val (.int rr), .val (.ref b112), .unset, .unset, .unset, .unset] [(.int (((2 : Int32) + ll) + rr))]))
      refine OGo.st (fun t k => XS.istore X118.here hx rfl (hb hby at_107) rfl (l' := #[.val (.int p0), .val (.int p1), .val (.int p2), .val (.int p3), .val (.ref b101), .val (.int (1 : Int32)), .val (.int (0 : Int32)), .val (.int ll), .val (.int rr), .val (.ref b112), .val (.int (((2 : Int32) + ll) + rr)), .unset, .unset, .unset]) rfl k) ?_
      show OGo p.tables e below _ (T118.setTop (mkF m 109 #[.val (.int p0), .val (.int p1), .val (.int p2), .val (.int p3), .val (.ref b101), .val (.int (1 : Int32)), .val (.int (0 : Int32)), .val (.int ll), .val (.int rr), .val (.ref b112), .val (.int (((2 : Int32) + ll) + rr)), .unset, .unset, .unset] []))
      have G119 : Exa Z h118 b101 "com/example/holdfast/holdfast/resources/DerReader" := (Exa.wr W118 (Exa.wr W116 (Exa.wr W114 (Exa.ext E112 G109))))
      have G120 : Arv Z h118 b102 k102 .byte (0 : Int32) [] (.int (0 : Int32)) := ((((G111.ext E112).other W114 ne_b102_b112).other W116 ne_b102_b112).other W118 ne_b102_b112)
      obtain ⟨T121, h121, X121, e121, E121, A121, D121, -, st121⟩ := newO X118 hx hZ hown (hw _ (List.mem_of_getElem? (i := 0) rfl)) (hw _ (List.mem_of_getElem? (i := 1) rfl)) (hw _ (List.mem_of_getElem? (i := 2) rfl)) e118 (g := (mkF m 109 #[.val (.int p0), .val (.int p1), .val (.int p2), .val (.int p3), .val (.ref b101), .val (.int (1 : Int32)), .val (.int (0 : Int32)), .val (.int ll), .val (.int rr), .val (.ref b112), .val (.int (((2 : Int32) + ll) + rr)), .unset, .unset, .unset] [])) rfl (hb hby at_109) (by decide) (by decide)
      obtain ⟨b121, g121⟩ : ∃ z, z = h118.size := ⟨_, rfl⟩
      rw [← g121] at A121 D121 st121
      have ge_b121 : n0 ≤ b121 := Nat.le_trans (Nat.le_trans (Nat.le_trans (Nat.le_trans (Nat.le_trans (Nat.le_trans (Nat.le_trans (Nat.le_trans Z0 E101.1) E102.1) K107.1) E112.1) (Keep.of_wr W114).1) (Keep.of_wr W116).1) (Keep.of_wr W118).1) (Nat.le_of_eq g121.symm)
      have sz_b121 : h0.size ≤ b121 := Nat.le_trans (Nat.le_trans (Nat.le_trans (Nat.le_trans (Nat.le_trans (Nat.le_trans (Nat.le_trans (Nat.le_trans (Nat.le_refl h0.size) E101.1) E102.1) K107.1) E112.1) (Keep.of_wr W114).1) (Keep.of_wr W116).1) (Keep.of_wr W118).1) (Nat.le_of_eq g121.symm)
      have ne_b101_b121 : b101 ≠ b121 := Nat.ne_of_lt (Nat.lt_of_lt_of_le G119.lt (Nat.le_of_eq g121.symm))
      have ne_b102_b121 : b102 ≠ b121 := Nat.ne_of_lt (Nat.lt_of_lt_of_le G120.lt (Nat.le_of_eq g121.symm))
      have ne_b112_b121 : b112 ≠ b121 := Nat.ne_of_lt (Nat.lt_of_lt_of_le V118.lt (Nat.le_of_eq g121.symm))
      refine OGo.st st121 ?_
      have Fn121_bytes : Fld Z h121 b121 "com/example/holdfast/holdfast/resources/DerReader" "bytes" "[B" .null := D121 (Or.inr (hw _ (List.mem_of_getElem? (i := 11) rfl))) (ty := (.array .byte)) (by decide)
      have Fn121_position : Fld Z h121 b121 "com/example/holdfast/holdfast/resources/DerReader" "position" "I" (.int (0 : Int32)) := D121 (Or.inl (hw _ (List.mem_of_getElem? (i := 13) rfl))) (ty := .int) (by decide)
      have Fn121_end : Fld Z h121 b121 "com/example/holdfast/holdfast/resources/DerReader" "end" "I" (.int (0 : Int32)) := D121 (Or.inr (hw _ (List.mem_of_getElem? (i := 15) rfl))) (ty := .int) (by decide)
      show OGo p.tables e below _ (T121.setTop (mkF m 112 #[.val (.int p0), .val (.int p1), .val (.int p2), .val (.int p3), .val (.ref b101), .val (.int (1 : Int32)), .val (.int (0 : Int32)), .val (.int ll), .val (.int rr), .val (.ref b112), .val (.int (((2 : Int32) + ll) + rr)), .unset, .unset, .unset] [(.ref b121)]))
      refine OGo.st (fun t k => XS.dup X121.here hx rfl (hb hby at_112) rfl rfl k) ?_
      show OGo p.tables e below _ (T121.setTop (mkF m 113 #[.val (.int p0), .val (.int p1), .val (.int p2), .val (.int p3), .val (.ref b101), .val (.int (1 : Int32)), .val (.int (0 : Int32)), .val (.int ll), .val (.int rr), .val (.ref b112), .val (.int (((2 : Int32) + ll) + rr)), .unset, .unset, .unset] [(.ref b121), (.ref b121)]))
      refine OGo.st (fun t k => XS.aload X121.here hx rfl (hb hby at_113) rfl rfl k) ?_
      show OGo p.tables e below _ (T121.setTop (mkF m 115 #[.val (.int p0), .val (.int p1), .val (.int p2), .val (.int p3), .val (.ref b101), .val (.int (1 : Int32)), .val (.int (0 : Int32)), .val (.int ll), .val (.int rr), .val (.ref b112), .val (.int (((2 : Int32) + ll) + rr)), .unset, .unset, .unset] [(.ref b112), (.ref b121), (.ref b121)]))
      refine OGo.st (fun t k => XS.iload X121.here hx rfl (hb hby at_115) rfl k) ?_
      show OGo p.tables e below _ (T121.setTop (mkF m 117 #[.val (.int p0), .val (.int p1), .val (.int p2), .val (.int p3), .val (.ref b101), .val (.int (1 : Int32)), .val (.int (0 : Int32)), .val (.int ll), .val (.int rr), .val (.ref b112), .val (.int (((2 : Int32) + ll) + rr)), .unset, .unset, .unset] [(.int (0 : Int32)), (.ref b112), (.ref b121), (.ref b121)]))
      refine OGo.st (fun t k => XS.iload X121.here hx rfl (hb hby at_117) rfl k) ?_
      show OGo p.tables e below _ (T121.setTop (mkF m 119 #[.val (.int p0), .val (.int p1), .val (.int p2), .val (.int p3), .val (.ref b101), .val (.int (1 : Int32)), .val (.int (0 : Int32)), .val (.int ll), .val (.int rr), .val (.ref b112), .val (.int (((2 : Int32) + ll) + rr)), .unset, .unset, .unset] [(.int (((2 : Int32) + ll) + rr)), (.int (0 : Int32)), (.ref b112), (.ref b121), (.ref b121)]))
      obtain ⟨_, _, ⟨T122, L122, kk122, nn122⟩, -, X122, ⟨Lc122, hQ122, l122, y122, z122⟩, st122⟩ := X121.specialBack hx (y := (⟨"com/example/holdfast/holdfast/resources/DerReader", "<init>", "([BII)V"⟩ : MethodName)) rfl hown (mvT hZ (hw _ (List.mem_of_getElem? (i := 4) rfl))) (mvT hZ (hw _ (List.mem_of_getElem? (i := 5) rfl))) (mvT hZ (hw _ (List.mem_of_getElem? (i := 6) rfl))) (by decide) (backOf (W := 1) (rm0 l Z ar hw [] b121 b112 (0 : Int32) (((2 : Int32) + ll) + rr) h121 n0 (Nat.le_trans (Nat.le_trans (Nat.le_trans (Nat.le_trans (Nat.le_trans (Nat.le_trans (Nat.le_trans (Nat.le_trans Z0 E101.1) E102.1) K107.1) E112.1) (Keep.of_wr W114).1) (Keep.of_wr W116).1) (Keep.of_wr W118).1) E121.1) A121 ge_b121 Fn121_bytes Fn121_position Fn121_end) hZ (hw _ (List.mem_of_getElem? (i := 6) rfl)) (hw _ (List.mem_of_getElem? (i := 2) rfl)) (by decide) (by decide)) (g := (mkF m 119 #[.val (.int p0), .val (.int p1), .val (.int p2), .val (.int p3), .val (.ref b101), .val (.int (1 : Int32)), .val (.int (0 : Int32)), .val (.int ll), .val (.int rr), .val (.ref b112), .val (.int (((2 : Int32) + ll) + rr)), .unset, .unset, .unset] [(.int (((2 : Int32) + ll) + rr)), (.int (0 : Int32)), (.ref b112), (.ref b121), (.ref b121)])) rfl (by rw [hml]; rfl) (Steps.refl _) (a := b121) (argsL := [(.ref b112), (.int (0 : Int32)), (.int (((2 : Int32) + ll) + rr))]) (rest := [(.ref b121)]) (lenOf pd_3 rfl) rfl (by show 2 * 0 + _ ≤ _; exact Nat.le_of_eq rfl) (hb hby at_119) (fun _ _ => ⟨rfl, e121, (by decide : 4 + 0 ≤ _), (by decide : 16 + 0 ≤ _)⟩)
      dsimp only [Pt.U, Pt.locs, Pt.cells, Pt.slots] at X122 l122 y122 z122 st122 hQ122
      subst l122 y122 z122
      obtain ⟨rfl, Nq122, K122, P122_0, P122_1, P122_2⟩ := hQ122
      have N122 := Fr.app N118 Nq122
      refine OGo.st (fun t k => st122.trans k) ?_
      show OGo p.tables e below _ (T122.setTop (mkF m 122 #[.val (.int p0), .val (.int p1), .val (.int p2), .val (.int p3), .val (.ref b101), .val (.int (1 : Int32)), .val (.int (0 : Int32)), .val (.int ll), .val (.int rr), .val (.ref b112), .val (.int (((2 : Int32) + ll) + rr)), .unset, .unset, .unset] [(.ref b121)]))
      refine OGo.st (fun t k => XS.astore X122.here hx rfl (hb hby at_122) rfl rfl (l' := #[.val (.int p0), .val (.int p1), .val (.int p2), .val (.int p3), .val (.ref b101), .val (.int (1 : Int32)), .val (.int (0 : Int32)), .val (.int ll), .val (.int rr), .val (.ref b112), .val (.int (((2 : Int32) + ll) + rr)), .val (.ref b121), .unset, .unset]) rfl k) ?_
      show OGo p.tables e below _ (T122.setTop (mkF m 124 #[.val (.int p0), .val (.int p1), .val (.int p2), .val (.int p3), .val (.ref b101), .val (.int (1 : Int32)), .val (.int (0 : Int32)), .val (.int ll), .val (.int rr), .val (.ref b112), .val (.int (((2 : Int32) + ll) + rr)), .val (.ref b121), .unset, .unset] []))
      refine OGo.st (fun t k => XS.aload X122.here hx rfl (hb hby at_124) rfl rfl k) ?_
      show OGo p.tables e below _ (T122.setTop (mkF m 126 #[.val (.int p0), .val (.int p1), .val (.int p2), .val (.int p3), .val (.ref b101), .val (.int (1 : Int32)), .val (.int (0 : Int32)), .val (.int ll), .val (.int rr), .val (.ref b112), .val (.int (((2 : Int32) + ll) + rr)), .val (.ref b121), .unset, .unset] [(.ref b121)]))
      have G124 : Exa Z T122.heap b121 "com/example/holdfast/holdfast/resources/DerReader" := (A121.keep K122)
      obtain ⟨cq123, kq123, q123a, q123b, q123c⟩ := isOf hZ rfl G124
      obtain ⟨_, _, ⟨T123, L123, kk123, nn123⟩, -, X123, ⟨Lc123, hQ123, l123, y123, z123⟩, st123⟩ := X122.virtualBack hx (y := (⟨"com/example/holdfast/holdfast/resources/DerReader", "hasMore", "()Z"⟩ : MethodName)) (z := (⟨"com/example/holdfast/holdfast/resources/DerReader", "hasMore", "()Z"⟩ : MethodName)) hown (mvT hZ (hw _ (List.mem_of_getElem? (i := 16) rfl))) (mvT hZ (hw _ (List.mem_of_getElem? (i := 17) rfl))) (notFace_of_selects (args := #[]) (mvT hZ (hw _ (List.mem_of_getElem? (i := 19) rfl)))) (mvT hZ (hw _ (List.mem_of_getElem? (i := 19) rfl))) (mvT hZ (hw _ (List.mem_of_getElem? (i := 18) rfl))) (by decide) (backOf (W := 0) (rm1 l Z ar hw [] b121 (0 : Int32) (((2 : Int32) + ll) + rr) T122.heap n0 (Nat.le_trans (Nat.le_trans (Nat.le_trans (Nat.le_trans (Nat.le_trans (Nat.le_trans (Nat.le_trans (Nat.le_trans (Nat.le_trans Z0 E101.1) E102.1) K107.1) E112.1) (Keep.of_wr W114).1) (Keep.of_wr W116).1) (Keep.of_wr W118).1) E121.1) K122.1) P122_1 P122_2) hZ (hw _ (List.mem_of_getElem? (i := 20) rfl)) (hw _ (List.mem_of_getElem? (i := 2) rfl)) (by decide) (by decide)) q123a q123c (g := (mkF m 126 #[.val (.int p0), .val (.int p1), .val (.int p2), .val (.int p3), .val (.ref b101), .val (.int (1 : Int32)), .val (.int (0 : Int32)), .val (.int ll), .val (.int rr), .val (.ref b112), .val (.int (((2 : Int32) + ll) + rr)), .val (.ref b121), .unset, .unset] [(.ref b121)])) rfl (by rw [hml]; rfl) (Steps.refl _) (argsL := []) (rest := []) (lenOf pd_0 rfl) rfl (by show 2 * 0 + _ ≤ _; exact Nat.le_of_eq rfl) (hb hby at_126) (fun _ _ => ⟨rfl, rfl, (by decide : 4 + 0 ≤ _), (by decide : 16 + 0 ≤ _)⟩)
      dsimp only [Pt.U, Pt.locs, Pt.cells, Pt.slots] at X123 l123 y123 z123 st123 hQ123
      subst l123 y123 z123
      obtain ⟨rfl, Nq123, hh123⟩ := hQ123
      have N123 := Fr.app N122 Nq123
      refine OGo.st (fun t k => st123.trans k) ?_
      have e123 : T123.heap = T122.heap := hh123
      show OGo p.tables e below _ (T123.setTop (mkF m 129 #[.val (.int p0), .val (.int p1), .val (.int p2), .val (.int p3), .val (.ref b101), .val (.int (1 : Int32)), .val (.int (0 : Int32)), .val (.int ll), .val (.int rr), .val (.ref b112), .val (.int (((2 : Int32) + ll) + rr)), .val (.ref b121), .unset, .unset] [(.int (own_lt (0 : Int32) (((2 : Int32) + ll) + rr)))]))
      refine OGo.st (fun t k => XS.istore X123.here hx rfl (hb hby at_129) rfl (l' := #[.val (.int p0), .val (.int p1), .val (.int p2), .val (.int p3), .val (.ref b101), .val (.int (1 : Int32)), .val (.int (0 : Int32)), .val (.int ll), .val (.int rr), .val (.ref b112), .val (.int (((2 : Int32) + ll) + rr)), .val (.ref b121), .val (.int (own_lt (0 : Int32) (((2 : Int32) + ll) + rr))), .unset]) rfl k) ?_
      show OGo p.tables e below _ (T123.setTop (mkF m 131 #[.val (.int p0), .val (.int p1), .val (.int p2), .val (.int p3), .val (.ref b101), .val (.int (1 : Int32)), .val (.int (0 : Int32)), .val (.int ll), .val (.int rr), .val (.ref b112), .val (.int (((2 : Int32) + ll) + rr)), .val (.ref b121), .val (.int (own_lt (0 : Int32) (((2 : Int32) + ll) + rr))), .unset] []))
      refine OGo.st (fun t k => XS.iload X123.here hx rfl (hb hby at_131) rfl k) ?_
      show OGo p.tables e below _ (T123.setTop (mkF m 133 #[.val (.int p0), .val (.int p1), .val (.int p2), .val (.int p3), .val (.ref b101), .val (.int (1 : Int32)), .val (.int (0 : Int32)), .val (.int ll), .val (.int rr), .val (.ref b112), .val (.int (((2 : Int32) + ll) + rr)), .val (.ref b121), .val (.int (own_lt (0 : Int32) (((2 : Int32) + ll) + rr))), .unset] [(.int (own_lt (0 : Int32) (((2 : Int32) + ll) + rr)))]))
      refine OGo.st (fun t k => XS.ifYes X123.here hx rfl (pc0 := 133) (pc' := 138) rfl (hb hby at_133) rfl ((if0 _ _).trans (feq ((own_ltN (own_lti _ _ (by omega))) : ¬ ((own_lt (0 : Int32) (((2 : Int32) + ll) + rr)) = (0 : Int32)))).2) (by decide) (by decide) k) ?_
      show OGo p.tables e below _ (T123.setTop (mkF m 138 #[.val (.int p0), .val (.int p1), .val (.int p2), .val (.int p3), .val (.ref b101), .val (.int (1 : Int32)), .val (.int (0 : Int32)), .val (.int ll), .val (.int rr), .val (.ref b112), .val (.int (((2 : Int32) + ll) + rr)), .val (.ref b121), .val (.int (own_lt (0 : Int32) (((2 : Int32) + ll) + rr))), .unset] []))
      refine OGo.st (fun t k => XS.aload X123.here hx rfl (hb hby at_138) rfl rfl k) ?_
      show OGo p.tables e below _ (T123.setTop (mkF m 140 #[.val (.int p0), .val (.int p1), .val (.int p2), .val (.int p3), .val (.ref b101), .val (.int (1 : Int32)), .val (.int (0 : Int32)), .val (.int ll), .val (.int rr), .val (.ref b112), .val (.int (((2 : Int32) + ll) + rr)), .val (.ref b121), .val (.int (own_lt (0 : Int32) (((2 : Int32) + ll) + rr))), .unset] [(.ref b121)]))
      have G125 : Arv Z T122.heap b112 k112 .byte (10 : Int32) [(.int ((((p2 &&& (254 : Int32))).toInt8.toInt32)).toInt8.toInt32), (.int (((ll).toInt8.toInt32)).toInt8.toInt32), (.int (((((p2.toUInt32 >>> ((8 : Int32) &&& 31).toUInt32).toInt32)).toInt8.toInt32)).toInt8.toInt32), (.int (0 : Int32))] (.int (0 : Int32)) := ((V118.ext E121).keep K122 (ninS ne_b112_b121 nin0))
      obtain ⟨cq126, kq126, q126a, q126b, q126c⟩ := isOf hZ e123 G124
      obtain ⟨_, _, ⟨T126, L126, kk126, nn126⟩, -, X126, ⟨Lc126, hQ126, l126, y126, z126⟩, st126⟩ := X123.virtualBack hx (y := (⟨"com/example/holdfast/holdfast/resources/DerReader", "read", "()Lcom/example/holdfast/holdfast/resources/DerValue;"⟩ : MethodName)) (z := (⟨"com/example/holdfast/holdfast/resources/DerReader", "read", "()Lcom/example/holdfast/holdfast/resources/DerValue;"⟩ : MethodName)) hown (mvT hZ (hw _ (List.mem_of_getElem? (i := 21) rfl))) (mvT hZ (hw _ (List.mem_of_getElem? (i := 22) rfl))) (notFace_of_selects (args := #[]) (mvT hZ (hw _ (List.mem_of_getElem? (i := 24) rfl)))) (mvT hZ (hw _ (List.mem_of_getElem? (i := 24) rfl))) (mvT hZ (hw _ (List.mem_of_getElem? (i := 23) rfl))) (by decide) (backOf (W := 0) (rm4 l Z ar hw [] b121 b112 k112 ((((p2 &&& (254 : Int32))).toInt8.toInt32)).toInt8.toInt32 (((ll).toInt8.toInt32)).toInt8.toInt32 (((((p2.toUInt32 >>> ((8 : Int32) &&& 31).toUInt32).toInt32)).toInt8.toInt32)).toInt8.toInt32 (0 : Int32) (((2 : Int32) + ll) + rr) ll T122.heap n0 (Nat.le_trans (Nat.le_trans (Nat.le_trans (Nat.le_trans (Nat.le_trans (Nat.le_trans (Nat.le_trans (Nat.le_trans (Nat.le_trans Z0 E101.1) E102.1) K107.1) E112.1) (Keep.of_wr W114).1) (Keep.of_wr W116).1) (Keep.of_wr W118).1) E121.1) K122.1) P122_0 G125 P122_1 P122_2 G124 (own_lti _ _ (by omega)) ge_b121 (Ne.symm ne_b112_b121) (own_tag p2) (own_lti _ _ (by omega)) (own_bl ll hll) (own_lti _ _ (by have k : (128 : Int32).toInt = 128 := rfl; omega)) (own_fit (2 : Int32) ll rr ho hll hrr)) hZ (hw _ (List.mem_of_getElem? (i := 25) rfl)) (hw _ (List.mem_of_getElem? (i := 2) rfl)) (by decide) (by decide)) q126a q126c (g := (mkF m 140 #[.val (.int p0), .val (.int p1), .val (.int p2), .val (.int p3), .val (.ref b101), .val (.int (1 : Int32)), .val (.int (0 : Int32)), .val (.int ll), .val (.int rr), .val (.ref b112), .val (.int (((2 : Int32) + ll) + rr)), .val (.ref b121), .val (.int (own_lt (0 : Int32) (((2 : Int32) + ll) + rr))), .unset] [(.ref b121)])) rfl (by rw [hml]; rfl) (Steps.refl _) (argsL := []) (rest := []) (lenOf pd_4 rfl) rfl (by show 2 * 0 + _ ≤ _; exact Nat.le_of_eq rfl) (hb hby at_140) (fun _ _ => ⟨rfl, e123, (by decide : 4 + 1 ≤ _), (by decide : 16 + 5 ≤ _)⟩)
      dsimp only [Pt.U, Pt.locs, Pt.cells, Pt.slots] at X126 l126 y126 z126 st126 hQ126
      subst l126 y126 z126
      obtain ⟨x126_d, rfl, Nq126, K126, P126_0, P126_1⟩ := hQ126
      have N126 := Fr.app N123 Nq126
      refine OGo.st (fun t k => st126.trans k) ?_
      show OGo p.tables e below _ (T126.setTop (mkF m 143 #[.val (.int p0), .val (.int p1), .val (.int p2), .val (.int p3), .val (.ref b101), .val (.int (1 : Int32)), .val (.int (0 : Int32)), .val (.int ll), .val (.int rr), .val (.ref b112), .val (.int (((2 : Int32) + ll) + rr)), .val (.ref b121), .val (.int (own_lt (0 : Int32) (((2 : Int32) + ll) + rr))), .unset] [(.ref x126_d)]))
      refine OGo.st (fun t k => XS.pop X126.here hx rfl (hb hby at_143) rfl rfl k) ?_
      show OGo p.tables e below _ (T126.setTop (mkF m 144 #[.val (.int p0), .val (.int p1), .val (.int p2), .val (.int p3), .val (.ref b101), .val (.int (1 : Int32)), .val (.int (0 : Int32)), .val (.int ll), .val (.int rr), .val (.ref b112), .val (.int (((2 : Int32) + ll) + rr)), .val (.ref b121), .val (.int (own_lt (0 : Int32) (((2 : Int32) + ll) + rr))), .unset] []))
      refine OGo.st (fun t k => XS.aload X126.here hx rfl (hb hby at_144) rfl rfl k) ?_
      show OGo p.tables e below _ (T126.setTop (mkF m 146 #[.val (.int p0), .val (.int p1), .val (.int p2), .val (.int p3), .val (.ref b101), .val (.int (1 : Int32)), .val (.int (0 : Int32)), .val (.int ll), .val (.int rr), .val (.ref b112), .val (.int (((2 : Int32) + ll) + rr)), .val (.ref b121), .val (.int (own_lt (0 : Int32) (((2 : Int32) + ll) + rr))), .unset] [(.ref b121)]))
      have G128 : Exa Z T126.heap b121 "com/example/holdfast/holdfast/resources/DerReader" := (G124.keep K126)
      obtain ⟨cq127, kq127, q127a, q127b, q127c⟩ := isOf hZ rfl G128
      obtain ⟨_, _, ⟨T127, L127, kk127, nn127⟩, -, X127, ⟨Lc127, hQ127, l127, y127, z127⟩, st127⟩ := X126.virtualBack hx (y := (⟨"com/example/holdfast/holdfast/resources/DerReader", "hasMore", "()Z"⟩ : MethodName)) (z := (⟨"com/example/holdfast/holdfast/resources/DerReader", "hasMore", "()Z"⟩ : MethodName)) hown (mvT hZ (hw _ (List.mem_of_getElem? (i := 16) rfl))) (mvT hZ (hw _ (List.mem_of_getElem? (i := 17) rfl))) (notFace_of_selects (args := #[]) (mvT hZ (hw _ (List.mem_of_getElem? (i := 19) rfl)))) (mvT hZ (hw _ (List.mem_of_getElem? (i := 19) rfl))) (mvT hZ (hw _ (List.mem_of_getElem? (i := 18) rfl))) (by decide) (backOf (W := 0) (rm1 l Z ar hw [] b121 ((2 : Int32) + ((((ll).toInt64)).toInt32)) (((2 : Int32) + ll) + rr) T126.heap n0 (Nat.le_trans (Nat.le_trans (Nat.le_trans (Nat.le_trans (Nat.le_trans (Nat.le_trans (Nat.le_trans (Nat.le_trans (Nat.le_trans (Nat.le_trans Z0 E101.1) E102.1) K107.1) E112.1) (Keep.of_wr W114).1) (Keep.of_wr W116).1) (Keep.of_wr W118).1) E121.1) K122.1) K126.1) P126_0 P126_1) hZ (hw _ (List.mem_of_getElem? (i := 20) rfl)) (hw _ (List.mem_of_getElem? (i := 2) rfl)) (by decide) (by decide)) q127a q127c (g := (mkF m 146 #[.val (.int p0), .val (.int p1), .val (.int p2), .val (.int p3), .val (.ref b101), .val (.int (1 : Int32)), .val (.int (0 : Int32)), .val (.int ll), .val (.int rr), .val (.ref b112), .val (.int (((2 : Int32) + ll) + rr)), .val (.ref b121), .val (.int (own_lt (0 : Int32) (((2 : Int32) + ll) + rr))), .unset] [(.ref b121)])) rfl (by rw [hml]; rfl) (Steps.refl _) (argsL := []) (rest := []) (lenOf pd_0 rfl) rfl (by show 2 * 0 + _ ≤ _; exact Nat.le_of_eq rfl) (hb hby at_146) (fun _ _ => ⟨rfl, rfl, (by decide : 5 + 0 ≤ _), (by decide : 21 + 0 ≤ _)⟩)
      dsimp only [Pt.U, Pt.locs, Pt.cells, Pt.slots] at X127 l127 y127 z127 st127 hQ127
      subst l127 y127 z127
      obtain ⟨rfl, Nq127, hh127⟩ := hQ127
      have N127 := Fr.app N126 Nq127
      refine OGo.st (fun t k => st127.trans k) ?_
      have e127 : T127.heap = T126.heap := hh127
      show OGo p.tables e below _ (T127.setTop (mkF m 149 #[.val (.int p0), .val (.int p1), .val (.int p2), .val (.int p3), .val (.ref b101), .val (.int (1 : Int32)), .val (.int (0 : Int32)), .val (.int ll), .val (.int rr), .val (.ref b112), .val (.int (((2 : Int32) + ll) + rr)), .val (.ref b121), .val (.int (own_lt (0 : Int32) (((2 : Int32) + ll) + rr))), .unset] [(.int (own_lt ((2 : Int32) + ((((ll).toInt64)).toInt32)) (((2 : Int32) + ll) + rr)))]))
      refine OGo.st (fun t k => XS.istore X127.here hx rfl (hb hby at_149) rfl (l' := #[.val (.int p0), .val (.int p1), .val (.int p2), .val (.int p3), .val (.ref b101), .val (.int (1 : Int32)), .val (.int (0 : Int32)), .val (.int ll), .val (.int rr), .val (.ref b112), .val (.int (((2 : Int32) + ll) + rr)), .val (.ref b121), .val (.int (own_lt (0 : Int32) (((2 : Int32) + ll) + rr))), .val (.int (own_lt ((2 : Int32) + ((((ll).toInt64)).toInt32)) (((2 : Int32) + ll) + rr)))]) rfl k) ?_
      show OGo p.tables e below _ (T127.setTop (mkF m 151 #[.val (.int p0), .val (.int p1), .val (.int p2), .val (.int p3), .val (.ref b101), .val (.int (1 : Int32)), .val (.int (0 : Int32)), .val (.int ll), .val (.int rr), .val (.ref b112), .val (.int (((2 : Int32) + ll) + rr)), .val (.ref b121), .val (.int (own_lt (0 : Int32) (((2 : Int32) + ll) + rr))), .val (.int (own_lt ((2 : Int32) + ((((ll).toInt64)).toInt32)) (((2 : Int32) + ll) + rr)))] []))
      refine OGo.st (fun t k => XS.iload X127.here hx rfl (hb hby at_151) rfl k) ?_
      show OGo p.tables e below _ (T127.setTop (mkF m 153 #[.val (.int p0), .val (.int p1), .val (.int p2), .val (.int p3), .val (.ref b101), .val (.int (1 : Int32)), .val (.int (0 : Int32)), .val (.int ll), .val (.int rr), .val (.ref b112), .val (.int (((2 : Int32) + ll) + rr)), .val (.ref b121), .val (.int (own_lt (0 : Int32) (((2 : Int32) + ll) + rr))), .val (.int (own_lt ((2 : Int32) + ((((ll).toInt64)).toInt32)) (((2 : Int32) + ll) + rr)))] [(.int (1 : Int32))]))
      refine OGo.st (fun t k => XS.ifNo X127.here hx rfl (hb hby at_153) rfl ((if0 _ _).trans (feq (by decide : ¬ ((1 : Int32) = (0 : Int32)))).1) k) ?_
      show OGo p.tables e below _ (T127.setTop (mkF m 156 #[.val (.int p0), .val (.int p1), .val (.int p2), .val (.int p3), .val (.ref b101), .val (.int (1 : Int32)), .val (.int (0 : Int32)), .val (.int ll), .val (.int rr), .val (.ref b112), .val (.int (((2 : Int32) + ll) + rr)), .val (.ref b121), .val (.int (own_lt (0 : Int32) (((2 : Int32) + ll) + rr))), .val (.int (own_lt ((2 : Int32) + ((((ll).toInt64)).toInt32)) (((2 : Int32) + ll) + rr)))] []))
      refine OGo.st (fun t k => XS.iload X127.here hx rfl (hb hby at_156) rfl k) ?_
      show OGo p.tables e below _ (T127.setTop (mkF m 158 #[.val (.int p0), .val (.int p1), .val (.int p2), .val (.int p3), .val (.ref b101), .val (.int (1 : Int32)), .val (.int (0 : Int32)), .val (.int ll), .val (.int rr), .val (.ref b112), .val (.int (((2 : Int32) + ll) + rr)), .val (.ref b121), .val (.int (own_lt (0 : Int32) (((2 : Int32) + ll) + rr))), .val (.int (own_lt ((2 : Int32) + ((((ll).toInt64)).toInt32)) (((2 : Int32) + ll) + rr)))] [(.int (own_lt ((2 : Int32) + ((((ll).toInt64)).toInt32)) (((2 : Int32) + ll) + rr)))]))
      refine OGo.st (fun t k => XS.iload X127.here hx rfl (hb hby at_158) rfl k) ?_
      show OGo p.tables e below _ (T127.setTop (mkF m 160 #[.val (.int p0), .val (.int p1), .val (.int p2), .val (.int p3), .val (.ref b101), .val (.int (1 : Int32)), .val (.int (0 : Int32)), .val (.int ll), .val (.int rr), .val (.ref b112), .val (.int (((2 : Int32) + ll) + rr)), .val (.ref b121), .val (.int (own_lt (0 : Int32) (((2 : Int32) + ll) + rr))), .val (.int (own_lt ((2 : Int32) + ((((ll).toInt64)).toInt32)) (((2 : Int32) + ll) + rr)))] [(.int rr), (.int (own_lt ((2 : Int32) + ((((ll).toInt64)).toInt32)) (((2 : Int32) + ll) + rr)))]))
      by_cases hc160_129 : (0 : Int32) < rr
      ·
        refine OGo.st (fun t k => XS.ifNo X127.here hx rfl (hb hby at_160) rfl ((if0 _ _).trans (tlt hc160_129).2.2.2) k) ?_
        show OGo p.tables e below _ (T127.setTop (mkF m 163 #[.val (.int p0), .val (.int p1), .val (.int p2), .val (.int p3), .val (.ref b101), .val (.int (1 : Int32)), .val (.int (0 : Int32)), .val (.int ll), .val (.int rr), .val (.ref b112), .val (.int (((2 : Int32) + ll) + rr)), .val (.ref b121), .val (.int (own_lt (0 : Int32) (((2 : Int32) + ll) + rr))), .val (.int (own_lt ((2 : Int32) + ((((ll).toInt64)).toInt32)) (((2 : Int32) + ll) + rr)))] [(.int (own_lt ((2 : Int32) + ((((ll).toInt64)).toInt32)) (((2 : Int32) + ll) + rr)))]))
        refine OGo.st (fun t k => XS.iconst X127.here hx rfl (hb hby at_163) k) ?_
        show OGo p.tables e below _ (T127.setTop (mkF m 164 #[.val (.int p0), .val (.int p1), .val (.int p2), .val (.int p3), .val (.ref b101), .val (.int (1 : Int32)), .val (.int (0 : Int32)), .val (.int ll), .val (.int rr), .val (.ref b112), .val (.int (((2 : Int32) + ll) + rr)), .val (.ref b121), .val (.int (own_lt (0 : Int32) (((2 : Int32) + ll) + rr))), .val (.int (own_lt ((2 : Int32) + ((((ll).toInt64)).toInt32)) (((2 : Int32) + ll) + rr)))] [(.int (1 : Int32)), (.int (own_lt ((2 : Int32) + ((((ll).toInt64)).toInt32)) (((2 : Int32) + ll) + rr)))]))
        refine OGo.st (fun t k => XS.goto X127.here hx rfl (pc0 := 164) (pc' := 168) rfl (hb hby at_164) (by decide) (by decide) k) ?_
        show OGo p.tables e below _ (T127.setTop (mkF m 168 #[.val (.int p0), .val (.int p1), .val (.int p2), .val (.int p3), .val (.ref b101), .val (.int (1 : Int32)), .val (.int (0 : Int32)), .val (.int ll), .val (.int rr), .val (.ref b112), .val (.int (((2 : Int32) + ll) + rr)), .val (.ref b121), .val (.int (own_lt (0 : Int32) (((2 : Int32) + ll) + rr))), .val (.int (own_lt ((2 : Int32) + ((((ll).toInt64)).toInt32)) (((2 : Int32) + ll) + rr)))] [(.int (1 : Int32)), (.int (own_lt ((2 : Int32) + ((((ll).toInt64)).toInt32)) (((2 : Int32) + ll) + rr)))]))
        refine OGo.st (fun t k => XS.icmpNo X127.here hx rfl (hb hby at_168) rfl (teq ((own_ltT ((own_after (2 : Int32) ll rr ho hll hrr).mpr hc160_129)) : (own_lt ((2 : Int32) + ((((ll).toInt64)).toInt32)) (((2 : Int32) + ll) + rr)) = (1 : Int32))).2 k) ?_
        show OGo p.tables e below _ (T127.setTop (mkF m 171 #[.val (.int p0), .val (.int p1), .val (.int p2), .val (.int p3), .val (.ref b101), .val (.int (1 : Int32)), .val (.int (0 : Int32)), .val (.int ll), .val (.int rr), .val (.ref b112), .val (.int (((2 : Int32) + ll) + rr)), .val (.ref b121), .val (.int (own_lt (0 : Int32) (((2 : Int32) + ll) + rr))), .val (.int (own_lt ((2 : Int32) + ((((ll).toInt64)).toInt32)) (((2 : Int32) + ll) + rr)))] []))
        refine OGo.st (fun t k => XS.iconst X127.here hx rfl (hb hby at_171) k) ?_
        show OGo p.tables e below _ (T127.setTop (mkF m 172 #[.val (.int p0), .val (.int p1), .val (.int p2), .val (.int p3), .val (.ref b101), .val (.int (1 : Int32)), .val (.int (0 : Int32)), .val (.int ll), .val (.int rr), .val (.ref b112), .val (.int (((2 : Int32) + ll) + rr)), .val (.ref b121), .val (.int (own_lt (0 : Int32) (((2 : Int32) + ll) + rr))), .val (.int (own_lt ((2 : Int32) + ((((ll).toInt64)).toInt32)) (((2 : Int32) + ll) + rr)))] [(.int (1 : Int32))]))
        refine OGo.st (fun t k => XS.goto X127.here hx rfl (pc0 := 172) (pc' := 176) rfl (hb hby at_172) (by decide) (by decide) k) ?_
        show OGo p.tables e below _ (T127.setTop (mkF m 176 #[.val (.int p0), .val (.int p1), .val (.int p2), .val (.int p3), .val (.ref b101), .val (.int (1 : Int32)), .val (.int (0 : Int32)), .val (.int ll), .val (.int rr), .val (.ref b112), .val (.int (((2 : Int32) + ll) + rr)), .val (.ref b121), .val (.int (own_lt (0 : Int32) (((2 : Int32) + ll) + rr))), .val (.int (own_lt ((2 : Int32) + ((((ll).toInt64)).toInt32)) (((2 : Int32) + ll) + rr)))] [(.int (1 : Int32))]))
        obtain ⟨fs, hr, hrun, hended, hW, hsame⟩ := X127.leave (v := some (.int (1 : Int32))) (fun h => by rw [Bd.returns] at h; cases h)
        refine OGo.done (retN X127 hx (t := .boolean) Bd.returns (by simp) (hb hby at_176) hr) ⟨hrun, hended, _, _, rfl, ?_, ⟨_, rfl⟩, hW, hsame.mono (by decide) (by decide)⟩
        show Q7 Z p0 p1 p2 p3 h0 n0 _ T127.heap _
        rw [e127]
        exact ⟨rfl, N127⟩
      ·
        refine OGo.st (fun t k => XS.ifYes X127.here hx rfl (pc0 := 160) (pc' := 167) rfl (hb hby at_160) rfl ((if0 _ _).trans (flt hc160_129).2.2.2) (by decide) (by decide) k) ?_
        show OGo p.tables e below _ (T127.setTop (mkF m 167 #[.val (.int p0), .val (.int p1), .val (.int p2), .val (.int p3), .val (.ref b101), .val (.int (1 : Int32)), .val (.int (0 : Int32)), .val (.int ll), .val (.int rr), .val (.ref b112), .val (.int (((2 : Int32) + ll) + rr)), .val (.ref b121), .val (.int (own_lt (0 : Int32) (((2 : Int32) + ll) + rr))), .val (.int (own_lt ((2 : Int32) + ((((ll).toInt64)).toInt32)) (((2 : Int32) + ll) + rr)))] [(.int (own_lt ((2 : Int32) + ((((ll).toInt64)).toInt32)) (((2 : Int32) + ll) + rr)))]))
        refine OGo.st (fun t k => XS.iconst X127.here hx rfl (hb hby at_167) k) ?_
        show OGo p.tables e below _ (T127.setTop (mkF m 168 #[.val (.int p0), .val (.int p1), .val (.int p2), .val (.int p3), .val (.ref b101), .val (.int (1 : Int32)), .val (.int (0 : Int32)), .val (.int ll), .val (.int rr), .val (.ref b112), .val (.int (((2 : Int32) + ll) + rr)), .val (.ref b121), .val (.int (own_lt (0 : Int32) (((2 : Int32) + ll) + rr))), .val (.int (own_lt ((2 : Int32) + ((((ll).toInt64)).toInt32)) (((2 : Int32) + ll) + rr)))] [(.int (0 : Int32)), (.int (own_lt ((2 : Int32) + ((((ll).toInt64)).toInt32)) (((2 : Int32) + ll) + rr)))]))
        refine OGo.st (fun t k => XS.icmpNo X127.here hx rfl (hb hby at_168) rfl (teq ((own_ltF (fun q => hc160_129 ((own_after (2 : Int32) ll rr ho hll hrr).mp q))) : (own_lt ((2 : Int32) + ((((ll).toInt64)).toInt32)) (((2 : Int32) + ll) + rr)) = (0 : Int32))).2 k) ?_
        show OGo p.tables e below _ (T127.setTop (mkF m 171 #[.val (.int p0), .val (.int p1), .val (.int p2), .val (.int p3), .val (.ref b101), .val (.int (1 : Int32)), .val (.int (0 : Int32)), .val (.int ll), .val (.int rr), .val (.ref b112), .val (.int (((2 : Int32) + ll) + rr)), .val (.ref b121), .val (.int (own_lt (0 : Int32) (((2 : Int32) + ll) + rr))), .val (.int (own_lt ((2 : Int32) + ((((ll).toInt64)).toInt32)) (((2 : Int32) + ll) + rr)))] []))
        refine OGo.st (fun t k => XS.iconst X127.here hx rfl (hb hby at_171) k) ?_
        show OGo p.tables e below _ (T127.setTop (mkF m 172 #[.val (.int p0), .val (.int p1), .val (.int p2), .val (.int p3), .val (.ref b101), .val (.int (1 : Int32)), .val (.int (0 : Int32)), .val (.int ll), .val (.int rr), .val (.ref b112), .val (.int (((2 : Int32) + ll) + rr)), .val (.ref b121), .val (.int (own_lt (0 : Int32) (((2 : Int32) + ll) + rr))), .val (.int (own_lt ((2 : Int32) + ((((ll).toInt64)).toInt32)) (((2 : Int32) + ll) + rr)))] [(.int (1 : Int32))]))
        refine OGo.st (fun t k => XS.goto X127.here hx rfl (pc0 := 172) (pc' := 176) rfl (hb hby at_172) (by decide) (by decide) k) ?_
        show OGo p.tables e below _ (T127.setTop (mkF m 176 #[.val (.int p0), .val (.int p1), .val (.int p2), .val (.int p3), .val (.ref b101), .val (.int (1 : Int32)), .val (.int (0 : Int32)), .val (.int ll), .val (.int rr), .val (.ref b112), .val (.int (((2 : Int32) + ll) + rr)), .val (.ref b121), .val (.int (own_lt (0 : Int32) (((2 : Int32) + ll) + rr))), .val (.int (own_lt ((2 : Int32) + ((((ll).toInt64)).toInt32)) (((2 : Int32) + ll) + rr)))] [(.int (1 : Int32))]))
        obtain ⟨fs, hr, hrun, hended, hW, hsame⟩ := X127.leave (v := some (.int (1 : Int32))) (fun h => by rw [Bd.returns] at h; cases h)
        refine OGo.done (retN X127 hx (t := .boolean) Bd.returns (by simp) (hb hby at_176) hr) ⟨hrun, hended, _, _, rfl, ?_, ⟨_, rfl⟩, hW, hsame.mono (by decide) (by decide)⟩
        show Q7 Z p0 p1 p2 p3 h0 n0 _ T127.heap _
        rw [e127]
        exact ⟨rfl, N127⟩
    ·
      rw [hn]
      show OGo p.tables e below _ (T108.setTop (mkF m 44 #[.val (.int p0), .val (.int p1), .val (.int p2), .val (.int p3), .val (.ref b101), .val (.int (1 : Int32)), .val (.int (1 : Int32)), .unset, .unset, .unset, .unset, .unset, .unset, .unset] []))
      refine OGo.st (fun t k => XS.iloadN X108.here hx rfl (hb hby at_44) rfl k) ?_
      show OGo p.tables e below _ (T108.setTop (mkF m 45 #[.val (.int p0), .val (.int p1), .val (.int p2), .val (.int p3), .val (.ref b101), .val (.int (1 : Int32)), .val (.int (1 : Int32)), .unset, .unset, .unset, .unset, .unset, .unset, .unset] [(.int p3)]))
      refine OGo.st (fun t k => XS.iconst X108.here hx rfl (hb hby at_45) k) ?_
      show OGo p.tables e below _ (T108.setTop (mkF m 46 #[.val (.int p0), .val (.int p1), .val (.int p2), .val (.int p3), .val (.ref b101), .val (.int (1 : Int32)), .val (.int (1 : Int32)), .unset, .unset, .unset, .unset, .unset, .unset, .unset] [(.int (1 : Int32)), (.int p3)]))
      refine OGo.st (fun t k => XS.iushr X108.here hx rfl (hb hby at_46) rfl k) ?_
      show OGo p.tables e below _ (T108.setTop (mkF m 47 #[.val (.int p0), .val (.int p1), .val (.int p2), .val (.int p3), .val (.ref b101), .val (.int (1 : Int32)), .val (.int (1 : Int32)), .unset, .unset, .unset, .unset, .unset, .unset, .unset] [(.int ((p3.toUInt32 >>> ((1 : Int32) &&& 31).toUInt32).toInt32))]))
      refine OGo.st (fun t k => XS.iconst X108.here hx rfl (hb hby at_47) k) ?_
      show OGo p.tables e below _ (T108.setTop (mkF m 48 #[.val (.int p0), .val (.int p1), .val (.int p2), .val (.int p3), .val (.ref b101), .val (.int (1 : Int32)), .val (.int (1 : Int32)), .unset, .unset, .unset, .unset, .unset, .unset, .unset] [(.int (3 : Int32)), (.int ((p3.toUInt32 >>> ((1 : Int32) &&& 31).toUInt32).toInt32))]))
      refine OGo.st (fun t k => XS.iand X108.here hx rfl (hb hby at_48) rfl k) ?_
      show OGo p.tables e below _ (T108.setTop (mkF m 49 #[.val (.int p0), .val (.int p1), .val (.int p2), .val (.int p3), .val (.ref b101), .val (.int (1 : Int32)), .val (.int (1 : Int32)), .unset, .unset, .unset, .unset, .unset, .unset, .unset] [(.int (((p3.toUInt32 >>> ((1 : Int32) &&& 31).toUInt32).toInt32) &&& (3 : Int32)))]))
      refine OGo.st (fun t k => XS.istore X108.here hx rfl (hb hby at_49) rfl (l' := #[.val (.int p0), .val (.int p1), .val (.int p2), .val (.int p3), .val (.ref b101), .val (.int (1 : Int32)), .val (.int (1 : Int32)), .val (.int (((p3.toUInt32 >>> ((1 : Int32) &&& 31).toUInt32).toInt32) &&& (3 : Int32))), .unset, .unset, .unset, .unset, .unset, .unset]) rfl k) ?_
      show OGo p.tables e below _ (T108.setTop (mkF m 51 #[.val (.int p0), .val (.int p1), .val (.int p2), .val (.int p3), .val (.ref b101), .val (.int (1 : Int32)), .val (.int (1 : Int32)), .val (.int (((p3.toUInt32 >>> ((1 : Int32) &&& 31).toUInt32).toInt32) &&& (3 : Int32))), .unset, .unset, .unset, .unset, .unset, .unset] []))
      refine OGo.st (fun t k => XS.iloadN X108.here hx rfl (hb hby at_51) rfl k) ?_
      show OGo p.tables e below _ (T108.setTop (mkF m 52 #[.val (.int p0), .val (.int p1), .val (.int p2), .val (.int p3), .val (.ref b101), .val (.int (1 : Int32)), .val (.int (1 : Int32)), .val (.int (((p3.toUInt32 >>> ((1 : Int32) &&& 31).toUInt32).toInt32) &&& (3 : Int32))), .unset, .unset, .unset, .unset, .unset, .unset] [(.int p3)]))
      refine OGo.st (fun t k => XS.iconst X108.here hx rfl (hb hby at_52) k) ?_
      show OGo p.tables e below _ (T108.setTop (mkF m 53 #[.val (.int p0), .val (.int p1), .val (.int p2), .val (.int p3), .val (.ref b101), .val (.int (1 : Int32)), .val (.int (1 : Int32)), .val (.int (((p3.toUInt32 >>> ((1 : Int32) &&& 31).toUInt32).toInt32) &&& (3 : Int32))), .unset, .unset, .unset, .unset, .unset, .unset] [(.int (3 : Int32)), (.int p3)]))
      refine OGo.st (fun t k => XS.iushr X108.here hx rfl (hb hby at_53) rfl k) ?_
      show OGo p.tables e below _ (T108.setTop (mkF m 54 #[.val (.int p0), .val (.int p1), .val (.int p2), .val (.int p3), .val (.ref b101), .val (.int (1 : Int32)), .val (.int (1 : Int32)), .val (.int (((p3.toUInt32 >>> ((1 : Int32) &&& 31).toUInt32).toInt32) &&& (3 : Int32))), .unset, .unset, .unset, .unset, .unset, .unset] [(.int ((p3.toUInt32 >>> ((3 : Int32) &&& 31).toUInt32).toInt32))]))
      refine OGo.st (fun t k => XS.iconst X108.here hx rfl (hb hby at_54) k) ?_
      show OGo p.tables e below _ (T108.setTop (mkF m 55 #[.val (.int p0), .val (.int p1), .val (.int p2), .val (.int p3), .val (.ref b101), .val (.int (1 : Int32)), .val (.int (1 : Int32)), .val (.int (((p3.toUInt32 >>> ((1 : Int32) &&& 31).toUInt32).toInt32) &&& (3 : Int32))), .unset, .unset, .unset, .unset, .unset, .unset] [(.int (3 : Int32)), (.int ((p3.toUInt32 >>> ((3 : Int32) &&& 31).toUInt32).toInt32))]))
      refine OGo.st (fun t k => XS.iand X108.here hx rfl (hb hby at_55) rfl k) ?_
      show OGo p.tables e below _ (T108.setTop (mkF m 56 #[.val (.int p0), .val (.int p1), .val (.int p2), .val (.int p3), .val (.ref b101), .val (.int (1 : Int32)), .val (.int (1 : Int32)), .val (.int (((p3.toUInt32 >>> ((1 : Int32) &&& 31).toUInt32).toInt32) &&& (3 : Int32))), .unset, .unset, .unset, .unset, .unset, .unset] [(.int (((p3.toUInt32 >>> ((3 : Int32) &&& 31).toUInt32).toInt32) &&& (3 : Int32)))]))
      refine OGo.st (fun t k => XS.istore X108.here hx rfl (hb hby at_56) rfl (l' := #[.val (.int p0), .val (.int p1), .val (.int p2), .val (.int p3), .val (.ref b101), .val (.int (1 : Int32)), .val (.int (1 : Int32)), .val (.int (((p3.toUInt32 >>> ((1 : Int32) &&& 31).toUInt32).toInt32) &&& (3 : Int32))), .val (.int (((p3.toUInt32 >>> ((3 : Int32) &&& 31).toUInt32).toInt32) &&& (3 : Int32))), .unset, .unset, .unset, .unset, .unset]) rfl k) ?_
      show OGo p.tables e below _ (T108.setTop (mkF m 58 #[.val (.int p0), .val (.int p1), .val (.int p2), .val (.int p3), .val (.ref b101), .val (.int (1 : Int32)), .val (.int (1 : Int32)), .val (.int (((p3.toUInt32 >>> ((1 : Int32) &&& 31).toUInt32).toInt32) &&& (3 : Int32))), .val (.int (((p3.toUInt32 >>> ((3 : Int32) &&& 31).toUInt32).toInt32) &&& (3 : Int32))), .unset, .unset, .unset, .unset, .unset] []))
      have hll := own_m3 ((p3.toUInt32 >>> ((1 : Int32) &&& 31).toUInt32).toInt32)
      generalize (((p3.toUInt32 >>> ((1 : Int32) &&& 31).toUInt32).toInt32) &&& (3 : Int32)) = ll at hll ⊢
      have hrr := own_m3 ((p3.toUInt32 >>> ((3 : Int32) &&& 31).toUInt32).toInt32)
      generalize (((p3.toUInt32 >>> ((3 : Int32) &&& 31).toUInt32).toInt32) &&& (3 : Int32)) = rr at hrr ⊢
      have ho : 2 ≤ (3 : Int32).toInt ∧ (3 : Int32).toInt < 4 := by decide
      have hst := own_stop (3 : Int32) ll rr ho hll hrr
      have k0 : (0 : Int32).toInt = 0 := rfl
      have k1 : (1 : Int32).toInt = 1 := rfl
      have k2 : (2 : Int32).toInt = 2 := rfl
      have k3 : (3 : Int32).toInt = 3 := rfl
      show OGo p.tables e below _ (T108.setTop (mkF m 58 #[.val (.int p0), .val (.int p1), .val (.int p2), .val (.int p3), .val (.ref b101), .val (.int (1 : Int32)), .val (.int (1 : Int32)), .val (.int ll), .val (.int rr), .unset, .unset, .unset, .unset, .unset] []))
      refine OGo.st (fun t k => XS.bipush X108.here hx rfl (hb hby at_58) k) ?_
      show OGo p.tables e below _ (T108.setTop (mkF m 60 #[.val (.int p0), .val (.int p1), .val (.int p2), .val (.int p3), .val (.ref b101), .val (.int (1 : Int32)), .val (.int (1 : Int32)), .val (.int ll), .val (.int rr), .unset, .unset, .unset, .unset, .unset] [(.int (10 : Int32))]))
      have G132 : Arv Z T107.heap b102 k102 .byte (0 : Int32) [] (.int (0 : Int32)) := (V102.keep K107 (ninS (Ne.symm ne_b101_b102) nin0))
      obtain ⟨T133, h133, k133, X133, e133, E133, A133, st133⟩ := newP X108 hx hZ (hw _ (List.mem_of_getElem? (i := 3) rfl)) e108 (g := (mkF m 60 #[.val (.int p0), .val (.int p1), .val (.int p2), .val (.int p3), .val (.ref b101), .val (.int (1 : Int32)), .val (.int (1 : Int32)), .val (.int ll), .val (.int rr), .unset, .unset, .unset, .unset, .unset] [(.int (10 : Int32))])) rfl (hb hby at_60) rfl (by decide) (cap := 10) (by decide) (by decide) (by decide) (by decide)
      obtain ⟨b133, g133⟩ : ∃ z, z = T107.heap.size := ⟨_, rfl⟩
      rw [← g133] at A133 st133
      have ge_b133 : n0 ≤ b133 := Nat.le_trans (Nat.le_trans (Nat.le_trans (Nat.le_trans Z0 E101.1) E102.1) K107.1) (Nat.le_of_eq g133.symm)
      have sz_b133 : h0.size ≤ b133 := Nat.le_trans (Nat.le_trans (Nat.le_trans (Nat.le_trans (Nat.le_refl h0.size) E101.1) E102.1) K107.1) (Nat.le_of_eq g133.symm)
      have ne_b101_b133 : b101 ≠ b133 := Nat.ne_of_lt (Nat.lt_of_lt_of_le G109.lt (Nat.le_of_eq g133.symm))
      have ne_b102_b133 : b102 ≠ b133 := Nat.ne_of_lt (Nat.lt_of_lt_of_le G132.lt (Nat.le_of_eq g133.symm))
      have V133 : Arv Z h133 b133 k133 .byte (10 : Int32) [(.int (0 : Int32)), (.int (0 : Int32)), (.int (0 : Int32)), (.int (0 : Int32))] (.int (0 : Int32)) := (Arv.new A133 (by decide)).pad (pad_rep [] (.int (0 : Int32)) 4)
      refine OGo.st st133 ?_
      show OGo p.tables e below _ (T133.setTop (mkF m 62 #[.val (.int p0), .val (.int p1), .val (.int p2), .val (.int p3), .val (.ref b101), .val (.int (1 : Int32)), .val (.int (1 : Int32)), .val (.int ll), .val (.int rr), .unset, .unset, .unset, .unset, .unset] [(.ref b133)]))
      refine OGo.st (fun t k => XS.astore X133.here hx rfl (hb hby at_62) rfl rfl (l' := #[.val (.int p0), .val (.int p1), .val (.int p2), .val (.int p3), .val (.ref b101), .val (.int (1 : Int32)), .val (.int (1 : Int32)), .val (.int ll), .val (.int rr), .val (.ref b133), .unset, .unset, .unset, .unset]) rfl k) ?_
      show OGo p.tables e below _ (T133.setTop (mkF m 64 #[.val (.int p0), .val (.int p1), .val (.int p2), .val (.int p3), .val (.ref b101), .val (.int (1 : Int32)), .val (.int (1 : Int32)), .val (.int ll), .val (.int rr), .val (.ref b133), .unset, .unset, .unset, .unset] []))
      refine OGo.st (fun t k => XS.aload X133.here hx rfl (hb hby at_64) rfl rfl k) ?_
      show OGo p.tables e below _ (T133.setTop (mkF m 66 #[.val (.int p0), .val (.int p1), .val (.int p2), .val (.int p3), .val (.ref b101), .val (.int (1 : Int32)), .val (.int (1 : Int32)), .val (.int ll), .val (.int rr), .val (.ref b133), .unset, .unset, .unset, .unset] [(.ref b133)]))
      refine OGo.st (fun t k => XS.iload X133.here hx rfl (hb hby at_66) rfl k) ?_
      show OGo p.tables e below _ (T133.setTop (mkF m 68 #[.val (.int p0), .val (.int p1), .val (.int p2), .val (.int p3), .val (.ref b101), .val (.int (1 : Int32)), .val (.int (1 : Int32)), .val (.int ll), .val (.int rr), .val (.ref b133), .unset, .unset, .unset, .unset] [(.int (1 : Int32)), (.ref b133)]))
      refine OGo.st (fun t k => XS.iloadN X133.here hx rfl (hb hby at_68) rfl k) ?_
      show OGo p.tables e below _ (T133.setTop (mkF m 69 #[.val (.int p0), .val (.int p1), .val (.int p2), .val (.int p3), .val (.ref b101), .val (.int (1 : Int32)), .val (.int (1 : Int32)), .val (.int ll), .val (.int rr), .val (.ref b133), .unset, .unset, .unset, .unset] [(.int p2), (.int (1 : Int32)), (.ref b133)]))
      refine OGo.st (fun t k => XS.sipush X133.here hx rfl (hb hby at_69) k) ?_
      show OGo p.tables e below _ (T133.setTop (mkF m 72 #[.val (.int p0), .val (.int p1), .val (.int p2), .val (.int p3), .val (.ref b101), .val (.int (1 : Int32)), .val (.int (1 : Int32)), .val (.int ll), .val (.int rr), .val (.ref b133), .unset, .unset, .unset, .unset] [(.int (254 : Int32)), (.int p2), (.int (1 : Int32)), (.ref b133)]))
      refine OGo.st (fun t k => XS.iand X133.here hx rfl (hb hby at_72) rfl k) ?_
      show OGo p.tables e below _ (T133.setTop (mkF m 73 #[.val (.int p0), .val (.int p1), .val (.int p2), .val (.int p3), .val (.ref b101), .val (.int (1 : Int32)), .val (.int (1 : Int32)), .val (.int ll), .val (.int rr), .val (.ref b133), .unset, .unset, .unset, .unset] [(.int (p2 &&& (254 : Int32))), (.int (1 : Int32)), (.ref b133)]))
      refine OGo.st (fun t k => XS.i2b X133.here hx rfl (hb hby at_73) rfl k) ?_
      show OGo p.tables e below _ (T133.setTop (mkF m 74 #[.val (.int p0), .val (.int p1), .val (.int p2), .val (.int p3), .val (.ref b101), .val (.int (1 : Int32)), .val (.int (1 : Int32)), .val (.int ll), .val (.int rr), .val (.ref b133), .unset, .unset, .unset, .unset] [(.int (((p2 &&& (254 : Int32))).toInt8.toInt32)), (.int (1 : Int32)), (.ref b133)]))
      obtain ⟨cl134, Ar134, qc134, Sz134, Nz134, Hs134, Gs134⟩ := id V133
      have hin134 : ¬ ((1 : Int32) < 0 ∨ cl134.slots.size ≤ ((1 : Int32)).toNatClampNeg) := inb_of Sz134 ⟨by decide, by decide⟩
      obtain ⟨T135, h135, X135, e135, W135, st135⟩ := stB X133 hx hZ e133 Ar134 (j := (1 : Int32)) hin134 (g := (mkF m 74 #[.val (.int p0), .val (.int p1), .val (.int p2), .val (.int p3), .val (.ref b101), .val (.int (1 : Int32)), .val (.int (1 : Int32)), .val (.int ll), .val (.int rr), .val (.ref b133), .unset, .unset, .unset, .unset] [(.int (((p2 &&& (254 : Int32))).toInt8.toInt32)), (.int (1 : Int32)), (.ref b133)])) rfl rfl (hb hby at_74)
      refine OGo.st st135 ?_
      have N135 := Fr.snoc X135 N108 ge_b133
      have V135 : Arv Z h135 b133 k133 .byte (10 : Int32) [(.int (0 : Int32)), (.int ((((p2 &&& (254 : Int32))).toInt8.toInt32)).toInt8.toInt32), (.int (0 : Int32)), (.int (0 : Int32))] (.int (0 : Int32)) := Arv.set Ar134 qc134 Sz134 Nz134 Hs134 Gs134 (fits_nar_byte _) W135 1 rfl (Nat.le_of_ble_eq_true rfl)
      show OGo p.tables e below _ (T135.setTop (mkF m 75 #[.val (.int p0), .val (.int p1), .val (.int p2), .val (.int p3), .val (.ref b101), .val (.int (1 : Int32)), .val (.int (1 : Int32)), .val (.int ll), .val (.int rr), .val (.ref b133), .unset, .unset, .unset, .unset] []))
      refine OGo.st (fun t k => XS.aload X135.here hx rfl (hb hby at_75) rfl rfl k) ?_
      show OGo p.tables e below _ (T135.setTop (mkF m 77 #[.val (.int p0), .val (.int p1), .val (.int p2), .val (.int p3), .val (.ref b101), .val (.int (1 : Int32)), .val (.int (1 : Int32)), .val (.int ll), .val (.int rr), .val (.ref b133), .unset, .unset, .unset, .unset] [(.ref b133)]))
      refine OGo.st (fun t k => XS.iload X135.here hx rfl (hb hby at_77) rfl k) ?_
      show OGo p.tables e below _ (T135.setTop (mkF m 79 #[.val (.int p0), .val (.int p1), .val (.int p2), .val (.int p3), .val (.ref b101), .val (.int (1 : Int32)), .val (.int (1 : Int32)), .val (.int ll), .val (.int rr), .val (.ref b133), .unset, .unset, .unset, .unset] [(.int (1 : Int32)), (.ref b133)]))
      refine OGo.st (fun t k => XS.iconst X135.here hx rfl (hb hby at_79) k) ?_
      show OGo p.tables e below _ (T135.setTop (mkF m 80 #[.val (.int p0), .val (.int p1), .val (.int p2), .val (.int p3), .val (.ref b101), .val (.int (1 : Int32)), .val (.int (1 : Int32)), .val (.int ll), .val (.int rr), .val (.ref b133), .unset, .unset, .unset, .unset] [(.int (1 : Int32)), (.int (1 : Int32)), (.ref b133)]))
      refine OGo.st (fun t k => XS.iadd X135.here hx rfl (hb hby at_80) rfl k) ?_
      show OGo p.tables e below _ (T135.setTop (mkF m 81 #[.val (.int p0), .val (.int p1), .val (.int p2), .val (.int p3), .val (.ref b101), .val (.int (1 : Int32)), .val (.int (1 : Int32)), .val (.int ll), .val (.int rr), .val (.ref b133), .unset, .unset, .unset, .unset] [(.int (2 : Int32)), (.ref b133)]))
      refine OGo.st (fun t k => XS.iload X135.here hx rfl (hb hby at_81) rfl k) ?_
      show OGo p.tables e below _ (T135.setTop (mkF m 83 #[.val (.int p0), .val (.int p1), .val (.int p2), .val (.int p3), .val (.ref b101), .val (.int (1 : Int32)), .val (.int (1 : Int32)), .val (.int ll), .val (.int rr), .val (.ref b133), .unset, .unset, .unset, .unset] [(.int ll), (.int (2 : Int32)), (.ref b133)]))
      refine OGo.st (fun t k => XS.i2b X135.here hx rfl (hb hby at_83) rfl k) ?_
      show OGo p.tables e below _ (T135.setTop (mkF m 84 #[.val (.int p0), .val (.int p1), .val (.int p2), .val (.int p3), .val (.ref b101), .val (.int (1 : Int32)), .val (.int (1 : Int32)), .val (.int ll), .val (.int rr), .val (.ref b133), .unset, .unset, .unset, .unset] [(.int ((ll).toInt8.toInt32)), (.int (2 : Int32)), (.ref b133)]))
      obtain ⟨cl136, Ar136, qc136, Sz136, Nz136, Hs136, Gs136⟩ := id V135
      have hin136 : ¬ ((2 : Int32) < 0 ∨ cl136.slots.size ≤ ((2 : Int32)).toNatClampNeg) := inb_of Sz136 ⟨by decide, by decide⟩
      obtain ⟨T137, h137, X137, e137, W137, st137⟩ := stB X135 hx hZ e135 Ar136 (j := (2 : Int32)) hin136 (g := (mkF m 84 #[.val (.int p0), .val (.int p1), .val (.int p2), .val (.int p3), .val (.ref b101), .val (.int (1 : Int32)), .val (.int (1 : Int32)), .val (.int ll), .val (.int rr), .val (.ref b133), .unset, .unset, .unset, .unset] [(.int ((ll).toInt8.toInt32)), (.int (2 : Int32)), (.ref b133)])) rfl rfl (hb hby at_84)
      refine OGo.st st137 ?_
      have N137 := Fr.snoc X137 N135 ge_b133
      have V137 : Arv Z h137 b133 k133 .byte (10 : Int32) [(.int (0 : Int32)), (.int ((((p2 &&& (254 : Int32))).toInt8.toInt32)).toInt8.toInt32), (.int (((ll).toInt8.toInt32)).toInt8.toInt32), (.int (0 : Int32))] (.int (0 : Int32)) := Arv.set Ar136 qc136 Sz136 Nz136 Hs136 Gs136 (fits_nar_byte _) W137 2 rfl (Nat.le_of_ble_eq_true rfl)
      show OGo p.tables e below _ (T137.setTop (mkF m 85 #[.val (.int p0), .val (.int p1), .val (.int p2), .val (.int p3), .val (.ref b101), .val (.int (1 : Int32)), .val (.int (1 : Int32)), .val (.int ll), .val (.int rr), .val (.ref b133), .unset, .unset, .unset, .unset] []))
      refine OGo.st (fun t k => XS.aload X137.here hx rfl (hb hby at_85) rfl rfl k) ?_
      show OGo p.tables e below _ (T137.setTop (mkF m 87 #[.val (.int p0), .val (.int p1), .val (.int p2), .val (.int p3), .val (.ref b101), .val (.int (1 : Int32)), .val (.int (1 : Int32)), .val (.int ll), .val (.int rr), .val (.ref b133), .unset, .unset, .unset, .unset] [(.ref b133)]))
      refine OGo.st (fun t k => XS.iload X137.here hx rfl (hb hby at_87) rfl k) ?_
      show OGo p.tables e below _ (T137.setTop (mkF m 89 #[.val (.int p0), .val (.int p1), .val (.int p2), .val (.int p3), .val (.ref b101), .val (.int (1 : Int32)), .val (.int (1 : Int32)), .val (.int ll), .val (.int rr), .val (.ref b133), .unset, .unset, .unset, .unset] [(.int (1 : Int32)), (.ref b133)]))
      refine OGo.st (fun t k => XS.iconst X137.here hx rfl (hb hby at_89) k) ?_
      show OGo p.tables e below _ (T137.setTop (mkF m 90 #[.val (.int p0), .val (.int p1), .val (.int p2), .val (.int p3), .val (.ref b101), .val (.int (1 : Int32)), .val (.int (1 : Int32)), .val (.int ll), .val (.int rr), .val (.ref b133), .unset, .unset, .unset, .unset] [(.int (2 : Int32)), (.int (1 : Int32)), (.ref b133)]))
      refine OGo.st (fun t k => XS.iadd X137.here hx rfl (hb hby at_90) rfl k) ?_
      show OGo p.tables e below _ (T137.setTop (mkF m 91 #[.val (.int p0), .val (.int p1), .val (.int p2), .val (.int p3), .val (.ref b101), .val (.int (1 : Int32)), .val (.int (1 : Int32)), .val (.int ll), .val (.int rr), .val (.ref b133), .unset, .unset, .unset, .unset] [(.int (3 : Int32)), (.ref b133)]))
      refine OGo.st (fun t k => XS.iloadN X137.here hx rfl (hb hby at_91) rfl k) ?_
      show OGo p.tables e below _ (T137.setTop (mkF m 92 #[.val (.int p0), .val (.int p1), .val (.int p2), .val (.int p3), .val (.ref b101), .val (.int (1 : Int32)), .val (.int (1 : Int32)), .val (.int ll), .val (.int rr), .val (.ref b133), .unset, .unset, .unset, .unset] [(.int p2), (.int (3 : Int32)), (.ref b133)]))
      refine OGo.st (fun t k => XS.bipush X137.here hx rfl (hb hby at_92) k) ?_
      show OGo p.tables e below _ (T137.setTop (mkF m 94 #[.val (.int p0), .val (.int p1), .val (.int p2), .val (.int p3), .val (.ref b101), .val (.int (1 : Int32)), .val (.int (1 : Int32)), .val (.int ll), .val (.int rr), .val (.ref b133), .unset, .unset, .unset, .unset] [(.int (8 : Int32)), (.int p2), (.int (3 : Int32)), (.ref b133)]))
      refine OGo.st (fun t k => XS.iushr X137.here hx rfl (hb hby at_94) rfl k) ?_
      show OGo p.tables e below _ (T137.setTop (mkF m 95 #[.val (.int p0), .val (.int p1), .val (.int p2), .val (.int p3), .val (.ref b101), .val (.int (1 : Int32)), .val (.int (1 : Int32)), .val (.int ll), .val (.int rr), .val (.ref b133), .unset, .unset, .unset, .unset] [(.int ((p2.toUInt32 >>> ((8 : Int32) &&& 31).toUInt32).toInt32)), (.int (3 : Int32)), (.ref b133)]))
      refine OGo.st (fun t k => XS.i2b X137.here hx rfl (hb hby at_95) rfl k) ?_
      show OGo p.tables e below _ (T137.setTop (mkF m 96 #[.val (.int p0), .val (.int p1), .val (.int p2), .val (.int p3), .val (.ref b101), .val (.int (1 : Int32)), .val (.int (1 : Int32)), .val (.int ll), .val (.int rr), .val (.ref b133), .unset, .unset, .unset, .unset] [(.int ((((p2.toUInt32 >>> ((8 : Int32) &&& 31).toUInt32).toInt32)).toInt8.toInt32)), (.int (3 : Int32)), (.ref b133)]))
      obtain ⟨cl138, Ar138, qc138, Sz138, Nz138, Hs138, Gs138⟩ := id V137
      have hin138 : ¬ ((3 : Int32) < 0 ∨ cl138.slots.size ≤ ((3 : Int32)).toNatClampNeg) := inb_of Sz138 ⟨by decide, by decide⟩
      obtain ⟨T139, h139, X139, e139, W139, st139⟩ := stB X137 hx hZ e137 Ar138 (j := (3 : Int32)) hin138 (g := (mkF m 96 #[.val (.int p0), .val (.int p1), .val (.int p2), .val (.int p3), .val (.ref b101), .val (.int (1 : Int32)), .val (.int (1 : Int32)), .val (.int ll), .val (.int rr), .val (.ref b133), .unset, .unset, .unset, .unset] [(.int ((((p2.toUInt32 >>> ((8 : Int32) &&& 31).toUInt32).toInt32)).toInt8.toInt32)), (.int (3 : Int32)), (.ref b133)])) rfl rfl (hb hby at_96)
      refine OGo.st st139 ?_
      have N139 := Fr.snoc X139 N137 ge_b133
      have V139 : Arv Z h139 b133 k133 .byte (10 : Int32) [(.int (0 : Int32)), (.int ((((p2 &&& (254 : Int32))).toInt8.toInt32)).toInt8.toInt32), (.int (((ll).toInt8.toInt32)).toInt8.toInt32), (.int (((((p2.toUInt32 >>> ((8 : Int32) &&& 31).toUInt32).toInt32)).toInt8.toInt32)).toInt8.toInt32)] (.int (0 : Int32)) := Arv.set Ar138 qc138 Sz138 Nz138 Hs138 Gs138 (fits_nar_byte _) W139 3 rfl (Nat.le_of_ble_eq_true rfl)
      show OGo p.tables e below _ (T139.setTop (mkF m 97 #[.val (.int p0), .val (.int p1), .val (.int p2), .val (.int p3), .val (.ref b101), .val (.int (1 : Int32)), .val (.int (1 : Int32)), .val (.int ll), .val (.int rr), .val (.ref b133), .unset, .unset, .unset, .unset] []))
      refine OGo.st (fun t k => XS.iload X139.here hx rfl (hb hby at_97) rfl k) ?_
      show OGo p.tables e below _ (T139.setTop (mkF m 99 #[.val (.int p0), .val (.int p1), .val (.int p2), .val (.int p3), .val (.ref b101), .val (.int (1 : Int32)), .val (.int (1 : Int32)), .val (.int ll), .val (.int rr), .val (.ref b133), .unset, .unset, .unset, .unset] [(.int (1 : Int32))]))
      refine OGo.st (fun t k => XS.iconst X139.here hx rfl (hb hby at_99) k) ?_
      show OGo p.tables e below _ (T139.setTop (mkF m 100 #[.val (.int p0), .val (.int p1), .val (.int p2), .val (.int p3), .val (.ref b101), .val (.int (1 : Int32)), .val (.int (1 : Int32)), .val (.int ll), .val (.int rr), .val (.ref b133), .unset, .unset, .unset, .unset] [(.int (2 : Int32)), (.int (1 : Int32))]))
      refine OGo.st (fun t k => XS.iadd X139.here hx rfl (hb hby at_100) rfl k) ?_
      show OGo p.tables e below _ (T139.setTop (mkF m 101 #[.val (.int p0), .val (.int p1), .val (.int p2), .val (.int p3), .val (.ref b101), .val (.int (1 : Int32)), .val (.int (1 : Int32)), .val (.int ll), .val (.int rr), .val (.ref b133), .unset, .unset, .unset, .unset] [(.int (3 : Int32))]))
      refine OGo.st (fun t k => XS.iload X139.here hx rfl (hb hby at_101) rfl k) ?_
      show OGo p.tables e below _ (T139.setTop (mkF m 103 #[.val (.int p0), .val (.int p1), .val (.int p2), .val (.int p3), .val (.ref b101), .val (.int (1 : Int32)), .val (.int (1 : Int32)), .val (.int ll), .val (.int rr), .val (.ref b133), .unset, .unset, .unset, .unset] [(.int ll), (.int (3 : Int32))]))
      refine OGo.st (fun t k => XS.iadd X139.here hx rfl (hb hby at_103) rfl k) ?_
      show OGo p.tables e below _ (T139.setTop (mkF m 104 #[.val (.int p0), .val (.int p1), .val (.int p2), .val (.int p3), .val (.ref b101), .val (.int (1 : Int32)), .val (.int (1 : Int32)), .val (.int ll), .val (.int rr), .val (.ref b133), .unset, .unset, .unset, .unset] [(.int ((3 : Int32) + ll))]))
      refine OGo.st (fun t k => XS.iload X139.here hx rfl (hb hby at_104) rfl k) ?_
      show OGo p.tables e below _ (T139.setTop (mkF m 106 #[.val (.int p0), .val (.int p1), .val (.int p2), .val (.int p3), .val (.ref b101), .val (.int (1 : Int32)), .val (.int (1 : Int32)), .val (.int ll), .val (.int rr), .val (.ref b133), .unset, .unset, .unset, .unset] [(.int rr), (.int ((3 : Int32) + ll))]))
      refine OGo.st (fun t k => XS.iadd X139.here hx rfl (hb hby at_106) rfl k) ?_
      show OGo p.tables e below _ (T139.setTop (mkF m 107 #[.val (.int p0), .val (.int p1), .val (.int p2), .val (.int p3), .val (.ref b101), .val (.int (1 : Int32)), .val (.int (1 : Int32)), .val (.int ll), .val (.int rr), .val (.ref b133), .unset, .unset, .unset, .unset] [(.int (((3 : Int32) + ll) + rr))]))
      refine OGo.st (fun t k => XS.istore X139.here hx rfl (hb hby at_107) rfl (l' := #[.val (.int p0), .val (.int p1), .val (.int p2), .val (.int p3), .val (.ref b101), .val (.int (1 : Int32)), .val (.int (1 : Int32)), .val (.int ll), .val (.int rr), .val (.ref b133), .val (.int (((3 : Int32) + ll) + rr)), .unset, .unset, .unset]) rfl k) ?_
      show OGo p.tables e below _ (T139.setTop (mkF m 109 #[.val (.int p0), .val (.int p1), .val (.int p2), .val (.int p3), .val (.ref b101), .val (.int (1 : Int32)), .val (.int (1 : Int32)), .val (.int ll), .val (.int rr), .val (.ref b133), .val (.int (((3 : Int32) + ll) + rr)), .unset, .unset, .unset] []))
      have G140 : Exa Z h139 b101 "com/example/holdfast/holdfast/resources/DerReader" := (Exa.wr W139 (Exa.wr W137 (Exa.wr W135 (Exa.ext E133 G109))))
      have G141 : Arv Z h139 b102 k102 .byte (0 : Int32) [] (.int (0 : Int32)) := ((((G132.ext E133).other W135 ne_b102_b133).other W137 ne_b102_b133).other W139 ne_b102_b133)
      obtain ⟨T142, h142, X142, e142, E142, A142, D142, -, st142⟩ := newO X139 hx hZ hown (hw _ (List.mem_of_getElem? (i := 0) rfl)) (hw _ (List.mem_of_getElem? (i := 1) rfl)) (hw _ (List.mem_of_getElem? (i := 2) rfl)) e139 (g := (mkF m 109 #[.val (.int p0), .val (.int p1), .val (.int p2), .val (.int p3), .val (.ref b101), .val (.int (1 : Int32)), .val (.int (1 : Int32)), .val (.int ll), .val (.int rr), .val (.ref b133), .val (.int (((3 : Int32) + ll) + rr)), .unset, .unset, .unset] [])) rfl (hb hby at_109) (by decide) (by decide)
      obtain ⟨b142, g142⟩ : ∃ z, z = h139.size := ⟨_, rfl⟩
      rw [← g142] at A142 D142 st142
      have ge_b142 : n0 ≤ b142 := Nat.le_trans (Nat.le_trans (Nat.le_trans (Nat.le_trans (Nat.le_trans (Nat.le_trans (Nat.le_trans (Nat.le_trans Z0 E101.1) E102.1) K107.1) E133.1) (Keep.of_wr W135).1) (Keep.of_wr W137).1) (Keep.of_wr W139).1) (Nat.le_of_eq g142.symm)
      have sz_b142 : h0.size ≤ b142 := Nat.le_trans (Nat.le_trans (Nat.le_trans (Nat.le_trans (Nat.le_trans (Nat.le_trans (Nat.le_trans (Nat.le_trans (Nat.le_refl h0.size) E101.1) E102.1) K107.1) E133.1) (Keep.of_wr W135).1) (Keep.of_wr W137).1) (Keep.of_wr W139).1) (Nat.le_of_eq g142.symm)
      have ne_b101_b142 : b101 ≠ b142 := Nat.ne_of_lt (Nat.lt_of_lt_of_le G140.lt (Nat.le_of_eq g142.symm))
      have ne_b102_b142 : b102 ≠ b142 := Nat.ne_of_lt (Nat.lt_of_lt_of_le G141.lt (Nat.le_of_eq g142.symm))
      have ne_b133_b142 : b133 ≠ b142 := Nat.ne_of_lt (Nat.lt_of_lt_of_le V139.lt (Nat.le_of_eq g142.symm))
      refine OGo.st st142 ?_
      have Fn142_bytes : Fld Z h142 b142 "com/example/holdfast/holdfast/resources/DerReader" "bytes" "[B" .null := D142 (Or.inr (hw _ (List.mem_of_getElem? (i := 11) rfl))) (ty := (.array .byte)) (by decide)
      have Fn142_position : Fld Z h142 b142 "com/example/holdfast/holdfast/resources/DerReader" "position" "I" (.int (0 : Int32)) := D142 (Or.inl (hw _ (List.mem_of_getElem? (i := 13) rfl))) (ty := .int) (by decide)
      have Fn142_end : Fld Z h142 b142 "com/example/holdfast/holdfast/resources/DerReader" "end" "I" (.int (0 : Int32)) := D142 (Or.inr (hw _ (List.mem_of_getElem? (i := 15) rfl))) (ty := .int) (by decide)
      show OGo p.tables e below _ (T142.setTop (mkF m 112 #[.val (.int p0), .val (.int p1), .val (.int p2), .val (.int p3), .val (.ref b101), .val (.int (1 : Int32)), .val (.int (1 : Int32)), .val (.int ll), .val (.int rr), .val (.ref b133), .val (.int (((3 : Int32) + ll) + rr)), .unset, .unset, .unset] [(.ref b142)]))
      refine OGo.st (fun t k => XS.dup X142.here hx rfl (hb hby at_112) rfl rfl k) ?_
      show OGo p.tables e below _ (T142.setTop (mkF m 113 #[.val (.int p0), .val (.int p1), .val (.int p2), .val (.int p3), .val (.ref b101), .val (.int (1 : Int32)), .val (.int (1 : Int32)), .val (.int ll), .val (.int rr), .val (.ref b133), .val (.int (((3 : Int32) + ll) + rr)), .unset, .unset, .unset] [(.ref b142), (.ref b142)]))
      refine OGo.st (fun t k => XS.aload X142.here hx rfl (hb hby at_113) rfl rfl k) ?_
      show OGo p.tables e below _ (T142.setTop (mkF m 115 #[.val (.int p0), .val (.int p1), .val (.int p2), .val (.int p3), .val (.ref b101), .val (.int (1 : Int32)), .val (.int (1 : Int32)), .val (.int ll), .val (.int rr), .val (.ref b133), .val (.int (((3 : Int32) + ll) + rr)), .unset, .unset, .unset] [(.ref b133), (.ref b142), (.ref b142)]))
      refine OGo.st (fun t k => XS.iload X142.here hx rfl (hb hby at_115) rfl k) ?_
      show OGo p.tables e below _ (T142.setTop (mkF m 117 #[.val (.int p0), .val (.int p1), .val (.int p2), .val (.int p3), .val (.ref b101), .val (.int (1 : Int32)), .val (.int (1 : Int32)), .val (.int ll), .val (.int rr), .val (.ref b133), .val (.int (((3 : Int32) + ll) + rr)), .unset, .unset, .unset] [(.int (1 : Int32)), (.ref b133), (.ref b142), (.ref b142)]))
      refine OGo.st (fun t k => XS.iload X142.here hx rfl (hb hby at_117) rfl k) ?_
      show OGo p.tables e below _ (T142.setTop (mkF m 119 #[.val (.int p0), .val (.int p1), .val (.int p2), .val (.int p3), .val (.ref b101), .val (.int (1 : Int32)), .val (.int (1 : Int32)), .val (.int ll), .val (.int rr), .val (.ref b133), .val (.int (((3 : Int32) + ll) + rr)), .unset, .unset, .unset] [(.int (((3 : Int32) + ll) + rr)), (.int (1 : Int32)), (.ref b133), (.ref b142), (.ref b142)]))
      obtain ⟨_, _, ⟨T143, L143, kk143, nn143⟩, -, X143, ⟨Lc143, hQ143, l143, y143, z143⟩, st143⟩ := X142.specialBack hx (y := (⟨"com/example/holdfast/holdfast/resources/DerReader", "<init>", "([BII)V"⟩ : MethodName)) rfl hown (mvT hZ (hw _ (List.mem_of_getElem? (i := 4) rfl))) (mvT hZ (hw _ (List.mem_of_getElem? (i := 5) rfl))) (mvT hZ (hw _ (List.mem_of_getElem? (i := 6) rfl))) (by decide) (backOf (W := 1) (rm0 l Z ar hw [] b142 b133 (1 : Int32) (((3 : Int32) + ll) + rr) h142 n0 (Nat.le_trans (Nat.le_trans (Nat.le_trans (Nat.le_trans (Nat.le_trans (Nat.le_trans (Nat.le_trans (Nat.le_trans Z0 E101.1) E102.1) K107.1) E133.1) (Keep.of_wr W135).1) (Keep.of_wr W137).1) (Keep.of_wr W139).1) E142.1) A142 ge_b142 Fn142_bytes Fn142_position Fn142_end) hZ (hw _ (List.mem_of_getElem? (i := 6) rfl)) (hw _ (List.mem_of_getElem? (i := 2) rfl)) (by decide) (by decide)) (g := (mkF m 119 #[.val (.int p0), .val (.int p1), .val (.int p2), .val (.int p3), .val (.ref b101), .val (.int (1 : Int32)), .val (.int (1 : Int32)), .val (.int ll), .val (.int rr), .val (.ref b133), .val (.int (((3 : Int32) + ll) + rr)), .unset, .unset, .unset] [(.int (((3 : Int32) + ll) + rr)), (.int (1 : Int32)), (.ref b133), (.ref b142), (.ref b142)])) rfl (by rw [hml]; rfl) (Steps.refl _) (a := b142) (argsL := [(.ref b133), (.int (1 : Int32)), (.int (((3 : Int32) + ll) + rr))]) (rest := [(.ref b142)]) (lenOf pd_3 rfl) rfl (by show 2 * 0 + _ ≤ _; exact Nat.le_of_eq rfl) (hb hby at_119) (fun _ _ => ⟨rfl, e142, (by decide : 4 + 0 ≤ _), (by decide : 16 + 0 ≤ _)⟩)
      dsimp only [Pt.U, Pt.locs, Pt.cells, Pt.slots] at X143 l143 y143 z143 st143 hQ143
      subst l143 y143 z143
      obtain ⟨rfl, Nq143, K143, P143_0, P143_1, P143_2⟩ := hQ143
      have N143 := Fr.app N139 Nq143
      refine OGo.st (fun t k => st143.trans k) ?_
      show OGo p.tables e below _ (T143.setTop (mkF m 122 #[.val (.int p0), .val (.int p1), .val (.int p2), .val (.int p3), .val (.ref b101), .val (.int (1 : Int32)), .val (.int (1 : Int32)), .val (.int ll), .val (.int rr), .val (.ref b133), .val (.int (((3 : Int32) + ll) + rr)), .unset, .unset, .unset] [(.ref b142)]))
      refine OGo.st (fun t k => XS.astore X143.here hx rfl (hb hby at_122) rfl rfl (l' := #[.val (.int p0), .val (.int p1), .val (.int p2), .val (.int p3), .val (.ref b101), .val (.int (1 : Int32)), .val (.int (1 : Int32)), .val (.int ll), .val (.int rr), .val (.ref b133), .val (.int (((3 : Int32) + ll) + rr)), .val (.ref b142), .unset, .unset]) rfl k) ?_
      show OGo p.tables e below _ (T143.setTop (mkF m 124 #[.val (.int p0), .val (.int p1), .val (.int p2), .val (.int p3), .val (.ref b101), .val (.int (1 : Int32)), .val (.int (1 : Int32)), .val (.int ll), .val (.int rr), .val (.ref b133), .val (.int (((3 : Int32) + ll) + rr)), .val (.ref b142), .unset, .unset] []))
      refine OGo.st (fun t k => XS.aload X143.here hx rfl (hb hby at_124) rfl rfl k) ?_
      show OGo p.tables e below _ (T143.setTop (mkF m 126 #[.val (.int p0), .val (.int p1), .val (.int p2), .val (.int p3), .val (.ref b101), .val (.int (1 : Int32)), .val (.int (1 : Int32)), .val (.int ll), .val (.int rr), .val (.ref b133), .val (.int (((3 : Int32) + ll) + rr)), .val (.ref b142), .unset, .unset] [(.ref b142)]))
      have G145 : Exa Z T143.heap b142 "com/example/holdfast/holdfast/resources/DerReader" := (A142.keep K143)
      obtain ⟨cq144, kq144, q144a, q144b, q144c⟩ := isOf hZ rfl G145
      obtain ⟨_, _, ⟨T144, L144, kk144, nn144⟩, -, X144, ⟨Lc144, hQ144, l144, y144, z144⟩, st144⟩ := X143.virtualBack hx (y := (⟨"com/example/holdfast/holdfast/resources/DerReader", "hasMore", "()Z"⟩ : MethodName)) (z := (⟨"com/example/holdfast/holdfast/resources/DerReader", "hasMore", "()Z"⟩ : MethodName)) hown (mvT hZ (hw _ (List.mem_of_getElem? (i := 16) rfl))) (mvT hZ (hw _ (List.mem_of_getElem? (i := 17) rfl))) (notFace_of_selects (args := #[]) (mvT hZ (hw _ (List.mem_of_getElem? (i := 19) rfl)))) (mvT hZ (hw _ (List.mem_of_getElem? (i := 19) rfl))) (mvT hZ (hw _ (List.mem_of_getElem? (i := 18) rfl))) (by decide) (backOf (W := 0) (rm1 l Z ar hw [] b142 (1 : Int32) (((3 : Int32) + ll) + rr) T143.heap n0 (Nat.le_trans (Nat.le_trans (Nat.le_trans (Nat.le_trans (Nat.le_trans (Nat.le_trans (Nat.le_trans (Nat.le_trans (Nat.le_trans Z0 E101.1) E102.1) K107.1) E133.1) (Keep.of_wr W135).1) (Keep.of_wr W137).1) (Keep.of_wr W139).1) E142.1) K143.1) P143_1 P143_2) hZ (hw _ (List.mem_of_getElem? (i := 20) rfl)) (hw _ (List.mem_of_getElem? (i := 2) rfl)) (by decide) (by decide)) q144a q144c (g := (mkF m 126 #[.val (.int p0), .val (.int p1), .val (.int p2), .val (.int p3), .val (.ref b101), .val (.int (1 : Int32)), .val (.int (1 : Int32)), .val (.int ll), .val (.int rr), .val (.ref b133), .val (.int (((3 : Int32) + ll) + rr)), .val (.ref b142), .unset, .unset] [(.ref b142)])) rfl (by rw [hml]; rfl) (Steps.refl _) (argsL := []) (rest := []) (lenOf pd_0 rfl) rfl (by show 2 * 0 + _ ≤ _; exact Nat.le_of_eq rfl) (hb hby at_126) (fun _ _ => ⟨rfl, rfl, (by decide : 4 + 0 ≤ _), (by decide : 16 + 0 ≤ _)⟩)
      dsimp only [Pt.U, Pt.locs, Pt.cells, Pt.slots] at X144 l144 y144 z144 st144 hQ144
      subst l144 y144 z144
      obtain ⟨rfl, Nq144, hh144⟩ := hQ144
      have N144 := Fr.app N143 Nq144
      refine OGo.st (fun t k => st144.trans k) ?_
      have e144 : T144.heap = T143.heap := hh144
      show OGo p.tables e below _ (T144.setTop (mkF m 129 #[.val (.int p0), .val (.int p1), .val (.int p2), .val (.int p3), .val (.ref b101), .val (.int (1 : Int32)), .val (.int (1 : Int32)), .val (.int ll), .val (.int rr), .val (.ref b133), .val (.int (((3 : Int32) + ll) + rr)), .val (.ref b142), .unset, .unset] [(.int (own_lt (1 : Int32) (((3 : Int32) + ll) + rr)))]))
      refine OGo.st (fun t k => XS.istore X144.here hx rfl (hb hby at_129) rfl (l' := #[.val (.int p0), .val (.int p1), .val (.int p2), .val (.int p3), .val (.ref b101), .val (.int (1 : Int32)), .val (.int (1 : Int32)), .val (.int ll), .val (.int rr), .val (.ref b133), .val (.int (((3 : Int32) + ll) + rr)), .val (.ref b142), .val (.int (own_lt (1 : Int32) (((3 : Int32) + ll) + rr))), .unset]) rfl k) ?_
      show OGo p.tables e below _ (T144.setTop (mkF m 131 #[.val (.int p0), .val (.int p1), .val (.int p2), .val (.int p3), .val (.ref b101), .val (.int (1 : Int32)), .val (.int (1 : Int32)), .val (.int ll), .val (.int rr), .val (.ref b133), .val (.int (((3 : Int32) + ll) + rr)), .val (.ref b142), .val (.int (own_lt (1 : Int32) (((3 : Int32) + ll) + rr))), .unset] []))
      refine OGo.st (fun t k => XS.iload X144.here hx rfl (hb hby at_131) rfl k) ?_
      show OGo p.tables e below _ (T144.setTop (mkF m 133 #[.val (.int p0), .val (.int p1), .val (.int p2), .val (.int p3), .val (.ref b101), .val (.int (1 : Int32)), .val (.int (1 : Int32)), .val (.int ll), .val (.int rr), .val (.ref b133), .val (.int (((3 : Int32) + ll) + rr)), .val (.ref b142), .val (.int (own_lt (1 : Int32) (((3 : Int32) + ll) + rr))), .unset] [(.int (own_lt (1 : Int32) (((3 : Int32) + ll) + rr)))]))
      refine OGo.st (fun t k => XS.ifYes X144.here hx rfl (pc0 := 133) (pc' := 138) rfl (hb hby at_133) rfl ((if0 _ _).trans (feq ((own_ltN (own_lti _ _ (by omega))) : ¬ ((own_lt (1 : Int32) (((3 : Int32) + ll) + rr)) = (0 : Int32)))).2) (by decide) (by decide) k) ?_
      show OGo p.tables e below _ (T144.setTop (mkF m 138 #[.val (.int p0), .val (.int p1), .val (.int p2), .val (.int p3), .val (.ref b101), .val (.int (1 : Int32)), .val (.int (1 : Int32)), .val (.int ll), .val (.int rr), .val (.ref b133), .val (.int (((3 : Int32) + ll) + rr)), .val (.ref b142), .val (.int (own_lt (1 : Int32) (((3 : Int32) + ll) + rr))), .unset] []))
      refine OGo.st (fun t k => XS.aload X144.here hx rfl (hb hby at_138) rfl rfl k) ?_
      show OGo p.tables e below _ (T144.setTop (mkF m 140 #[.val (.int p0), .val (.int p1), .val (.int p2), .val (.int p3), .val (.ref b101), .val (.int (1 : Int32)), .val (.int (1 : Int32)), .val (.int ll), .val (.int rr), .val (.ref b133), .val (.int (((3 : Int32) + ll) + rr)), .val (.ref b142), .val (.int (own_lt (1 : Int32) (((3 : Int32) + ll) + rr))), .unset] [(.ref b142)]))
      have G146 : Arv Z T143.heap b133 k133 .byte (10 : Int32) [(.int (0 : Int32)), (.int ((((p2 &&& (254 : Int32))).toInt8.toInt32)).toInt8.toInt32), (.int (((ll).toInt8.toInt32)).toInt8.toInt32), (.int (((((p2.toUInt32 >>> ((8 : Int32) &&& 31).toUInt32).toInt32)).toInt8.toInt32)).toInt8.toInt32)] (.int (0 : Int32)) := ((V139.ext E142).keep K143 (ninS ne_b133_b142 nin0))
      obtain ⟨cq147, kq147, q147a, q147b, q147c⟩ := isOf hZ e144 G145
      obtain ⟨_, _, ⟨T147, L147, kk147, nn147⟩, -, X147, ⟨Lc147, hQ147, l147, y147, z147⟩, st147⟩ := X144.virtualBack hx (y := (⟨"com/example/holdfast/holdfast/resources/DerReader", "read", "()Lcom/example/holdfast/holdfast/resources/DerValue;"⟩ : MethodName)) (z := (⟨"com/example/holdfast/holdfast/resources/DerReader", "read", "()Lcom/example/holdfast/holdfast/resources/DerValue;"⟩ : MethodName)) hown (mvT hZ (hw _ (List.mem_of_getElem? (i := 21) rfl))) (mvT hZ (hw _ (List.mem_of_getElem? (i := 22) rfl))) (notFace_of_selects (args := #[]) (mvT hZ (hw _ (List.mem_of_getElem? (i := 24) rfl)))) (mvT hZ (hw _ (List.mem_of_getElem? (i := 24) rfl))) (mvT hZ (hw _ (List.mem_of_getElem? (i := 23) rfl))) (by decide) (backOf (W := 0) (rm6 l Z ar hw [] b142 b133 k133 (0 : Int32) ((((p2 &&& (254 : Int32))).toInt8.toInt32)).toInt8.toInt32 (((ll).toInt8.toInt32)).toInt8.toInt32 (((((p2.toUInt32 >>> ((8 : Int32) &&& 31).toUInt32).toInt32)).toInt8.toInt32)).toInt8.toInt32 (((3 : Int32) + ll) + rr) ll T143.heap n0 (Nat.le_trans (Nat.le_trans (Nat.le_trans (Nat.le_trans (Nat.le_trans (Nat.le_trans (Nat.le_trans (Nat.le_trans (Nat.le_trans Z0 E101.1) E102.1) K107.1) E133.1) (Keep.of_wr W135).1) (Keep.of_wr W137).1) (Keep.of_wr W139).1) E142.1) K143.1) P143_0 G146 P143_1 P143_2 G145 (own_lti _ _ (by omega)) ge_b142 (Ne.symm ne_b133_b142) (own_tag p2) (own_lti _ _ (by omega)) (own_bl ll hll) (own_lti _ _ (by have k : (128 : Int32).toInt = 128 := rfl; omega)) (own_fit (3 : Int32) ll rr ho hll hrr)) hZ (hw _ (List.mem_of_getElem? (i := 25) rfl)) (hw _ (List.mem_of_getElem? (i := 2) rfl)) (by decide) (by decide)) q147a q147c (g := (mkF m 140 #[.val (.int p0), .val (.int p1), .val (.int p2), .val (.int p3), .val (.ref b101), .val (.int (1 : Int32)), .val (.int (1 : Int32)), .val (.int ll), .val (.int rr), .val (.ref b133), .val (.int (((3 : Int32) + ll) + rr)), .val (.ref b142), .val (.int (own_lt (1 : Int32) (((3 : Int32) + ll) + rr))), .unset] [(.ref b142)])) rfl (by rw [hml]; rfl) (Steps.refl _) (argsL := []) (rest := []) (lenOf pd_4 rfl) rfl (by show 2 * 0 + _ ≤ _; exact Nat.le_of_eq rfl) (hb hby at_140) (fun _ _ => ⟨rfl, e144, (by decide : 4 + 1 ≤ _), (by decide : 16 + 5 ≤ _)⟩)
      dsimp only [Pt.U, Pt.locs, Pt.cells, Pt.slots] at X147 l147 y147 z147 st147 hQ147
      subst l147 y147 z147
      obtain ⟨x147_d, rfl, Nq147, K147, P147_0, P147_1⟩ := hQ147
      have N147 := Fr.app N144 Nq147
      refine OGo.st (fun t k => st147.trans k) ?_
      show OGo p.tables e below _ (T147.setTop (mkF m 143 #[.val (.int p0), .val (.int p1), .val (.int p2), .val (.int p3), .val (.ref b101), .val (.int (1 : Int32)), .val (.int (1 : Int32)), .val (.int ll), .val (.int rr), .val (.ref b133), .val (.int (((3 : Int32) + ll) + rr)), .val (.ref b142), .val (.int (own_lt (1 : Int32) (((3 : Int32) + ll) + rr))), .unset] [(.ref x147_d)]))
      refine OGo.st (fun t k => XS.pop X147.here hx rfl (hb hby at_143) rfl rfl k) ?_
      show OGo p.tables e below _ (T147.setTop (mkF m 144 #[.val (.int p0), .val (.int p1), .val (.int p2), .val (.int p3), .val (.ref b101), .val (.int (1 : Int32)), .val (.int (1 : Int32)), .val (.int ll), .val (.int rr), .val (.ref b133), .val (.int (((3 : Int32) + ll) + rr)), .val (.ref b142), .val (.int (own_lt (1 : Int32) (((3 : Int32) + ll) + rr))), .unset] []))
      refine OGo.st (fun t k => XS.aload X147.here hx rfl (hb hby at_144) rfl rfl k) ?_
      show OGo p.tables e below _ (T147.setTop (mkF m 146 #[.val (.int p0), .val (.int p1), .val (.int p2), .val (.int p3), .val (.ref b101), .val (.int (1 : Int32)), .val (.int (1 : Int32)), .val (.int ll), .val (.int rr), .val (.ref b133), .val (.int (((3 : Int32) + ll) + rr)), .val (.ref b142), .val (.int (own_lt (1 : Int32) (((3 : Int32) + ll) + rr))), .unset] [(.ref b142)]))
      have G149 : Exa Z T147.heap b142 "com/example/holdfast/holdfast/resources/DerReader" := (G145.keep K147)
      obtain ⟨cq148, kq148, q148a, q148b, q148c⟩ := isOf hZ rfl G149
      obtain ⟨_, _, ⟨T148, L148, kk148, nn148⟩, -, X148, ⟨Lc148, hQ148, l148, y148, z148⟩, st148⟩ := X147.virtualBack hx (y := (⟨"com/example/holdfast/holdfast/resources/DerReader", "hasMore", "()Z"⟩ : MethodName)) (z := (⟨"com/example/holdfast/holdfast/resources/DerReader", "hasMore", "()Z"⟩ : MethodName)) hown (mvT hZ (hw _ (List.mem_of_getElem? (i := 16) rfl))) (mvT hZ (hw _ (List.mem_of_getElem? (i := 17) rfl))) (notFace_of_selects (args := #[]) (mvT hZ (hw _ (List.mem_of_getElem? (i := 19) rfl)))) (mvT hZ (hw _ (List.mem_of_getElem? (i := 19) rfl))) (mvT hZ (hw _ (List.mem_of_getElem? (i := 18) rfl))) (by decide) (backOf (W := 0) (rm1 l Z ar hw [] b142 ((3 : Int32) + ((((ll).toInt64)).toInt32)) (((3 : Int32) + ll) + rr) T147.heap n0 (Nat.le_trans (Nat.le_trans (Nat.le_trans (Nat.le_trans (Nat.le_trans (Nat.le_trans (Nat.le_trans (Nat.le_trans (Nat.le_trans (Nat.le_trans Z0 E101.1) E102.1) K107.1) E133.1) (Keep.of_wr W135).1) (Keep.of_wr W137).1) (Keep.of_wr W139).1) E142.1) K143.1) K147.1) P147_0 P147_1) hZ (hw _ (List.mem_of_getElem? (i := 20) rfl)) (hw _ (List.mem_of_getElem? (i := 2) rfl)) (by decide) (by decide)) q148a q148c (g := (mkF m 146 #[.val (.int p0), .val (.int p1), .val (.int p2), .val (.int p3), .val (.ref b101), .val (.int (1 : Int32)), .val (.int (1 : Int32)), .val (.int ll), .val (.int rr), .val (.ref b133), .val (.int (((3 : Int32) + ll) + rr)), .val (.ref b142), .val (.int (own_lt (1 : Int32) (((3 : Int32) + ll) + rr))), .unset] [(.ref b142)])) rfl (by rw [hml]; rfl) (Steps.refl _) (argsL := []) (rest := []) (lenOf pd_0 rfl) rfl (by show 2 * 0 + _ ≤ _; exact Nat.le_of_eq rfl) (hb hby at_146) (fun _ _ => ⟨rfl, rfl, (by decide : 5 + 0 ≤ _), (by decide : 21 + 0 ≤ _)⟩)
      dsimp only [Pt.U, Pt.locs, Pt.cells, Pt.slots] at X148 l148 y148 z148 st148 hQ148
      subst l148 y148 z148
      obtain ⟨rfl, Nq148, hh148⟩ := hQ148
      have N148 := Fr.app N147 Nq148
      refine OGo.st (fun t k => st148.trans k) ?_
      have e148 : T148.heap = T147.heap := hh148
      show OGo p.tables e below _ (T148.setTop (mkF m 149 #[.val (.int p0), .val (.int p1), .val (.int p2), .val (.int p3), .val (.ref b101), .val (.int (1 : Int32)), .val (.int (1 : Int32)), .val (.int ll), .val (.int rr), .val (.ref b133), .val (.int (((3 : Int32) + ll) + rr)), .val (.ref b142), .val (.int (own_lt (1 : Int32) (((3 : Int32) + ll) + rr))), .unset] [(.int (own_lt ((3 : Int32) + ((((ll).toInt64)).toInt32)) (((3 : Int32) + ll) + rr)))]))
      refine OGo.st (fun t k => XS.istore X148.here hx rfl (hb hby at_149) rfl (l' := #[.val (.int p0), .val (.int p1), .val (.int p2), .val (.int p3), .val (.ref b101), .val (.int (1 : Int32)), .val (.int (1 : Int32)), .val (.int ll), .val (.int rr), .val (.ref b133), .val (.int (((3 : Int32) + ll) + rr)), .val (.ref b142), .val (.int (own_lt (1 : Int32) (((3 : Int32) + ll) + rr))), .val (.int (own_lt ((3 : Int32) + ((((ll).toInt64)).toInt32)) (((3 : Int32) + ll) + rr)))]) rfl k) ?_
      show OGo p.tables e below _ (T148.setTop (mkF m 151 #[.val (.int p0), .val (.int p1), .val (.int p2), .val (.int p3), .val (.ref b101), .val (.int (1 : Int32)), .val (.int (1 : Int32)), .val (.int ll), .val (.int rr), .val (.ref b133), .val (.int (((3 : Int32) + ll) + rr)), .val (.ref b142), .val (.int (own_lt (1 : Int32) (((3 : Int32) + ll) + rr))), .val (.int (own_lt ((3 : Int32) + ((((ll).toInt64)).toInt32)) (((3 : Int32) + ll) + rr)))] []))
      refine OGo.st (fun t k => XS.iload X148.here hx rfl (hb hby at_151) rfl k) ?_
      show OGo p.tables e below _ (T148.setTop (mkF m 153 #[.val (.int p0), .val (.int p1), .val (.int p2), .val (.int p3), .val (.ref b101), .val (.int (1 : Int32)), .val (.int (1 : Int32)), .val (.int ll), .val (.int rr), .val (.ref b133), .val (.int (((3 : Int32) + ll) + rr)), .val (.ref b142), .val (.int (own_lt (1 : Int32) (((3 : Int32) + ll) + rr))), .val (.int (own_lt ((3 : Int32) + ((((ll).toInt64)).toInt32)) (((3 : Int32) + ll) + rr)))] [(.int (1 : Int32))]))
      refine OGo.st (fun t k => XS.ifNo X148.here hx rfl (hb hby at_153) rfl ((if0 _ _).trans (feq (by decide : ¬ ((1 : Int32) = (0 : Int32)))).1) k) ?_
      show OGo p.tables e below _ (T148.setTop (mkF m 156 #[.val (.int p0), .val (.int p1), .val (.int p2), .val (.int p3), .val (.ref b101), .val (.int (1 : Int32)), .val (.int (1 : Int32)), .val (.int ll), .val (.int rr), .val (.ref b133), .val (.int (((3 : Int32) + ll) + rr)), .val (.ref b142), .val (.int (own_lt (1 : Int32) (((3 : Int32) + ll) + rr))), .val (.int (own_lt ((3 : Int32) + ((((ll).toInt64)).toInt32)) (((3 : Int32) + ll) + rr)))] []))
      refine OGo.st (fun t k => XS.iload X148.here hx rfl (hb hby at_156) rfl k) ?_
      show OGo p.tables e below _ (T148.setTop (mkF m 158 #[.val (.int p0), .val (.int p1), .val (.int p2), .val (.int p3), .val (.ref b101), .val (.int (1 : Int32)), .val (.int (1 : Int32)), .val (.int ll), .val (.int rr), .val (.ref b133), .val (.int (((3 : Int32) + ll) + rr)), .val (.ref b142), .val (.int (own_lt (1 : Int32) (((3 : Int32) + ll) + rr))), .val (.int (own_lt ((3 : Int32) + ((((ll).toInt64)).toInt32)) (((3 : Int32) + ll) + rr)))] [(.int (own_lt ((3 : Int32) + ((((ll).toInt64)).toInt32)) (((3 : Int32) + ll) + rr)))]))
      refine OGo.st (fun t k => XS.iload X148.here hx rfl (hb hby at_158) rfl k) ?_
      show OGo p.tables e below _ (T148.setTop (mkF m 160 #[.val (.int p0), .val (.int p1), .val (.int p2), .val (.int p3), .val (.ref b101), .val (.int (1 : Int32)), .val (.int (1 : Int32)), .val (.int ll), .val (.int rr), .val (.ref b133), .val (.int (((3 : Int32) + ll) + rr)), .val (.ref b142), .val (.int (own_lt (1 : Int32) (((3 : Int32) + ll) + rr))), .val (.int (own_lt ((3 : Int32) + ((((ll).toInt64)).toInt32)) (((3 : Int32) + ll) + rr)))] [(.int rr), (.int (own_lt ((3 : Int32) + ((((ll).toInt64)).toInt32)) (((3 : Int32) + ll) + rr)))]))
      by_cases hc160_150 : (0 : Int32) < rr
      ·
        refine OGo.st (fun t k => XS.ifNo X148.here hx rfl (hb hby at_160) rfl ((if0 _ _).trans (tlt hc160_150).2.2.2) k) ?_
        show OGo p.tables e below _ (T148.setTop (mkF m 163 #[.val (.int p0), .val (.int p1), .val (.int p2), .val (.int p3), .val (.ref b101), .val (.int (1 : Int32)), .val (.int (1 : Int32)), .val (.int ll), .val (.int rr), .val (.ref b133), .val (.int (((3 : Int32) + ll) + rr)), .val (.ref b142), .val (.int (own_lt (1 : Int32) (((3 : Int32) + ll) + rr))), .val (.int (own_lt ((3 : Int32) + ((((ll).toInt64)).toInt32)) (((3 : Int32) + ll) + rr)))] [(.int (own_lt ((3 : Int32) + ((((ll).toInt64)).toInt32)) (((3 : Int32) + ll) + rr)))]))
        refine OGo.st (fun t k => XS.iconst X148.here hx rfl (hb hby at_163) k) ?_
        show OGo p.tables e below _ (T148.setTop (mkF m 164 #[.val (.int p0), .val (.int p1), .val (.int p2), .val (.int p3), .val (.ref b101), .val (.int (1 : Int32)), .val (.int (1 : Int32)), .val (.int ll), .val (.int rr), .val (.ref b133), .val (.int (((3 : Int32) + ll) + rr)), .val (.ref b142), .val (.int (own_lt (1 : Int32) (((3 : Int32) + ll) + rr))), .val (.int (own_lt ((3 : Int32) + ((((ll).toInt64)).toInt32)) (((3 : Int32) + ll) + rr)))] [(.int (1 : Int32)), (.int (own_lt ((3 : Int32) + ((((ll).toInt64)).toInt32)) (((3 : Int32) + ll) + rr)))]))
        refine OGo.st (fun t k => XS.goto X148.here hx rfl (pc0 := 164) (pc' := 168) rfl (hb hby at_164) (by decide) (by decide) k) ?_
        show OGo p.tables e below _ (T148.setTop (mkF m 168 #[.val (.int p0), .val (.int p1), .val (.int p2), .val (.int p3), .val (.ref b101), .val (.int (1 : Int32)), .val (.int (1 : Int32)), .val (.int ll), .val (.int rr), .val (.ref b133), .val (.int (((3 : Int32) + ll) + rr)), .val (.ref b142), .val (.int (own_lt (1 : Int32) (((3 : Int32) + ll) + rr))), .val (.int (own_lt ((3 : Int32) + ((((ll).toInt64)).toInt32)) (((3 : Int32) + ll) + rr)))] [(.int (1 : Int32)), (.int (own_lt ((3 : Int32) + ((((ll).toInt64)).toInt32)) (((3 : Int32) + ll) + rr)))]))
        refine OGo.st (fun t k => XS.icmpNo X148.here hx rfl (hb hby at_168) rfl (teq ((own_ltT ((own_after (3 : Int32) ll rr ho hll hrr).mpr hc160_150)) : (own_lt ((3 : Int32) + ((((ll).toInt64)).toInt32)) (((3 : Int32) + ll) + rr)) = (1 : Int32))).2 k) ?_
        show OGo p.tables e below _ (T148.setTop (mkF m 171 #[.val (.int p0), .val (.int p1), .val (.int p2), .val (.int p3), .val (.ref b101), .val (.int (1 : Int32)), .val (.int (1 : Int32)), .val (.int ll), .val (.int rr), .val (.ref b133), .val (.int (((3 : Int32) + ll) + rr)), .val (.ref b142), .val (.int (own_lt (1 : Int32) (((3 : Int32) + ll) + rr))), .val (.int (own_lt ((3 : Int32) + ((((ll).toInt64)).toInt32)) (((3 : Int32) + ll) + rr)))] []))
        refine OGo.st (fun t k => XS.iconst X148.here hx rfl (hb hby at_171) k) ?_
        show OGo p.tables e below _ (T148.setTop (mkF m 172 #[.val (.int p0), .val (.int p1), .val (.int p2), .val (.int p3), .val (.ref b101), .val (.int (1 : Int32)), .val (.int (1 : Int32)), .val (.int ll), .val (.int rr), .val (.ref b133), .val (.int (((3 : Int32) + ll) + rr)), .val (.ref b142), .val (.int (own_lt (1 : Int32) (((3 : Int32) + ll) + rr))), .val (.int (own_lt ((3 : Int32) + ((((ll).toInt64)).toInt32)) (((3 : Int32) + ll) + rr)))] [(.int (1 : Int32))]))
        refine OGo.st (fun t k => XS.goto X148.here hx rfl (pc0 := 172) (pc' := 176) rfl (hb hby at_172) (by decide) (by decide) k) ?_
        show OGo p.tables e below _ (T148.setTop (mkF m 176 #[.val (.int p0), .val (.int p1), .val (.int p2), .val (.int p3), .val (.ref b101), .val (.int (1 : Int32)), .val (.int (1 : Int32)), .val (.int ll), .val (.int rr), .val (.ref b133), .val (.int (((3 : Int32) + ll) + rr)), .val (.ref b142), .val (.int (own_lt (1 : Int32) (((3 : Int32) + ll) + rr))), .val (.int (own_lt ((3 : Int32) + ((((ll).toInt64)).toInt32)) (((3 : Int32) + ll) + rr)))] [(.int (1 : Int32))]))
        obtain ⟨fs, hr, hrun, hended, hW, hsame⟩ := X148.leave (v := some (.int (1 : Int32))) (fun h => by rw [Bd.returns] at h; cases h)
        refine OGo.done (retN X148 hx (t := .boolean) Bd.returns (by simp) (hb hby at_176) hr) ⟨hrun, hended, _, _, rfl, ?_, ⟨_, rfl⟩, hW, hsame.mono (by decide) (by decide)⟩
        show Q7 Z p0 p1 p2 p3 h0 n0 _ T148.heap _
        rw [e148]
        exact ⟨rfl, N148⟩
      ·
        refine OGo.st (fun t k => XS.ifYes X148.here hx rfl (pc0 := 160) (pc' := 167) rfl (hb hby at_160) rfl ((if0 _ _).trans (flt hc160_150).2.2.2) (by decide) (by decide) k) ?_
        show OGo p.tables e below _ (T148.setTop (mkF m 167 #[.val (.int p0), .val (.int p1), .val (.int p2), .val (.int p3), .val (.ref b101), .val (.int (1 : Int32)), .val (.int (1 : Int32)), .val (.int ll), .val (.int rr), .val (.ref b133), .val (.int (((3 : Int32) + ll) + rr)), .val (.ref b142), .val (.int (own_lt (1 : Int32) (((3 : Int32) + ll) + rr))), .val (.int (own_lt ((3 : Int32) + ((((ll).toInt64)).toInt32)) (((3 : Int32) + ll) + rr)))] [(.int (own_lt ((3 : Int32) + ((((ll).toInt64)).toInt32)) (((3 : Int32) + ll) + rr)))]))
        refine OGo.st (fun t k => XS.iconst X148.here hx rfl (hb hby at_167) k) ?_
        show OGo p.tables e below _ (T148.setTop (mkF m 168 #[.val (.int p0), .val (.int p1), .val (.int p2), .val (.int p3), .val (.ref b101), .val (.int (1 : Int32)), .val (.int (1 : Int32)), .val (.int ll), .val (.int rr), .val (.ref b133), .val (.int (((3 : Int32) + ll) + rr)), .val (.ref b142), .val (.int (own_lt (1 : Int32) (((3 : Int32) + ll) + rr))), .val (.int (own_lt ((3 : Int32) + ((((ll).toInt64)).toInt32)) (((3 : Int32) + ll) + rr)))] [(.int (0 : Int32)), (.int (own_lt ((3 : Int32) + ((((ll).toInt64)).toInt32)) (((3 : Int32) + ll) + rr)))]))
        refine OGo.st (fun t k => XS.icmpNo X148.here hx rfl (hb hby at_168) rfl (teq ((own_ltF (fun q => hc160_150 ((own_after (3 : Int32) ll rr ho hll hrr).mp q))) : (own_lt ((3 : Int32) + ((((ll).toInt64)).toInt32)) (((3 : Int32) + ll) + rr)) = (0 : Int32))).2 k) ?_
        show OGo p.tables e below _ (T148.setTop (mkF m 171 #[.val (.int p0), .val (.int p1), .val (.int p2), .val (.int p3), .val (.ref b101), .val (.int (1 : Int32)), .val (.int (1 : Int32)), .val (.int ll), .val (.int rr), .val (.ref b133), .val (.int (((3 : Int32) + ll) + rr)), .val (.ref b142), .val (.int (own_lt (1 : Int32) (((3 : Int32) + ll) + rr))), .val (.int (own_lt ((3 : Int32) + ((((ll).toInt64)).toInt32)) (((3 : Int32) + ll) + rr)))] []))
        refine OGo.st (fun t k => XS.iconst X148.here hx rfl (hb hby at_171) k) ?_
        show OGo p.tables e below _ (T148.setTop (mkF m 172 #[.val (.int p0), .val (.int p1), .val (.int p2), .val (.int p3), .val (.ref b101), .val (.int (1 : Int32)), .val (.int (1 : Int32)), .val (.int ll), .val (.int rr), .val (.ref b133), .val (.int (((3 : Int32) + ll) + rr)), .val (.ref b142), .val (.int (own_lt (1 : Int32) (((3 : Int32) + ll) + rr))), .val (.int (own_lt ((3 : Int32) + ((((ll).toInt64)).toInt32)) (((3 : Int32) + ll) + rr)))] [(.int (1 : Int32))]))
        refine OGo.st (fun t k => XS.goto X148.here hx rfl (pc0 := 172) (pc' := 176) rfl (hb hby at_172) (by decide) (by decide) k) ?_
        show OGo p.tables e below _ (T148.setTop (mkF m 176 #[.val (.int p0), .val (.int p1), .val (.int p2), .val (.int p3), .val (.ref b101), .val (.int (1 : Int32)), .val (.int (1 : Int32)), .val (.int ll), .val (.int rr), .val (.ref b133), .val (.int (((3 : Int32) + ll) + rr)), .val (.ref b142), .val (.int (own_lt (1 : Int32) (((3 : Int32) + ll) + rr))), .val (.int (own_lt ((3 : Int32) + ((((ll).toInt64)).toInt32)) (((3 : Int32) + ll) + rr)))] [(.int (1 : Int32))]))
        obtain ⟨fs, hr, hrun, hended, hW, hsame⟩ := X148.leave (v := some (.int (1 : Int32))) (fun h => by rw [Bd.returns] at h; cases h)
        refine OGo.done (retN X148 hx (t := .boolean) Bd.returns (by simp) (hb hby at_176) hr) ⟨hrun, hended, _, _, rfl, ?_, ⟨_, rfl⟩, hW, hsame.mono (by decide) (by decide)⟩
        show Q7 Z p0 p1 p2 p3 h0 n0 _ T148.heap _
        rw [e148]
        exact ⟨rfl, N148⟩
  by_cases hc21_153 : p0 < p1
  ·
    refine OGo.st (fun t k => XS.icmpNo X108.here hx rfl (hb hby at_21) rfl (tlt hc21_153).2.1 k) ?_
    show OGo p.tables e below _ (T108.setTop (mkF m 24 #[.val (.int p0), .val (.int p1), .val (.int p2), .val (.int p3), .val (.ref b101), .unset, .unset, .unset, .unset, .unset, .unset, .unset, .unset, .unset] [(.int (own_lt p0 p1))]))
    refine OGo.st (fun t k => XS.iconst X108.here hx rfl (hb hby at_24) k) ?_
    show OGo p.tables e below _ (T108.setTop (mkF m 25 #[.val (.int p0), .val (.int p1), .val (.int p2), .val (.int p3), .val (.ref b101), .unset, .unset, .unset, .unset, .unset, .unset, .unset, .unset, .unset] [(.int (1 : Int32)), (.int (own_lt p0 p1))]))
    refine OGo.st (fun t k => XS.goto X108.here hx rfl (pc0 := 25) (pc' := 29) rfl (hb hby at_25) (by decide) (by decide) k) ?_
    show OGo p.tables e below _ (T108.setTop (mkF m 29 #[.val (.int p0), .val (.int p1), .val (.int p2), .val (.int p3), .val (.ref b101), .unset, .unset, .unset, .unset, .unset, .unset, .unset, .unset, .unset] [(.int (1 : Int32)), (.int (own_lt p0 p1))]))
    refine OGo.st (fun t k => XS.icmpNo X108.here hx rfl (hb hby at_29) rfl (teq ((own_ltT hc21_153) : (own_lt p0 p1) = (1 : Int32))).2 k) ?_
    show OGo p.tables e below _ (T108.setTop (mkF m 32 #[.val (.int p0), .val (.int p1), .val (.int p2), .val (.int p3), .val (.ref b101), .unset, .unset, .unset, .unset, .unset, .unset, .unset, .unset, .unset] []))
    refine OGo.st (fun t k => XS.iconst X108.here hx rfl (hb hby at_32) k) ?_
    show OGo p.tables e below _ (T108.setTop (mkF m 33 #[.val (.int p0), .val (.int p1), .val (.int p2), .val (.int p3), .val (.ref b101), .unset, .unset, .unset, .unset, .unset, .unset, .unset, .unset, .unset] [(.int (1 : Int32))]))
    refine OGo.st (fun t k => XS.goto X108.here hx rfl (pc0 := 33) (pc' := 37) rfl (hb hby at_33) (by decide) (by decide) k) ?_
    show OGo p.tables e below _ (T108.setTop (mkF m 37 #[.val (.int p0), .val (.int p1), .val (.int p2), .val (.int p3), .val (.ref b101), .unset, .unset, .unset, .unset, .unset, .unset, .unset, .unset, .unset] [(.int (1 : Int32))]))
    refine OGo.st (fun t k => XS.istore X108.here hx rfl (hb hby at_37) rfl (l' := #[.val (.int p0), .val (.int p1), .val (.int p2), .val (.int p3), .val (.ref b101), .val (.int (1 : Int32)), .unset, .unset, .unset, .unset, .unset, .unset, .unset, .unset]) rfl k) ?_
    show OGo p.tables e below _ (T108.setTop (mkF m 39 #[.val (.int p0), .val (.int p1), .val (.int p2), .val (.int p3), .val (.ref b101), .val (.int (1 : Int32)), .unset, .unset, .unset, .unset, .unset, .unset, .unset, .unset] []))
    exact jn39_110 () trivial
  ·
    refine OGo.st (fun t k => XS.icmpYes X108.here hx rfl (pc0 := 21) (pc' := 28) rfl (hb hby at_21) rfl (flt hc21_153).2.1 (by decide) (by decide) k) ?_
    show OGo p.tables e below _ (T108.setTop (mkF m 28 #[.val (.int p0), .val (.int p1), .val (.int p2), .val (.int p3), .val (.ref b101), .unset, .unset, .unset, .unset, .unset, .unset, .unset, .unset, .unset] [(.int (own_lt p0 p1))]))
    refine OGo.st (fun t k => XS.iconst X108.here hx rfl (hb hby at_28) k) ?_
    show OGo p.tables e below _ (T108.setTop (mkF m 29 #[.val (.int p0), .val (.int p1), .val (.int p2), .val (.int p3), .val (.ref b101), .unset, .unset, .unset, .unset, .unset, .unset, .unset, .unset, .unset] [(.int (0 : Int32)), (.int (own_lt p0 p1))]))
    refine OGo.st (fun t k => XS.icmpNo X108.here hx rfl (hb hby at_29) rfl (teq ((own_ltF hc21_153) : (own_lt p0 p1) = (0 : Int32))).2 k) ?_
    show OGo p.tables e below _ (T108.setTop (mkF m 32 #[.val (.int p0), .val (.int p1), .val (.int p2), .val (.int p3), .val (.ref b101), .unset, .unset, .unset, .unset, .unset, .unset, .unset, .unset, .unset] []))
    refine OGo.st (fun t k => XS.iconst X108.here hx rfl (hb hby at_32) k) ?_
    show OGo p.tables e below _ (T108.setTop (mkF m 33 #[.val (.int p0), .val (.int p1), .val (.int p2), .val (.int p3), .val (.ref b101), .unset, .unset, .unset, .unset, .unset, .unset, .unset, .unset, .unset] [(.int (1 : Int32))]))
    refine OGo.st (fun t k => XS.goto X108.here hx rfl (pc0 := 33) (pc' := 37) rfl (hb hby at_33) (by decide) (by decide) k) ?_
    show OGo p.tables e below _ (T108.setTop (mkF m 37 #[.val (.int p0), .val (.int p1), .val (.int p2), .val (.int p3), .val (.ref b101), .unset, .unset, .unset, .unset, .unset, .unset, .unset, .unset, .unset] [(.int (1 : Int32))]))
    refine OGo.st (fun t k => XS.istore X108.here hx rfl (hb hby at_37) rfl (l' := #[.val (.int p0), .val (.int p1), .val (.int p2), .val (.int p3), .val (.ref b101), .val (.int (1 : Int32)), .unset, .unset, .unset, .unset, .unset, .unset, .unset, .unset]) rfl k) ?_
    show OGo p.tables e below _ (T108.setTop (mkF m 39 #[.val (.int p0), .val (.int p1), .val (.int p2), .val (.int p3), .val (.ref b101), .val (.int (1 : Int32)), .unset, .unset, .unset, .unset, .unset, .unset, .unset, .unset] []))
    exact jn39_110 () trivial
set_option maxRecDepth 65536 in
set_option maxHeartbeats 40000000 in
theorem comes_1 {Post : Tables → Env → Array Value → State → Outcome → State → Prop} (hpost : ∀ tb e args s v u, (limb_1_1.after args s (.returned v) u = true ∧ limb_1_2.after args s (.returned v) u = true ∧ True) → FrameEnd s (.returned v) u (Jvm.fieldLocs frame_1_writes args s ++ Jvm.arrayLocs frame_1_arrays args s ++ Jvm.staticLocs frame_1_statics s) 24 128 → Post tb e args s (.returned v) u) :
    ArmFor flags0 classFile x code maxLocals ret World_1 tables_1 room_1 Calls_1 rest_1 Pre_1 Post := by
  intro l hfl _ _ p e ha hc hk s m args below hf hA hF happ hP
  obtain ⟨hcalls, hrest, hpre⟩ := hP
  obtain ⟨-, -, -, hnamed, -, -, -, hat⟩ := (Spec.applies_iff hf).mp happ
  obtain ⟨hg, hn⟩ := and_e (Cond.before_iff.mp (show (Jvm.Cond.and given_1 narrow_1).before args s = true from hpre))
  obtain ⟨gc, gr0⟩ := and_e hg
  obtain ⟨g_0, gr1⟩ := and_e gr0
  obtain ⟨g_1, gr2⟩ := and_e gr1
  obtain ⟨g_2, gr3⟩ := and_e gr2
  have g_3 := gr3
  obtain ⟨w0, w1, w2, w3, rfl⟩ : ∃ w0 w1 w2 w3 : Value, args = #[w0, w1, w2, w3] := by
    have hs : args.size = 4 := by simpa [Cond.value, given_1] using gc
    obtain ⟨L⟩ := args
    match L, hs with
    | [w0, w1, w2, w3], _ => exact ⟨w0, w1, w2, w3, rfl⟩
  have hw := fun d (hd : d ∈ tables_1) => atoms_spec (ws := Jvm.Cond.code x code maxLocals ret :: tables_1) hat d (List.mem_cons_of_mem _ hd)
  have hfit : Fit s := fun {y c} hc i hi => by
    obtain ⟨ha, rfl⟩ := Array.getElem?_eq_some_iff.mp hc
    have q := List.all_eq_true.mp ((Array.all_eq_true_iff_forall_mem.mp hF) _ (Array.getElem_mem ha)) i (List.mem_range.mpr hi)
    simpa [Array.getElem?_eq_getElem hi] using q
  obtain ⟨i0, ei0⟩ := is_v g_0
  obtain rfl : w0 = (.int i0) := Option.some.inj ei0
  obtain ⟨i1, ei1⟩ := is_v g_1
  obtain rfl : w1 = (.int i1) := Option.some.inj ei1
  obtain ⟨i2, ei2⟩ := is_v g_2
  obtain rfl : w2 = (.int i2) := Option.some.inj ei2
  obtain ⟨i3, ei3⟩ := is_v g_3
  obtain rfl : w3 = (.int i3) := Option.some.inj ei3
  obtain ⟨n, o, h1, h2, h3, _, L, rfl, ⟨rfl, N⟩, hq⟩ := rm7 l s _ hw tables_1 i0 i1 i2 i3 s.heap s.heap.size (Nat.le_refl _)  p e ha hc hk s m _ below hf ((Spec.applies_iff_loose hf).mp happ).1 ⟨rfl, State.Warmed39.refl s, rfl⟩ trivial
  refine ⟨n, _, h1, h2, h3, hpost _ _ _ _ _ _ ⟨Cond.after_iff.mpr rfl, Cond.after_iff.mpr (eq_i res_at (Term.int_eval (1)) rfl), trivial⟩ ⟨hq.1, hq.2.1, (hq.2.2.sift fun y hy => Or.inr (N y hy)).mono (by decide) (by decide)⟩⟩
theorem main_1_1 : Claimed_1_1 := comes_1 fun _ _ _ _ _ _ h hF => ⟨h.1, hF⟩
theorem main_1_2 : Claimed_1_2 := comes_1 fun _ _ _ _ _ _ h hF => ⟨h.2.1, hF⟩
end Jvm.Pilot.@@N@@
namespace Jvm.Pilot.@@N@@
open Jvm Jvm.ClassFile Sem Op Lib Jvm.Free Jvm.Stand Jvm.Pilot.@@N@@.Jvm.D
/-! MADE BY PROGRAM (witnessworld.py) out of the Statement's table words and the real class files: 10 classes; the members and pool entries that the words name. The judged class is class 1, her method 1. -/
namespace start1
open Jvm.ClassFile
def u (s : String) : CpInfo := .utf8 (stringToUtf16 s)
/-- a pool by its gaps: so many unusable entries, then the entry; so many at the end -/
def gap : Nat → List CpInfo → List CpInfo
  | 0, r => r
  | n + 1, r => .unusable :: gap n r
def poolList (es : List (Nat × CpInfo)) (last : Nat) : List CpInfo := es.foldr (fun e r => gap e.1 (e.2 :: r)) (gap last [])
def pool (es : List (Nat × CpInfo)) (last : Nat) : Array CpInfo := ⟨poolList es last⟩
def fileOf (pool : Array CpInfo) (this : Nat) (attrs : Array Attribute := #[]) (ms : Array MethodInfo := #[]) (fl : Nat := 33) (sup : Nat := 0) (ifs : Array Nat := #[]) (fds : Array FieldInfo := #[]) : ClassFile where
  minorVersion := 0
  majorVersion := 65
  constantPool := pool
  accessFlags := fl
  thisClass := this
  superClass := sup
  interfaces := ifs
  fields := fds
  methods := ms
  attributes := attrs
def plain (name : String) (sup : Option ClassId) : Class where
  name := name
  kind := .ordinary
  loader := none
  accessFlags := 33
  super := sup
  interfaces := #[]
  cf := none
  fields := #[]
  methods := #[]
  instanceTypes := #[]
  staticTypes := #[]
  resolved := #[]
  callSites := []
  init := .initialized
  statics := none
  mirror := none

def pool0 : Array CpInfo := pool [(5, u "<init>"), (0, u "()V"), (1, .class_ 10), (1, u "java/lang/Object")] 113

def k0c0 : Code := { maxStack := 0, maxLocals := 1, code := object_method_1_code, exceptionTable := #[], attributes := #[] }
def k0m0 : Method := { name := "<init>", desc := "()V", sig := { parameters := [], returnType := none }, accessFlags := 1, code := some k0c0 }
/-- java/lang/Object -/
def k0 : Class := { plain "java/lang/Object" none with
  accessFlags := 33
  interfaces := #[]
  cf := some (fileOf pool0 8 #[] #[{ accessFlags := 1, nameIndex := 5, descriptorIndex := 6, attributes := #[] }] 33 0 #[] #[])
  fields := #[]
  methods := #[k0m0]
  instanceTypes := #[]
  staticTypes := #[]
  resolved := Array.replicate 124 none
  statics := none }

def pool1 : Array CpInfo := pool [(2, .class_ 4), (1, u "java/lang/Object"), (0, u "<init>"), (0, u "()V"), (0, .class_ 8), (0, u "com/example/holdfast/holdfast/resources/DerReader"), (0, .methodref 7 10), (0, .nameAndType 5 11), (0, u "([BII)V"), (0, .methodref 7 13), (0, .nameAndType 14 15), (0, u "hasMore"), (0, u "()Z"), (0, .methodref 7 17), (0, .nameAndType 18 19), (0, u "read"), (0, u "()Lcom/example/holdfast/holdfast/resources/DerValue;"), (0, .class_ 21), (0, u "com/example/holdfast/holdfast/resources/DerReaderHasMorePinLaw"), (2, u "law"), (0, u "(IIII)Z")] 8

def k1m0 : Method := { name := "<init>", desc := "()V", sig := { parameters := [], returnType := none }, accessFlags := 1, code := none }
def k1c1 : Code := { maxStack := 5, maxLocals := 14, code := code, exceptionTable := #[], attributes := #[] }
def k1m1 : Method := { name := "law", desc := "(IIII)Z", sig := { parameters := [.int, .int, .int, .int], returnType := some .boolean }, accessFlags := 9, code := some k1c1 }
/-- com/example/holdfast/holdfast/resources/DerReaderHasMorePinLaw -/
def k1 : Class := { plain "com/example/holdfast/holdfast/resources/DerReaderHasMorePinLaw" (some 0) with
  accessFlags := 49
  interfaces := #[]
  cf := some (fileOf pool1 20 #[] #[{ accessFlags := 1, nameIndex := 5, descriptorIndex := 6, attributes := #[] }, { accessFlags := 9, nameIndex := 24, descriptorIndex := 25, attributes := #[] }] 49 2 #[] #[])
  fields := #[]
  methods := #[k1m0, k1m1]
  instanceTypes := #[]
  staticTypes := #[]
  resolved := Array.replicate 34 none
  statics := none }

def pool2 : Array CpInfo := pool [(2, .class_ 4), (1, u "com/example/holdfast/holdfast/resources/DerReader"), (0, u "<init>"), (0, u "([BII)V"), (0, .methodref 8 9), (0, .class_ 10), (0, .nameAndType 5 11), (0, u "java/lang/Object"), (0, u "()V"), (0, .fieldref 2 13), (0, .nameAndType 14 15), (0, u "bytes"), (0, u "[B"), (0, .fieldref 2 17), (0, .nameAndType 18 19), (0, u "position"), (0, u "I"), (0, .fieldref 2 21), (0, .nameAndType 22 19), (0, u "end"), (9, .methodref 2 33), (0, .nameAndType 34 35), (0, u "hasMore"), (0, u "()Z"), (4, .methodref 2 41), (0, .nameAndType 42 43), (0, u "peekTag"), (0, u "()I"), (7, .long 128), (5, .class_ 58), (0, u "com/example/holdfast/holdfast/resources/DerValue"), (0, .methodref 57 60), (0, .nameAndType 5 61), (0, u "([BIIII)V"), (8, u "read"), (0, u "()Lcom/example/holdfast/holdfast/resources/DerValue;"), (46, u "BOOLEAN"), (2, u "INTEGER"), (1, u "BIT_STRING"), (1, u "OCTET_STRING"), (1, u "NULL"), (1, u "OBJECT_IDENTIFIER"), (1, u "UTC_TIME"), (1, u "GENERALIZED_TIME"), (1, u "SEQUENCE"), (1, u "SET"), (1, u "CONSTRUCTED"), (1, u "CONTEXT_SPECIFIC"), (1, u "HIGH_TAG_NUMBER"), (1, u "MAX_LENGTH_OCTETS")] 52

def k2c0 : Code := { maxStack := 2, maxLocals := 4, code := prog_43_method_2_code, exceptionTable := #[], attributes := #[] }
def k2m0 : Method := { name := "<init>", desc := "([BII)V", sig := { parameters := [(.array .byte), .int, .int], returnType := none }, accessFlags := 0, code := some k2c0 }
def k2c1 : Code := { maxStack := 2, maxLocals := 1, code := prog_43_method_4_code, exceptionTable := #[], attributes := #[] }
def k2m1 : Method := { name := "hasMore", desc := "()Z", sig := { parameters := [], returnType := some .boolean }, accessFlags := 1, code := some k2c1 }
def k2c2 : Code := { maxStack := 3, maxLocals := 1, code := prog_43_method_5_code, exceptionTable := #[], attributes := #[] }
def k2m2 : Method := { name := "peekTag", desc := "()I", sig := { parameters := [], returnType := some .int }, accessFlags := 1, code := some k2c2 }
def k2c3 : Code := { maxStack := 7, maxLocals := 9, code := prog_43_method_6_code, exceptionTable := #[], attributes := #[] }
def k2m3 : Method := { name := "read", desc := "()Lcom/example/holdfast/holdfast/resources/DerValue;", sig := { parameters := [], returnType := some (.object "com/example/holdfast/holdfast/resources/DerValue") }, accessFlags := 1, code := some k2c3 }
/-- com/example/holdfast/holdfast/resources/DerReader -/
def k2 : Class := { plain "com/example/holdfast/holdfast/resources/DerReader" (some 0) with
  accessFlags := 49
  interfaces := #[]
  cf := some (fileOf pool2 2 #[] #[{ accessFlags := 0, nameIndex := 5, descriptorIndex := 6, attributes := #[] }, { accessFlags := 1, nameIndex := 34, descriptorIndex := 35, attributes := #[] }, { accessFlags := 1, nameIndex := 42, descriptorIndex := 43, attributes := #[] }, { accessFlags := 1, nameIndex := 70, descriptorIndex := 71, attributes := #[] }] 49 8 #[] #[{ accessFlags := 25, nameIndex := 118, descriptorIndex := 19, attributes := #[] }, { accessFlags := 25, nameIndex := 121, descriptorIndex := 19, attributes := #[] }, { accessFlags := 25, nameIndex := 123, descriptorIndex := 19, attributes := #[] }, { accessFlags := 25, nameIndex := 125, descriptorIndex := 19, attributes := #[] }, { accessFlags := 25, nameIndex := 127, descriptorIndex := 19, attributes := #[] }, { accessFlags := 25, nameIndex := 129, descriptorIndex := 19, attributes := #[] }, { accessFlags := 25, nameIndex := 131, descriptorIndex := 19, attributes := #[] }, { accessFlags := 25, nameIndex := 133, descriptorIndex := 19, attributes := #[] }, { accessFlags := 25, nameIndex := 135, descriptorIndex := 19, attributes := #[] }, { accessFlags := 25, nameIndex := 137, descriptorIndex := 19, attributes := #[] }, { accessFlags := 24, nameIndex := 139, descriptorIndex := 19, attributes := #[] }, { accessFlags := 26, nameIndex := 141, descriptorIndex := 19, attributes := #[] }, { accessFlags := 26, nameIndex := 143, descriptorIndex := 19, attributes := #[] }, { accessFlags := 26, nameIndex := 145, descriptorIndex := 19, attributes := #[] }, { accessFlags := 18, nameIndex := 14, descriptorIndex := 15, attributes := #[] }, { accessFlags := 18, nameIndex := 22, descriptorIndex := 19, attributes := #[] }, { accessFlags := 2, nameIndex := 18, descriptorIndex := 19, attributes := #[] }])
  fields := #[{ name := "BOOLEAN", type := .int, accessFlags := 25, slot := 0, constantValue := 0 }, { name := "INTEGER", type := .int, accessFlags := 25, slot := 1, constantValue := 0 }, { name := "BIT_STRING", type := .int, accessFlags := 25, slot := 2, constantValue := 0 }, { name := "OCTET_STRING", type := .int, accessFlags := 25, slot := 3, constantValue := 0 }, { name := "NULL", type := .int, accessFlags := 25, slot := 4, constantValue := 0 }, { name := "OBJECT_IDENTIFIER", type := .int, accessFlags := 25, slot := 5, constantValue := 0 }, { name := "UTC_TIME", type := .int, accessFlags := 25, slot := 6, constantValue := 0 }, { name := "GENERALIZED_TIME", type := .int, accessFlags := 25, slot := 7, constantValue := 0 }, { name := "SEQUENCE", type := .int, accessFlags := 25, slot := 8, constantValue := 0 }, { name := "SET", type := .int, accessFlags := 25, slot := 9, constantValue := 0 }, { name := "CONSTRUCTED", type := .int, accessFlags := 24, slot := 10, constantValue := 0 }, { name := "CONTEXT_SPECIFIC", type := .int, accessFlags := 26, slot := 11, constantValue := 0 }, { name := "HIGH_TAG_NUMBER", type := .int, accessFlags := 26, slot := 12, constantValue := 0 }, { name := "MAX_LENGTH_OCTETS", type := .int, accessFlags := 26, slot := 13, constantValue := 0 }, { name := "bytes", type := (.array .byte), accessFlags := 18, slot := 0, constantValue := 0 }, { name := "end", type := .int, accessFlags := 18, slot := 1, constantValue := 0 }, { name := "position", type := .int, accessFlags := 2, slot := 2, constantValue := 0 }]
  methods := #[k2m0, k2m1, k2m2, k2m3]
  instanceTypes := #[(.array .byte), .int, .int]
  staticTypes := #[.int, .int, .int, .int, .int, .int, .int, .int, .int, .int, .int, .int, .int, .int]
  resolved := Array.replicate 198 none
  statics := none }

def pool3 : Array CpInfo := pool [(1, .methodref 2 3), (0, .class_ 4), (0, .nameAndType 5 6), (0, u "java/lang/Object"), (0, u "<init>"), (0, u "()V"), (0, .fieldref 8 9), (0, .class_ 10), (0, .nameAndType 11 12), (0, u "com/example/holdfast/holdfast/resources/DerValue"), (0, u "source"), (0, u "[B"), (0, .fieldref 8 14), (0, .nameAndType 15 16), (0, u "tag"), (0, u "I"), (0, .fieldref 8 18), (0, .nameAndType 19 16), (0, u "offset"), (0, .fieldref 8 21), (0, .nameAndType 22 16), (0, u "contentStart"), (0, .fieldref 8 24), (0, .nameAndType 25 16), (0, u "end"), (78, .class_ 105), (0, u "com/example/holdfast/holdfast/resources/DerValue$BitString"), (35, u "MAX_SUBIDENTIFIER_OCTETS"), (2, u "([BIIII)V")] 40

def k3c0 : Code := { maxStack := 2, maxLocals := 6, code := prog_45_method_1_code, exceptionTable := #[], attributes := #[] }
def k3m0 : Method := { name := "<init>", desc := "([BIIII)V", sig := { parameters := [(.array .byte), .int, .int, .int, .int], returnType := none }, accessFlags := 0, code := some k3c0 }
/-- com/example/holdfast/holdfast/resources/DerValue -/
def k3 : Class := { plain "com/example/holdfast/holdfast/resources/DerValue" (some 0) with
  accessFlags := 49
  interfaces := #[]
  cf := some (fileOf pool3 8 #[.nestMembers #[104]] #[{ accessFlags := 0, nameIndex := 5, descriptorIndex := 144, attributes := #[] }] 49 2 #[] #[{ accessFlags := 24, nameIndex := 141, descriptorIndex := 16, attributes := #[] }, { accessFlags := 18, nameIndex := 11, descriptorIndex := 12, attributes := #[] }, { accessFlags := 18, nameIndex := 15, descriptorIndex := 16, attributes := #[] }, { accessFlags := 18, nameIndex := 19, descriptorIndex := 16, attributes := #[] }, { accessFlags := 18, nameIndex := 22, descriptorIndex := 16, attributes := #[] }, { accessFlags := 18, nameIndex := 25, descriptorIndex := 16, attributes := #[] }])
  fields := #[{ name := "MAX_SUBIDENTIFIER_OCTETS", type := .int, accessFlags := 24, slot := 0, constantValue := 0 }, { name := "source", type := (.array .byte), accessFlags := 18, slot := 0, constantValue := 0 }, { name := "tag", type := .int, accessFlags := 18, slot := 1, constantValue := 0 }, { name := "offset", type := .int, accessFlags := 18, slot := 2, constantValue := 0 }, { name := "contentStart", type := .int, accessFlags := 18, slot := 3, constantValue := 0 }, { name := "end", type := .int, accessFlags := 18, slot := 4, constantValue := 0 }]
  methods := #[k3m0]
  instanceTypes := #[(.array .byte), .int, .int, .int, .int]
  staticTypes := #[.int]
  resolved := Array.replicate 185 none
  statics := none }

def pool4 : Array CpInfo := pool [(1, u "java/lang/Cloneable"), (0, .class_ 1), (0, u "java/lang/Object"), (0, .class_ 3)] 3

/-- java/lang/Cloneable -/
def k4 : Class := { plain "java/lang/Cloneable" (some 0) with
  accessFlags := 1537
  interfaces := #[]
  cf := some (fileOf pool4 2 #[] #[] 1537 4 #[] #[])
  fields := #[]
  methods := #[]
  instanceTypes := #[]
  staticTypes := #[]
  resolved := Array.replicate 8 none
  statics := none }

def pool5 : Array CpInfo := pool [(1, u "java/io/Serializable"), (0, .class_ 1), (0, u "java/lang/Object"), (0, .class_ 3)] 3

/-- java/io/Serializable -/
def k5 : Class := { plain "java/io/Serializable" (some 0) with
  accessFlags := 1537
  interfaces := #[]
  cf := some (fileOf pool5 2 #[] #[] 1537 4 #[] #[])
  fields := #[]
  methods := #[]
  instanceTypes := #[]
  staticTypes := #[]
  resolved := Array.replicate 8 none
  statics := none }

/-- the primitive byte -/
def k6 : Class := { plain "byte" none with kind := .primitive 'B', accessFlags := 0x411 }
/-- [B -/
def k7 : Class := { plain "[B" (some 0) with kind := .array 6 .byte, interfaces := #[4, 5], accessFlags := 1041 }

/-- the primitive int -/
def k8 : Class := { plain "int" none with kind := .primitive 'I', accessFlags := 0x411 }
/-- [I -/
def k9 : Class := { plain "[I" (some 0) with kind := .array 8 .int, interfaces := #[4, 5], accessFlags := 1041 }

def heap : Heap := #[]
def classes : Array Class := #[k0, k1, k2, k3, k4, k5, k6, k7, k8, k9]
def interned : List (Array UInt16 × Addr) := []
def slotsUsed : Nat := 0
def theMethod : MethodId := ⟨1, 1⟩
def args0 : Array Value := #[.int 1, .int 2, .int 3, .int 4]
def aboutOver (below : List Frame) : State where
  vm := { classes := classes, interned := interned.toArray }
  heap := heap
  slotsUsed := slotsUsed
  threads := #[{ frames := .invoking theMethod args0 :: below }]
def below0 : List Frame := [.native { method := ⟨0, 0⟩, args := #[] }]
def about1 : State := aboutOver below0
def p0 : Program := .bare "" "" ""
def e0 : Env := launch0.env 0 0 0
theorem w_frames : about1.frames = Frame.invoking theMethod args0 :: below0 := rfl
set_option maxRecDepth 65536 in
theorem w_args : argsFit about1.vm theMethod args0 = true := by decide +kernel
set_option maxRecDepth 65536 in
theorem w_heap : heapFits about1 = true := by decide +kernel
set_option maxRecDepth 65536 in
theorem w_runnable : about1.curStatus? = some .runnable := by decide +kernel
set_option maxRecDepth 65536 in
theorem w_alone : about1.alone = true := by decide +kernel
set_option maxRecDepth 65536 in
theorem w_named : about1.methodNamed? x = some theMethod := by decide +kernel
set_option maxRecDepth 65536 in
theorem w_hears : about1.hears theMethod below0 = true := by decide +kernel
set_option maxRecDepth 65536 in
theorem w_ripe : about1.ripe theMethod args0 below0 = true := by decide +kernel
theorem w_running : about1.status = .running := rfl
set_option maxRecDepth 65536 in
theorem w_room : about1.hasRoom e0.platform room_1 = true :=
  launch0.hasRoom_least _ room_1 (by decide +kernel) (by decide +kernel) (by decide +kernel) (by decide +kernel) (by decide +kernel) (by decide +kernel)
theorem allAtoms_all (ts : List Jvm.Cond) (a : Array Jvm.Value) (st : Jvm.State) : (allAtoms ts).before a st = ts.all (fun c => c.before a st) := by
  induction ts with
  | nil => rfl
  | cons c t ih =>
    show (Jvm.Cond.and c (allAtoms t)).before a st = _
    rw [Jvm.Cond.before_and, ih, List.all_cons]
def words1 : List Jvm.Cond := Jvm.Cond.code x code maxLocals ret :: tables_1
/-- a 'code' word, met by the world's own term for the bytes: nothing is compared byte by byte -/
theorem code_word {y : MethodName} {bytes : ByteArray} {mx : Nat} {rt : Option FieldType} {a : Array Value} {s : State} {m : MethodId} {meth : Method} {c : Code} (h1 : s.methodNamed? y = some m) (h2 : s.vm.method? m = some meth) (h3 : meth.code = some c) (h4 : c.code = bytes)
    (h5 : (c.maxLocals == mx && c.exceptionTable.isEmpty && decide (c.maxStack ≤ mostOperands) && decide (meth.sig.returnType = rt) && !meth.locks && decide (parseMethodDescriptor y.desc = some meth.sig)) = true) : (Jvm.Cond.code y bytes mx rt).before a s = true := by
  simp only [Bool.and_eq_true, beq_iff_eq, Bool.not_eq_true', decide_eq_true_eq] at h5
  obtain ⟨⟨⟨⟨⟨g1, g2⟩, g3⟩, g4⟩, g5⟩, g6⟩ := h5
  simp [Cond.before, Cond.holds, Cond.value, h1, h2, h3, h4, g1, g2, g3, g4, g5, g6]
def isCode : Jvm.Cond → Bool
  | .code _ _ _ _ => true
  | _ => false
theorem all_split {L : List Jvm.Cond} {P : Jvm.Cond → Bool} (h1 : L.all (fun c => isCode c || P c) = true) (h2 : ∀ c ∈ L.filter isCode, P c = true) : L.all P = true := by
  refine List.all_eq_true.mpr fun c hc => ?_
  have h := List.all_eq_true.mp h1 c hc
  rcases Bool.eq_false_or_eq_true (isCode c) with hi | hi
  · exact h2 c (List.mem_filter.mpr ⟨hc, hi⟩)
  · simpa [hi] using h
set_option maxRecDepth 65536 in
theorem w_c0 : (Jvm.Cond.code x code maxLocals ret).before args0 about1 = true := code_word (m := ⟨1, 1⟩) (meth := k1m1) (c := k1c1) (by decide +kernel) rfl rfl rfl (by decide +kernel)
set_option maxRecDepth 65536 in
theorem w_c1 : (Jvm.Cond.code ({ cls := "com/example/holdfast/holdfast/resources/DerReader", name := "<init>", desc := "([BII)V" } : Jvm.MethodName) prog_43_method_2_code (4 : Nat) (Option.none : Option Jvm.ClassFile.FieldType)).before args0 about1 = true := code_word (m := ⟨2, 0⟩) (meth := k2m0) (c := k2c0) (by decide +kernel) rfl rfl rfl (by decide +kernel)
set_option maxRecDepth 65536 in
theorem w_c2 : (Jvm.Cond.code ({ cls := "java/lang/Object", name := "<init>", desc := "()V" } : Jvm.MethodName) object_method_1_code (1 : Nat) (Option.none : Option Jvm.ClassFile.FieldType)).before args0 about1 = true := code_word (m := ⟨0, 0⟩) (meth := k0m0) (c := k0c0) (by decide +kernel) rfl rfl rfl (by decide +kernel)
set_option maxRecDepth 65536 in
theorem w_c3 : (Jvm.Cond.code ({ cls := "com/example/holdfast/holdfast/resources/DerReader", name := "hasMore", desc := "()Z" } : Jvm.MethodName) prog_43_method_4_code (1 : Nat) (Option.some Jvm.ClassFile.FieldType.boolean)).before args0 about1 = true := code_word (m := ⟨2, 1⟩) (meth := k2m1) (c := k2c1) (by decide +kernel) rfl rfl rfl (by decide +kernel)
set_option maxRecDepth 65536 in
theorem w_c4 : (Jvm.Cond.code ({ cls := "com/example/holdfast/holdfast/resources/DerReader", name := "read", desc := "()Lcom/example/holdfast/holdfast/resources/DerValue;" } : Jvm.MethodName) prog_43_method_6_code (9 : Nat) (Option.some (Jvm.ClassFile.FieldType.object "com/example/holdfast/holdfast/resources/DerValue"))).before args0 about1 = true := code_word (m := ⟨2, 3⟩) (meth := k2m3) (c := k2c3) (by decide +kernel) rfl rfl rfl (by decide +kernel)
set_option maxRecDepth 65536 in
theorem w_c5 : (Jvm.Cond.code ({ cls := "com/example/holdfast/holdfast/resources/DerReader", name := "peekTag", desc := "()I" } : Jvm.MethodName) prog_43_method_5_code (1 : Nat) (Option.some Jvm.ClassFile.FieldType.int)).before args0 about1 = true := code_word (m := ⟨2, 2⟩) (meth := k2m2) (c := k2c2) (by decide +kernel) rfl rfl rfl (by decide +kernel)
set_option maxRecDepth 65536 in
theorem w_c6 : (Jvm.Cond.code ({ cls := "com/example/holdfast/holdfast/resources/DerValue", name := "<init>", desc := "([BIIII)V" } : Jvm.MethodName) prog_45_method_1_code (6 : Nat) (Option.none : Option Jvm.ClassFile.FieldType)).before args0 about1 = true := code_word (m := ⟨3, 0⟩) (meth := k3m0) (c := k3c0) (by decide +kernel) rfl rfl rfl (by decide +kernel)
def codes1 : List Jvm.Cond := [Jvm.Cond.code x code maxLocals ret, Jvm.Cond.code ({ cls := "com/example/holdfast/holdfast/resources/DerReader", name := "<init>", desc := "([BII)V" } : Jvm.MethodName) prog_43_method_2_code (4 : Nat) (Option.none : Option Jvm.ClassFile.FieldType), Jvm.Cond.code ({ cls := "java/lang/Object", name := "<init>", desc := "()V" } : Jvm.MethodName) object_method_1_code (1 : Nat) (Option.none : Option Jvm.ClassFile.FieldType), Jvm.Cond.code ({ cls := "com/example/holdfast/holdfast/resources/DerReader", name := "hasMore", desc := "()Z" } : Jvm.MethodName) prog_43_method_4_code (1 : Nat) (Option.some Jvm.ClassFile.FieldType.boolean), Jvm.Cond.code ({ cls := "com/example/holdfast/holdfast/resources/DerReader", name := "read", desc := "()Lcom/example/holdfast/holdfast/resources/DerValue;" } : Jvm.MethodName) prog_43_method_6_code (9 : Nat) (Option.some (Jvm.ClassFile.FieldType.object "com/example/holdfast/holdfast/resources/DerValue")), Jvm.Cond.code ({ cls := "com/example/holdfast/holdfast/resources/DerReader", name := "peekTag", desc := "()I" } : Jvm.MethodName) prog_43_method_5_code (1 : Nat) (Option.some Jvm.ClassFile.FieldType.int), Jvm.Cond.code ({ cls := "com/example/holdfast/holdfast/resources/DerValue", name := "<init>", desc := "([BIIII)V" } : Jvm.MethodName) prog_45_method_1_code (6 : Nat) (Option.none : Option Jvm.ClassFile.FieldType)]
set_option maxRecDepth 65536 in
theorem codes_eq : words1.filter isCode = codes1 := rfl
theorem w_codes : ∀ c ∈ words1.filter isCode, c.before args0 about1 = true := by
  rw [codes_eq]
  intro c hc
  simp only [codes1, List.mem_cons, List.not_mem_nil, or_false] at hc
  rcases hc with rfl | rfl | rfl | rfl | rfl | rfl | rfl
  · exact w_c0
  · exact w_c1
  · exact w_c2
  · exact w_c3
  · exact w_c4
  · exact w_c5
  · exact w_c6
set_option maxRecDepth 65536 in
theorem w_t1 : (words1.take 24).all (fun c => isCode c || c.before args0 about1) = true := by decide +kernel
set_option maxRecDepth 65536 in
theorem w_t2 : ((words1.drop 24).take 24).all (fun c => isCode c || c.before args0 about1) = true := by decide +kernel
set_option maxRecDepth 65536 in
theorem w_t3 : ((words1.drop 24).drop 24).all (fun c => isCode c || c.before args0 about1) = true := by decide +kernel
theorem w_tables : (allAtoms (Jvm.Cond.code x code maxLocals ret :: tables_1)).before args0 about1 = true := by
  rw [allAtoms_all]
  show words1.all (fun c => c.before args0 about1) = true
  refine all_split ?_ w_codes
  rw [← List.take_append_drop 24 words1, List.all_append, w_t1, ← List.take_append_drop 24 (words1.drop 24), List.all_append, w_t2, w_t3]
  rfl
set_option maxRecDepth 65536 in
theorem w_case : (Jvm.Cond.and given_1 narrow_1).before args0 about1 = true := by decide +kernel
theorem w_applies : (headSpec (Jvm.Cond.code x code maxLocals ret :: tables_1) room_1).applies x e0.platform about1 = true :=
  (Spec.applies_iff w_frames).mpr ⟨w_running, w_runnable, w_alone, w_named, w_hears, w_ripe, w_room, w_tables⟩
theorem atStart : AtStart classFile x code maxLocals ret World_1 tables_1 room_1 Calls_1 rest_1 Pre_1 launch0 p0 e0 about1 theMethod args0 below0 :=
  ⟨lists_1, trivial, launch0.admits_env _ _ _, launch0.least_env, fairChoices_fair.cas, fairChoices_fair.clock, w_frames, w_args, w_heap, w_applies, trivial, trivial, w_case⟩
end start1
theorem witness_1 : WitnessClaimed_1 := ⟨start1.p0, start1.e0, start1.about1, start1.theMethod, start1.args0, start1.below0, start1.atStart⟩
end Jvm.Pilot.@@N@@
