import JvmDerived
import JvmDerived.Pilot.@@N@@Statement
import JvmDerived.Pilot.@@N@@Code
set_option linter.unusedVariables false
set_option linter.unusedSimpArgs false
namespace Jvm.RoadKit
open Sem ClassFile Op Lib Jvm.Stand Jvm.Free Jvm.LawKit
section New
variable {p : Program} {l : Launch} {e : Env} {R : Room} {s : State} {m : MethodId} {args : Array Value} {below : List Frame} {meth : Method} {c : Code} {T : State} {locs : List Loc} {cells slots : Nat}
theorem retI (X : Stand p l e R s m args below meth c T locs cells slots) (hx : p.tables.exec = Jvm.exec) {pc : Nat} {Ls : Array Slot} {z : Int32} {rest : List Value} (hret : meth.sig.returnType = some .int) (hd : decode c.code pc = .ok (.ireturn, 1)) {fs : List Frame}
    (hl : ∀ (f : JFrame) (acts : List Action), f.method = m → f.locked = none → f.entered = [] → (doReturn e (T.setTop f) acts (some (.int z))).1 = T.setFrames fs) : Steps p.tables e below (T.setTop (mkF m pc Ls (.int z :: rest))) (T.setFrames fs) := by
  have hm' : T.vm.method? m = some meth := X.method'
  have hn : narrow .int (.int z) = .int z := rfl
  show Steps p.tables e below (T.setTop { method := m, pc := pc, locals := Ls, stack := _ :: rest, locked := none }) _
  jvm_step X.here [X.here.top, hx, hd, hm', hret, hn]
  first | (intro acts; rw [hl _ acts rfl rfl rfl]) | rw [hl _ _ rfl rfl rfl]
  exact Steps.refl _
theorem own_retL (X : Stand p l e R s m args below meth c T locs cells slots) (hx : p.tables.exec = Jvm.exec) {pc : Nat} {Ls : Array Slot} {z : Int64} {rest : List Value} (hret : meth.sig.returnType = some .long) (hd : decode c.code pc = .ok (.lreturn, 1)) {fs : List Frame}
    (hl : ∀ (f : JFrame) (acts : List Action), f.method = m → f.locked = none → f.entered = [] → (doReturn e (T.setTop f) acts (some (.long z))).1 = T.setFrames fs) : Steps p.tables e below (T.setTop (mkF m pc Ls (.long z :: rest))) (T.setFrames fs) := by
  have hm' : T.vm.method? m = some meth := X.method'
  have hn : narrow .long (.long z) = .long z := rfl
  show Steps p.tables e below (T.setTop { method := m, pc := pc, locals := Ls, stack := _ :: rest, locked := none }) _
  jvm_step X.here [X.here.top, hx, hd, hm', hret, hn]
  first | (intro acts; rw [hl _ acts rfl rfl rfl]) | rw [hl _ _ rfl rfl rfl]
  exact Steps.refl _
theorem own_retR (X : Stand p l e R s m args below meth c T locs cells slots) (hx : p.tables.exec = Jvm.exec) {pc : Nat} {Ls : Array Slot} {v : Value} {t : FieldType} {rest : List Value} (hret : meth.sig.returnType = some t) (ht : t.isReference = true) (hv : v.isRef = true) (hd : decode c.code pc = .ok (.areturn, 1)) {fs : List Frame}
    (hl : ∀ (f : JFrame) (acts : List Action), f.method = m → f.locked = none → f.entered = [] → (doReturn e (T.setTop f) acts (some v)).1 = T.setFrames fs) : Steps p.tables e below (T.setTop (mkF m pc Ls (v :: rest))) (T.setFrames fs) := by
  have hm' : T.vm.method? m = some meth := X.method'
  show Steps p.tables e below (T.setTop { method := m, pc := pc, locals := Ls, stack := _ :: rest, locked := none }) _
  rcases ref_cases hv with rfl | ⟨a, rfl⟩
  · jvm_step X.here [X.here.top, hx, hd, hm', hret, ht, Value.isRef]
    first | (intro acts; rw [hl _ acts rfl rfl rfl]) | rw [hl _ _ rfl rfl rfl]
    exact Steps.refl _
  · jvm_step X.here [X.here.top, hx, hd, hm', hret, ht, Value.isRef]
    first | (intro acts; rw [hl _ acts rfl rfl rfl]) | rw [hl _ _ rfl rfl rfl]
    exact Steps.refl _
end New
/-- an end that the run comes to from S, with what is said of it -/
def OGo (tb : Tables) (e : Env) (below : List Frame) (Φ : State → Outcome → Prop) (S : State) : Prop := ∃ t o, Steps tb e below S t ∧ Φ t o
section Own
variable {tb : Tables} {e : Env} {below : List Frame} {Φ : State → Outcome → Prop} {S S' t : State} {o : Outcome}
theorem OGo.start (pre : ∀ t, Steps tb e below S' t → Steps tb e below S t) (k : OGo tb e below Φ S') : ∃ t o, Steps tb e below S t ∧ Φ t o := by
  obtain ⟨t, o, h1, h2⟩ := k
  exact ⟨t, o, pre t h1, h2⟩
theorem OGo.st (h : ∀ t, Steps tb e below S' t → Steps tb e below S t) (k : OGo tb e below Φ S') : OGo tb e below Φ S := OGo.start h k
theorem OGo.tr (h : Steps tb e below S S') (k : OGo tb e below Φ S') : OGo tb e below Φ S := OGo.start (fun _ q => h.trans q) k
theorem OGo.done (h : Steps tb e below S t) (q : Φ t o) : OGo tb e below Φ S := ⟨t, o, h, q⟩
theorem OGo.join {α : Type} (P : α → Prop) (F : α → State) (h : ∀ v, P v → OGo tb e below Φ (F v)) (k : (∀ v, P v → OGo tb e below Φ (F v)) → OGo tb e below Φ S) : OGo tb e below Φ S := k h
theorem own_fld {Z : State} {h : Heap} {a : Addr} {C n d : String} {v w : Value} (F : Fld Z h a C n d v) (q : v = w) : Fld Z h a C n d w := q ▸ F
end Own
end Jvm.RoadKit
namespace Jvm.Pilot.@@N@@
open Jvm Jvm.ClassFile Sem Op Lib Jvm.Free Jvm.Stand Jvm.LawKit Jvm.RoadKit Bundle Jvm.Pilot.@@N@@.Jvm.D
theorem own_i (x y : Int32) (h1 : 0 ≤ x.toInt) (h2 : x.toInt < 4096) (h3 : 0 ≤ y.toInt) (h4 : y.toInt < 4096) : (x + y).toInt = x.toInt + y.toInt := by
  have q := c_iadd x y
  have r := rng32 (x + y)
  omega
theorem own_m3 (x : Int32) : 0 ≤ (x &&& 3).toInt ∧ (x &&& 3).toInt < 4 := by
  have h := c_mask x 3 2 (by decide) (by decide)
  have e : ((2 ^ 2 : Nat) : Int) = 4 := rfl
  rw [e] at h; omega
theorem own_z (x : Int32) (h : 0 ≤ x.toInt ∧ x.toInt < 4) : 0 ≤ (x <<< ((9 : Int32) &&& 31)).toInt ∧ (x <<< ((9 : Int32) &&& 31)).toInt ≤ 1536 := by
  have q := c_ishl x 9 9 (by decide)
  have e : ((2 ^ 9 : Nat) : Int) = 512 := rfl
  have r := rng32 (x <<< ((9 : Int32) &&& 31))
  rw [e] at q; omega
theorem own_rng (z : Int32) (h : 0 ≤ z.toInt) (h2 : z.toInt < 2048) : ¬ z < 0 ∧ z < 2048 := by
  rw [Int32.lt_iff_toInt_lt, Int32.lt_iff_toInt_lt]
  have e0 : (0 : Int32).toInt = 0 := rfl
  have e1 : (2048 : Int32).toInt = 2048 := rfl
  omega
theorem own_ne {x y : Int32} (h : x.toInt ≠ y.toInt) : ¬ x = y := fun q => h (by rw [q])
theorem own_five (g : Int32) : ((g &&& 2147483647) - ((g &&& 2147483647) / 5) * 5) = 0 ∨ ((g &&& 2147483647) - ((g &&& 2147483647) / 5) * 5) = 1 ∨ ((g &&& 2147483647) - ((g &&& 2147483647) / 5) * 5) = 2 ∨ ((g &&& 2147483647) - ((g &&& 2147483647) / 5) * 5) = 3 ∨ ((g &&& 2147483647) - ((g &&& 2147483647) / 5) * 5) = 4 := by
  have h1 := c_mask g 2147483647 31 (by decide) (by decide)
  have h2 := (c_irem (g &&& 2147483647) 5 5 rfl).1
  have h3 : ((2 ^ 31 : Nat) : Int) = 2147483648 := rfl
  rw [h3] at h1
  have h4 : (g &&& 2147483647) - ((g &&& 2147483647) / 5) * 5 = (g &&& 2147483647) % 5 := irem_eq_mod _ _
  rw [h4]
  have h5 := h2 (by omega)
  simp only [← Int32.toInt_inj]
  have e0 : (0 : Int32).toInt = 0 := rfl
  have e1 : (1 : Int32).toInt = 1 := rfl
  have e2 : (2 : Int32).toInt = 2 := rfl
  have e3 : (3 : Int32).toInt = 3 := rfl
  have e4 : (4 : Int32).toInt = 4 := rfl
  omega
theorem own_sz (z w : Int32) (k : Int32) (h : (z + k) = w) : ((0 : Int32) + w) - z = k := by
  subst h
  have q1 := c_iadd z k
  have q2 := c_iadd 0 (z + k)
  have q3 := c_isub (0 + (z + k)) z
  have r := rng32 (0 + (z + k) - z)
  have r2 := rng32 k
  have e0 : (0 : Int32).toInt = 0 := rfl
  rw [e0] at q2
  apply Int32.toInt_inj.mp
  omega
theorem own_add2 (z : Int32) : z + 2 = (z + 1) + 1 := by rw [Int32.add_assoc]; rfl
theorem own_add3 (z : Int32) : z + 3 = ((z + 1) + 1) + 1 := by rw [Int32.add_assoc, Int32.add_assoc]; rfl
theorem own_add4 (z : Int32) : z + 4 = (((z + 1) + 1) + 1) + 1 := by rw [Int32.add_assoc, Int32.add_assoc, Int32.add_assoc]; rfl
theorem d0_0 : decode jdk_33_method_47_code 0 = .ok (.iload_n 0, 1) := by decide +kernel
theorem d0_1 : decode jdk_33_method_47_code 1 = .ok (.ifCond .gt 14, 3) := by decide +kernel
theorem d0_4 : decode jdk_33_method_47_code 4 = .ok (.iload_n 0, 1) := by decide +kernel
theorem d0_5 : decode jdk_33_method_47_code 5 = .ok (.ifCond .ne 8, 3) := by decide +kernel
theorem d0_8 : decode jdk_33_method_47_code 8 = .ok (.bipush 32, 2) := by decide +kernel
theorem d0_10 : decode jdk_33_method_47_code 10 = .ok (.goto 4, 3) := by decide +kernel
theorem d0_14 : decode jdk_33_method_47_code 14 = .ok (.ireturn, 1) := by decide +kernel
theorem pn_0 : plainName "java/lang/Integer" = true := by first | (simp [plainName, overriddenIn]; done) | decide +kernel
theorem ef_0 (m : MethodId)  : entryFrame m #[(.int (0 : Int32))] 2 = mkF m 0 #[.val (.int (0 : Int32)), .unset] [] := by first | (simp [entryFrame, mkF, argsToLocals, Value.category]; done) | rfl
def Q0 (Z : State)  (h0 : Heap) (n0 : Nat) (v : Option Value) (h : Heap) (L : List Loc) : Prop := v = some (.int (32 : Int32)) ∧ Fr n0 L ∧ h = h0
set_option maxRecDepth 65536 in
set_option maxHeartbeats 40000000 in
theorem rm0 (l : Launch) (Z : State) (ar : Array Value) (hw : ∀ d ∈ tables_1, d.before ar Z = true) (ws : List Jvm.Cond)  (h0 : Heap) (n0 : Nat) (Z0 : n0 ≤ h0.size)  :
    MetFree l (⟨"java/lang/Integer", "numberOfLeadingZeros", "(I)I"⟩ : MethodName) (head1 (Jvm.Cond.code (⟨"java/lang/Integer", "numberOfLeadingZeros", "(I)I"⟩ : MethodName) jdk_33_method_47_code 2 (some .int) :: ws) ({ frames := 0, cells := 0, slots := 0, locals := 0 } : Room)) (fun a U => a = #[(.int (0 : Int32))] ∧ Z.Warmed39 U.vm ∧ U.heap = h0) (fun _ _ _ _ _ => True) (fun _ U o U' => ∃ v L, o = .returned v ∧ Q0 Z  h0 n0 v U'.heap L ∧ FrameEnd U o U' L ({ frames := 0, cells := 0, slots := 0, locals := 0 } : Room).cells ({ frames := 0, cells := 0, slots := 0, locals := 0 } : Room).slots) := by
  refine MetFree.of_bodySF (plainFor_of_name pn_0) hisR ?_
  intro p e s m args below meth c s₁ Bd hml0 hP hK
  obtain ⟨rfl, hZ, hh⟩ := hP
  have hx := Bd.exec
  have hby := Bd.bytes
  have hml : c.maxLocals = 2 := hml0
  have hown : s.vm.findClass "java/lang/Integer" = some m.cls := findClass_of_methodNamed Bd.named
  have hnm := (name_of_methodNamed Bd.named Bd.method).1
  have X0 : Stand p l e ({ frames := 0, cells := 0, slots := 0, locals := 0 } : Room) s m #[(.int (0 : Int32))] below meth c s₁ [] 0 0 := Stand.of_body Bd
  have e0 : s₁.heap = h0 := by rw [← hh, Bd.state]; rfl
  have N0 := Fr.nil n0
  have pre0 : ∀ t, Steps p.tables e below (s₁.setTop (mkF m 0 #[.val (.int (0 : Int32)), .unset] [])) t → Steps p.tables e below (s₁.setTop (entryFrame m #[(.int (0 : Int32))] 2)) t := fun t k => castTop (ef_0 m ) k
  refine OGo.start pre0 ?_
  show OGo p.tables e below _ (s₁.setTop (mkF m 0 #[.val (.int (0 : Int32)), .unset] []))
  refine OGo.st (fun t k => XS.iloadN X0.here hx rfl (hb hby d0_0) rfl k) ?_
  show OGo p.tables e below _ (s₁.setTop (mkF m 1 #[.val (.int (0 : Int32)), .unset] [(.int (0 : Int32))]))
  refine OGo.st (fun t k => XS.ifNo X0.here hx rfl (hb hby d0_1) rfl ((if0 _ _).trans (flt (by decide : ¬ ((0 : Int32) < (0 : Int32)))).2.2.1) k) ?_
  show OGo p.tables e below _ (s₁.setTop (mkF m 4 #[.val (.int (0 : Int32)), .unset] []))
  refine OGo.st (fun t k => XS.iloadN X0.here hx rfl (hb hby d0_4) rfl k) ?_
  show OGo p.tables e below _ (s₁.setTop (mkF m 5 #[.val (.int (0 : Int32)), .unset] [(.int (0 : Int32))]))
  refine OGo.st (fun t k => XS.ifNo X0.here hx rfl (hb hby d0_5) rfl ((if0 _ _).trans (teq (by decide : (0 : Int32) = (0 : Int32))).2) k) ?_
  show OGo p.tables e below _ (s₁.setTop (mkF m 8 #[.val (.int (0 : Int32)), .unset] []))
  refine OGo.st (fun t k => XS.bipush X0.here hx rfl (hb hby d0_8) k) ?_
  show OGo p.tables e below _ (s₁.setTop (mkF m 10 #[.val (.int (0 : Int32)), .unset] [(.int (32 : Int32))]))
  refine OGo.st (fun t k => XS.goto X0.here hx rfl (pc0 := 10) (pc' := 14) rfl (hb hby d0_10) (by decide) (by decide) k) ?_
  show OGo p.tables e below _ (s₁.setTop (mkF m 14 #[.val (.int (0 : Int32)), .unset] [(.int (32 : Int32))]))
  obtain ⟨fs, hr, hrun, hended, hW, hsame⟩ := X0.leave (v := some (.int (32 : Int32))) (fun h => by rw [Bd.returns] at h; cases h)
  refine OGo.done (retI X0 hx Bd.returns (hb hby d0_14) hr) ⟨hrun, hended, _, _, rfl, ?_, ⟨_, rfl⟩, hW, hsame.mono (by decide) (by decide)⟩
  show Q0 Z  h0 n0 _ s₁.heap _
  rw [e0]
  exact ⟨rfl, N0, rfl⟩
theorem d1_0 : decode jdk_29_method_69_code 0 = .ok (.iload_n 0, 1) := by decide +kernel
theorem d1_1 : decode jdk_29_method_69_code 1 = .ok (.iload_n 1, 1) := by decide +kernel
theorem d1_2 : decode jdk_29_method_69_code 2 = .ok (.if_icmp .gt 7, 3) := by decide +kernel
theorem d1_5 : decode jdk_29_method_69_code 5 = .ok (.iload_n 0, 1) := by decide +kernel
theorem d1_6 : decode jdk_29_method_69_code 6 = .ok (.goto 4, 3) := by decide +kernel
theorem d1_10 : decode jdk_29_method_69_code 10 = .ok (.ireturn, 1) := by decide +kernel
theorem ef_1 (m : MethodId)  : entryFrame m #[(.int (9 : Int32)), (.int (12 : Int32))] 2 = mkF m 0 #[.val (.int (9 : Int32)), .val (.int (12 : Int32))] [] := by first | (simp [entryFrame, mkF, argsToLocals, Value.category]; done) | rfl
def Q1 (Z : State)  (h0 : Heap) (n0 : Nat) (v : Option Value) (h : Heap) (L : List Loc) : Prop := v = some (.int (9 : Int32)) ∧ Fr n0 L ∧ h = h0
set_option maxRecDepth 65536 in
set_option maxHeartbeats 40000000 in
theorem rm1 (l : Launch) (Z : State) (ar : Array Value) (hw : ∀ d ∈ tables_1, d.before ar Z = true) (ws : List Jvm.Cond)  (h0 : Heap) (n0 : Nat) (Z0 : n0 ≤ h0.size)  :
    MetFree l (⟨"java/lang/Math", "min", "(II)I"⟩ : MethodName) (head1 (Jvm.Cond.code (⟨"java/lang/Math", "min", "(II)I"⟩ : MethodName) jdk_29_method_69_code 2 (some .int) :: ws) ({ frames := 0, cells := 0, slots := 0, locals := 0 } : Room)) (fun a U => a = #[(.int (9 : Int32)), (.int (12 : Int32))] ∧ Z.Warmed39 U.vm ∧ U.heap = h0) (fun _ _ _ _ _ => True) (fun _ U o U' => ∃ v L, o = .returned v ∧ Q1 Z  h0 n0 v U'.heap L ∧ FrameEnd U o U' L ({ frames := 0, cells := 0, slots := 0, locals := 0 } : Room).cells ({ frames := 0, cells := 0, slots := 0, locals := 0 } : Room).slots) := by
  refine MetFree.of_bodySF (Jvm.Free.JP.mathPlain rfl (by decide +kernel)) hisR ?_
  intro p e s m args below meth c s₁ Bd hml0 hP hK
  obtain ⟨rfl, hZ, hh⟩ := hP
  have hx := Bd.exec
  have hby := Bd.bytes
  have hml : c.maxLocals = 2 := hml0
  have hown : s.vm.findClass "java/lang/Math" = some m.cls := findClass_of_methodNamed Bd.named
  have hnm := (name_of_methodNamed Bd.named Bd.method).1
  have X0 : Stand p l e ({ frames := 0, cells := 0, slots := 0, locals := 0 } : Room) s m #[(.int (9 : Int32)), (.int (12 : Int32))] below meth c s₁ [] 0 0 := Stand.of_body Bd
  have e0 : s₁.heap = h0 := by rw [← hh, Bd.state]; rfl
  have N0 := Fr.nil n0
  have pre0 : ∀ t, Steps p.tables e below (s₁.setTop (mkF m 0 #[.val (.int (9 : Int32)), .val (.int (12 : Int32))] [])) t → Steps p.tables e below (s₁.setTop (entryFrame m #[(.int (9 : Int32)), (.int (12 : Int32))] 2)) t := fun t k => castTop (ef_1 m ) k
  refine OGo.start pre0 ?_
  show OGo p.tables e below _ (s₁.setTop (mkF m 0 #[.val (.int (9 : Int32)), .val (.int (12 : Int32))] []))
  refine OGo.st (fun t k => XS.iloadN X0.here hx rfl (hb hby d1_0) rfl k) ?_
  show OGo p.tables e below _ (s₁.setTop (mkF m 1 #[.val (.int (9 : Int32)), .val (.int (12 : Int32))] [(.int (9 : Int32))]))
  refine OGo.st (fun t k => XS.iloadN X0.here hx rfl (hb hby d1_1) rfl k) ?_
  show OGo p.tables e below _ (s₁.setTop (mkF m 2 #[.val (.int (9 : Int32)), .val (.int (12 : Int32))] [(.int (12 : Int32)), (.int (9 : Int32))]))
  refine OGo.st (fun t k => XS.icmpNo X0.here hx rfl (hb hby d1_2) rfl (flt (by decide : ¬ ((12 : Int32) < (9 : Int32)))).2.2.1 k) ?_
  show OGo p.tables e below _ (s₁.setTop (mkF m 5 #[.val (.int (9 : Int32)), .val (.int (12 : Int32))] []))
  refine OGo.st (fun t k => XS.iloadN X0.here hx rfl (hb hby d1_5) rfl k) ?_
  show OGo p.tables e below _ (s₁.setTop (mkF m 6 #[.val (.int (9 : Int32)), .val (.int (12 : Int32))] [(.int (9 : Int32))]))
  refine OGo.st (fun t k => XS.goto X0.here hx rfl (pc0 := 6) (pc' := 10) rfl (hb hby d1_6) (by decide) (by decide) k) ?_
  show OGo p.tables e below _ (s₁.setTop (mkF m 10 #[.val (.int (9 : Int32)), .val (.int (12 : Int32))] [(.int (9 : Int32))]))
  obtain ⟨fs, hr, hrun, hended, hW, hsame⟩ := X0.leave (v := some (.int (9 : Int32))) (fun h => by rw [Bd.returns] at h; cases h)
  refine OGo.done (retI X0 hx Bd.returns (hb hby d1_10) hr) ⟨hrun, hended, _, _, rfl, ?_, ⟨_, rfl⟩, hW, hsame.mono (by decide) (by decide)⟩
  show Q1 Z  h0 n0 _ s₁.heap _
  rw [e0]
  exact ⟨rfl, N0, rfl⟩
theorem d2_0 : decode jdk_29_method_65_code 0 = .ok (.iload_n 0, 1) := by decide +kernel
theorem d2_1 : decode jdk_29_method_65_code 1 = .ok (.iload_n 1, 1) := by decide +kernel
theorem d2_2 : decode jdk_29_method_65_code 2 = .ok (.if_icmp .lt 7, 3) := by decide +kernel
theorem d2_9 : decode jdk_29_method_65_code 9 = .ok (.iload_n 1, 1) := by decide +kernel
theorem d2_10 : decode jdk_29_method_65_code 10 = .ok (.ireturn, 1) := by decide +kernel
theorem ef_2 (m : MethodId)  : entryFrame m #[(.int (4 : Int32)), (.int (9 : Int32))] 2 = mkF m 0 #[.val (.int (4 : Int32)), .val (.int (9 : Int32))] [] := by first | (simp [entryFrame, mkF, argsToLocals, Value.category]; done) | rfl
def Q2 (Z : State)  (h0 : Heap) (n0 : Nat) (v : Option Value) (h : Heap) (L : List Loc) : Prop := v = some (.int (9 : Int32)) ∧ Fr n0 L ∧ h = h0
set_option maxRecDepth 65536 in
set_option maxHeartbeats 40000000 in
theorem rm2 (l : Launch) (Z : State) (ar : Array Value) (hw : ∀ d ∈ tables_1, d.before ar Z = true) (ws : List Jvm.Cond)  (h0 : Heap) (n0 : Nat) (Z0 : n0 ≤ h0.size)  :
    MetFree l (⟨"java/lang/Math", "max", "(II)I"⟩ : MethodName) (head1 (Jvm.Cond.code (⟨"java/lang/Math", "max", "(II)I"⟩ : MethodName) jdk_29_method_65_code 2 (some .int) :: ws) ({ frames := 0, cells := 0, slots := 0, locals := 0 } : Room)) (fun a U => a = #[(.int (4 : Int32)), (.int (9 : Int32))] ∧ Z.Warmed39 U.vm ∧ U.heap = h0) (fun _ _ _ _ _ => True) (fun _ U o U' => ∃ v L, o = .returned v ∧ Q2 Z  h0 n0 v U'.heap L ∧ FrameEnd U o U' L ({ frames := 0, cells := 0, slots := 0, locals := 0 } : Room).cells ({ frames := 0, cells := 0, slots := 0, locals := 0 } : Room).slots) := by
  refine MetFree.of_bodySF (Jvm.Free.JP.mathPlain rfl (by decide +kernel)) hisR ?_
  intro p e s m args below meth c s₁ Bd hml0 hP hK
  obtain ⟨rfl, hZ, hh⟩ := hP
  have hx := Bd.exec
  have hby := Bd.bytes
  have hml : c.maxLocals = 2 := hml0
  have hown : s.vm.findClass "java/lang/Math" = some m.cls := findClass_of_methodNamed Bd.named
  have hnm := (name_of_methodNamed Bd.named Bd.method).1
  have X0 : Stand p l e ({ frames := 0, cells := 0, slots := 0, locals := 0 } : Room) s m #[(.int (4 : Int32)), (.int (9 : Int32))] below meth c s₁ [] 0 0 := Stand.of_body Bd
  have e0 : s₁.heap = h0 := by rw [← hh, Bd.state]; rfl
  have N0 := Fr.nil n0
  have pre0 : ∀ t, Steps p.tables e below (s₁.setTop (mkF m 0 #[.val (.int (4 : Int32)), .val (.int (9 : Int32))] [])) t → Steps p.tables e below (s₁.setTop (entryFrame m #[(.int (4 : Int32)), (.int (9 : Int32))] 2)) t := fun t k => castTop (ef_2 m ) k
  refine OGo.start pre0 ?_
  show OGo p.tables e below _ (s₁.setTop (mkF m 0 #[.val (.int (4 : Int32)), .val (.int (9 : Int32))] []))
  refine OGo.st (fun t k => XS.iloadN X0.here hx rfl (hb hby d2_0) rfl k) ?_
  show OGo p.tables e below _ (s₁.setTop (mkF m 1 #[.val (.int (4 : Int32)), .val (.int (9 : Int32))] [(.int (4 : Int32))]))
  refine OGo.st (fun t k => XS.iloadN X0.here hx rfl (hb hby d2_1) rfl k) ?_
  show OGo p.tables e below _ (s₁.setTop (mkF m 2 #[.val (.int (4 : Int32)), .val (.int (9 : Int32))] [(.int (9 : Int32)), (.int (4 : Int32))]))
  refine OGo.st (fun t k => XS.icmpYes X0.here hx rfl (pc0 := 2) (pc' := 9) rfl (hb hby d2_2) rfl (tlt (by decide : (4 : Int32) < (9 : Int32))).1 (by decide) (by decide) k) ?_
  show OGo p.tables e below _ (s₁.setTop (mkF m 9 #[.val (.int (4 : Int32)), .val (.int (9 : Int32))] []))
  refine OGo.st (fun t k => XS.iloadN X0.here hx rfl (hb hby d2_9) rfl k) ?_
  show OGo p.tables e below _ (s₁.setTop (mkF m 10 #[.val (.int (4 : Int32)), .val (.int (9 : Int32))] [(.int (9 : Int32))]))
  obtain ⟨fs, hr, hrun, hended, hW, hsame⟩ := X0.leave (v := some (.int (9 : Int32))) (fun h => by rw [Bd.returns] at h; cases h)
  refine OGo.done (retI X0 hx Bd.returns (hb hby d2_10) hr) ⟨hrun, hended, _, _, rfl, ?_, ⟨_, rfl⟩, hW, hsame.mono (by decide) (by decide)⟩
  show Q2 Z  h0 n0 _ s₁.heap _
  rw [e0]
  exact ⟨rfl, N0, rfl⟩
theorem pd_0 : parseMethodDescriptor "(I)I" = some ⟨[.int], some .int⟩ := by decide +kernel
theorem pd_1 : parseMethodDescriptor "(II)I" = some ⟨[.int, .int], some .int⟩ := by decide +kernel
theorem d3_0 : decode prog_18_method_1_code 0 = .ok (.aload_n 0, 1) := by decide +kernel
theorem d3_1 : decode prog_18_method_1_code 1 = .ok (.invokespecial 3, 3) := by decide +kernel
theorem d3_4 : decode prog_18_method_1_code 4 = .ok (.aload_n 0, 1) := by decide +kernel
theorem d3_5 : decode prog_18_method_1_code 5 = .ok (.iconst 0, 1) := by decide +kernel
theorem d3_6 : decode prog_18_method_1_code 6 = .ok (.newarray .int, 2) := by decide +kernel
theorem d3_8 : decode prog_18_method_1_code 8 = .ok (.putfield 9, 3) := by decide +kernel
theorem d3_11 : decode prog_18_method_1_code 11 = .ok (.aload_n 0, 1) := by decide +kernel
theorem d3_12 : decode prog_18_method_1_code 12 = .ok (.iconst 0, 1) := by decide +kernel
theorem d3_13 : decode prog_18_method_1_code 13 = .ok (.newarray .long, 2) := by decide +kernel
theorem d3_15 : decode prog_18_method_1_code 15 = .ok (.putfield 15, 3) := by decide +kernel
theorem d3_18 : decode prog_18_method_1_code 18 = .ok (.aload_n 0, 1) := by decide +kernel
theorem d3_19 : decode prog_18_method_1_code 19 = .ok (.iconst 0, 1) := by decide +kernel
theorem d3_20 : decode prog_18_method_1_code 20 = .ok (.newarray .int, 2) := by decide +kernel
theorem d3_22 : decode prog_18_method_1_code 22 = .ok (.putfield 19, 3) := by decide +kernel
theorem d3_25 : decode prog_18_method_1_code 25 = .ok (.bipush 32, 2) := by decide +kernel
theorem d3_27 : decode prog_18_method_1_code 27 = .ok (.iload_n 2, 1) := by decide +kernel
theorem d3_28 : decode prog_18_method_1_code 28 = .ok (.iconst 1, 1) := by decide +kernel
theorem d3_29 : decode prog_18_method_1_code 29 = .ok (.isub, 1) := by decide +kernel
theorem d3_30 : decode prog_18_method_1_code 30 = .ok (.invokestatic 22, 3) := by decide +kernel
theorem d3_33 : decode prog_18_method_1_code 33 = .ok (.isub, 1) := by decide +kernel
theorem d3_34 : decode prog_18_method_1_code 34 = .ok (.istore_n 3, 1) := by decide +kernel
theorem d3_35 : decode prog_18_method_1_code 35 = .ok (.aload_n 0, 1) := by decide +kernel
theorem d3_36 : decode prog_18_method_1_code 36 = .ok (.iconst 4, 1) := by decide +kernel
theorem d3_37 : decode prog_18_method_1_code 37 = .ok (.bipush 9, 2) := by decide +kernel
theorem d3_39 : decode prog_18_method_1_code 39 = .ok (.bipush 12, 2) := by decide +kernel
theorem d3_41 : decode prog_18_method_1_code 41 = .ok (.iload_n 3, 1) := by decide +kernel
theorem d3_42 : decode prog_18_method_1_code 42 = .ok (.isub, 1) := by decide +kernel
theorem d3_43 : decode prog_18_method_1_code 43 = .ok (.invokestatic 26, 3) := by decide +kernel
theorem d3_46 : decode prog_18_method_1_code 46 = .ok (.invokestatic 32, 3) := by decide +kernel
theorem d3_49 : decode prog_18_method_1_code 49 = .ok (.putfield 35, 3) := by decide +kernel
theorem d3_52 : decode prog_18_method_1_code 52 = .ok (.aload_n 0, 1) := by decide +kernel
theorem d3_53 : decode prog_18_method_1_code 53 = .ok (.iload_n 2, 1) := by decide +kernel
theorem d3_54 : decode prog_18_method_1_code 54 = .ok (.anewarray 39, 3) := by decide +kernel
theorem d3_57 : decode prog_18_method_1_code 57 = .ok (.putfield 41, 3) := by decide +kernel
theorem d3_60 : decode prog_18_method_1_code 60 = .ok (.iconst 0, 1) := by decide +kernel
theorem d3_61 : decode prog_18_method_1_code 61 = .ok (.istore 4, 2) := by decide +kernel
theorem d3_63 : decode prog_18_method_1_code 63 = .ok (.iload 4, 2) := by decide +kernel
theorem d3_65 : decode prog_18_method_1_code 65 = .ok (.iload_n 2, 1) := by decide +kernel
theorem d3_66 : decode prog_18_method_1_code 66 = .ok (.if_icmp .ge 52, 3) := by decide +kernel
theorem d3_69 : decode prog_18_method_1_code 69 = .ok (.iload 4, 2) := by decide +kernel
theorem d3_71 : decode prog_18_method_1_code 71 = .ok (.iload_n 1, 1) := by decide +kernel
theorem d3_72 : decode prog_18_method_1_code 72 = .ok (.if_icmp .eq 40, 3) := by decide +kernel
theorem d3_112 : decode prog_18_method_1_code 112 = .ok (.iinc 4 1, 3) := by decide +kernel
theorem d3_115 : decode prog_18_method_1_code 115 = .ok (.goto (-52), 3) := by decide +kernel
theorem d3_118 : decode prog_18_method_1_code 118 = .ok (.return_, 1) := by decide +kernel
theorem pn_1 : plainName "com/example/pathsieve/pathsieve/engine/Outbox" = true := by first | (simp [plainName, overriddenIn]; done) | decide +kernel
theorem ef_3 (m : MethodId) (x0 : Addr) : entryFrame m #[(.ref x0), (.int (0 : Int32)), (.int (1 : Int32))] 5 = mkF m 0 #[.val (.ref x0), .val (.int (0 : Int32)), .val (.int (1 : Int32)), .unset, .unset] [] := by first | (simp [entryFrame, mkF, argsToLocals, Value.category]; done) | rfl
def Q3 (Z : State) (a0 : Addr) (h0 : Heap) (n0 : Nat) (v : Option Value) (h : Heap) (L : List Loc) : Prop := ∃ nb : Addr, v = none ∧ Fr n0 L ∧ Keep h0 h [a0] ∧ (Fld Z h a0 "com/example/pathsieve/pathsieve/engine/Outbox" "nextBlocks" "[I" (.ref nb)) ∧ (Fld Z h a0 "com/example/pathsieve/pathsieve/engine/Outbox" "blockBits" "I" (.int (9 : Int32))) ∧ (Fld Z h a0 "com/example/pathsieve/pathsieve/engine/Outbox" "taken" "I" (.int (0 : Int32)))
set_option maxRecDepth 65536 in
set_option maxHeartbeats 40000000 in
theorem rm3 (l : Launch) (Z : State) (ar : Array Value) (hw : ∀ d ∈ tables_1, d.before ar Z = true) (ws : List Jvm.Cond) (a0 : Addr) (h0 : Heap) (n0 : Nat) (Z0 : n0 ≤ h0.size) (E0 : Exa Z h0 a0 "com/example/pathsieve/pathsieve/engine/Outbox") (g0 : n0 ≤ a0) (F_heads : Fld Z h0 a0 "com/example/pathsieve/pathsieve/engine/Outbox" "heads" "[I" .null) (F_distances : Fld Z h0 a0 "com/example/pathsieve/pathsieve/engine/Outbox" "distances" "[J" .null) (F_nextBlocks : Fld Z h0 a0 "com/example/pathsieve/pathsieve/engine/Outbox" "nextBlocks" "[I" .null) (F_blockBits : Fld Z h0 a0 "com/example/pathsieve/pathsieve/engine/Outbox" "blockBits" "I" (.int (0 : Int32))) (F_to : Fld Z h0 a0 "com/example/pathsieve/pathsieve/engine/Outbox" "to" "[Lcom/example/pathsieve/pathsieve/engine/Messages;" .null) (F_taken : Fld Z h0 a0 "com/example/pathsieve/pathsieve/engine/Outbox" "taken" "I" (.int (0 : Int32))) :
    MetFree l (⟨"com/example/pathsieve/pathsieve/engine/Outbox", "<init>", "(II)V"⟩ : MethodName) (head1 (Jvm.Cond.code (⟨"com/example/pathsieve/pathsieve/engine/Outbox", "<init>", "(II)V"⟩ : MethodName) prog_18_method_1_code 5 none :: ws) ({ frames := 1, cells := 4, slots := 1, locals := 15 } : Room)) (fun a U => a = #[(.ref a0), (.int (0 : Int32)), (.int (1 : Int32))] ∧ Z.Warmed39 U.vm ∧ U.heap = h0) (fun _ _ _ _ _ => True) (fun _ U o U' => ∃ v L, o = .returned v ∧ Q3 Z a0 h0 n0 v U'.heap L ∧ FrameEnd U o U' L ({ frames := 1, cells := 4, slots := 1, locals := 15 } : Room).cells ({ frames := 1, cells := 4, slots := 1, locals := 15 } : Room).slots) := by
  refine MetFree.of_bodySF (plainFor_of_name pn_1) hisR ?_
  intro p e s m args below meth c s₁ Bd hml0 hP hK
  obtain ⟨rfl, hZ, hh⟩ := hP
  have hx := Bd.exec
  have hby := Bd.bytes
  have hml : c.maxLocals = 5 := hml0
  have hown : s.vm.findClass "com/example/pathsieve/pathsieve/engine/Outbox" = some m.cls := findClass_of_methodNamed Bd.named
  have hnm := (name_of_methodNamed Bd.named Bd.method).1
  have X0 : Stand p l e ({ frames := 1, cells := 4, slots := 1, locals := 15 } : Room) s m #[(.ref a0), (.int (0 : Int32)), (.int (1 : Int32))] below meth c s₁ [] 0 0 := Stand.of_body Bd
  have e0 : s₁.heap = h0 := by rw [← hh, Bd.state]; rfl
  have N0 := Fr.nil n0
  have pre0 : ∀ t, Steps p.tables e below (s₁.setTop (mkF m 0 #[.val (.ref a0), .val (.int (0 : Int32)), .val (.int (1 : Int32)), .unset, .unset] [])) t → Steps p.tables e below (s₁.setTop (entryFrame m #[(.ref a0), (.int (0 : Int32)), (.int (1 : Int32))] 5)) t := fun t k => castTop (ef_3 m a0) k
  refine OGo.start pre0 ?_
  show OGo p.tables e below _ (s₁.setTop (mkF m 0 #[.val (.ref a0), .val (.int (0 : Int32)), .val (.int (1 : Int32)), .unset, .unset] []))
  refine OGo.st (fun t k => XS.aloadN X0.here hx rfl (hb hby d3_0) rfl rfl k) ?_
  show OGo p.tables e below _ (s₁.setTop (mkF m 1 #[.val (.ref a0), .val (.int (0 : Int32)), .val (.int (1 : Int32)), .unset, .unset] [(.ref a0)]))
  obtain ⟨T101, X101, e101, st101⟩ := initO X0 hx hZ hown (hw _ (List.mem_of_getElem? (i := 6) rfl)) (hw _ (List.mem_of_getElem? (i := 7) rfl)) (hw _ (List.mem_of_getElem? (i := 8) rfl)) e0 (g := (mkF m 1 #[.val (.ref a0), .val (.int (0 : Int32)), .val (.int (1 : Int32)), .unset, .unset] [(.ref a0)])) rfl (by rw [hml]; rfl) rfl (hb hby d3_1) (by decide) (W := 0) (by show 2 * 0 + _ ≤ _; exact Nat.le_of_eq rfl) (by decide)
  refine OGo.st st101 ?_
  show OGo p.tables e below _ (T101.setTop (mkF m 4 #[.val (.ref a0), .val (.int (0 : Int32)), .val (.int (1 : Int32)), .unset, .unset] []))
  refine OGo.st (fun t k => XS.aloadN X101.here hx rfl (hb hby d3_4) rfl rfl k) ?_
  show OGo p.tables e below _ (T101.setTop (mkF m 5 #[.val (.ref a0), .val (.int (0 : Int32)), .val (.int (1 : Int32)), .unset, .unset] [(.ref a0)]))
  refine OGo.st (fun t k => XS.iconst X101.here hx rfl (hb hby d3_5) k) ?_
  show OGo p.tables e below _ (T101.setTop (mkF m 6 #[.val (.ref a0), .val (.int (0 : Int32)), .val (.int (1 : Int32)), .unset, .unset] [(.int (0 : Int32)), (.ref a0)]))
  obtain ⟨T102, h102, k102, X102, e102, E102, A102, st102⟩ := newP X101 hx hZ (hw _ (List.mem_of_getElem? (i := 9) rfl)) e101 (g := (mkF m 6 #[.val (.ref a0), .val (.int (0 : Int32)), .val (.int (1 : Int32)), .unset, .unset] [(.int (0 : Int32)), (.ref a0)])) rfl (hb hby d3_6) rfl (by decide) (cap := 0) (by decide) (by decide) (by decide) (by decide)
  obtain ⟨b102, g102⟩ : ∃ z, z = h0.size := ⟨_, rfl⟩
  rw [← g102] at A102 st102
  have ge_b102 : n0 ≤ b102 := Nat.le_trans Z0 (Nat.le_of_eq g102.symm)
  have sz_b102 : h0.size ≤ b102 := Nat.le_trans (Nat.le_refl h0.size) (Nat.le_of_eq g102.symm)
  have ne_a0_b102 : a0 ≠ b102 := Nat.ne_of_lt (Nat.lt_of_lt_of_le E0.lt (Nat.le_of_eq g102.symm))
  have V102 : Arv Z h102 b102 k102 .int (0 : Int32) [] (.int (0 : Int32)) := Arv.new A102 (by decide)
  refine OGo.st st102 ?_
  show OGo p.tables e below _ (T102.setTop (mkF m 8 #[.val (.ref a0), .val (.int (0 : Int32)), .val (.int (1 : Int32)), .unset, .unset] [(.ref b102), (.ref a0)]))
  have G103 : Exa Z h102 a0 "com/example/pathsieve/pathsieve/engine/Outbox" := (Exa.ext E102 E0)
  have G104 : Fld Z h102 a0 "com/example/pathsieve/pathsieve/engine/Outbox" "heads" "[I" .null := (Fld.ext E102 F_heads)
  obtain ⟨T105, h105, X105, e105, W105, st105⟩ := putF X102 hx hZ hown (host := "") (Or.inl (hw _ (List.mem_of_getElem? (i := 10) rfl))) Via.refl e102 G104 G103 (Or.inl (hw _ (List.mem_of_getElem? (i := 11) rfl))) (hw _ (List.mem_of_getElem? (i := 1) rfl)) (ty := (.array .int)) (by decide) rfl rfl (g := (mkF m 8 #[.val (.ref a0), .val (.int (0 : Int32)), .val (.int (1 : Int32)), .unset, .unset] [(.ref b102), (.ref a0)])) rfl rfl (hb hby d3_8)
  refine OGo.st st105 ?_
  have Fw105 : Fld Z h105 a0 "com/example/pathsieve/pathsieve/engine/Outbox" "heads" "[I" (.ref b102) := Fld.same W105 G104
  have N105 := Fr.snoc X105 N0 g0
  show OGo p.tables e below _ (T105.setTop (mkF m 11 #[.val (.ref a0), .val (.int (0 : Int32)), .val (.int (1 : Int32)), .unset, .unset] []))
  refine OGo.st (fun t k => XS.aloadN X105.here hx rfl (hb hby d3_11) rfl rfl k) ?_
  show OGo p.tables e below _ (T105.setTop (mkF m 12 #[.val (.ref a0), .val (.int (0 : Int32)), .val (.int (1 : Int32)), .unset, .unset] [(.ref a0)]))
  refine OGo.st (fun t k => XS.iconst X105.here hx rfl (hb hby d3_12) k) ?_
  show OGo p.tables e below _ (T105.setTop (mkF m 13 #[.val (.ref a0), .val (.int (0 : Int32)), .val (.int (1 : Int32)), .unset, .unset] [(.int (0 : Int32)), (.ref a0)]))
  have G106 : Exa Z h105 a0 "com/example/pathsieve/pathsieve/engine/Outbox" := (Exa.wr W105 G103)
  have G107 : Arv Z h105 b102 k102 .int (0 : Int32) [] (.int (0 : Int32)) := (V102.other W105 (Ne.symm ne_a0_b102))
  obtain ⟨T108, h108, k108, X108, e108, E108, A108, st108⟩ := newP X105 hx hZ (hw _ (List.mem_of_getElem? (i := 12) rfl)) e105 (g := (mkF m 13 #[.val (.ref a0), .val (.int (0 : Int32)), .val (.int (1 : Int32)), .unset, .unset] [(.int (0 : Int32)), (.ref a0)])) rfl (hb hby d3_13) rfl (by decide) (cap := 0) (by decide) (by decide) (by decide) (by decide)
  obtain ⟨b108, g108⟩ : ∃ z, z = h105.size := ⟨_, rfl⟩
  rw [← g108] at A108 st108
  have ge_b108 : n0 ≤ b108 := Nat.le_trans (Nat.le_trans (Nat.le_trans Z0 E102.1) (Keep.of_wr W105).1) (Nat.le_of_eq g108.symm)
  have sz_b108 : h0.size ≤ b108 := Nat.le_trans (Nat.le_trans (Nat.le_trans (Nat.le_refl h0.size) E102.1) (Keep.of_wr W105).1) (Nat.le_of_eq g108.symm)
  have ne_a0_b108 : a0 ≠ b108 := Nat.ne_of_lt (Nat.lt_of_lt_of_le G106.lt (Nat.le_of_eq g108.symm))
  have ne_b102_b108 : b102 ≠ b108 := Nat.ne_of_lt (Nat.lt_of_lt_of_le G107.lt (Nat.le_of_eq g108.symm))
  have V108 : Arv Z h108 b108 k108 .long (0 : Int32) [] (.long (0 : Int64)) := Arv.new A108 (by decide)
  refine OGo.st st108 ?_
  show OGo p.tables e below _ (T108.setTop (mkF m 15 #[.val (.ref a0), .val (.int (0 : Int32)), .val (.int (1 : Int32)), .unset, .unset] [(.ref b108), (.ref a0)]))
  have G109 : Exa Z h108 a0 "com/example/pathsieve/pathsieve/engine/Outbox" := (Exa.ext E108 G106)
  have G110 : Fld Z h108 a0 "com/example/pathsieve/pathsieve/engine/Outbox" "distances" "[J" .null := (Fld.ext E108 (Fld.other W105 (Fld.ext E102 F_distances) (Or.inr (slot_ne (Or.inl (hw _ (List.mem_of_getElem? (i := 14) rfl))) (Or.inl (hw _ (List.mem_of_getElem? (i := 11) rfl))) (by decide) (t := (.array .long)) (t' := (.array .int)) (by decide) (by decide)))))
  obtain ⟨T111, h111, X111, e111, W111, st111⟩ := putF X108 hx hZ hown (host := "") (Or.inl (hw _ (List.mem_of_getElem? (i := 13) rfl))) Via.refl e108 G110 G109 (Or.inl (hw _ (List.mem_of_getElem? (i := 14) rfl))) (hw _ (List.mem_of_getElem? (i := 1) rfl)) (ty := (.array .long)) (by decide) rfl rfl (g := (mkF m 15 #[.val (.ref a0), .val (.int (0 : Int32)), .val (.int (1 : Int32)), .unset, .unset] [(.ref b108), (.ref a0)])) rfl rfl (hb hby d3_15)
  refine OGo.st st111 ?_
  have Fw111 : Fld Z h111 a0 "com/example/pathsieve/pathsieve/engine/Outbox" "distances" "[J" (.ref b108) := Fld.same W111 G110
  have N111 := Fr.snoc X111 N105 g0
  show OGo p.tables e below _ (T111.setTop (mkF m 18 #[.val (.ref a0), .val (.int (0 : Int32)), .val (.int (1 : Int32)), .unset, .unset] []))
  refine OGo.st (fun t k => XS.aloadN X111.here hx rfl (hb hby d3_18) rfl rfl k) ?_
  show OGo p.tables e below _ (T111.setTop (mkF m 19 #[.val (.ref a0), .val (.int (0 : Int32)), .val (.int (1 : Int32)), .unset, .unset] [(.ref a0)]))
  refine OGo.st (fun t k => XS.iconst X111.here hx rfl (hb hby d3_19) k) ?_
  show OGo p.tables e below _ (T111.setTop (mkF m 20 #[.val (.ref a0), .val (.int (0 : Int32)), .val (.int (1 : Int32)), .unset, .unset] [(.int (0 : Int32)), (.ref a0)]))
  have G112 : Exa Z h111 a0 "com/example/pathsieve/pathsieve/engine/Outbox" := (Exa.wr W111 G109)
  have G113 : Arv Z h111 b102 k102 .int (0 : Int32) [] (.int (0 : Int32)) := ((G107.ext E108).other W111 (Ne.symm ne_a0_b102))
  have G114 : Arv Z h111 b108 k108 .long (0 : Int32) [] (.long (0 : Int64)) := (V108.other W111 (Ne.symm ne_a0_b108))
  obtain ⟨T115, h115, k115, X115, e115, E115, A115, st115⟩ := newP X111 hx hZ (hw _ (List.mem_of_getElem? (i := 9) rfl)) e111 (g := (mkF m 20 #[.val (.ref a0), .val (.int (0 : Int32)), .val (.int (1 : Int32)), .unset, .unset] [(.int (0 : Int32)), (.ref a0)])) rfl (hb hby d3_20) rfl (by decide) (cap := 0) (by decide) (by decide) (by decide) (by decide)
  obtain ⟨b115, g115⟩ : ∃ z, z = h111.size := ⟨_, rfl⟩
  rw [← g115] at A115 st115
  have ge_b115 : n0 ≤ b115 := Nat.le_trans (Nat.le_trans (Nat.le_trans (Nat.le_trans (Nat.le_trans Z0 E102.1) (Keep.of_wr W105).1) E108.1) (Keep.of_wr W111).1) (Nat.le_of_eq g115.symm)
  have sz_b115 : h0.size ≤ b115 := Nat.le_trans (Nat.le_trans (Nat.le_trans (Nat.le_trans (Nat.le_trans (Nat.le_refl h0.size) E102.1) (Keep.of_wr W105).1) E108.1) (Keep.of_wr W111).1) (Nat.le_of_eq g115.symm)
  have ne_a0_b115 : a0 ≠ b115 := Nat.ne_of_lt (Nat.lt_of_lt_of_le G112.lt (Nat.le_of_eq g115.symm))
  have ne_b102_b115 : b102 ≠ b115 := Nat.ne_of_lt (Nat.lt_of_lt_of_le G113.lt (Nat.le_of_eq g115.symm))
  have ne_b108_b115 : b108 ≠ b115 := Nat.ne_of_lt (Nat.lt_of_lt_of_le G114.lt (Nat.le_of_eq g115.symm))
  have V115 : Arv Z h115 b115 k115 .int (0 : Int32) [] (.int (0 : Int32)) := Arv.new A115 (by decide)
  refine OGo.st st115 ?_
  show OGo p.tables e below _ (T115.setTop (mkF m 22 #[.val (.ref a0), .val (.int (0 : Int32)), .val (.int (1 : Int32)), .unset, .unset] [(.ref b115), (.ref a0)]))
  have G116 : Exa Z h115 a0 "com/example/pathsieve/pathsieve/engine/Outbox" := (Exa.ext E115 G112)
  have G117 : Fld Z h115 a0 "com/example/pathsieve/pathsieve/engine/Outbox" "nextBlocks" "[I" .null := (Fld.ext E115 (Fld.other W111 (Fld.ext E108 (Fld.other W105 (Fld.ext E102 F_nextBlocks) (Or.inr (slot_ne (Or.inl (hw _ (List.mem_of_getElem? (i := 16) rfl))) (Or.inl (hw _ (List.mem_of_getElem? (i := 11) rfl))) (by decide) (t := (.array .int)) (t' := (.array .int)) (by decide) (by decide))))) (Or.inr (slot_ne (Or.inl (hw _ (List.mem_of_getElem? (i := 16) rfl))) (Or.inl (hw _ (List.mem_of_getElem? (i := 14) rfl))) (by decide) (t := (.array .int)) (t' := (.array .long)) (by decide) (by decide)))))
  obtain ⟨T118, h118, X118, e118, W118, st118⟩ := putF X115 hx hZ hown (host := "") (Or.inl (hw _ (List.mem_of_getElem? (i := 15) rfl))) Via.refl e115 G117 G116 (Or.inl (hw _ (List.mem_of_getElem? (i := 16) rfl))) (hw _ (List.mem_of_getElem? (i := 1) rfl)) (ty := (.array .int)) (by decide) rfl rfl (g := (mkF m 22 #[.val (.ref a0), .val (.int (0 : Int32)), .val (.int (1 : Int32)), .unset, .unset] [(.ref b115), (.ref a0)])) rfl rfl (hb hby d3_22)
  refine OGo.st st118 ?_
  have Fw118 : Fld Z h118 a0 "com/example/pathsieve/pathsieve/engine/Outbox" "nextBlocks" "[I" (.ref b115) := Fld.same W118 G117
  have N118 := Fr.snoc X118 N111 g0
  show OGo p.tables e below _ (T118.setTop (mkF m 25 #[.val (.ref a0), .val (.int (0 : Int32)), .val (.int (1 : Int32)), .unset, .unset] []))
  refine OGo.st (fun t k => XS.bipush X118.here hx rfl (hb hby d3_25) k) ?_
  show OGo p.tables e below _ (T118.setTop (mkF m 27 #[.val (.ref a0), .val (.int (0 : Int32)), .val (.int (1 : Int32)), .unset, .unset] [(.int (32 : Int32))]))
  refine OGo.st (fun t k => XS.iloadN X118.here hx rfl (hb hby d3_27) rfl k) ?_
  show OGo p.tables e below _ (T118.setTop (mkF m 28 #[.val (.ref a0), .val (.int (0 : Int32)), .val (.int (1 : Int32)), .unset, .unset] [(.int (1 : Int32)), (.int (32 : Int32))]))
  refine OGo.st (fun t k => XS.iconst X118.here hx rfl (hb hby d3_28) k) ?_
  show OGo p.tables e below _ (T118.setTop (mkF m 29 #[.val (.ref a0), .val (.int (0 : Int32)), .val (.int (1 : Int32)), .unset, .unset] [(.int (1 : Int32)), (.int (1 : Int32)), (.int (32 : Int32))]))
  refine OGo.st (fun t k => XS.isub X118.here hx rfl (hb hby d3_29) rfl k) ?_
  show OGo p.tables e below _ (T118.setTop (mkF m 30 #[.val (.ref a0), .val (.int (0 : Int32)), .val (.int (1 : Int32)), .unset, .unset] [(.int (0 : Int32)), (.int (32 : Int32))]))
  obtain ⟨_, _, ⟨T119, L119, kk119, nn119⟩, -, X119, ⟨Lc119, hQ119, l119, y119, z119⟩, st119⟩ := Jvm.LawKit.callS X118 hx (y := (⟨"java/lang/Integer", "numberOfLeadingZeros", "(I)I"⟩ : MethodName)) hown (mvT hZ (hw _ (List.mem_of_getElem? (i := 17) rfl))) (mvT hZ (hw _ (List.mem_of_getElem? (i := 18) rfl))) (mvT hZ (hw _ (List.mem_of_getElem? (i := 19) rfl))) (mvT hZ (hw _ (List.mem_of_getElem? (i := 20) rfl))) (by decide) (backOf (W := 1) (rm0 l Z ar hw []  h118 n0 (Nat.le_trans (Nat.le_trans (Nat.le_trans (Nat.le_trans (Nat.le_trans (Nat.le_trans Z0 E102.1) (Keep.of_wr W105).1) E108.1) (Keep.of_wr W111).1) E115.1) (Keep.of_wr W118).1) ) hZ (hw _ (List.mem_of_getElem? (i := 20) rfl)) (hw _ (List.mem_of_getElem? (i := 19) rfl)) (by decide) (by decide)) (g := (mkF m 30 #[.val (.ref a0), .val (.int (0 : Int32)), .val (.int (1 : Int32)), .unset, .unset] [(.int (0 : Int32)), (.int (32 : Int32))])) rfl (by rw [hml]; rfl) (argsL := [(.int (0 : Int32))]) (rest := [(.int (32 : Int32))]) (lenOf pd_0 rfl) rfl (by show 2 * 0 + _ ≤ _; exact Nat.le_of_eq rfl) (hb hby d3_30) (fun _ _ => ⟨rfl, e118, (by decide : 3 + 0 ≤ _), (by decide : 0 + 0 ≤ _)⟩)
  dsimp only [Pt.U, Pt.locs, Pt.cells, Pt.slots] at X119 l119 y119 z119 st119 hQ119
  subst l119 y119 z119
  obtain ⟨rfl, Nq119, hh119⟩ := hQ119
  have N119 := Fr.app N118 Nq119
  refine OGo.st st119 ?_
  have e119 : T119.heap = h118 := hh119
  show OGo p.tables e below _ (T119.setTop (mkF m 33 #[.val (.ref a0), .val (.int (0 : Int32)), .val (.int (1 : Int32)), .unset, .unset] [(.int (32 : Int32)), (.int (32 : Int32))]))
  refine OGo.st (fun t k => XS.isub X119.here hx rfl (hb hby d3_33) rfl k) ?_
  show OGo p.tables e below _ (T119.setTop (mkF m 34 #[.val (.ref a0), .val (.int (0 : Int32)), .val (.int (1 : Int32)), .unset, .unset] [(.int (0 : Int32))]))
  refine OGo.st (fun t k => XS.istoreN X119.here hx rfl (hb hby d3_34) rfl (l' := #[.val (.ref a0), .val (.int (0 : Int32)), .val (.int (1 : Int32)), .val (.int (0 : Int32)), .unset]) rfl k) ?_
  show OGo p.tables e below _ (T119.setTop (mkF m 35 #[.val (.ref a0), .val (.int (0 : Int32)), .val (.int (1 : Int32)), .val (.int (0 : Int32)), .unset] []))
  refine OGo.st (fun t k => XS.aloadN X119.here hx rfl (hb hby d3_35) rfl rfl k) ?_
  show OGo p.tables e below _ (T119.setTop (mkF m 36 #[.val (.ref a0), .val (.int (0 : Int32)), .val (.int (1 : Int32)), .val (.int (0 : Int32)), .unset] [(.ref a0)]))
  refine OGo.st (fun t k => XS.iconst X119.here hx rfl (hb hby d3_36) k) ?_
  show OGo p.tables e below _ (T119.setTop (mkF m 37 #[.val (.ref a0), .val (.int (0 : Int32)), .val (.int (1 : Int32)), .val (.int (0 : Int32)), .unset] [(.int (4 : Int32)), (.ref a0)]))
  refine OGo.st (fun t k => XS.bipush X119.here hx rfl (hb hby d3_37) k) ?_
  show OGo p.tables e below _ (T119.setTop (mkF m 39 #[.val (.ref a0), .val (.int (0 : Int32)), .val (.int (1 : Int32)), .val (.int (0 : Int32)), .unset] [(.int (9 : Int32)), (.int (4 : Int32)), (.ref a0)]))
  refine OGo.st (fun t k => XS.bipush X119.here hx rfl (hb hby d3_39) k) ?_
  show OGo p.tables e below _ (T119.setTop (mkF m 41 #[.val (.ref a0), .val (.int (0 : Int32)), .val (.int (1 : Int32)), .val (.int (0 : Int32)), .unset] [(.int (12 : Int32)), (.int (9 : Int32)), (.int (4 : Int32)), (.ref a0)]))
  refine OGo.st (fun t k => XS.iloadN X119.here hx rfl (hb hby d3_41) rfl k) ?_
  show OGo p.tables e below _ (T119.setTop (mkF m 42 #[.val (.ref a0), .val (.int (0 : Int32)), .val (.int (1 : Int32)), .val (.int (0 : Int32)), .unset] [(.int (0 : Int32)), (.int (12 : Int32)), (.int (9 : Int32)), (.int (4 : Int32)), (.ref a0)]))
  refine OGo.st (fun t k => XS.isub X119.here hx rfl (hb hby d3_42) rfl k) ?_
  show OGo p.tables e below _ (T119.setTop (mkF m 43 #[.val (.ref a0), .val (.int (0 : Int32)), .val (.int (1 : Int32)), .val (.int (0 : Int32)), .unset] [(.int (12 : Int32)), (.int (9 : Int32)), (.int (4 : Int32)), (.ref a0)]))
  obtain ⟨_, _, ⟨T120, L120, kk120, nn120⟩, -, X120, ⟨Lc120, hQ120, l120, y120, z120⟩, st120⟩ := Jvm.LawKit.callS X119 hx (y := (⟨"java/lang/Math", "min", "(II)I"⟩ : MethodName)) hown (mvT hZ (hw _ (List.mem_of_getElem? (i := 21) rfl))) (mvT hZ (hw _ (List.mem_of_getElem? (i := 22) rfl))) (mvT hZ (hw _ (List.mem_of_getElem? (i := 23) rfl))) (mvT hZ (hw _ (List.mem_of_getElem? (i := 24) rfl))) (by decide) (backOf (W := 2) (rm1 l Z ar hw []  h118 n0 (Nat.le_trans (Nat.le_trans (Nat.le_trans (Nat.le_trans (Nat.le_trans (Nat.le_trans Z0 E102.1) (Keep.of_wr W105).1) E108.1) (Keep.of_wr W111).1) E115.1) (Keep.of_wr W118).1) ) hZ (hw _ (List.mem_of_getElem? (i := 24) rfl)) (hw _ (List.mem_of_getElem? (i := 23) rfl)) (by decide) (by decide)) (g := (mkF m 43 #[.val (.ref a0), .val (.int (0 : Int32)), .val (.int (1 : Int32)), .val (.int (0 : Int32)), .unset] [(.int (12 : Int32)), (.int (9 : Int32)), (.int (4 : Int32)), (.ref a0)])) rfl (by rw [hml]; rfl) (argsL := [(.int (9 : Int32)), (.int (12 : Int32))]) (rest := [(.int (4 : Int32)), (.ref a0)]) (lenOf pd_1 rfl) rfl (by show 2 * 0 + _ ≤ _; exact Nat.le_of_eq rfl) (hb hby d3_43) (fun _ _ => ⟨rfl, e119, (by decide : 3 + 0 ≤ _), (by decide : 0 + 0 ≤ _)⟩)
  dsimp only [Pt.U, Pt.locs, Pt.cells, Pt.slots] at X120 l120 y120 z120 st120 hQ120
  subst l120 y120 z120
  obtain ⟨rfl, Nq120, hh120⟩ := hQ120
  have N120 := Fr.app N119 Nq120
  refine OGo.st st120 ?_
  have e120 : T120.heap = h118 := hh120
  show OGo p.tables e below _ (T120.setTop (mkF m 46 #[.val (.ref a0), .val (.int (0 : Int32)), .val (.int (1 : Int32)), .val (.int (0 : Int32)), .unset] [(.int (9 : Int32)), (.int (4 : Int32)), (.ref a0)]))
  obtain ⟨_, _, ⟨T121, L121, kk121, nn121⟩, -, X121, ⟨Lc121, hQ121, l121, y121, z121⟩, st121⟩ := Jvm.LawKit.callS X120 hx (y := (⟨"java/lang/Math", "max", "(II)I"⟩ : MethodName)) hown (mvT hZ (hw _ (List.mem_of_getElem? (i := 25) rfl))) (mvT hZ (hw _ (List.mem_of_getElem? (i := 26) rfl))) (mvT hZ (hw _ (List.mem_of_getElem? (i := 23) rfl))) (mvT hZ (hw _ (List.mem_of_getElem? (i := 27) rfl))) (by decide) (backOf (W := 1) (rm2 l Z ar hw []  h118 n0 (Nat.le_trans (Nat.le_trans (Nat.le_trans (Nat.le_trans (Nat.le_trans (Nat.le_trans Z0 E102.1) (Keep.of_wr W105).1) E108.1) (Keep.of_wr W111).1) E115.1) (Keep.of_wr W118).1) ) hZ (hw _ (List.mem_of_getElem? (i := 27) rfl)) (hw _ (List.mem_of_getElem? (i := 23) rfl)) (by decide) (by decide)) (g := (mkF m 46 #[.val (.ref a0), .val (.int (0 : Int32)), .val (.int (1 : Int32)), .val (.int (0 : Int32)), .unset] [(.int (9 : Int32)), (.int (4 : Int32)), (.ref a0)])) rfl (by rw [hml]; rfl) (argsL := [(.int (4 : Int32)), (.int (9 : Int32))]) (rest := [(.ref a0)]) (lenOf pd_1 rfl) rfl (by show 2 * 0 + _ ≤ _; exact Nat.le_of_eq rfl) (hb hby d3_46) (fun _ _ => ⟨rfl, e120, (by decide : 3 + 0 ≤ _), (by decide : 0 + 0 ≤ _)⟩)
  dsimp only [Pt.U, Pt.locs, Pt.cells, Pt.slots] at X121 l121 y121 z121 st121 hQ121
  subst l121 y121 z121
  obtain ⟨rfl, Nq121, hh121⟩ := hQ121
  have N121 := Fr.app N120 Nq121
  refine OGo.st st121 ?_
  have e121 : T121.heap = h118 := hh121
  show OGo p.tables e below _ (T121.setTop (mkF m 49 #[.val (.ref a0), .val (.int (0 : Int32)), .val (.int (1 : Int32)), .val (.int (0 : Int32)), .unset] [(.int (9 : Int32)), (.ref a0)]))
  have G122 : Exa Z h118 a0 "com/example/pathsieve/pathsieve/engine/Outbox" := (Exa.wr W118 G116)
  have G123 : Fld Z h118 a0 "com/example/pathsieve/pathsieve/engine/Outbox" "blockBits" "I" (.int (0 : Int32)) := (Fld.other W118 (Fld.ext E115 (Fld.other W111 (Fld.ext E108 (Fld.other W105 (Fld.ext E102 F_blockBits) (Or.inr (slot_ne (Or.inr (hw _ (List.mem_of_getElem? (i := 29) rfl))) (Or.inl (hw _ (List.mem_of_getElem? (i := 11) rfl))) (by decide) (t := .int) (t' := (.array .int)) (by decide) (by decide))))) (Or.inr (slot_ne (Or.inr (hw _ (List.mem_of_getElem? (i := 29) rfl))) (Or.inl (hw _ (List.mem_of_getElem? (i := 14) rfl))) (by decide) (t := .int) (t' := (.array .long)) (by decide) (by decide))))) (Or.inr (slot_ne (Or.inr (hw _ (List.mem_of_getElem? (i := 29) rfl))) (Or.inl (hw _ (List.mem_of_getElem? (i := 16) rfl))) (by decide) (t := .int) (t' := (.array .int)) (by decide) (by decide))))
  obtain ⟨T124, h124, X124, e124, W124, st124⟩ := putF X121 hx hZ hown (host := "") (Or.inl (hw _ (List.mem_of_getElem? (i := 28) rfl))) Via.refl e121 G123 G122 (Or.inr ⟨(hw _ (List.mem_of_getElem? (i := 29) rfl)), rfl, hnm⟩) (hw _ (List.mem_of_getElem? (i := 1) rfl)) (ty := .int) (by decide) rfl rfl (g := (mkF m 49 #[.val (.ref a0), .val (.int (0 : Int32)), .val (.int (1 : Int32)), .val (.int (0 : Int32)), .unset] [(.int (9 : Int32)), (.ref a0)])) rfl rfl (hb hby d3_49)
  refine OGo.st st124 ?_
  have Fw124 : Fld Z h124 a0 "com/example/pathsieve/pathsieve/engine/Outbox" "blockBits" "I" (.int (9 : Int32)) := Fld.same W124 G123
  have N124 := Fr.snoc X124 N121 g0
  show OGo p.tables e below _ (T124.setTop (mkF m 52 #[.val (.ref a0), .val (.int (0 : Int32)), .val (.int (1 : Int32)), .val (.int (0 : Int32)), .unset] []))
  refine OGo.st (fun t k => XS.aloadN X124.here hx rfl (hb hby d3_52) rfl rfl k) ?_
  show OGo p.tables e below _ (T124.setTop (mkF m 53 #[.val (.ref a0), .val (.int (0 : Int32)), .val (.int (1 : Int32)), .val (.int (0 : Int32)), .unset] [(.ref a0)]))
  refine OGo.st (fun t k => XS.iloadN X124.here hx rfl (hb hby d3_53) rfl k) ?_
  show OGo p.tables e below _ (T124.setTop (mkF m 54 #[.val (.ref a0), .val (.int (0 : Int32)), .val (.int (1 : Int32)), .val (.int (0 : Int32)), .unset] [(.int (1 : Int32)), (.ref a0)]))
  have G125 : Exa Z h124 a0 "com/example/pathsieve/pathsieve/engine/Outbox" := (Exa.wr W124 G122)
  have G126 : Arv Z h124 b102 k102 .int (0 : Int32) [] (.int (0 : Int32)) := (((G113.ext E115).other W118 (Ne.symm ne_a0_b102)).other W124 (Ne.symm ne_a0_b102))
  have G127 : Arv Z h124 b108 k108 .long (0 : Int32) [] (.long (0 : Int64)) := (((G114.ext E115).other W118 (Ne.symm ne_a0_b108)).other W124 (Ne.symm ne_a0_b108))
  have G128 : Arv Z h124 b115 k115 .int (0 : Int32) [] (.int (0 : Int32)) := ((V115.other W118 (Ne.symm ne_a0_b115)).other W124 (Ne.symm ne_a0_b115))
  obtain ⟨T129, h129, k129, X129, e129, E129, A129, O129, st129⟩ := newR X124 hx hZ hown (hw _ (List.mem_of_getElem? (i := 30) rfl)) (hw _ (List.mem_of_getElem? (i := 31) rfl)) e124 (g := (mkF m 54 #[.val (.ref a0), .val (.int (0 : Int32)), .val (.int (1 : Int32)), .val (.int (0 : Int32)), .unset] [(.int (1 : Int32)), (.ref a0)])) rfl (hb hby d3_54) rfl (by decide) (cap := 1) (by decide) (by decide) (by decide) (by decide)
  obtain ⟨b129, g129⟩ : ∃ z, z = h124.size := ⟨_, rfl⟩
  rw [← g129] at A129 st129
  have ge_b129 : n0 ≤ b129 := Nat.le_trans (Nat.le_trans (Nat.le_trans (Nat.le_trans (Nat.le_trans (Nat.le_trans (Nat.le_trans (Nat.le_trans Z0 E102.1) (Keep.of_wr W105).1) E108.1) (Keep.of_wr W111).1) E115.1) (Keep.of_wr W118).1) (Keep.of_wr W124).1) (Nat.le_of_eq g129.symm)
  have sz_b129 : h0.size ≤ b129 := Nat.le_trans (Nat.le_trans (Nat.le_trans (Nat.le_trans (Nat.le_trans (Nat.le_trans (Nat.le_trans (Nat.le_trans (Nat.le_refl h0.size) E102.1) (Keep.of_wr W105).1) E108.1) (Keep.of_wr W111).1) E115.1) (Keep.of_wr W118).1) (Keep.of_wr W124).1) (Nat.le_of_eq g129.symm)
  have ne_a0_b129 : a0 ≠ b129 := Nat.ne_of_lt (Nat.lt_of_lt_of_le G125.lt (Nat.le_of_eq g129.symm))
  have ne_b102_b129 : b102 ≠ b129 := Nat.ne_of_lt (Nat.lt_of_lt_of_le G126.lt (Nat.le_of_eq g129.symm))
  have ne_b108_b129 : b108 ≠ b129 := Nat.ne_of_lt (Nat.lt_of_lt_of_le G127.lt (Nat.le_of_eq g129.symm))
  have ne_b115_b129 : b115 ≠ b129 := Nat.ne_of_lt (Nat.lt_of_lt_of_le G128.lt (Nat.le_of_eq g129.symm))
  have V129 : Arv Z h129 b129 k129 (.object "com/example/pathsieve/pathsieve/engine/Messages") (1 : Int32) [] .null := Arv.new A129 (by decide)
  refine OGo.st st129 ?_
  show OGo p.tables e below _ (T129.setTop (mkF m 57 #[.val (.ref a0), .val (.int (0 : Int32)), .val (.int (1 : Int32)), .val (.int (0 : Int32)), .unset] [(.ref b129), (.ref a0)]))
  have G130 : Exa Z h129 a0 "com/example/pathsieve/pathsieve/engine/Outbox" := (Exa.ext E129 G125)
  have G131 : Fld Z h129 a0 "com/example/pathsieve/pathsieve/engine/Outbox" "to" "[Lcom/example/pathsieve/pathsieve/engine/Messages;" .null := (Fld.ext E129 (Fld.other W124 (Fld.other W118 (Fld.ext E115 (Fld.other W111 (Fld.ext E108 (Fld.other W105 (Fld.ext E102 F_to) (Or.inr (slot_ne (Or.inr (hw _ (List.mem_of_getElem? (i := 33) rfl))) (Or.inl (hw _ (List.mem_of_getElem? (i := 11) rfl))) (by decide) (t := (.array (.object "com/example/pathsieve/pathsieve/engine/Messages"))) (t' := (.array .int)) (by decide) (by decide))))) (Or.inr (slot_ne (Or.inr (hw _ (List.mem_of_getElem? (i := 33) rfl))) (Or.inl (hw _ (List.mem_of_getElem? (i := 14) rfl))) (by decide) (t := (.array (.object "com/example/pathsieve/pathsieve/engine/Messages"))) (t' := (.array .long)) (by decide) (by decide))))) (Or.inr (slot_ne (Or.inr (hw _ (List.mem_of_getElem? (i := 33) rfl))) (Or.inl (hw _ (List.mem_of_getElem? (i := 16) rfl))) (by decide) (t := (.array (.object "com/example/pathsieve/pathsieve/engine/Messages"))) (t' := (.array .int)) (by decide) (by decide)))) (Or.inr (slot_ne (Or.inr (hw _ (List.mem_of_getElem? (i := 33) rfl))) (Or.inr (hw _ (List.mem_of_getElem? (i := 29) rfl))) (by decide) (t := (.array (.object "com/example/pathsieve/pathsieve/engine/Messages"))) (t' := .int) (by decide) (by decide)))))
  obtain ⟨T132, h132, X132, e132, W132, st132⟩ := putF X129 hx hZ hown (host := "") (Or.inl (hw _ (List.mem_of_getElem? (i := 32) rfl))) Via.refl e129 G131 G130 (Or.inr ⟨(hw _ (List.mem_of_getElem? (i := 33) rfl)), rfl, hnm⟩) (hw _ (List.mem_of_getElem? (i := 1) rfl)) (ty := (.array (.object "com/example/pathsieve/pathsieve/engine/Messages"))) (by decide) rfl rfl (g := (mkF m 57 #[.val (.ref a0), .val (.int (0 : Int32)), .val (.int (1 : Int32)), .val (.int (0 : Int32)), .unset] [(.ref b129), (.ref a0)])) rfl rfl (hb hby d3_57)
  refine OGo.st st132 ?_
  have Fw132 : Fld Z h132 a0 "com/example/pathsieve/pathsieve/engine/Outbox" "to" "[Lcom/example/pathsieve/pathsieve/engine/Messages;" (.ref b129) := Fld.same W132 G131
  have N132 := Fr.snoc X132 N124 g0
  show OGo p.tables e below _ (T132.setTop (mkF m 60 #[.val (.ref a0), .val (.int (0 : Int32)), .val (.int (1 : Int32)), .val (.int (0 : Int32)), .unset] []))
  refine OGo.st (fun t k => XS.iconst X132.here hx rfl (hb hby d3_60) k) ?_
  show OGo p.tables e below _ (T132.setTop (mkF m 61 #[.val (.ref a0), .val (.int (0 : Int32)), .val (.int (1 : Int32)), .val (.int (0 : Int32)), .unset] [(.int (0 : Int32))]))
  refine OGo.st (fun t k => XS.istore X132.here hx rfl (hb hby d3_61) rfl (l' := #[.val (.ref a0), .val (.int (0 : Int32)), .val (.int (1 : Int32)), .val (.int (0 : Int32)), .val (.int (0 : Int32))]) rfl k) ?_
  show OGo p.tables e below _ (T132.setTop (mkF m 63 #[.val (.ref a0), .val (.int (0 : Int32)), .val (.int (1 : Int32)), .val (.int (0 : Int32)), .val (.int (0 : Int32))] []))
  refine OGo.st (fun t k => XS.iload X132.here hx rfl (hb hby d3_63) rfl k) ?_
  show OGo p.tables e below _ (T132.setTop (mkF m 65 #[.val (.ref a0), .val (.int (0 : Int32)), .val (.int (1 : Int32)), .val (.int (0 : Int32)), .val (.int (0 : Int32))] [(.int (0 : Int32))]))
  refine OGo.st (fun t k => XS.iloadN X132.here hx rfl (hb hby d3_65) rfl k) ?_
  show OGo p.tables e below _ (T132.setTop (mkF m 66 #[.val (.ref a0), .val (.int (0 : Int32)), .val (.int (1 : Int32)), .val (.int (0 : Int32)), .val (.int (0 : Int32))] [(.int (1 : Int32)), (.int (0 : Int32))]))
  refine OGo.st (fun t k => XS.icmpNo X132.here hx rfl (hb hby d3_66) rfl (tlt (by decide : (0 : Int32) < (1 : Int32))).2.1 k) ?_
  show OGo p.tables e below _ (T132.setTop (mkF m 69 #[.val (.ref a0), .val (.int (0 : Int32)), .val (.int (1 : Int32)), .val (.int (0 : Int32)), .val (.int (0 : Int32))] []))
  refine OGo.st (fun t k => XS.iload X132.here hx rfl (hb hby d3_69) rfl k) ?_
  show OGo p.tables e below _ (T132.setTop (mkF m 71 #[.val (.ref a0), .val (.int (0 : Int32)), .val (.int (1 : Int32)), .val (.int (0 : Int32)), .val (.int (0 : Int32))] [(.int (0 : Int32))]))
  refine OGo.st (fun t k => XS.iloadN X132.here hx rfl (hb hby d3_71) rfl k) ?_
  show OGo p.tables e below _ (T132.setTop (mkF m 72 #[.val (.ref a0), .val (.int (0 : Int32)), .val (.int (1 : Int32)), .val (.int (0 : Int32)), .val (.int (0 : Int32))] [(.int (0 : Int32)), (.int (0 : Int32))]))
  refine OGo.st (fun t k => XS.icmpYes X132.here hx rfl (pc0 := 72) (pc' := 112) rfl (hb hby d3_72) rfl (teq (by decide : (0 : Int32) = (0 : Int32))).1 (by decide) (by decide) k) ?_
  show OGo p.tables e below _ (T132.setTop (mkF m 112 #[.val (.ref a0), .val (.int (0 : Int32)), .val (.int (1 : Int32)), .val (.int (0 : Int32)), .val (.int (0 : Int32))] []))
  refine OGo.st (fun t k => XS.iinc X132.here hx rfl (hb hby d3_112) rfl (l' := #[.val (.ref a0), .val (.int (0 : Int32)), .val (.int (1 : Int32)), .val (.int (0 : Int32)), .val (.int (1 : Int32))]) rfl k) ?_
  show OGo p.tables e below _ (T132.setTop (mkF m 115 #[.val (.ref a0), .val (.int (0 : Int32)), .val (.int (1 : Int32)), .val (.int (0 : Int32)), .val (.int (1 : Int32))] []))
  refine OGo.st (fun t k => XS.goto X132.here hx rfl (pc0 := 115) (pc' := 63) rfl (hb hby d3_115) (by decide) (by decide) k) ?_
  show OGo p.tables e below _ (T132.setTop (mkF m 63 #[.val (.ref a0), .val (.int (0 : Int32)), .val (.int (1 : Int32)), .val (.int (0 : Int32)), .val (.int (1 : Int32))] []))
  refine OGo.st (fun t k => XS.iload X132.here hx rfl (hb hby d3_63) rfl k) ?_
  show OGo p.tables e below _ (T132.setTop (mkF m 65 #[.val (.ref a0), .val (.int (0 : Int32)), .val (.int (1 : Int32)), .val (.int (0 : Int32)), .val (.int (1 : Int32))] [(.int (1 : Int32))]))
  refine OGo.st (fun t k => XS.iloadN X132.here hx rfl (hb hby d3_65) rfl k) ?_
  show OGo p.tables e below _ (T132.setTop (mkF m 66 #[.val (.ref a0), .val (.int (0 : Int32)), .val (.int (1 : Int32)), .val (.int (0 : Int32)), .val (.int (1 : Int32))] [(.int (1 : Int32)), (.int (1 : Int32))]))
  refine OGo.st (fun t k => XS.icmpYes X132.here hx rfl (pc0 := 66) (pc' := 118) rfl (hb hby d3_66) rfl (flt (by decide : ¬ ((1 : Int32) < (1 : Int32)))).2.1 (by decide) (by decide) k) ?_
  show OGo p.tables e below _ (T132.setTop (mkF m 118 #[.val (.ref a0), .val (.int (0 : Int32)), .val (.int (1 : Int32)), .val (.int (0 : Int32)), .val (.int (1 : Int32))] []))
  obtain ⟨fs, hr, hrun, hended, hW, hsame⟩ := X132.leave (v := none) (fun _ => rfl)
  have G134 : Fld Z h132 a0 "com/example/pathsieve/pathsieve/engine/Outbox" "nextBlocks" "[I" (.ref b115) := (Fld.other W132 (Fld.ext E129 (Fld.other W124 Fw118 (Or.inr (slot_ne (Or.inl (hw _ (List.mem_of_getElem? (i := 16) rfl))) (Or.inr (hw _ (List.mem_of_getElem? (i := 29) rfl))) (by decide) (t := (.array .int)) (t' := .int) (by decide) (by decide))))) (Or.inr (slot_ne (Or.inl (hw _ (List.mem_of_getElem? (i := 16) rfl))) (Or.inr (hw _ (List.mem_of_getElem? (i := 33) rfl))) (by decide) (t := (.array .int)) (t' := (.array (.object "com/example/pathsieve/pathsieve/engine/Messages"))) (by decide) (by decide))))
  have G135 : Fld Z h132 a0 "com/example/pathsieve/pathsieve/engine/Outbox" "blockBits" "I" (.int (9 : Int32)) := (Fld.other W132 (Fld.ext E129 Fw124) (Or.inr (slot_ne (Or.inr (hw _ (List.mem_of_getElem? (i := 29) rfl))) (Or.inr (hw _ (List.mem_of_getElem? (i := 33) rfl))) (by decide) (t := .int) (t' := (.array (.object "com/example/pathsieve/pathsieve/engine/Messages"))) (by decide) (by decide))))
  have G136 : Fld Z h132 a0 "com/example/pathsieve/pathsieve/engine/Outbox" "taken" "I" (.int (0 : Int32)) := (Fld.other W132 (Fld.ext E129 (Fld.other W124 (Fld.other W118 (Fld.ext E115 (Fld.other W111 (Fld.ext E108 (Fld.other W105 (Fld.ext E102 F_taken) (Or.inr (slot_ne (Or.inl (hw _ (List.mem_of_getElem? (i := 36) rfl))) (Or.inl (hw _ (List.mem_of_getElem? (i := 11) rfl))) (by decide) (t := .int) (t' := (.array .int)) (by decide) (by decide))))) (Or.inr (slot_ne (Or.inl (hw _ (List.mem_of_getElem? (i := 36) rfl))) (Or.inl (hw _ (List.mem_of_getElem? (i := 14) rfl))) (by decide) (t := .int) (t' := (.array .long)) (by decide) (by decide))))) (Or.inr (slot_ne (Or.inl (hw _ (List.mem_of_getElem? (i := 36) rfl))) (Or.inl (hw _ (List.mem_of_getElem? (i := 16) rfl))) (by decide) (t := .int) (t' := (.array .int)) (by decide) (by decide)))) (Or.inr (slot_ne (Or.inl (hw _ (List.mem_of_getElem? (i := 36) rfl))) (Or.inr (hw _ (List.mem_of_getElem? (i := 29) rfl))) (by decide) (t := .int) (t' := .int) (by decide) (by decide))))) (Or.inr (slot_ne (Or.inl (hw _ (List.mem_of_getElem? (i := 36) rfl))) (Or.inr (hw _ (List.mem_of_getElem? (i := 33) rfl))) (by decide) (t := .int) (t' := (.array (.object "com/example/pathsieve/pathsieve/engine/Messages"))) (by decide) (by decide))))
  refine OGo.done (X132.returnOut hx Bd.returns (hb hby d3_118) hr) ⟨hrun, hended, _, _, rfl, ?_, ⟨_, rfl⟩, hW, hsame.mono (by decide) (by decide)⟩
  show Q3 Z a0 h0 n0 _ T132.heap _
  rw [e132]
  exact ⟨b115, rfl, N132, ((((((((((Keep.refl h0 [a0]).ext E102).wr W105 (Or.inl (List.mem_of_getElem? (i := 0) rfl))).ext E108).wr W111 (Or.inl (List.mem_of_getElem? (i := 0) rfl))).ext E115).wr W118 (Or.inl (List.mem_of_getElem? (i := 0) rfl))).wr W124 (Or.inl (List.mem_of_getElem? (i := 0) rfl))).ext E129).wr W132 (Or.inl (List.mem_of_getElem? (i := 0) rfl))), G134, G135, G136⟩
theorem d4_0 : decode prog_16_method_1_code 0 = .ok (.aload_n 0, 1) := by decide +kernel
theorem d4_1 : decode prog_16_method_1_code 1 = .ok (.invokespecial 1, 3) := by decide +kernel
theorem d4_4 : decode prog_16_method_1_code 4 = .ok (.aload_n 0, 1) := by decide +kernel
theorem d4_5 : decode prog_16_method_1_code 5 = .ok (.iconst (-1), 1) := by decide +kernel
theorem d4_6 : decode prog_16_method_1_code 6 = .ok (.putfield 7, 3) := by decide +kernel
theorem d4_9 : decode prog_16_method_1_code 9 = .ok (.aload_n 0, 1) := by decide +kernel
theorem d4_10 : decode prog_16_method_1_code 10 = .ok (.iconst (-1), 1) := by decide +kernel
theorem d4_11 : decode prog_16_method_1_code 11 = .ok (.putfield 13, 3) := by decide +kernel
theorem d4_14 : decode prog_16_method_1_code 14 = .ok (.aload_n 0, 1) := by decide +kernel
theorem d4_15 : decode prog_16_method_1_code 15 = .ok (.aload_n 1, 1) := by decide +kernel
theorem d4_16 : decode prog_16_method_1_code 16 = .ok (.putfield 16, 3) := by decide +kernel
theorem d4_19 : decode prog_16_method_1_code 19 = .ok (.aload_n 0, 1) := by decide +kernel
theorem d4_20 : decode prog_16_method_1_code 20 = .ok (.aload_n 1, 1) := by decide +kernel
theorem d4_21 : decode prog_16_method_1_code 21 = .ok (.getfield 20, 3) := by decide +kernel
theorem d4_24 : decode prog_16_method_1_code 24 = .ok (.putfield 25, 3) := by decide +kernel
theorem d4_27 : decode prog_16_method_1_code 27 = .ok (.return_, 1) := by decide +kernel
theorem pn_2 : plainName "com/example/pathsieve/pathsieve/engine/Messages" = true := by first | (simp [plainName, overriddenIn]; done) | decide +kernel
theorem ef_4 (m : MethodId) (x0 : Addr) (x1 : Addr) : entryFrame m #[(.ref x0), (.ref x1)] 2 = mkF m 0 #[.val (.ref x0), .val (.ref x1)] [] := by first | (simp [entryFrame, mkF, argsToLocals, Value.category]; done) | rfl
def Q4 (Z : State) (a0 : Addr) (a1 : Addr) (bb : Int32) (h0 : Heap) (n0 : Nat) (v : Option Value) (h : Heap) (L : List Loc) : Prop := v = none ∧ Fr n0 L ∧ Keep h0 h [a0] ∧ (Fld Z h a0 "com/example/pathsieve/pathsieve/engine/Messages" "first" "I" (.int (-1 : Int32))) ∧ (Fld Z h a0 "com/example/pathsieve/pathsieve/engine/Messages" "last" "I" (.int (-1 : Int32))) ∧ (Fld Z h a0 "com/example/pathsieve/pathsieve/engine/Messages" "outbox" "Lcom/example/pathsieve/pathsieve/engine/Outbox;" (.ref a1)) ∧ (Fld Z h a0 "com/example/pathsieve/pathsieve/engine/Messages" "blockBits" "I" (.int bb)) ∧ (Fld Z h a0 "com/example/pathsieve/pathsieve/engine/Messages" "heads" "[I" .null) ∧ (Fld Z h a0 "com/example/pathsieve/pathsieve/engine/Messages" "distances" "[J" .null) ∧ (Fld Z h a0 "com/example/pathsieve/pathsieve/engine/Messages" "tags" "[I" .null) ∧ (Fld Z h a0 "com/example/pathsieve/pathsieve/engine/Messages" "place" "I" (.int (0 : Int32))) ∧ (Fld Z h a0 "com/example/pathsieve/pathsieve/engine/Messages" "end" "I" (.int (0 : Int32))) ∧ (Fld Z h a0 "com/example/pathsieve/pathsieve/engine/Messages" "before" "I" (.int (0 : Int32)))
set_option maxRecDepth 65536 in
set_option maxHeartbeats 40000000 in
theorem rm4 (l : Launch) (Z : State) (ar : Array Value) (hw : ∀ d ∈ tables_1, d.before ar Z = true) (ws : List Jvm.Cond) (a0 : Addr) (a1 : Addr) (bb : Int32) (h0 : Heap) (n0 : Nat) (Z0 : n0 ≤ h0.size) (E0 : Exa Z h0 a0 "com/example/pathsieve/pathsieve/engine/Messages") (g0 : n0 ≤ a0) (n01 : a0 ≠ a1) (FB : Fld Z h0 a1 "com/example/pathsieve/pathsieve/engine/Outbox" "blockBits" "I" (.int bb)) (F_first : Fld Z h0 a0 "com/example/pathsieve/pathsieve/engine/Messages" "first" "I" (.int (0 : Int32))) (F_last : Fld Z h0 a0 "com/example/pathsieve/pathsieve/engine/Messages" "last" "I" (.int (0 : Int32))) (F_outbox : Fld Z h0 a0 "com/example/pathsieve/pathsieve/engine/Messages" "outbox" "Lcom/example/pathsieve/pathsieve/engine/Outbox;" .null) (F_blockBits : Fld Z h0 a0 "com/example/pathsieve/pathsieve/engine/Messages" "blockBits" "I" (.int (0 : Int32))) (F_heads : Fld Z h0 a0 "com/example/pathsieve/pathsieve/engine/Messages" "heads" "[I" .null) (F_distances : Fld Z h0 a0 "com/example/pathsieve/pathsieve/engine/Messages" "distances" "[J" .null) (F_tags : Fld Z h0 a0 "com/example/pathsieve/pathsieve/engine/Messages" "tags" "[I" .null) (F_place : Fld Z h0 a0 "com/example/pathsieve/pathsieve/engine/Messages" "place" "I" (.int (0 : Int32))) (F_end : Fld Z h0 a0 "com/example/pathsieve/pathsieve/engine/Messages" "end" "I" (.int (0 : Int32))) (F_before : Fld Z h0 a0 "com/example/pathsieve/pathsieve/engine/Messages" "before" "I" (.int (0 : Int32))) :
    MetFree l (⟨"com/example/pathsieve/pathsieve/engine/Messages", "<init>", "(Lcom/example/pathsieve/pathsieve/engine/Outbox;)V"⟩ : MethodName) (head1 (Jvm.Cond.code (⟨"com/example/pathsieve/pathsieve/engine/Messages", "<init>", "(Lcom/example/pathsieve/pathsieve/engine/Outbox;)V"⟩ : MethodName) prog_16_method_1_code 2 none :: ws) ({ frames := 1, cells := 0, slots := 0, locals := 12 } : Room)) (fun a U => a = #[(.ref a0), (.ref a1)] ∧ Z.Warmed39 U.vm ∧ U.heap = h0) (fun _ _ _ _ _ => True) (fun _ U o U' => ∃ v L, o = .returned v ∧ Q4 Z a0 a1 bb h0 n0 v U'.heap L ∧ FrameEnd U o U' L ({ frames := 1, cells := 0, slots := 0, locals := 12 } : Room).cells ({ frames := 1, cells := 0, slots := 0, locals := 12 } : Room).slots) := by
  refine MetFree.of_bodySF (plainFor_of_name pn_2) hisR ?_
  intro p e s m args below meth c s₁ Bd hml0 hP hK
  obtain ⟨rfl, hZ, hh⟩ := hP
  have hx := Bd.exec
  have hby := Bd.bytes
  have hml : c.maxLocals = 2 := hml0
  have hown : s.vm.findClass "com/example/pathsieve/pathsieve/engine/Messages" = some m.cls := findClass_of_methodNamed Bd.named
  have hnm := (name_of_methodNamed Bd.named Bd.method).1
  have X0 : Stand p l e ({ frames := 1, cells := 0, slots := 0, locals := 12 } : Room) s m #[(.ref a0), (.ref a1)] below meth c s₁ [] 0 0 := Stand.of_body Bd
  have e0 : s₁.heap = h0 := by rw [← hh, Bd.state]; rfl
  have N0 := Fr.nil n0
  have pre0 : ∀ t, Steps p.tables e below (s₁.setTop (mkF m 0 #[.val (.ref a0), .val (.ref a1)] [])) t → Steps p.tables e below (s₁.setTop (entryFrame m #[(.ref a0), (.ref a1)] 2)) t := fun t k => castTop (ef_4 m a0 a1) k
  refine OGo.start pre0 ?_
  show OGo p.tables e below _ (s₁.setTop (mkF m 0 #[.val (.ref a0), .val (.ref a1)] []))
  refine OGo.st (fun t k => XS.aloadN X0.here hx rfl (hb hby d4_0) rfl rfl k) ?_
  show OGo p.tables e below _ (s₁.setTop (mkF m 1 #[.val (.ref a0), .val (.ref a1)] [(.ref a0)]))
  obtain ⟨T101, X101, e101, st101⟩ := initO X0 hx hZ hown (hw _ (List.mem_of_getElem? (i := 43) rfl)) (hw _ (List.mem_of_getElem? (i := 7) rfl)) (hw _ (List.mem_of_getElem? (i := 8) rfl)) e0 (g := (mkF m 1 #[.val (.ref a0), .val (.ref a1)] [(.ref a0)])) rfl (by rw [hml]; rfl) rfl (hb hby d4_1) (by decide) (W := 0) (by show 2 * 0 + _ ≤ _; exact Nat.le_of_eq rfl) (by decide)
  refine OGo.st st101 ?_
  show OGo p.tables e below _ (T101.setTop (mkF m 4 #[.val (.ref a0), .val (.ref a1)] []))
  refine OGo.st (fun t k => XS.aloadN X101.here hx rfl (hb hby d4_4) rfl rfl k) ?_
  show OGo p.tables e below _ (T101.setTop (mkF m 5 #[.val (.ref a0), .val (.ref a1)] [(.ref a0)]))
  refine OGo.st (fun t k => XS.iconst X101.here hx rfl (hb hby d4_5) k) ?_
  show OGo p.tables e below _ (T101.setTop (mkF m 6 #[.val (.ref a0), .val (.ref a1)] [(.int (-1 : Int32)), (.ref a0)]))
  obtain ⟨T102, h102, X102, e102, W102, st102⟩ := putF X101 hx hZ hown (host := "") (Or.inl (hw _ (List.mem_of_getElem? (i := 44) rfl))) Via.refl e101 F_first E0 (Or.inl (hw _ (List.mem_of_getElem? (i := 45) rfl))) (hw _ (List.mem_of_getElem? (i := 38) rfl)) (ty := .int) (by decide) rfl rfl (g := (mkF m 6 #[.val (.ref a0), .val (.ref a1)] [(.int (-1 : Int32)), (.ref a0)])) rfl rfl (hb hby d4_6)
  refine OGo.st st102 ?_
  have Fw102 : Fld Z h102 a0 "com/example/pathsieve/pathsieve/engine/Messages" "first" "I" (.int (-1 : Int32)) := Fld.same W102 F_first
  have N102 := Fr.snoc X102 N0 g0
  show OGo p.tables e below _ (T102.setTop (mkF m 9 #[.val (.ref a0), .val (.ref a1)] []))
  refine OGo.st (fun t k => XS.aloadN X102.here hx rfl (hb hby d4_9) rfl rfl k) ?_
  show OGo p.tables e below _ (T102.setTop (mkF m 10 #[.val (.ref a0), .val (.ref a1)] [(.ref a0)]))
  refine OGo.st (fun t k => XS.iconst X102.here hx rfl (hb hby d4_10) k) ?_
  show OGo p.tables e below _ (T102.setTop (mkF m 11 #[.val (.ref a0), .val (.ref a1)] [(.int (-1 : Int32)), (.ref a0)]))
  have G103 : Exa Z h102 a0 "com/example/pathsieve/pathsieve/engine/Messages" := (Exa.wr W102 E0)
  have G104 : Fld Z h102 a0 "com/example/pathsieve/pathsieve/engine/Messages" "last" "I" (.int (0 : Int32)) := (Fld.other W102 F_last (Or.inr (slot_ne (Or.inl (hw _ (List.mem_of_getElem? (i := 47) rfl))) (Or.inl (hw _ (List.mem_of_getElem? (i := 45) rfl))) (by decide) (t := .int) (t' := .int) (by decide) (by decide))))
  obtain ⟨T105, h105, X105, e105, W105, st105⟩ := putF X102 hx hZ hown (host := "") (Or.inl (hw _ (List.mem_of_getElem? (i := 46) rfl))) Via.refl e102 G104 G103 (Or.inl (hw _ (List.mem_of_getElem? (i := 47) rfl))) (hw _ (List.mem_of_getElem? (i := 38) rfl)) (ty := .int) (by decide) rfl rfl (g := (mkF m 11 #[.val (.ref a0), .val (.ref a1)] [(.int (-1 : Int32)), (.ref a0)])) rfl rfl (hb hby d4_11)
  refine OGo.st st105 ?_
  have Fw105 : Fld Z h105 a0 "com/example/pathsieve/pathsieve/engine/Messages" "last" "I" (.int (-1 : Int32)) := Fld.same W105 G104
  have N105 := Fr.snoc X105 N102 g0
  show OGo p.tables e below _ (T105.setTop (mkF m 14 #[.val (.ref a0), .val (.ref a1)] []))
  refine OGo.st (fun t k => XS.aloadN X105.here hx rfl (hb hby d4_14) rfl rfl k) ?_
  show OGo p.tables e below _ (T105.setTop (mkF m 15 #[.val (.ref a0), .val (.ref a1)] [(.ref a0)]))
  refine OGo.st (fun t k => XS.aloadN X105.here hx rfl (hb hby d4_15) rfl rfl k) ?_
  show OGo p.tables e below _ (T105.setTop (mkF m 16 #[.val (.ref a0), .val (.ref a1)] [(.ref a1), (.ref a0)]))
  have G106 : Exa Z h105 a0 "com/example/pathsieve/pathsieve/engine/Messages" := (Exa.wr W105 G103)
  have G107 : Fld Z h105 a0 "com/example/pathsieve/pathsieve/engine/Messages" "outbox" "Lcom/example/pathsieve/pathsieve/engine/Outbox;" .null := (Fld.other W105 (Fld.other W102 F_outbox (Or.inr (slot_ne (Or.inr (hw _ (List.mem_of_getElem? (i := 49) rfl))) (Or.inl (hw _ (List.mem_of_getElem? (i := 45) rfl))) (by decide) (t := (.object "com/example/pathsieve/pathsieve/engine/Outbox")) (t' := .int) (by decide) (by decide)))) (Or.inr (slot_ne (Or.inr (hw _ (List.mem_of_getElem? (i := 49) rfl))) (Or.inl (hw _ (List.mem_of_getElem? (i := 47) rfl))) (by decide) (t := (.object "com/example/pathsieve/pathsieve/engine/Outbox")) (t' := .int) (by decide) (by decide))))
  obtain ⟨T108, h108, X108, e108, W108, st108⟩ := putF X105 hx hZ hown (host := "") (Or.inl (hw _ (List.mem_of_getElem? (i := 48) rfl))) Via.refl e105 G107 G106 (Or.inr ⟨(hw _ (List.mem_of_getElem? (i := 49) rfl)), rfl, hnm⟩) (hw _ (List.mem_of_getElem? (i := 38) rfl)) (ty := (.object "com/example/pathsieve/pathsieve/engine/Outbox")) (by decide) rfl rfl (g := (mkF m 16 #[.val (.ref a0), .val (.ref a1)] [(.ref a1), (.ref a0)])) rfl rfl (hb hby d4_16)
  refine OGo.st st108 ?_
  have Fw108 : Fld Z h108 a0 "com/example/pathsieve/pathsieve/engine/Messages" "outbox" "Lcom/example/pathsieve/pathsieve/engine/Outbox;" (.ref a1) := Fld.same W108 G107
  have N108 := Fr.snoc X108 N105 g0
  show OGo p.tables e below _ (T108.setTop (mkF m 19 #[.val (.ref a0), .val (.ref a1)] []))
  refine OGo.st (fun t k => XS.aloadN X108.here hx rfl (hb hby d4_19) rfl rfl k) ?_
  show OGo p.tables e below _ (T108.setTop (mkF m 20 #[.val (.ref a0), .val (.ref a1)] [(.ref a0)]))
  refine OGo.st (fun t k => XS.aloadN X108.here hx rfl (hb hby d4_20) rfl rfl k) ?_
  show OGo p.tables e below _ (T108.setTop (mkF m 21 #[.val (.ref a0), .val (.ref a1)] [(.ref a1), (.ref a0)]))
  have G109 : Fld Z h108 a1 "com/example/pathsieve/pathsieve/engine/Outbox" "blockBits" "I" (.int bb) := (Fld.other W108 (Fld.other W105 (Fld.other W102 FB (Or.inl (Ne.symm n01))) (Or.inl (Ne.symm n01))) (Or.inl (Ne.symm n01)))
  obtain ⟨T110, X110, e110, st110⟩ := getF X108 hx hZ hown (host := "") (Or.inl (hw _ (List.mem_of_getElem? (i := 50) rfl))) Via.refl e108 G109 (g := (mkF m 21 #[.val (.ref a0), .val (.ref a1)] [(.ref a1), (.ref a0)])) rfl rfl (hb hby d4_21)
  refine OGo.st st110 ?_
  show OGo p.tables e below _ (T110.setTop (mkF m 24 #[.val (.ref a0), .val (.ref a1)] [(.int bb), (.ref a0)]))
  have G111 : Exa Z h108 a0 "com/example/pathsieve/pathsieve/engine/Messages" := (Exa.wr W108 G106)
  have G112 : Fld Z h108 a0 "com/example/pathsieve/pathsieve/engine/Messages" "blockBits" "I" (.int (0 : Int32)) := (Fld.other W108 (Fld.other W105 (Fld.other W102 F_blockBits (Or.inr (slot_ne (Or.inr (hw _ (List.mem_of_getElem? (i := 52) rfl))) (Or.inl (hw _ (List.mem_of_getElem? (i := 45) rfl))) (by decide) (t := .int) (t' := .int) (by decide) (by decide)))) (Or.inr (slot_ne (Or.inr (hw _ (List.mem_of_getElem? (i := 52) rfl))) (Or.inl (hw _ (List.mem_of_getElem? (i := 47) rfl))) (by decide) (t := .int) (t' := .int) (by decide) (by decide)))) (Or.inr (slot_ne (Or.inr (hw _ (List.mem_of_getElem? (i := 52) rfl))) (Or.inr (hw _ (List.mem_of_getElem? (i := 49) rfl))) (by decide) (t := .int) (t' := (.object "com/example/pathsieve/pathsieve/engine/Outbox")) (by decide) (by decide))))
  obtain ⟨T113, h113, X113, e113, W113, st113⟩ := putF X110 hx hZ hown (host := "") (Or.inl (hw _ (List.mem_of_getElem? (i := 51) rfl))) Via.refl e110 G112 G111 (Or.inr ⟨(hw _ (List.mem_of_getElem? (i := 52) rfl)), rfl, hnm⟩) (hw _ (List.mem_of_getElem? (i := 38) rfl)) (ty := .int) (by decide) rfl rfl (g := (mkF m 24 #[.val (.ref a0), .val (.ref a1)] [(.int bb), (.ref a0)])) rfl rfl (hb hby d4_24)
  refine OGo.st st113 ?_
  have Fw113 : Fld Z h113 a0 "com/example/pathsieve/pathsieve/engine/Messages" "blockBits" "I" (.int bb) := Fld.same W113 G112
  have N113 := Fr.snoc X113 N108 g0
  show OGo p.tables e below _ (T113.setTop (mkF m 27 #[.val (.ref a0), .val (.ref a1)] []))
  obtain ⟨fs, hr, hrun, hended, hW, hsame⟩ := X113.leave (v := none) (fun _ => rfl)
  have G115 : Fld Z h113 a0 "com/example/pathsieve/pathsieve/engine/Messages" "first" "I" (.int (-1 : Int32)) := (Fld.other W113 (Fld.other W108 (Fld.other W105 Fw102 (Or.inr (slot_ne (Or.inl (hw _ (List.mem_of_getElem? (i := 45) rfl))) (Or.inl (hw _ (List.mem_of_getElem? (i := 47) rfl))) (by decide) (t := .int) (t' := .int) (by decide) (by decide)))) (Or.inr (slot_ne (Or.inl (hw _ (List.mem_of_getElem? (i := 45) rfl))) (Or.inr (hw _ (List.mem_of_getElem? (i := 49) rfl))) (by decide) (t := .int) (t' := (.object "com/example/pathsieve/pathsieve/engine/Outbox")) (by decide) (by decide)))) (Or.inr (slot_ne (Or.inl (hw _ (List.mem_of_getElem? (i := 45) rfl))) (Or.inr (hw _ (List.mem_of_getElem? (i := 52) rfl))) (by decide) (t := .int) (t' := .int) (by decide) (by decide))))
  have G116 : Fld Z h113 a0 "com/example/pathsieve/pathsieve/engine/Messages" "last" "I" (.int (-1 : Int32)) := (Fld.other W113 (Fld.other W108 Fw105 (Or.inr (slot_ne (Or.inl (hw _ (List.mem_of_getElem? (i := 47) rfl))) (Or.inr (hw _ (List.mem_of_getElem? (i := 49) rfl))) (by decide) (t := .int) (t' := (.object "com/example/pathsieve/pathsieve/engine/Outbox")) (by decide) (by decide)))) (Or.inr (slot_ne (Or.inl (hw _ (List.mem_of_getElem? (i := 47) rfl))) (Or.inr (hw _ (List.mem_of_getElem? (i := 52) rfl))) (by decide) (t := .int) (t' := .int) (by decide) (by decide))))
  have G117 : Fld Z h113 a0 "com/example/pathsieve/pathsieve/engine/Messages" "outbox" "Lcom/example/pathsieve/pathsieve/engine/Outbox;" (.ref a1) := (Fld.other W113 Fw108 (Or.inr (slot_ne (Or.inr (hw _ (List.mem_of_getElem? (i := 49) rfl))) (Or.inr (hw _ (List.mem_of_getElem? (i := 52) rfl))) (by decide) (t := (.object "com/example/pathsieve/pathsieve/engine/Outbox")) (t' := .int) (by decide) (by decide))))
  have G118 : Fld Z h113 a0 "com/example/pathsieve/pathsieve/engine/Messages" "heads" "[I" .null := (Fld.other W113 (Fld.other W108 (Fld.other W105 (Fld.other W102 F_heads (Or.inr (slot_ne (Or.inl (hw _ (List.mem_of_getElem? (i := 59) rfl))) (Or.inl (hw _ (List.mem_of_getElem? (i := 45) rfl))) (by decide) (t := (.array .int)) (t' := .int) (by decide) (by decide)))) (Or.inr (slot_ne (Or.inl (hw _ (List.mem_of_getElem? (i := 59) rfl))) (Or.inl (hw _ (List.mem_of_getElem? (i := 47) rfl))) (by decide) (t := (.array .int)) (t' := .int) (by decide) (by decide)))) (Or.inr (slot_ne (Or.inl (hw _ (List.mem_of_getElem? (i := 59) rfl))) (Or.inr (hw _ (List.mem_of_getElem? (i := 49) rfl))) (by decide) (t := (.array .int)) (t' := (.object "com/example/pathsieve/pathsieve/engine/Outbox")) (by decide) (by decide)))) (Or.inr (slot_ne (Or.inl (hw _ (List.mem_of_getElem? (i := 59) rfl))) (Or.inr (hw _ (List.mem_of_getElem? (i := 52) rfl))) (by decide) (t := (.array .int)) (t' := .int) (by decide) (by decide))))
  have G119 : Fld Z h113 a0 "com/example/pathsieve/pathsieve/engine/Messages" "distances" "[J" .null := (Fld.other W113 (Fld.other W108 (Fld.other W105 (Fld.other W102 F_distances (Or.inr (slot_ne (Or.inl (hw _ (List.mem_of_getElem? (i := 61) rfl))) (Or.inl (hw _ (List.mem_of_getElem? (i := 45) rfl))) (by decide) (t := (.array .long)) (t' := .int) (by decide) (by decide)))) (Or.inr (slot_ne (Or.inl (hw _ (List.mem_of_getElem? (i := 61) rfl))) (Or.inl (hw _ (List.mem_of_getElem? (i := 47) rfl))) (by decide) (t := (.array .long)) (t' := .int) (by decide) (by decide)))) (Or.inr (slot_ne (Or.inl (hw _ (List.mem_of_getElem? (i := 61) rfl))) (Or.inr (hw _ (List.mem_of_getElem? (i := 49) rfl))) (by decide) (t := (.array .long)) (t' := (.object "com/example/pathsieve/pathsieve/engine/Outbox")) (by decide) (by decide)))) (Or.inr (slot_ne (Or.inl (hw _ (List.mem_of_getElem? (i := 61) rfl))) (Or.inr (hw _ (List.mem_of_getElem? (i := 52) rfl))) (by decide) (t := (.array .long)) (t' := .int) (by decide) (by decide))))
  have G120 : Fld Z h113 a0 "com/example/pathsieve/pathsieve/engine/Messages" "tags" "[I" .null := (Fld.other W113 (Fld.other W108 (Fld.other W105 (Fld.other W102 F_tags (Or.inr (slot_ne (Or.inl (hw _ (List.mem_of_getElem? (i := 63) rfl))) (Or.inl (hw _ (List.mem_of_getElem? (i := 45) rfl))) (by decide) (t := (.array .int)) (t' := .int) (by decide) (by decide)))) (Or.inr (slot_ne (Or.inl (hw _ (List.mem_of_getElem? (i := 63) rfl))) (Or.inl (hw _ (List.mem_of_getElem? (i := 47) rfl))) (by decide) (t := (.array .int)) (t' := .int) (by decide) (by decide)))) (Or.inr (slot_ne (Or.inl (hw _ (List.mem_of_getElem? (i := 63) rfl))) (Or.inr (hw _ (List.mem_of_getElem? (i := 49) rfl))) (by decide) (t := (.array .int)) (t' := (.object "com/example/pathsieve/pathsieve/engine/Outbox")) (by decide) (by decide)))) (Or.inr (slot_ne (Or.inl (hw _ (List.mem_of_getElem? (i := 63) rfl))) (Or.inr (hw _ (List.mem_of_getElem? (i := 52) rfl))) (by decide) (t := (.array .int)) (t' := .int) (by decide) (by decide))))
  have G121 : Fld Z h113 a0 "com/example/pathsieve/pathsieve/engine/Messages" "place" "I" (.int (0 : Int32)) := (Fld.other W113 (Fld.other W108 (Fld.other W105 (Fld.other W102 F_place (Or.inr (slot_ne (Or.inl (hw _ (List.mem_of_getElem? (i := 80) rfl))) (Or.inl (hw _ (List.mem_of_getElem? (i := 45) rfl))) (by decide) (t := .int) (t' := .int) (by decide) (by decide)))) (Or.inr (slot_ne (Or.inl (hw _ (List.mem_of_getElem? (i := 80) rfl))) (Or.inl (hw _ (List.mem_of_getElem? (i := 47) rfl))) (by decide) (t := .int) (t' := .int) (by decide) (by decide)))) (Or.inr (slot_ne (Or.inl (hw _ (List.mem_of_getElem? (i := 80) rfl))) (Or.inr (hw _ (List.mem_of_getElem? (i := 49) rfl))) (by decide) (t := .int) (t' := (.object "com/example/pathsieve/pathsieve/engine/Outbox")) (by decide) (by decide)))) (Or.inr (slot_ne (Or.inl (hw _ (List.mem_of_getElem? (i := 80) rfl))) (Or.inr (hw _ (List.mem_of_getElem? (i := 52) rfl))) (by decide) (t := .int) (t' := .int) (by decide) (by decide))))
  have G122 : Fld Z h113 a0 "com/example/pathsieve/pathsieve/engine/Messages" "end" "I" (.int (0 : Int32)) := (Fld.other W113 (Fld.other W108 (Fld.other W105 (Fld.other W102 F_end (Or.inr (slot_ne (Or.inl (hw _ (List.mem_of_getElem? (i := 82) rfl))) (Or.inl (hw _ (List.mem_of_getElem? (i := 45) rfl))) (by decide) (t := .int) (t' := .int) (by decide) (by decide)))) (Or.inr (slot_ne (Or.inl (hw _ (List.mem_of_getElem? (i := 82) rfl))) (Or.inl (hw _ (List.mem_of_getElem? (i := 47) rfl))) (by decide) (t := .int) (t' := .int) (by decide) (by decide)))) (Or.inr (slot_ne (Or.inl (hw _ (List.mem_of_getElem? (i := 82) rfl))) (Or.inr (hw _ (List.mem_of_getElem? (i := 49) rfl))) (by decide) (t := .int) (t' := (.object "com/example/pathsieve/pathsieve/engine/Outbox")) (by decide) (by decide)))) (Or.inr (slot_ne (Or.inl (hw _ (List.mem_of_getElem? (i := 82) rfl))) (Or.inr (hw _ (List.mem_of_getElem? (i := 52) rfl))) (by decide) (t := .int) (t' := .int) (by decide) (by decide))))
  have G123 : Fld Z h113 a0 "com/example/pathsieve/pathsieve/engine/Messages" "before" "I" (.int (0 : Int32)) := (Fld.other W113 (Fld.other W108 (Fld.other W105 (Fld.other W102 F_before (Or.inr (slot_ne (Or.inl (hw _ (List.mem_of_getElem? (i := 92) rfl))) (Or.inl (hw _ (List.mem_of_getElem? (i := 45) rfl))) (by decide) (t := .int) (t' := .int) (by decide) (by decide)))) (Or.inr (slot_ne (Or.inl (hw _ (List.mem_of_getElem? (i := 92) rfl))) (Or.inl (hw _ (List.mem_of_getElem? (i := 47) rfl))) (by decide) (t := .int) (t' := .int) (by decide) (by decide)))) (Or.inr (slot_ne (Or.inl (hw _ (List.mem_of_getElem? (i := 92) rfl))) (Or.inr (hw _ (List.mem_of_getElem? (i := 49) rfl))) (by decide) (t := .int) (t' := (.object "com/example/pathsieve/pathsieve/engine/Outbox")) (by decide) (by decide)))) (Or.inr (slot_ne (Or.inl (hw _ (List.mem_of_getElem? (i := 92) rfl))) (Or.inr (hw _ (List.mem_of_getElem? (i := 52) rfl))) (by decide) (t := .int) (t' := .int) (by decide) (by decide))))
  refine OGo.done (X113.returnOut hx Bd.returns (hb hby d4_27) hr) ⟨hrun, hended, _, _, rfl, ?_, ⟨_, rfl⟩, hW, hsame.mono (by decide) (by decide)⟩
  show Q4 Z a0 a1 bb h0 n0 _ T113.heap _
  rw [e113]
  exact ⟨rfl, N113, (((((Keep.refl h0 [a0]).wr W102 (Or.inl (List.mem_of_getElem? (i := 0) rfl))).wr W105 (Or.inl (List.mem_of_getElem? (i := 0) rfl))).wr W108 (Or.inl (List.mem_of_getElem? (i := 0) rfl))).wr W113 (Or.inl (List.mem_of_getElem? (i := 0) rfl))), G115, G116, G117, Fw113, G118, G119, G120, G121, G122, G123⟩
theorem d5_0 : decode prog_16_method_13_code 0 = .ok (.aload_n 0, 1) := by decide +kernel
theorem d5_1 : decode prog_16_method_13_code 1 = .ok (.aload_n 1, 1) := by decide +kernel
theorem d5_2 : decode prog_16_method_13_code 2 = .ok (.putfield 49, 3) := by decide +kernel
theorem d5_5 : decode prog_16_method_13_code 5 = .ok (.aload_n 0, 1) := by decide +kernel
theorem d5_6 : decode prog_16_method_13_code 6 = .ok (.aload_n 2, 1) := by decide +kernel
theorem d5_7 : decode prog_16_method_13_code 7 = .ok (.putfield 52, 3) := by decide +kernel
theorem d5_10 : decode prog_16_method_13_code 10 = .ok (.aload_n 0, 1) := by decide +kernel
theorem d5_11 : decode prog_16_method_13_code 11 = .ok (.aload_n 3, 1) := by decide +kernel
theorem d5_12 : decode prog_16_method_13_code 12 = .ok (.putfield 60, 3) := by decide +kernel
theorem d5_15 : decode prog_16_method_13_code 15 = .ok (.return_, 1) := by decide +kernel
theorem ef_5 (m : MethodId) (x0 : Addr) (x1 : Addr) (x2 : Addr) (x3 : Addr) : entryFrame m #[(.ref x0), (.ref x1), (.ref x2), (.ref x3)] 4 = mkF m 0 #[.val (.ref x0), .val (.ref x1), .val (.ref x2), .val (.ref x3)] [] := by first | (simp [entryFrame, mkF, argsToLocals, Value.category]; done) | rfl
def Q5 (Z : State) (a0 : Addr) (a1 : Addr) (a2 : Addr) (a3 : Addr) (s1 : Int32) (s2 : Int32) (s3 : Int32) (s4 : Int32) (s5 : Int32) (s6 : Int32) (ob : Addr) (h0 : Heap) (n0 : Nat) (v : Option Value) (h : Heap) (L : List Loc) : Prop := v = none ∧ Fr n0 L ∧ Keep h0 h [a0] ∧ (Fld Z h a0 "com/example/pathsieve/pathsieve/engine/Messages" "first" "I" (.int s1)) ∧ (Fld Z h a0 "com/example/pathsieve/pathsieve/engine/Messages" "last" "I" (.int s2)) ∧ (Fld Z h a0 "com/example/pathsieve/pathsieve/engine/Messages" "outbox" "Lcom/example/pathsieve/pathsieve/engine/Outbox;" (.ref ob)) ∧ (Fld Z h a0 "com/example/pathsieve/pathsieve/engine/Messages" "blockBits" "I" (.int s3)) ∧ (Fld Z h a0 "com/example/pathsieve/pathsieve/engine/Messages" "place" "I" (.int s4)) ∧ (Fld Z h a0 "com/example/pathsieve/pathsieve/engine/Messages" "end" "I" (.int s5)) ∧ (Fld Z h a0 "com/example/pathsieve/pathsieve/engine/Messages" "before" "I" (.int s6)) ∧ (Fld Z h a0 "com/example/pathsieve/pathsieve/engine/Messages" "heads" "[I" (.ref a1)) ∧ (Fld Z h a0 "com/example/pathsieve/pathsieve/engine/Messages" "distances" "[J" (.ref a2)) ∧ (Fld Z h a0 "com/example/pathsieve/pathsieve/engine/Messages" "tags" "[I" (.ref a3))
set_option maxRecDepth 65536 in
set_option maxHeartbeats 40000000 in
theorem rm5 (l : Launch) (Z : State) (ar : Array Value) (hw : ∀ d ∈ tables_1, d.before ar Z = true) (ws : List Jvm.Cond) (a0 : Addr) (a1 : Addr) (a2 : Addr) (a3 : Addr) (s1 : Int32) (s2 : Int32) (s3 : Int32) (s4 : Int32) (s5 : Int32) (s6 : Int32) (ob : Addr) (h0 : Heap) (n0 : Nat) (Z0 : n0 ≤ h0.size) (E0 : Exa Z h0 a0 "com/example/pathsieve/pathsieve/engine/Messages") (g0 : n0 ≤ a0) (F_heads : Fld Z h0 a0 "com/example/pathsieve/pathsieve/engine/Messages" "heads" "[I" .null) (F_distances : Fld Z h0 a0 "com/example/pathsieve/pathsieve/engine/Messages" "distances" "[J" .null) (F_tags : Fld Z h0 a0 "com/example/pathsieve/pathsieve/engine/Messages" "tags" "[I" .null) (F_first : Fld Z h0 a0 "com/example/pathsieve/pathsieve/engine/Messages" "first" "I" (.int s1)) (F_last : Fld Z h0 a0 "com/example/pathsieve/pathsieve/engine/Messages" "last" "I" (.int s2)) (F_outbox : Fld Z h0 a0 "com/example/pathsieve/pathsieve/engine/Messages" "outbox" "Lcom/example/pathsieve/pathsieve/engine/Outbox;" (.ref ob)) (F_blockBits : Fld Z h0 a0 "com/example/pathsieve/pathsieve/engine/Messages" "blockBits" "I" (.int s3)) (F_place : Fld Z h0 a0 "com/example/pathsieve/pathsieve/engine/Messages" "place" "I" (.int s4)) (F_end : Fld Z h0 a0 "com/example/pathsieve/pathsieve/engine/Messages" "end" "I" (.int s5)) (F_before : Fld Z h0 a0 "com/example/pathsieve/pathsieve/engine/Messages" "before" "I" (.int s6)) :
    MetFree l (⟨"com/example/pathsieve/pathsieve/engine/Messages", "store", "([I[J[I)V"⟩ : MethodName) (head1 (Jvm.Cond.code (⟨"com/example/pathsieve/pathsieve/engine/Messages", "store", "([I[J[I)V"⟩ : MethodName) prog_16_method_13_code 4 none :: ws) ({ frames := 0, cells := 0, slots := 0, locals := 0 } : Room)) (fun a U => a = #[(.ref a0), (.ref a1), (.ref a2), (.ref a3)] ∧ Z.Warmed39 U.vm ∧ U.heap = h0) (fun _ _ _ _ _ => True) (fun _ U o U' => ∃ v L, o = .returned v ∧ Q5 Z a0 a1 a2 a3 s1 s2 s3 s4 s5 s6 ob h0 n0 v U'.heap L ∧ FrameEnd U o U' L ({ frames := 0, cells := 0, slots := 0, locals := 0 } : Room).cells ({ frames := 0, cells := 0, slots := 0, locals := 0 } : Room).slots) := by
  refine MetFree.of_bodySF (plainFor_of_name pn_2) hisR ?_
  intro p e s m args below meth c s₁ Bd hml0 hP hK
  obtain ⟨rfl, hZ, hh⟩ := hP
  have hx := Bd.exec
  have hby := Bd.bytes
  have hml : c.maxLocals = 4 := hml0
  have hown : s.vm.findClass "com/example/pathsieve/pathsieve/engine/Messages" = some m.cls := findClass_of_methodNamed Bd.named
  have hnm := (name_of_methodNamed Bd.named Bd.method).1
  have X0 : Stand p l e ({ frames := 0, cells := 0, slots := 0, locals := 0 } : Room) s m #[(.ref a0), (.ref a1), (.ref a2), (.ref a3)] below meth c s₁ [] 0 0 := Stand.of_body Bd
  have e0 : s₁.heap = h0 := by rw [← hh, Bd.state]; rfl
  have N0 := Fr.nil n0
  have pre0 : ∀ t, Steps p.tables e below (s₁.setTop (mkF m 0 #[.val (.ref a0), .val (.ref a1), .val (.ref a2), .val (.ref a3)] [])) t → Steps p.tables e below (s₁.setTop (entryFrame m #[(.ref a0), (.ref a1), (.ref a2), (.ref a3)] 4)) t := fun t k => castTop (ef_5 m a0 a1 a2 a3) k
  refine OGo.start pre0 ?_
  show OGo p.tables e below _ (s₁.setTop (mkF m 0 #[.val (.ref a0), .val (.ref a1), .val (.ref a2), .val (.ref a3)] []))
  refine OGo.st (fun t k => XS.aloadN X0.here hx rfl (hb hby d5_0) rfl rfl k) ?_
  show OGo p.tables e below _ (s₁.setTop (mkF m 1 #[.val (.ref a0), .val (.ref a1), .val (.ref a2), .val (.ref a3)] [(.ref a0)]))
  refine OGo.st (fun t k => XS.aloadN X0.here hx rfl (hb hby d5_1) rfl rfl k) ?_
  show OGo p.tables e below _ (s₁.setTop (mkF m 2 #[.val (.ref a0), .val (.ref a1), .val (.ref a2), .val (.ref a3)] [(.ref a1), (.ref a0)]))
  obtain ⟨T101, h101, X101, e101, W101, st101⟩ := putF X0 hx hZ hown (host := "") (Or.inl (hw _ (List.mem_of_getElem? (i := 58) rfl))) Via.refl e0 F_heads E0 (Or.inl (hw _ (List.mem_of_getElem? (i := 59) rfl))) (hw _ (List.mem_of_getElem? (i := 38) rfl)) (ty := (.array .int)) (by decide) rfl rfl (g := (mkF m 2 #[.val (.ref a0), .val (.ref a1), .val (.ref a2), .val (.ref a3)] [(.ref a1), (.ref a0)])) rfl rfl (hb hby d5_2)
  refine OGo.st st101 ?_
  have Fw101 : Fld Z h101 a0 "com/example/pathsieve/pathsieve/engine/Messages" "heads" "[I" (.ref a1) := Fld.same W101 F_heads
  have N101 := Fr.snoc X101 N0 g0
  show OGo p.tables e below _ (T101.setTop (mkF m 5 #[.val (.ref a0), .val (.ref a1), .val (.ref a2), .val (.ref a3)] []))
  refine OGo.st (fun t k => XS.aloadN X101.here hx rfl (hb hby d5_5) rfl rfl k) ?_
  show OGo p.tables e below _ (T101.setTop (mkF m 6 #[.val (.ref a0), .val (.ref a1), .val (.ref a2), .val (.ref a3)] [(.ref a0)]))
  refine OGo.st (fun t k => XS.aloadN X101.here hx rfl (hb hby d5_6) rfl rfl k) ?_
  show OGo p.tables e below _ (T101.setTop (mkF m 7 #[.val (.ref a0), .val (.ref a1), .val (.ref a2), .val (.ref a3)] [(.ref a2), (.ref a0)]))
  have G102 : Exa Z h101 a0 "com/example/pathsieve/pathsieve/engine/Messages" := (Exa.wr W101 E0)
  have G103 : Fld Z h101 a0 "com/example/pathsieve/pathsieve/engine/Messages" "distances" "[J" .null := (Fld.other W101 F_distances (Or.inr (slot_ne (Or.inl (hw _ (List.mem_of_getElem? (i := 61) rfl))) (Or.inl (hw _ (List.mem_of_getElem? (i := 59) rfl))) (by decide) (t := (.array .long)) (t' := (.array .int)) (by decide) (by decide))))
  obtain ⟨T104, h104, X104, e104, W104, st104⟩ := putF X101 hx hZ hown (host := "") (Or.inl (hw _ (List.mem_of_getElem? (i := 60) rfl))) Via.refl e101 G103 G102 (Or.inl (hw _ (List.mem_of_getElem? (i := 61) rfl))) (hw _ (List.mem_of_getElem? (i := 38) rfl)) (ty := (.array .long)) (by decide) rfl rfl (g := (mkF m 7 #[.val (.ref a0), .val (.ref a1), .val (.ref a2), .val (.ref a3)] [(.ref a2), (.ref a0)])) rfl rfl (hb hby d5_7)
  refine OGo.st st104 ?_
  have Fw104 : Fld Z h104 a0 "com/example/pathsieve/pathsieve/engine/Messages" "distances" "[J" (.ref a2) := Fld.same W104 G103
  have N104 := Fr.snoc X104 N101 g0
  show OGo p.tables e below _ (T104.setTop (mkF m 10 #[.val (.ref a0), .val (.ref a1), .val (.ref a2), .val (.ref a3)] []))
  refine OGo.st (fun t k => XS.aloadN X104.here hx rfl (hb hby d5_10) rfl rfl k) ?_
  show OGo p.tables e below _ (T104.setTop (mkF m 11 #[.val (.ref a0), .val (.ref a1), .val (.ref a2), .val (.ref a3)] [(.ref a0)]))
  refine OGo.st (fun t k => XS.aloadN X104.here hx rfl (hb hby d5_11) rfl rfl k) ?_
  show OGo p.tables e below _ (T104.setTop (mkF m 12 #[.val (.ref a0), .val (.ref a1), .val (.ref a2), .val (.ref a3)] [(.ref a3), (.ref a0)]))
  have G105 : Exa Z h104 a0 "com/example/pathsieve/pathsieve/engine/Messages" := (Exa.wr W104 G102)
  have G106 : Fld Z h104 a0 "com/example/pathsieve/pathsieve/engine/Messages" "tags" "[I" .null := (Fld.other W104 (Fld.other W101 F_tags (Or.inr (slot_ne (Or.inl (hw _ (List.mem_of_getElem? (i := 63) rfl))) (Or.inl (hw _ (List.mem_of_getElem? (i := 59) rfl))) (by decide) (t := (.array .int)) (t' := (.array .int)) (by decide) (by decide)))) (Or.inr (slot_ne (Or.inl (hw _ (List.mem_of_getElem? (i := 63) rfl))) (Or.inl (hw _ (List.mem_of_getElem? (i := 61) rfl))) (by decide) (t := (.array .int)) (t' := (.array .long)) (by decide) (by decide))))
  obtain ⟨T107, h107, X107, e107, W107, st107⟩ := putF X104 hx hZ hown (host := "") (Or.inl (hw _ (List.mem_of_getElem? (i := 62) rfl))) Via.refl e104 G106 G105 (Or.inl (hw _ (List.mem_of_getElem? (i := 63) rfl))) (hw _ (List.mem_of_getElem? (i := 38) rfl)) (ty := (.array .int)) (by decide) rfl rfl (g := (mkF m 12 #[.val (.ref a0), .val (.ref a1), .val (.ref a2), .val (.ref a3)] [(.ref a3), (.ref a0)])) rfl rfl (hb hby d5_12)
  refine OGo.st st107 ?_
  have Fw107 : Fld Z h107 a0 "com/example/pathsieve/pathsieve/engine/Messages" "tags" "[I" (.ref a3) := Fld.same W107 G106
  have N107 := Fr.snoc X107 N104 g0
  show OGo p.tables e below _ (T107.setTop (mkF m 15 #[.val (.ref a0), .val (.ref a1), .val (.ref a2), .val (.ref a3)] []))
  obtain ⟨fs, hr, hrun, hended, hW, hsame⟩ := X107.leave (v := none) (fun _ => rfl)
  have G109 : Fld Z h107 a0 "com/example/pathsieve/pathsieve/engine/Messages" "first" "I" (.int s1) := (Fld.other W107 (Fld.other W104 (Fld.other W101 F_first (Or.inr (slot_ne (Or.inl (hw _ (List.mem_of_getElem? (i := 45) rfl))) (Or.inl (hw _ (List.mem_of_getElem? (i := 59) rfl))) (by decide) (t := .int) (t' := (.array .int)) (by decide) (by decide)))) (Or.inr (slot_ne (Or.inl (hw _ (List.mem_of_getElem? (i := 45) rfl))) (Or.inl (hw _ (List.mem_of_getElem? (i := 61) rfl))) (by decide) (t := .int) (t' := (.array .long)) (by decide) (by decide)))) (Or.inr (slot_ne (Or.inl (hw _ (List.mem_of_getElem? (i := 45) rfl))) (Or.inl (hw _ (List.mem_of_getElem? (i := 63) rfl))) (by decide) (t := .int) (t' := (.array .int)) (by decide) (by decide))))
  have G110 : Fld Z h107 a0 "com/example/pathsieve/pathsieve/engine/Messages" "last" "I" (.int s2) := (Fld.other W107 (Fld.other W104 (Fld.other W101 F_last (Or.inr (slot_ne (Or.inl (hw _ (List.mem_of_getElem? (i := 47) rfl))) (Or.inl (hw _ (List.mem_of_getElem? (i := 59) rfl))) (by decide) (t := .int) (t' := (.array .int)) (by decide) (by decide)))) (Or.inr (slot_ne (Or.inl (hw _ (List.mem_of_getElem? (i := 47) rfl))) (Or.inl (hw _ (List.mem_of_getElem? (i := 61) rfl))) (by decide) (t := .int) (t' := (.array .long)) (by decide) (by decide)))) (Or.inr (slot_ne (Or.inl (hw _ (List.mem_of_getElem? (i := 47) rfl))) (Or.inl (hw _ (List.mem_of_getElem? (i := 63) rfl))) (by decide) (t := .int) (t' := (.array .int)) (by decide) (by decide))))
  have G111 : Fld Z h107 a0 "com/example/pathsieve/pathsieve/engine/Messages" "outbox" "Lcom/example/pathsieve/pathsieve/engine/Outbox;" (.ref ob) := (Fld.other W107 (Fld.other W104 (Fld.other W101 F_outbox (Or.inr (slot_ne (Or.inr (hw _ (List.mem_of_getElem? (i := 49) rfl))) (Or.inl (hw _ (List.mem_of_getElem? (i := 59) rfl))) (by decide) (t := (.object "com/example/pathsieve/pathsieve/engine/Outbox")) (t' := (.array .int)) (by decide) (by decide)))) (Or.inr (slot_ne (Or.inr (hw _ (List.mem_of_getElem? (i := 49) rfl))) (Or.inl (hw _ (List.mem_of_getElem? (i := 61) rfl))) (by decide) (t := (.object "com/example/pathsieve/pathsieve/engine/Outbox")) (t' := (.array .long)) (by decide) (by decide)))) (Or.inr (slot_ne (Or.inr (hw _ (List.mem_of_getElem? (i := 49) rfl))) (Or.inl (hw _ (List.mem_of_getElem? (i := 63) rfl))) (by decide) (t := (.object "com/example/pathsieve/pathsieve/engine/Outbox")) (t' := (.array .int)) (by decide) (by decide))))
  have G112 : Fld Z h107 a0 "com/example/pathsieve/pathsieve/engine/Messages" "blockBits" "I" (.int s3) := (Fld.other W107 (Fld.other W104 (Fld.other W101 F_blockBits (Or.inr (slot_ne (Or.inr (hw _ (List.mem_of_getElem? (i := 52) rfl))) (Or.inl (hw _ (List.mem_of_getElem? (i := 59) rfl))) (by decide) (t := .int) (t' := (.array .int)) (by decide) (by decide)))) (Or.inr (slot_ne (Or.inr (hw _ (List.mem_of_getElem? (i := 52) rfl))) (Or.inl (hw _ (List.mem_of_getElem? (i := 61) rfl))) (by decide) (t := .int) (t' := (.array .long)) (by decide) (by decide)))) (Or.inr (slot_ne (Or.inr (hw _ (List.mem_of_getElem? (i := 52) rfl))) (Or.inl (hw _ (List.mem_of_getElem? (i := 63) rfl))) (by decide) (t := .int) (t' := (.array .int)) (by decide) (by decide))))
  have G113 : Fld Z h107 a0 "com/example/pathsieve/pathsieve/engine/Messages" "place" "I" (.int s4) := (Fld.other W107 (Fld.other W104 (Fld.other W101 F_place (Or.inr (slot_ne (Or.inl (hw _ (List.mem_of_getElem? (i := 80) rfl))) (Or.inl (hw _ (List.mem_of_getElem? (i := 59) rfl))) (by decide) (t := .int) (t' := (.array .int)) (by decide) (by decide)))) (Or.inr (slot_ne (Or.inl (hw _ (List.mem_of_getElem? (i := 80) rfl))) (Or.inl (hw _ (List.mem_of_getElem? (i := 61) rfl))) (by decide) (t := .int) (t' := (.array .long)) (by decide) (by decide)))) (Or.inr (slot_ne (Or.inl (hw _ (List.mem_of_getElem? (i := 80) rfl))) (Or.inl (hw _ (List.mem_of_getElem? (i := 63) rfl))) (by decide) (t := .int) (t' := (.array .int)) (by decide) (by decide))))
  have G114 : Fld Z h107 a0 "com/example/pathsieve/pathsieve/engine/Messages" "end" "I" (.int s5) := (Fld.other W107 (Fld.other W104 (Fld.other W101 F_end (Or.inr (slot_ne (Or.inl (hw _ (List.mem_of_getElem? (i := 82) rfl))) (Or.inl (hw _ (List.mem_of_getElem? (i := 59) rfl))) (by decide) (t := .int) (t' := (.array .int)) (by decide) (by decide)))) (Or.inr (slot_ne (Or.inl (hw _ (List.mem_of_getElem? (i := 82) rfl))) (Or.inl (hw _ (List.mem_of_getElem? (i := 61) rfl))) (by decide) (t := .int) (t' := (.array .long)) (by decide) (by decide)))) (Or.inr (slot_ne (Or.inl (hw _ (List.mem_of_getElem? (i := 82) rfl))) (Or.inl (hw _ (List.mem_of_getElem? (i := 63) rfl))) (by decide) (t := .int) (t' := (.array .int)) (by decide) (by decide))))
  have G115 : Fld Z h107 a0 "com/example/pathsieve/pathsieve/engine/Messages" "before" "I" (.int s6) := (Fld.other W107 (Fld.other W104 (Fld.other W101 F_before (Or.inr (slot_ne (Or.inl (hw _ (List.mem_of_getElem? (i := 92) rfl))) (Or.inl (hw _ (List.mem_of_getElem? (i := 59) rfl))) (by decide) (t := .int) (t' := (.array .int)) (by decide) (by decide)))) (Or.inr (slot_ne (Or.inl (hw _ (List.mem_of_getElem? (i := 92) rfl))) (Or.inl (hw _ (List.mem_of_getElem? (i := 61) rfl))) (by decide) (t := .int) (t' := (.array .long)) (by decide) (by decide)))) (Or.inr (slot_ne (Or.inl (hw _ (List.mem_of_getElem? (i := 92) rfl))) (Or.inl (hw _ (List.mem_of_getElem? (i := 63) rfl))) (by decide) (t := .int) (t' := (.array .int)) (by decide) (by decide))))
  have G116 : Fld Z h107 a0 "com/example/pathsieve/pathsieve/engine/Messages" "heads" "[I" (.ref a1) := (Fld.other W107 (Fld.other W104 Fw101 (Or.inr (slot_ne (Or.inl (hw _ (List.mem_of_getElem? (i := 59) rfl))) (Or.inl (hw _ (List.mem_of_getElem? (i := 61) rfl))) (by decide) (t := (.array .int)) (t' := (.array .long)) (by decide) (by decide)))) (Or.inr (slot_ne (Or.inl (hw _ (List.mem_of_getElem? (i := 59) rfl))) (Or.inl (hw _ (List.mem_of_getElem? (i := 63) rfl))) (by decide) (t := (.array .int)) (t' := (.array .int)) (by decide) (by decide))))
  have G117 : Fld Z h107 a0 "com/example/pathsieve/pathsieve/engine/Messages" "distances" "[J" (.ref a2) := (Fld.other W107 Fw104 (Or.inr (slot_ne (Or.inl (hw _ (List.mem_of_getElem? (i := 61) rfl))) (Or.inl (hw _ (List.mem_of_getElem? (i := 63) rfl))) (by decide) (t := (.array .long)) (t' := (.array .int)) (by decide) (by decide))))
  refine OGo.done (X107.returnOut hx Bd.returns (hb hby d5_15) hr) ⟨hrun, hended, _, _, rfl, ?_, ⟨_, rfl⟩, hW, hsame.mono (by decide) (by decide)⟩
  show Q5 Z a0 a1 a2 a3 s1 s2 s3 s4 s5 s6 ob h0 n0 _ T107.heap _
  rw [e107]
  exact ⟨rfl, N107, ((((Keep.refl h0 [a0]).wr W101 (Or.inl (List.mem_of_getElem? (i := 0) rfl))).wr W104 (Or.inl (List.mem_of_getElem? (i := 0) rfl))).wr W107 (Or.inl (List.mem_of_getElem? (i := 0) rfl))), G109, G110, G111, G112, G113, G114, G115, G116, G117, Fw107⟩
theorem d6_0 : decode prog_16_method_4_code 0 = .ok (.aload_n 0, 1) := by decide +kernel
theorem d6_1 : decode prog_16_method_4_code 1 = .ok (.getfield 13, 3) := by decide +kernel
theorem d6_4 : decode prog_16_method_4_code 4 = .ok (.ifCond .ge 7, 3) := by decide +kernel
theorem d6_7 : decode prog_16_method_4_code 7 = .ok (.iconst 0, 1) := by decide +kernel
theorem d6_8 : decode prog_16_method_4_code 8 = .ok (.goto 22, 3) := by decide +kernel
theorem d6_30 : decode prog_16_method_4_code 30 = .ok (.ireturn, 1) := by decide +kernel
theorem ef_6 (m : MethodId) (x0 : Addr) : entryFrame m #[(.ref x0)] 1 = mkF m 0 #[.val (.ref x0)] [] := by first | (simp [entryFrame, mkF, argsToLocals, Value.category]; done) | rfl
def Q6 (Z : State) (a0 : Addr) (h0 : Heap) (n0 : Nat) (v : Option Value) (h : Heap) (L : List Loc) : Prop := v = some (.int (0 : Int32)) ∧ Fr n0 L ∧ h = h0
set_option maxRecDepth 65536 in
set_option maxHeartbeats 40000000 in
theorem rm6 (l : Launch) (Z : State) (ar : Array Value) (hw : ∀ d ∈ tables_1, d.before ar Z = true) (ws : List Jvm.Cond) (a0 : Addr) (h0 : Heap) (n0 : Nat) (Z0 : n0 ≤ h0.size) (F1 : Fld Z h0 a0 "com/example/pathsieve/pathsieve/engine/Messages" "last" "I" (.int (-1 : Int32))) :
    MetFree l (⟨"com/example/pathsieve/pathsieve/engine/Messages", "size", "()I"⟩ : MethodName) (head1 (Jvm.Cond.code (⟨"com/example/pathsieve/pathsieve/engine/Messages", "size", "()I"⟩ : MethodName) prog_16_method_4_code 1 (some .int) :: ws) ({ frames := 0, cells := 0, slots := 0, locals := 0 } : Room)) (fun a U => a = #[(.ref a0)] ∧ Z.Warmed39 U.vm ∧ U.heap = h0) (fun _ _ _ _ _ => True) (fun _ U o U' => ∃ v L, o = .returned v ∧ Q6 Z a0 h0 n0 v U'.heap L ∧ FrameEnd U o U' L ({ frames := 0, cells := 0, slots := 0, locals := 0 } : Room).cells ({ frames := 0, cells := 0, slots := 0, locals := 0 } : Room).slots) := by
  refine MetFree.of_bodySF (plainFor_of_name pn_2) hisR ?_
  intro p e s m args below meth c s₁ Bd hml0 hP hK
  obtain ⟨rfl, hZ, hh⟩ := hP
  have hx := Bd.exec
  have hby := Bd.bytes
  have hml : c.maxLocals = 1 := hml0
  have hown : s.vm.findClass "com/example/pathsieve/pathsieve/engine/Messages" = some m.cls := findClass_of_methodNamed Bd.named
  have hnm := (name_of_methodNamed Bd.named Bd.method).1
  have X0 : Stand p l e ({ frames := 0, cells := 0, slots := 0, locals := 0 } : Room) s m #[(.ref a0)] below meth c s₁ [] 0 0 := Stand.of_body Bd
  have e0 : s₁.heap = h0 := by rw [← hh, Bd.state]; rfl
  have N0 := Fr.nil n0
  have pre0 : ∀ t, Steps p.tables e below (s₁.setTop (mkF m 0 #[.val (.ref a0)] [])) t → Steps p.tables e below (s₁.setTop (entryFrame m #[(.ref a0)] 1)) t := fun t k => castTop (ef_6 m a0) k
  refine OGo.start pre0 ?_
  show OGo p.tables e below _ (s₁.setTop (mkF m 0 #[.val (.ref a0)] []))
  refine OGo.st (fun t k => XS.aloadN X0.here hx rfl (hb hby d6_0) rfl rfl k) ?_
  show OGo p.tables e below _ (s₁.setTop (mkF m 1 #[.val (.ref a0)] [(.ref a0)]))
  obtain ⟨T101, X101, e101, st101⟩ := getF X0 hx hZ hown (host := "") (Or.inl (hw _ (List.mem_of_getElem? (i := 46) rfl))) Via.refl e0 F1 (g := (mkF m 1 #[.val (.ref a0)] [(.ref a0)])) rfl rfl (hb hby d6_1)
  refine OGo.st st101 ?_
  show OGo p.tables e below _ (T101.setTop (mkF m 4 #[.val (.ref a0)] [(.int (-1 : Int32))]))
  refine OGo.st (fun t k => XS.ifNo X101.here hx rfl (hb hby d6_4) rfl ((if0 _ _).trans (tlt (by decide : (-1 : Int32) < (0 : Int32))).2.1) k) ?_
  show OGo p.tables e below _ (T101.setTop (mkF m 7 #[.val (.ref a0)] []))
  refine OGo.st (fun t k => XS.iconst X101.here hx rfl (hb hby d6_7) k) ?_
  show OGo p.tables e below _ (T101.setTop (mkF m 8 #[.val (.ref a0)] [(.int (0 : Int32))]))
  refine OGo.st (fun t k => XS.goto X101.here hx rfl (pc0 := 8) (pc' := 30) rfl (hb hby d6_8) (by decide) (by decide) k) ?_
  show OGo p.tables e below _ (T101.setTop (mkF m 30 #[.val (.ref a0)] [(.int (0 : Int32))]))
  obtain ⟨fs, hr, hrun, hended, hW, hsame⟩ := X101.leave (v := some (.int (0 : Int32))) (fun h => by rw [Bd.returns] at h; cases h)
  refine OGo.done (retI X101 hx Bd.returns (hb hby d6_30) hr) ⟨hrun, hended, _, _, rfl, ?_, ⟨_, rfl⟩, hW, hsame.mono (by decide) (by decide)⟩
  show Q6 Z a0 h0 n0 _ T101.heap _
  rw [e101]
  exact ⟨rfl, N0, rfl⟩
theorem d7_0 : decode prog_16_method_4_code 0 = .ok (.aload_n 0, 1) := by decide +kernel
theorem d7_1 : decode prog_16_method_4_code 1 = .ok (.getfield 13, 3) := by decide +kernel
theorem d7_4 : decode prog_16_method_4_code 4 = .ok (.ifCond .ge 7, 3) := by decide +kernel
theorem d7_11 : decode prog_16_method_4_code 11 = .ok (.aload_n 0, 1) := by decide +kernel
theorem d7_12 : decode prog_16_method_4_code 12 = .ok (.getfield 46, 3) := by decide +kernel
theorem d7_15 : decode prog_16_method_4_code 15 = .ok (.aload_n 0, 1) := by decide +kernel
theorem d7_16 : decode prog_16_method_4_code 16 = .ok (.getfield 26, 3) := by decide +kernel
theorem d7_19 : decode prog_16_method_4_code 19 = .ok (.iadd, 1) := by decide +kernel
theorem d7_20 : decode prog_16_method_4_code 20 = .ok (.aload_n 0, 1) := by decide +kernel
theorem d7_21 : decode prog_16_method_4_code 21 = .ok (.getfield 13, 3) := by decide +kernel
theorem d7_24 : decode prog_16_method_4_code 24 = .ok (.aload_n 0, 1) := by decide +kernel
theorem d7_25 : decode prog_16_method_4_code 25 = .ok (.getfield 25, 3) := by decide +kernel
theorem d7_28 : decode prog_16_method_4_code 28 = .ok (.ishl, 1) := by decide +kernel
theorem d7_29 : decode prog_16_method_4_code 29 = .ok (.isub, 1) := by decide +kernel
theorem d7_30 : decode prog_16_method_4_code 30 = .ok (.ireturn, 1) := by decide +kernel
theorem ef_7 (m : MethodId) (x0 : Addr) : entryFrame m #[(.ref x0)] 1 = mkF m 0 #[.val (.ref x0)] [] := by first | (simp [entryFrame, mkF, argsToLocals, Value.category]; done) | rfl
def Q7 (Z : State) (a0 : Addr) (w : Int32) (ff : Int32) (h0 : Heap) (n0 : Nat) (v : Option Value) (h : Heap) (L : List Loc) : Prop := v = some (.int (((0 : Int32) + w) - (ff <<< ((9 : Int32) &&& 31)))) ∧ Fr n0 L ∧ h = h0
set_option maxRecDepth 65536 in
set_option maxHeartbeats 40000000 in
theorem rm7 (l : Launch) (Z : State) (ar : Array Value) (hw : ∀ d ∈ tables_1, d.before ar Z = true) (ws : List Jvm.Cond) (a0 : Addr) (w : Int32) (ff : Int32) (h0 : Heap) (n0 : Nat) (Z0 : n0 ≤ h0.size) (F1 : Fld Z h0 a0 "com/example/pathsieve/pathsieve/engine/Messages" "last" "I" (.int ff)) (F2 : Fld Z h0 a0 "com/example/pathsieve/pathsieve/engine/Messages" "place" "I" (.int w)) (F3 : Fld Z h0 a0 "com/example/pathsieve/pathsieve/engine/Messages" "before" "I" (.int (0 : Int32))) (F4 : Fld Z h0 a0 "com/example/pathsieve/pathsieve/engine/Messages" "blockBits" "I" (.int (9 : Int32))) (hf : ¬ ff < 0) :
    MetFree l (⟨"com/example/pathsieve/pathsieve/engine/Messages", "size", "()I"⟩ : MethodName) (head1 (Jvm.Cond.code (⟨"com/example/pathsieve/pathsieve/engine/Messages", "size", "()I"⟩ : MethodName) prog_16_method_4_code 1 (some .int) :: ws) ({ frames := 0, cells := 0, slots := 0, locals := 0 } : Room)) (fun a U => a = #[(.ref a0)] ∧ Z.Warmed39 U.vm ∧ U.heap = h0) (fun _ _ _ _ _ => True) (fun _ U o U' => ∃ v L, o = .returned v ∧ Q7 Z a0 w ff h0 n0 v U'.heap L ∧ FrameEnd U o U' L ({ frames := 0, cells := 0, slots := 0, locals := 0 } : Room).cells ({ frames := 0, cells := 0, slots := 0, locals := 0 } : Room).slots) := by
  refine MetFree.of_bodySF (plainFor_of_name pn_2) hisR ?_
  intro p e s m args below meth c s₁ Bd hml0 hP hK
  obtain ⟨rfl, hZ, hh⟩ := hP
  have hx := Bd.exec
  have hby := Bd.bytes
  have hml : c.maxLocals = 1 := hml0
  have hown : s.vm.findClass "com/example/pathsieve/pathsieve/engine/Messages" = some m.cls := findClass_of_methodNamed Bd.named
  have hnm := (name_of_methodNamed Bd.named Bd.method).1
  have X0 : Stand p l e ({ frames := 0, cells := 0, slots := 0, locals := 0 } : Room) s m #[(.ref a0)] below meth c s₁ [] 0 0 := Stand.of_body Bd
  have e0 : s₁.heap = h0 := by rw [← hh, Bd.state]; rfl
  have N0 := Fr.nil n0
  have pre0 : ∀ t, Steps p.tables e below (s₁.setTop (mkF m 0 #[.val (.ref a0)] [])) t → Steps p.tables e below (s₁.setTop (entryFrame m #[(.ref a0)] 1)) t := fun t k => castTop (ef_7 m a0) k
  refine OGo.start pre0 ?_
  show OGo p.tables e below _ (s₁.setTop (mkF m 0 #[.val (.ref a0)] []))
  refine OGo.st (fun t k => XS.aloadN X0.here hx rfl (hb hby d7_0) rfl rfl k) ?_
  show OGo p.tables e below _ (s₁.setTop (mkF m 1 #[.val (.ref a0)] [(.ref a0)]))
  obtain ⟨T101, X101, e101, st101⟩ := getF X0 hx hZ hown (host := "") (Or.inl (hw _ (List.mem_of_getElem? (i := 46) rfl))) Via.refl e0 F1 (g := (mkF m 1 #[.val (.ref a0)] [(.ref a0)])) rfl rfl (hb hby d7_1)
  refine OGo.st st101 ?_
  show OGo p.tables e below _ (T101.setTop (mkF m 4 #[.val (.ref a0)] [(.int ff)]))
  refine OGo.st (fun t k => XS.ifYes X101.here hx rfl (pc0 := 4) (pc' := 11) rfl (hb hby d7_4) rfl ((if0 _ _).trans (flt (hf : ¬ (ff < (0 : Int32)))).2.1) (by decide) (by decide) k) ?_
  show OGo p.tables e below _ (T101.setTop (mkF m 11 #[.val (.ref a0)] []))
  refine OGo.st (fun t k => XS.aloadN X101.here hx rfl (hb hby d7_11) rfl rfl k) ?_
  show OGo p.tables e below _ (T101.setTop (mkF m 12 #[.val (.ref a0)] [(.ref a0)]))
  obtain ⟨T102, X102, e102, st102⟩ := getF X101 hx hZ hown (host := "") (Or.inl (hw _ (List.mem_of_getElem? (i := 91) rfl))) Via.refl e101 F3 (g := (mkF m 12 #[.val (.ref a0)] [(.ref a0)])) rfl rfl (hb hby d7_12)
  refine OGo.st st102 ?_
  show OGo p.tables e below _ (T102.setTop (mkF m 15 #[.val (.ref a0)] [(.int (0 : Int32))]))
  refine OGo.st (fun t k => XS.aloadN X102.here hx rfl (hb hby d7_15) rfl rfl k) ?_
  show OGo p.tables e below _ (T102.setTop (mkF m 16 #[.val (.ref a0)] [(.ref a0), (.int (0 : Int32))]))
  obtain ⟨T103, X103, e103, st103⟩ := getF X102 hx hZ hown (host := "") (Or.inl (hw _ (List.mem_of_getElem? (i := 79) rfl))) Via.refl e102 F2 (g := (mkF m 16 #[.val (.ref a0)] [(.ref a0), (.int (0 : Int32))])) rfl rfl (hb hby d7_16)
  refine OGo.st st103 ?_
  show OGo p.tables e below _ (T103.setTop (mkF m 19 #[.val (.ref a0)] [(.int w), (.int (0 : Int32))]))
  refine OGo.st (fun t k => XS.iadd X103.here hx rfl (hb hby d7_19) rfl k) ?_
  show OGo p.tables e below _ (T103.setTop (mkF m 20 #[.val (.ref a0)] [(.int ((0 : Int32) + w))]))
  refine OGo.st (fun t k => XS.aloadN X103.here hx rfl (hb hby d7_20) rfl rfl k) ?_
  show OGo p.tables e below _ (T103.setTop (mkF m 21 #[.val (.ref a0)] [(.ref a0), (.int ((0 : Int32) + w))]))
  obtain ⟨T104, X104, e104, st104⟩ := getF X103 hx hZ hown (host := "") (Or.inl (hw _ (List.mem_of_getElem? (i := 46) rfl))) Via.refl e103 F1 (g := (mkF m 21 #[.val (.ref a0)] [(.ref a0), (.int ((0 : Int32) + w))])) rfl rfl (hb hby d7_21)
  refine OGo.st st104 ?_
  show OGo p.tables e below _ (T104.setTop (mkF m 24 #[.val (.ref a0)] [(.int ff), (.int ((0 : Int32) + w))]))
  refine OGo.st (fun t k => XS.aloadN X104.here hx rfl (hb hby d7_24) rfl rfl k) ?_
  show OGo p.tables e below _ (T104.setTop (mkF m 25 #[.val (.ref a0)] [(.ref a0), (.int ff), (.int ((0 : Int32) + w))]))
  obtain ⟨T105, X105, e105, st105⟩ := getF X104 hx hZ hown (host := "") (Or.inl (hw _ (List.mem_of_getElem? (i := 51) rfl))) Via.refl e104 F4 (g := (mkF m 25 #[.val (.ref a0)] [(.ref a0), (.int ff), (.int ((0 : Int32) + w))])) rfl rfl (hb hby d7_25)
  refine OGo.st st105 ?_
  show OGo p.tables e below _ (T105.setTop (mkF m 28 #[.val (.ref a0)] [(.int (9 : Int32)), (.int ff), (.int ((0 : Int32) + w))]))
  refine OGo.st (fun t k => XS.ishl X105.here hx rfl (hb hby d7_28) rfl k) ?_
  show OGo p.tables e below _ (T105.setTop (mkF m 29 #[.val (.ref a0)] [(.int (ff <<< ((9 : Int32) &&& 31))), (.int ((0 : Int32) + w))]))
  refine OGo.st (fun t k => XS.isub X105.here hx rfl (hb hby d7_29) rfl k) ?_
  show OGo p.tables e below _ (T105.setTop (mkF m 30 #[.val (.ref a0)] [(.int (((0 : Int32) + w) - (ff <<< ((9 : Int32) &&& 31))))]))
  obtain ⟨fs, hr, hrun, hended, hW, hsame⟩ := X105.leave (v := some (.int (((0 : Int32) + w) - (ff <<< ((9 : Int32) &&& 31))))) (fun h => by rw [Bd.returns] at h; cases h)
  refine OGo.done (retI X105 hx Bd.returns (hb hby d7_30) hr) ⟨hrun, hended, _, _, rfl, ?_, ⟨_, rfl⟩, hW, hsame.mono (by decide) (by decide)⟩
  show Q7 Z a0 w ff h0 n0 _ T105.heap _
  rw [e105]
  exact ⟨rfl, N0, rfl⟩
theorem d8_0 : decode prog_16_method_2_code 0 = .ok (.aload_n 0, 1) := by decide +kernel
theorem d8_1 : decode prog_16_method_2_code 1 = .ok (.getfield 26, 3) := by decide +kernel
theorem d8_4 : decode prog_16_method_2_code 4 = .ok (.aload_n 0, 1) := by decide +kernel
theorem d8_5 : decode prog_16_method_2_code 5 = .ok (.getfield 29, 3) := by decide +kernel
theorem d8_8 : decode prog_16_method_2_code 8 = .ok (.if_icmp .ne 123, 3) := by decide +kernel
theorem d8_11 : decode prog_16_method_2_code 11 = .ok (.aload_n 0, 1) := by decide +kernel
theorem d8_12 : decode prog_16_method_2_code 12 = .ok (.getfield 16, 3) := by decide +kernel
theorem d8_15 : decode prog_16_method_2_code 15 = .ok (.getfield 32, 3) := by decide +kernel
theorem d8_18 : decode prog_16_method_2_code 18 = .ok (.istore 4, 2) := by decide +kernel
theorem d8_20 : decode prog_16_method_2_code 20 = .ok (.iload 4, 2) := by decide +kernel
theorem d8_22 : decode prog_16_method_2_code 22 = .ok (.aload_n 0, 1) := by decide +kernel
theorem d8_23 : decode prog_16_method_2_code 23 = .ok (.getfield 16, 3) := by decide +kernel
theorem d8_26 : decode prog_16_method_2_code 26 = .ok (.getfield 35, 3) := by decide +kernel
theorem d8_29 : decode prog_16_method_2_code 29 = .ok (.arraylength, 1) := by decide +kernel
theorem d8_30 : decode prog_16_method_2_code 30 = .ok (.if_icmp .ne 13, 3) := by decide +kernel
theorem d8_43 : decode prog_16_method_2_code 43 = .ok (.aload_n 0, 1) := by decide +kernel
theorem d8_44 : decode prog_16_method_2_code 44 = .ok (.getfield 16, 3) := by decide +kernel
theorem d8_47 : decode prog_16_method_2_code 47 = .ok (.iload 4, 2) := by decide +kernel
theorem d8_49 : decode prog_16_method_2_code 49 = .ok (.iconst 1, 1) := by decide +kernel
theorem d8_50 : decode prog_16_method_2_code 50 = .ok (.iadd, 1) := by decide +kernel
theorem d8_51 : decode prog_16_method_2_code 51 = .ok (.putfield 32, 3) := by decide +kernel
theorem d8_54 : decode prog_16_method_2_code 54 = .ok (.aload_n 0, 1) := by decide +kernel
theorem d8_55 : decode prog_16_method_2_code 55 = .ok (.getfield 13, 3) := by decide +kernel
theorem d8_58 : decode prog_16_method_2_code 58 = .ok (.ifCond .ge 12, 3) := by decide +kernel
theorem d8_61 : decode prog_16_method_2_code 61 = .ok (.aload_n 0, 1) := by decide +kernel
theorem d8_62 : decode prog_16_method_2_code 62 = .ok (.iload 4, 2) := by decide +kernel
theorem d8_64 : decode prog_16_method_2_code 64 = .ok (.putfield 7, 3) := by decide +kernel
theorem d8_67 : decode prog_16_method_2_code 67 = .ok (.goto 32, 3) := by decide +kernel
theorem d8_99 : decode prog_16_method_2_code 99 = .ok (.aload_n 0, 1) := by decide +kernel
theorem d8_100 : decode prog_16_method_2_code 100 = .ok (.iload 4, 2) := by decide +kernel
theorem d8_102 : decode prog_16_method_2_code 102 = .ok (.putfield 13, 3) := by decide +kernel
theorem d8_105 : decode prog_16_method_2_code 105 = .ok (.aload_n 0, 1) := by decide +kernel
theorem d8_106 : decode prog_16_method_2_code 106 = .ok (.iload 4, 2) := by decide +kernel
theorem d8_108 : decode prog_16_method_2_code 108 = .ok (.aload_n 0, 1) := by decide +kernel
theorem d8_109 : decode prog_16_method_2_code 109 = .ok (.getfield 25, 3) := by decide +kernel
theorem d8_112 : decode prog_16_method_2_code 112 = .ok (.ishl, 1) := by decide +kernel
theorem d8_113 : decode prog_16_method_2_code 113 = .ok (.putfield 26, 3) := by decide +kernel
theorem d8_116 : decode prog_16_method_2_code 116 = .ok (.aload_n 0, 1) := by decide +kernel
theorem d8_117 : decode prog_16_method_2_code 117 = .ok (.aload_n 0, 1) := by decide +kernel
theorem d8_118 : decode prog_16_method_2_code 118 = .ok (.getfield 26, 3) := by decide +kernel
theorem d8_121 : decode prog_16_method_2_code 121 = .ok (.iconst 1, 1) := by decide +kernel
theorem d8_122 : decode prog_16_method_2_code 122 = .ok (.aload_n 0, 1) := by decide +kernel
theorem d8_123 : decode prog_16_method_2_code 123 = .ok (.getfield 25, 3) := by decide +kernel
theorem d8_126 : decode prog_16_method_2_code 126 = .ok (.ishl, 1) := by decide +kernel
theorem d8_127 : decode prog_16_method_2_code 127 = .ok (.iadd, 1) := by decide +kernel
theorem d8_128 : decode prog_16_method_2_code 128 = .ok (.putfield 29, 3) := by decide +kernel
theorem d8_131 : decode prog_16_method_2_code 131 = .ok (.aload_n 0, 1) := by decide +kernel
theorem d8_132 : decode prog_16_method_2_code 132 = .ok (.getfield 49, 3) := by decide +kernel
theorem d8_135 : decode prog_16_method_2_code 135 = .ok (.aload_n 0, 1) := by decide +kernel
theorem d8_136 : decode prog_16_method_2_code 136 = .ok (.getfield 26, 3) := by decide +kernel
theorem d8_139 : decode prog_16_method_2_code 139 = .ok (.iload_n 1, 1) := by decide +kernel
theorem d8_140 : decode prog_16_method_2_code 140 = .ok (.iastore, 1) := by decide +kernel
theorem d8_141 : decode prog_16_method_2_code 141 = .ok (.aload_n 0, 1) := by decide +kernel
theorem d8_142 : decode prog_16_method_2_code 142 = .ok (.getfield 52, 3) := by decide +kernel
theorem d8_145 : decode prog_16_method_2_code 145 = .ok (.aload_n 0, 1) := by decide +kernel
theorem d8_146 : decode prog_16_method_2_code 146 = .ok (.getfield 26, 3) := by decide +kernel
theorem d8_149 : decode prog_16_method_2_code 149 = .ok (.lload_n 2, 1) := by decide +kernel
theorem d8_150 : decode prog_16_method_2_code 150 = .ok (.lastore, 1) := by decide +kernel
theorem d8_151 : decode prog_16_method_2_code 151 = .ok (.aload_n 0, 1) := by decide +kernel
theorem d8_152 : decode prog_16_method_2_code 152 = .ok (.dup, 1) := by decide +kernel
theorem d8_153 : decode prog_16_method_2_code 153 = .ok (.getfield 26, 3) := by decide +kernel
theorem d8_156 : decode prog_16_method_2_code 156 = .ok (.iconst 1, 1) := by decide +kernel
theorem d8_157 : decode prog_16_method_2_code 157 = .ok (.iadd, 1) := by decide +kernel
theorem d8_158 : decode prog_16_method_2_code 158 = .ok (.putfield 26, 3) := by decide +kernel
theorem d8_161 : decode prog_16_method_2_code 161 = .ok (.return_, 1) := by decide +kernel
theorem ef_8 (m : MethodId) (x0 : Addr) (x1 : Int32) (x2 : Int64) : entryFrame m #[(.ref x0), (.int x1), (.long x2)] 5 = mkF m 0 #[.val (.ref x0), .val (.int x1), .val (.long x2), .second, .unset] [] := by first | (simp [entryFrame, mkF, argsToLocals, Value.category]; done) | rfl
def Q8 (Z : State) (a0 : Addr) (p1 : Int32) (q2 : Int64) (ob : Addr) (ff : Int32) (bn : Addr) (kn : ClassId) (b1 : Addr) (k1 : ClassId) (gs : List (Int32 × Value)) (b2 : Addr) (k2 : ClassId) (ds : List (Int32 × Value)) (b3 : Addr) (h0 : Heap) (n0 : Nat) (v : Option Value) (h : Heap) (L : List Loc) : Prop := v = none ∧ Fr n0 L ∧ Keep h0 h [a0, ob, b1, b2] ∧ (Fld Z h a0 "com/example/pathsieve/pathsieve/engine/Messages" "heads" "[I" (.ref b1)) ∧ (Fld Z h a0 "com/example/pathsieve/pathsieve/engine/Messages" "distances" "[J" (.ref b2)) ∧ (Fld Z h a0 "com/example/pathsieve/pathsieve/engine/Messages" "tags" "[I" (.ref b3)) ∧ (Fld Z h a0 "com/example/pathsieve/pathsieve/engine/Messages" "before" "I" (.int (0 : Int32))) ∧ (Fld Z h a0 "com/example/pathsieve/pathsieve/engine/Messages" "blockBits" "I" (.int (9 : Int32))) ∧ (Fld Z h a0 "com/example/pathsieve/pathsieve/engine/Messages" "place" "I" (.int ((ff <<< ((9 : Int32) &&& 31)) + (1 : Int32)))) ∧ (Fld Z h a0 "com/example/pathsieve/pathsieve/engine/Messages" "end" "I" (.int ((ff <<< ((9 : Int32) &&& 31)) + ((1 : Int32) <<< ((9 : Int32) &&& 31))))) ∧ (Fld Z h a0 "com/example/pathsieve/pathsieve/engine/Messages" "last" "I" (.int ff)) ∧ (Arh Z h b1 k1 .int (2048 : Int32) (((ff <<< ((9 : Int32) &&& 31)), (.int p1)) :: gs) [] (.int (0 : Int32))) ∧ (Arh Z h b2 k2 .long (2048 : Int32) (((ff <<< ((9 : Int32) &&& 31)), (.long q2)) :: ds) [] (.long (0 : Int64)))
set_option maxRecDepth 65536 in
set_option maxHeartbeats 40000000 in
theorem rm8 (l : Launch) (Z : State) (ar : Array Value) (hw : ∀ d ∈ tables_1, d.before ar Z = true) (ws : List Jvm.Cond) (a0 : Addr) (p1 : Int32) (q2 : Int64) (ob : Addr) (ff : Int32) (bn : Addr) (kn : ClassId) (b1 : Addr) (k1 : ClassId) (gs : List (Int32 × Value)) (b2 : Addr) (k2 : ClassId) (ds : List (Int32 × Value)) (b3 : Addr) (h0 : Heap) (n0 : Nat) (Z0 : n0 ≤ h0.size) (F_out : Fld Z h0 a0 "com/example/pathsieve/pathsieve/engine/Messages" "outbox" "Lcom/example/pathsieve/pathsieve/engine/Outbox;" (.ref ob)) (F_taken : Fld Z h0 ob "com/example/pathsieve/pathsieve/engine/Outbox" "taken" "I" (.int ff)) (F_nb : Fld Z h0 ob "com/example/pathsieve/pathsieve/engine/Outbox" "nextBlocks" "[I" (.ref bn)) (VN : Arv Z h0 bn kn .int (4 : Int32) [(.int (0 : Int32)), (.int (0 : Int32)), (.int (0 : Int32)), (.int (0 : Int32))] (.int (0 : Int32))) (EO : Exa Z h0 ob "com/example/pathsieve/pathsieve/engine/Outbox") (EM : Exa Z h0 a0 "com/example/pathsieve/pathsieve/engine/Messages") (F_place : Fld Z h0 a0 "com/example/pathsieve/pathsieve/engine/Messages" "place" "I" (.int (0 : Int32))) (F_end : Fld Z h0 a0 "com/example/pathsieve/pathsieve/engine/Messages" "end" "I" (.int (0 : Int32))) (F_last : Fld Z h0 a0 "com/example/pathsieve/pathsieve/engine/Messages" "last" "I" (.int (-1 : Int32))) (F_first : Fld Z h0 a0 "com/example/pathsieve/pathsieve/engine/Messages" "first" "I" (.int (-1 : Int32))) (F_heads : Fld Z h0 a0 "com/example/pathsieve/pathsieve/engine/Messages" "heads" "[I" (.ref b1)) (F_distances : Fld Z h0 a0 "com/example/pathsieve/pathsieve/engine/Messages" "distances" "[J" (.ref b2)) (F_tags : Fld Z h0 a0 "com/example/pathsieve/pathsieve/engine/Messages" "tags" "[I" (.ref b3)) (F_before : Fld Z h0 a0 "com/example/pathsieve/pathsieve/engine/Messages" "before" "I" (.int (0 : Int32))) (F_bb : Fld Z h0 a0 "com/example/pathsieve/pathsieve/engine/Messages" "blockBits" "I" (.int (9 : Int32))) (V1 : Arh Z h0 b1 k1 .int (2048 : Int32) gs [] (.int (0 : Int32))) (V2 : Arh Z h0 b2 k2 .long (2048 : Int32) ds [] (.long (0 : Int64))) (n_a0_ob : a0 ≠ ob) (n_a0_b1 : a0 ≠ b1) (n_a0_b2 : a0 ≠ b2) (n_ob_b1 : ob ≠ b1) (n_ob_b2 : ob ≠ b2) (n_b1_b2 : b1 ≠ b2) (g_a0 : n0 ≤ a0) (g_ob : n0 ≤ ob) (g_b1 : n0 ≤ b1) (g_b2 : n0 ≤ b2) (hff : ¬ ff = (4 : Int32)) (hz : ¬ (ff <<< ((9 : Int32) &&& 31)) < 0 ∧ (ff <<< ((9 : Int32) &&& 31)) < 2048) :
    MetFree l (⟨"com/example/pathsieve/pathsieve/engine/Messages", "add", "(IJ)V"⟩ : MethodName) (head1 (Jvm.Cond.code (⟨"com/example/pathsieve/pathsieve/engine/Messages", "add", "(IJ)V"⟩ : MethodName) prog_16_method_2_code 5 none :: ws) ({ frames := 0, cells := 0, slots := 0, locals := 0 } : Room)) (fun a U => a = #[(.ref a0), (.int p1), (.long q2)] ∧ Z.Warmed39 U.vm ∧ U.heap = h0) (fun _ _ _ _ _ => True) (fun _ U o U' => ∃ v L, o = .returned v ∧ Q8 Z a0 p1 q2 ob ff bn kn b1 k1 gs b2 k2 ds b3 h0 n0 v U'.heap L ∧ FrameEnd U o U' L ({ frames := 0, cells := 0, slots := 0, locals := 0 } : Room).cells ({ frames := 0, cells := 0, slots := 0, locals := 0 } : Room).slots) := by
  refine MetFree.of_bodySF (plainFor_of_name pn_2) hisR ?_
  intro p e s m args below meth c s₁ Bd hml0 hP hK
  obtain ⟨rfl, hZ, hh⟩ := hP
  have hx := Bd.exec
  have hby := Bd.bytes
  have hml : c.maxLocals = 5 := hml0
  have hown : s.vm.findClass "com/example/pathsieve/pathsieve/engine/Messages" = some m.cls := findClass_of_methodNamed Bd.named
  have hnm := (name_of_methodNamed Bd.named Bd.method).1
  have X0 : Stand p l e ({ frames := 0, cells := 0, slots := 0, locals := 0 } : Room) s m #[(.ref a0), (.int p1), (.long q2)] below meth c s₁ [] 0 0 := Stand.of_body Bd
  have e0 : s₁.heap = h0 := by rw [← hh, Bd.state]; rfl
  have N0 := Fr.nil n0
  have pre0 : ∀ t, Steps p.tables e below (s₁.setTop (mkF m 0 #[.val (.ref a0), .val (.int p1), .val (.long q2), .second, .unset] [])) t → Steps p.tables e below (s₁.setTop (entryFrame m #[(.ref a0), (.int p1), (.long q2)] 5)) t := fun t k => castTop (ef_8 m a0 p1 q2) k
  refine OGo.start pre0 ?_
  show OGo p.tables e below _ (s₁.setTop (mkF m 0 #[.val (.ref a0), .val (.int p1), .val (.long q2), .second, .unset] []))
  refine OGo.st (fun t k => XS.aloadN X0.here hx rfl (hb hby d8_0) rfl rfl k) ?_
  show OGo p.tables e below _ (s₁.setTop (mkF m 1 #[.val (.ref a0), .val (.int p1), .val (.long q2), .second, .unset] [(.ref a0)]))
  obtain ⟨T101, X101, e101, st101⟩ := getF X0 hx hZ hown (host := "") (Or.inl (hw _ (List.mem_of_getElem? (i := 79) rfl))) Via.refl e0 F_place (g := (mkF m 1 #[.val (.ref a0), .val (.int p1), .val (.long q2), .second, .unset] [(.ref a0)])) rfl rfl (hb hby d8_1)
  refine OGo.st st101 ?_
  show OGo p.tables e below _ (T101.setTop (mkF m 4 #[.val (.ref a0), .val (.int p1), .val (.long q2), .second, .unset] [(.int (0 : Int32))]))
  refine OGo.st (fun t k => XS.aloadN X101.here hx rfl (hb hby d8_4) rfl rfl k) ?_
  show OGo p.tables e below _ (T101.setTop (mkF m 5 #[.val (.ref a0), .val (.int p1), .val (.long q2), .second, .unset] [(.ref a0), (.int (0 : Int32))]))
  obtain ⟨T102, X102, e102, st102⟩ := getF X101 hx hZ hown (host := "") (Or.inl (hw _ (List.mem_of_getElem? (i := 81) rfl))) Via.refl e101 F_end (g := (mkF m 5 #[.val (.ref a0), .val (.int p1), .val (.long q2), .second, .unset] [(.ref a0), (.int (0 : Int32))])) rfl rfl (hb hby d8_5)
  refine OGo.st st102 ?_
  show OGo p.tables e below _ (T102.setTop (mkF m 8 #[.val (.ref a0), .val (.int p1), .val (.long q2), .second, .unset] [(.int (0 : Int32)), (.int (0 : Int32))]))
  refine OGo.st (fun t k => XS.icmpNo X102.here hx rfl (hb hby d8_8) rfl (teq (by decide : (0 : Int32) = (0 : Int32))).2 k) ?_
  show OGo p.tables e below _ (T102.setTop (mkF m 11 #[.val (.ref a0), .val (.int p1), .val (.long q2), .second, .unset] []))
  refine OGo.st (fun t k => XS.aloadN X102.here hx rfl (hb hby d8_11) rfl rfl k) ?_
  show OGo p.tables e below _ (T102.setTop (mkF m 12 #[.val (.ref a0), .val (.int p1), .val (.long q2), .second, .unset] [(.ref a0)]))
  obtain ⟨T103, X103, e103, st103⟩ := getF X102 hx hZ hown (host := "") (Or.inl (hw _ (List.mem_of_getElem? (i := 48) rfl))) Via.refl e102 F_out (g := (mkF m 12 #[.val (.ref a0), .val (.int p1), .val (.long q2), .second, .unset] [(.ref a0)])) rfl rfl (hb hby d8_12)
  refine OGo.st st103 ?_
  show OGo p.tables e below _ (T103.setTop (mkF m 15 #[.val (.ref a0), .val (.int p1), .val (.long q2), .second, .unset] [(.ref ob)]))
  obtain ⟨T104, X104, e104, st104⟩ := getF X103 hx hZ hown (host := "") (Or.inl (hw _ (List.mem_of_getElem? (i := 83) rfl))) Via.refl e103 F_taken (g := (mkF m 15 #[.val (.ref a0), .val (.int p1), .val (.long q2), .second, .unset] [(.ref ob)])) rfl rfl (hb hby d8_15)
  refine OGo.st st104 ?_
  show OGo p.tables e below _ (T104.setTop (mkF m 18 #[.val (.ref a0), .val (.int p1), .val (.long q2), .second, .unset] [(.int ff)]))
  refine OGo.st (fun t k => XS.istore X104.here hx rfl (hb hby d8_18) rfl (l' := #[.val (.ref a0), .val (.int p1), .val (.long q2), .second, .val (.int ff)]) rfl k) ?_
  show OGo p.tables e below _ (T104.setTop (mkF m 20 #[.val (.ref a0), .val (.int p1), .val (.long q2), .second, .val (.int ff)] []))
  refine OGo.st (fun t k => XS.iload X104.here hx rfl (hb hby d8_20) rfl k) ?_
  show OGo p.tables e below _ (T104.setTop (mkF m 22 #[.val (.ref a0), .val (.int p1), .val (.long q2), .second, .val (.int ff)] [(.int ff)]))
  refine OGo.st (fun t k => XS.aloadN X104.here hx rfl (hb hby d8_22) rfl rfl k) ?_
  show OGo p.tables e below _ (T104.setTop (mkF m 23 #[.val (.ref a0), .val (.int p1), .val (.long q2), .second, .val (.int ff)] [(.ref a0), (.int ff)]))
  obtain ⟨T105, X105, e105, st105⟩ := getF X104 hx hZ hown (host := "") (Or.inl (hw _ (List.mem_of_getElem? (i := 48) rfl))) Via.refl e104 F_out (g := (mkF m 23 #[.val (.ref a0), .val (.int p1), .val (.long q2), .second, .val (.int ff)] [(.ref a0), (.int ff)])) rfl rfl (hb hby d8_23)
  refine OGo.st st105 ?_
  show OGo p.tables e below _ (T105.setTop (mkF m 26 #[.val (.ref a0), .val (.int p1), .val (.long q2), .second, .val (.int ff)] [(.ref ob), (.int ff)]))
  obtain ⟨T106, X106, e106, st106⟩ := getF X105 hx hZ hown (host := "") (Or.inl (hw _ (List.mem_of_getElem? (i := 84) rfl))) Via.refl e105 F_nb (g := (mkF m 26 #[.val (.ref a0), .val (.int p1), .val (.long q2), .second, .val (.int ff)] [(.ref ob), (.int ff)])) rfl rfl (hb hby d8_26)
  refine OGo.st st106 ?_
  show OGo p.tables e below _ (T106.setTop (mkF m 29 #[.val (.ref a0), .val (.int p1), .val (.long q2), .second, .val (.int ff)] [(.ref bn), (.int ff)]))
  obtain ⟨cl107, Ar107, qc107, Sz107, Nz107, Hs107, Gs107⟩ := VN
  refine OGo.st (fun t k => X106.arraylength hx (by rw [e106]; exact Ar107.1) (State.isArrayOf_alike hZ.alike Ar107.2.1) (g := (mkF m 29 #[.val (.ref a0), .val (.int p1), .val (.long q2), .second, .val (.int ff)] [(.ref bn), (.int ff)])) rfl rfl (hb hby d8_29) _ k) ?_
  rw [len_of Sz107 Nz107]
  show OGo p.tables e below _ (T106.setTop (mkF m 30 #[.val (.ref a0), .val (.int p1), .val (.long q2), .second, .val (.int ff)] [(.int (4 : Int32)), (.int ff)]))
  refine OGo.st (fun t k => XS.icmpYes X106.here hx rfl (pc0 := 30) (pc' := 43) rfl (hb hby d8_30) rfl (feq (hff : ¬ (ff = (4 : Int32)))).2 (by decide) (by decide) k) ?_
  show OGo p.tables e below _ (T106.setTop (mkF m 43 #[.val (.ref a0), .val (.int p1), .val (.long q2), .second, .val (.int ff)] []))
  refine OGo.st (fun t k => XS.aloadN X106.here hx rfl (hb hby d8_43) rfl rfl k) ?_
  show OGo p.tables e below _ (T106.setTop (mkF m 44 #[.val (.ref a0), .val (.int p1), .val (.long q2), .second, .val (.int ff)] [(.ref a0)]))
  obtain ⟨T108, X108, e108, st108⟩ := getF X106 hx hZ hown (host := "") (Or.inl (hw _ (List.mem_of_getElem? (i := 48) rfl))) Via.refl e106 F_out (g := (mkF m 44 #[.val (.ref a0), .val (.int p1), .val (.long q2), .second, .val (.int ff)] [(.ref a0)])) rfl rfl (hb hby d8_44)
  refine OGo.st st108 ?_
  show OGo p.tables e below _ (T108.setTop (mkF m 47 #[.val (.ref a0), .val (.int p1), .val (.long q2), .second, .val (.int ff)] [(.ref ob)]))
  refine OGo.st (fun t k => XS.iload X108.here hx rfl (hb hby d8_47) rfl k) ?_
  show OGo p.tables e below _ (T108.setTop (mkF m 49 #[.val (.ref a0), .val (.int p1), .val (.long q2), .second, .val (.int ff)] [(.int ff), (.ref ob)]))
  refine OGo.st (fun t k => XS.iconst X108.here hx rfl (hb hby d8_49) k) ?_
  show OGo p.tables e below _ (T108.setTop (mkF m 50 #[.val (.ref a0), .val (.int p1), .val (.long q2), .second, .val (.int ff)] [(.int (1 : Int32)), (.int ff), (.ref ob)]))
  refine OGo.st (fun t k => XS.iadd X108.here hx rfl (hb hby d8_50) rfl k) ?_
  show OGo p.tables e below _ (T108.setTop (mkF m 51 #[.val (.ref a0), .val (.int p1), .val (.long q2), .second, .val (.int ff)] [(.int (ff + (1 : Int32))), (.ref ob)]))
  obtain ⟨T109, h109, X109, e109, W109, st109⟩ := putF X108 hx hZ hown (host := "") (Or.inl (hw _ (List.mem_of_getElem? (i := 83) rfl))) Via.refl e108 F_taken EO (Or.inl (hw _ (List.mem_of_getElem? (i := 36) rfl))) (hw _ (List.mem_of_getElem? (i := 1) rfl)) (ty := .int) (by decide) rfl rfl (g := (mkF m 51 #[.val (.ref a0), .val (.int p1), .val (.long q2), .second, .val (.int ff)] [(.int (ff + (1 : Int32))), (.ref ob)])) rfl rfl (hb hby d8_51)
  refine OGo.st st109 ?_
  have Fw109 : Fld Z h109 ob "com/example/pathsieve/pathsieve/engine/Outbox" "taken" "I" (.int (ff + (1 : Int32))) := Fld.same W109 F_taken
  have N109 := Fr.snoc X109 N0 g_ob
  show OGo p.tables e below _ (T109.setTop (mkF m 54 #[.val (.ref a0), .val (.int p1), .val (.long q2), .second, .val (.int ff)] []))
  refine OGo.st (fun t k => XS.aloadN X109.here hx rfl (hb hby d8_54) rfl rfl k) ?_
  show OGo p.tables e below _ (T109.setTop (mkF m 55 #[.val (.ref a0), .val (.int p1), .val (.long q2), .second, .val (.int ff)] [(.ref a0)]))
  have G110 : Fld Z h109 a0 "com/example/pathsieve/pathsieve/engine/Messages" "last" "I" (.int (-1 : Int32)) := (Fld.other W109 F_last (Or.inl n_a0_ob))
  obtain ⟨T111, X111, e111, st111⟩ := getF X109 hx hZ hown (host := "") (Or.inl (hw _ (List.mem_of_getElem? (i := 46) rfl))) Via.refl e109 G110 (g := (mkF m 55 #[.val (.ref a0), .val (.int p1), .val (.long q2), .second, .val (.int ff)] [(.ref a0)])) rfl rfl (hb hby d8_55)
  refine OGo.st st111 ?_
  show OGo p.tables e below _ (T111.setTop (mkF m 58 #[.val (.ref a0), .val (.int p1), .val (.long q2), .second, .val (.int ff)] [(.int (-1 : Int32))]))
  refine OGo.st (fun t k => XS.ifNo X111.here hx rfl (hb hby d8_58) rfl ((if0 _ _).trans (tlt (by decide : (-1 : Int32) < (0 : Int32))).2.1) k) ?_
  show OGo p.tables e below _ (T111.setTop (mkF m 61 #[.val (.ref a0), .val (.int p1), .val (.long q2), .second, .val (.int ff)] []))
  refine OGo.st (fun t k => XS.aloadN X111.here hx rfl (hb hby d8_61) rfl rfl k) ?_
  show OGo p.tables e below _ (T111.setTop (mkF m 62 #[.val (.ref a0), .val (.int p1), .val (.long q2), .second, .val (.int ff)] [(.ref a0)]))
  refine OGo.st (fun t k => XS.iload X111.here hx rfl (hb hby d8_62) rfl k) ?_
  show OGo p.tables e below _ (T111.setTop (mkF m 64 #[.val (.ref a0), .val (.int p1), .val (.long q2), .second, .val (.int ff)] [(.int ff), (.ref a0)]))
  have G112 : Exa Z h109 a0 "com/example/pathsieve/pathsieve/engine/Messages" := (Exa.wr W109 EM)
  have G113 : Fld Z h109 a0 "com/example/pathsieve/pathsieve/engine/Messages" "first" "I" (.int (-1 : Int32)) := (Fld.other W109 F_first (Or.inl n_a0_ob))
  obtain ⟨T114, h114, X114, e114, W114, st114⟩ := putF X111 hx hZ hown (host := "") (Or.inl (hw _ (List.mem_of_getElem? (i := 44) rfl))) Via.refl e111 G113 G112 (Or.inl (hw _ (List.mem_of_getElem? (i := 45) rfl))) (hw _ (List.mem_of_getElem? (i := 38) rfl)) (ty := .int) (by decide) rfl rfl (g := (mkF m 64 #[.val (.ref a0), .val (.int p1), .val (.long q2), .second, .val (.int ff)] [(.int ff), (.ref a0)])) rfl rfl (hb hby d8_64)
  refine OGo.st st114 ?_
  have Fw114 : Fld Z h114 a0 "com/example/pathsieve/pathsieve/engine/Messages" "first" "I" (.int ff) := Fld.same W114 G113
  have N114 := Fr.snoc X114 N109 g_a0
  show OGo p.tables e below _ (T114.setTop (mkF m 67 #[.val (.ref a0), .val (.int p1), .val (.long q2), .second, .val (.int ff)] []))
  refine OGo.st (fun t k => XS.goto X114.here hx rfl (pc0 := 67) (pc' := 99) rfl (hb hby d8_67) (by decide) (by decide) k) ?_
  show OGo p.tables e below _ (T114.setTop (mkF m 99 #[.val (.ref a0), .val (.int p1), .val (.long q2), .second, .val (.int ff)] []))
  refine OGo.st (fun t k => XS.aloadN X114.here hx rfl (hb hby d8_99) rfl rfl k) ?_
  show OGo p.tables e below _ (T114.setTop (mkF m 100 #[.val (.ref a0), .val (.int p1), .val (.long q2), .second, .val (.int ff)] [(.ref a0)]))
  refine OGo.st (fun t k => XS.iload X114.here hx rfl (hb hby d8_100) rfl k) ?_
  show OGo p.tables e below _ (T114.setTop (mkF m 102 #[.val (.ref a0), .val (.int p1), .val (.long q2), .second, .val (.int ff)] [(.int ff), (.ref a0)]))
  have G115 : Exa Z h114 a0 "com/example/pathsieve/pathsieve/engine/Messages" := (Exa.wr W114 G112)
  have G116 : Fld Z h114 a0 "com/example/pathsieve/pathsieve/engine/Messages" "last" "I" (.int (-1 : Int32)) := (Fld.other W114 G110 (Or.inr (slot_ne (Or.inl (hw _ (List.mem_of_getElem? (i := 47) rfl))) (Or.inl (hw _ (List.mem_of_getElem? (i := 45) rfl))) (by decide) (t := .int) (t' := .int) (by decide) (by decide))))
  obtain ⟨T117, h117, X117, e117, W117, st117⟩ := putF X114 hx hZ hown (host := "") (Or.inl (hw _ (List.mem_of_getElem? (i := 46) rfl))) Via.refl e114 G116 G115 (Or.inl (hw _ (List.mem_of_getElem? (i := 47) rfl))) (hw _ (List.mem_of_getElem? (i := 38) rfl)) (ty := .int) (by decide) rfl rfl (g := (mkF m 102 #[.val (.ref a0), .val (.int p1), .val (.long q2), .second, .val (.int ff)] [(.int ff), (.ref a0)])) rfl rfl (hb hby d8_102)
  refine OGo.st st117 ?_
  have Fw117 : Fld Z h117 a0 "com/example/pathsieve/pathsieve/engine/Messages" "last" "I" (.int ff) := Fld.same W117 G116
  have N117 := Fr.snoc X117 N114 g_a0
  show OGo p.tables e below _ (T117.setTop (mkF m 105 #[.val (.ref a0), .val (.int p1), .val (.long q2), .second, .val (.int ff)] []))
  refine OGo.st (fun t k => XS.aloadN X117.here hx rfl (hb hby d8_105) rfl rfl k) ?_
  show OGo p.tables e below _ (T117.setTop (mkF m 106 #[.val (.ref a0), .val (.int p1), .val (.long q2), .second, .val (.int ff)] [(.ref a0)]))
  refine OGo.st (fun t k => XS.iload X117.here hx rfl (hb hby d8_106) rfl k) ?_
  show OGo p.tables e below _ (T117.setTop (mkF m 108 #[.val (.ref a0), .val (.int p1), .val (.long q2), .second, .val (.int ff)] [(.int ff), (.ref a0)]))
  refine OGo.st (fun t k => XS.aloadN X117.here hx rfl (hb hby d8_108) rfl rfl k) ?_
  show OGo p.tables e below _ (T117.setTop (mkF m 109 #[.val (.ref a0), .val (.int p1), .val (.long q2), .second, .val (.int ff)] [(.ref a0), (.int ff), (.ref a0)]))
  have G118 : Fld Z h117 a0 "com/example/pathsieve/pathsieve/engine/Messages" "blockBits" "I" (.int (9 : Int32)) := (Fld.other W117 (Fld.other W114 (Fld.other W109 F_bb (Or.inl n_a0_ob)) (Or.inr (slot_ne (Or.inr (hw _ (List.mem_of_getElem? (i := 52) rfl))) (Or.inl (hw _ (List.mem_of_getElem? (i := 45) rfl))) (by decide) (t := .int) (t' := .int) (by decide) (by decide)))) (Or.inr (slot_ne (Or.inr (hw _ (List.mem_of_getElem? (i := 52) rfl))) (Or.inl (hw _ (List.mem_of_getElem? (i := 47) rfl))) (by decide) (t := .int) (t' := .int) (by decide) (by decide))))
  obtain ⟨T119, X119, e119, st119⟩ := getF X117 hx hZ hown (host := "") (Or.inl (hw _ (List.mem_of_getElem? (i := 51) rfl))) Via.refl e117 G118 (g := (mkF m 109 #[.val (.ref a0), .val (.int p1), .val (.long q2), .second, .val (.int ff)] [(.ref a0), (.int ff), (.ref a0)])) rfl rfl (hb hby d8_109)
  refine OGo.st st119 ?_
  show OGo p.tables e below _ (T119.setTop (mkF m 112 #[.val (.ref a0), .val (.int p1), .val (.long q2), .second, .val (.int ff)] [(.int (9 : Int32)), (.int ff), (.ref a0)]))
  refine OGo.st (fun t k => XS.ishl X119.here hx rfl (hb hby d8_112) rfl k) ?_
  show OGo p.tables e below _ (T119.setTop (mkF m 113 #[.val (.ref a0), .val (.int p1), .val (.long q2), .second, .val (.int ff)] [(.int (ff <<< ((9 : Int32) &&& 31))), (.ref a0)]))
  have G120 : Exa Z h117 a0 "com/example/pathsieve/pathsieve/engine/Messages" := (Exa.wr W117 G115)
  have G121 : Fld Z h117 a0 "com/example/pathsieve/pathsieve/engine/Messages" "place" "I" (.int (0 : Int32)) := (Fld.other W117 (Fld.other W114 (Fld.other W109 F_place (Or.inl n_a0_ob)) (Or.inr (slot_ne (Or.inl (hw _ (List.mem_of_getElem? (i := 80) rfl))) (Or.inl (hw _ (List.mem_of_getElem? (i := 45) rfl))) (by decide) (t := .int) (t' := .int) (by decide) (by decide)))) (Or.inr (slot_ne (Or.inl (hw _ (List.mem_of_getElem? (i := 80) rfl))) (Or.inl (hw _ (List.mem_of_getElem? (i := 47) rfl))) (by decide) (t := .int) (t' := .int) (by decide) (by decide))))
  obtain ⟨T122, h122, X122, e122, W122, st122⟩ := putF X119 hx hZ hown (host := "") (Or.inl (hw _ (List.mem_of_getElem? (i := 79) rfl))) Via.refl e119 G121 G120 (Or.inl (hw _ (List.mem_of_getElem? (i := 80) rfl))) (hw _ (List.mem_of_getElem? (i := 38) rfl)) (ty := .int) (by decide) rfl rfl (g := (mkF m 113 #[.val (.ref a0), .val (.int p1), .val (.long q2), .second, .val (.int ff)] [(.int (ff <<< ((9 : Int32) &&& 31))), (.ref a0)])) rfl rfl (hb hby d8_113)
  refine OGo.st st122 ?_
  have Fw122 : Fld Z h122 a0 "com/example/pathsieve/pathsieve/engine/Messages" "place" "I" (.int (ff <<< ((9 : Int32) &&& 31))) := Fld.same W122 G121
  have N122 := Fr.snoc X122 N117 g_a0
  show OGo p.tables e below _ (T122.setTop (mkF m 116 #[.val (.ref a0), .val (.int p1), .val (.long q2), .second, .val (.int ff)] []))
  refine OGo.st (fun t k => XS.aloadN X122.here hx rfl (hb hby d8_116) rfl rfl k) ?_
  show OGo p.tables e below _ (T122.setTop (mkF m 117 #[.val (.ref a0), .val (.int p1), .val (.long q2), .second, .val (.int ff)] [(.ref a0)]))
  refine OGo.st (fun t k => XS.aloadN X122.here hx rfl (hb hby d8_117) rfl rfl k) ?_
  show OGo p.tables e below _ (T122.setTop (mkF m 118 #[.val (.ref a0), .val (.int p1), .val (.long q2), .second, .val (.int ff)] [(.ref a0), (.ref a0)]))
  obtain ⟨T123, X123, e123, st123⟩ := getF X122 hx hZ hown (host := "") (Or.inl (hw _ (List.mem_of_getElem? (i := 79) rfl))) Via.refl e122 Fw122 (g := (mkF m 118 #[.val (.ref a0), .val (.int p1), .val (.long q2), .second, .val (.int ff)] [(.ref a0), (.ref a0)])) rfl rfl (hb hby d8_118)
  refine OGo.st st123 ?_
  show OGo p.tables e below _ (T123.setTop (mkF m 121 #[.val (.ref a0), .val (.int p1), .val (.long q2), .second, .val (.int ff)] [(.int (ff <<< ((9 : Int32) &&& 31))), (.ref a0)]))
  refine OGo.st (fun t k => XS.iconst X123.here hx rfl (hb hby d8_121) k) ?_
  show OGo p.tables e below _ (T123.setTop (mkF m 122 #[.val (.ref a0), .val (.int p1), .val (.long q2), .second, .val (.int ff)] [(.int (1 : Int32)), (.int (ff <<< ((9 : Int32) &&& 31))), (.ref a0)]))
  refine OGo.st (fun t k => XS.aloadN X123.here hx rfl (hb hby d8_122) rfl rfl k) ?_
  show OGo p.tables e below _ (T123.setTop (mkF m 123 #[.val (.ref a0), .val (.int p1), .val (.long q2), .second, .val (.int ff)] [(.ref a0), (.int (1 : Int32)), (.int (ff <<< ((9 : Int32) &&& 31))), (.ref a0)]))
  have G124 : Fld Z h122 a0 "com/example/pathsieve/pathsieve/engine/Messages" "blockBits" "I" (.int (9 : Int32)) := (Fld.other W122 G118 (Or.inr (slot_ne (Or.inr (hw _ (List.mem_of_getElem? (i := 52) rfl))) (Or.inl (hw _ (List.mem_of_getElem? (i := 80) rfl))) (by decide) (t := .int) (t' := .int) (by decide) (by decide))))
  obtain ⟨T125, X125, e125, st125⟩ := getF X123 hx hZ hown (host := "") (Or.inl (hw _ (List.mem_of_getElem? (i := 51) rfl))) Via.refl e123 G124 (g := (mkF m 123 #[.val (.ref a0), .val (.int p1), .val (.long q2), .second, .val (.int ff)] [(.ref a0), (.int (1 : Int32)), (.int (ff <<< ((9 : Int32) &&& 31))), (.ref a0)])) rfl rfl (hb hby d8_123)
  refine OGo.st st125 ?_
  show OGo p.tables e below _ (T125.setTop (mkF m 126 #[.val (.ref a0), .val (.int p1), .val (.long q2), .second, .val (.int ff)] [(.int (9 : Int32)), (.int (1 : Int32)), (.int (ff <<< ((9 : Int32) &&& 31))), (.ref a0)]))
  refine OGo.st (fun t k => XS.ishl X125.here hx rfl (hb hby d8_126) rfl k) ?_
  show OGo p.tables e below _ (T125.setTop (mkF m 127 #[.val (.ref a0), .val (.int p1), .val (.long q2), .second, .val (.int ff)] [(.int ((1 : Int32) <<< ((9 : Int32) &&& 31))), (.int (ff <<< ((9 : Int32) &&& 31))), (.ref a0)]))
  refine OGo.st (fun t k => XS.iadd X125.here hx rfl (hb hby d8_127) rfl k) ?_
  show OGo p.tables e below _ (T125.setTop (mkF m 128 #[.val (.ref a0), .val (.int p1), .val (.long q2), .second, .val (.int ff)] [(.int ((ff <<< ((9 : Int32) &&& 31)) + ((1 : Int32) <<< ((9 : Int32) &&& 31)))), (.ref a0)]))
  have G126 : Exa Z h122 a0 "com/example/pathsieve/pathsieve/engine/Messages" := (Exa.wr W122 G120)
  have G127 : Fld Z h122 a0 "com/example/pathsieve/pathsieve/engine/Messages" "end" "I" (.int (0 : Int32)) := (Fld.other W122 (Fld.other W117 (Fld.other W114 (Fld.other W109 F_end (Or.inl n_a0_ob)) (Or.inr (slot_ne (Or.inl (hw _ (List.mem_of_getElem? (i := 82) rfl))) (Or.inl (hw _ (List.mem_of_getElem? (i := 45) rfl))) (by decide) (t := .int) (t' := .int) (by decide) (by decide)))) (Or.inr (slot_ne (Or.inl (hw _ (List.mem_of_getElem? (i := 82) rfl))) (Or.inl (hw _ (List.mem_of_getElem? (i := 47) rfl))) (by decide) (t := .int) (t' := .int) (by decide) (by decide)))) (Or.inr (slot_ne (Or.inl (hw _ (List.mem_of_getElem? (i := 82) rfl))) (Or.inl (hw _ (List.mem_of_getElem? (i := 80) rfl))) (by decide) (t := .int) (t' := .int) (by decide) (by decide))))
  obtain ⟨T128, h128, X128, e128, W128, st128⟩ := putF X125 hx hZ hown (host := "") (Or.inl (hw _ (List.mem_of_getElem? (i := 81) rfl))) Via.refl e125 G127 G126 (Or.inl (hw _ (List.mem_of_getElem? (i := 82) rfl))) (hw _ (List.mem_of_getElem? (i := 38) rfl)) (ty := .int) (by decide) rfl rfl (g := (mkF m 128 #[.val (.ref a0), .val (.int p1), .val (.long q2), .second, .val (.int ff)] [(.int ((ff <<< ((9 : Int32) &&& 31)) + ((1 : Int32) <<< ((9 : Int32) &&& 31)))), (.ref a0)])) rfl rfl (hb hby d8_128)
  refine OGo.st st128 ?_
  have Fw128 : Fld Z h128 a0 "com/example/pathsieve/pathsieve/engine/Messages" "end" "I" (.int ((ff <<< ((9 : Int32) &&& 31)) + ((1 : Int32) <<< ((9 : Int32) &&& 31)))) := Fld.same W128 G127
  have N128 := Fr.snoc X128 N122 g_a0
  show OGo p.tables e below _ (T128.setTop (mkF m 131 #[.val (.ref a0), .val (.int p1), .val (.long q2), .second, .val (.int ff)] []))
  refine OGo.st (fun t k => XS.aloadN X128.here hx rfl (hb hby d8_131) rfl rfl k) ?_
  show OGo p.tables e below _ (T128.setTop (mkF m 132 #[.val (.ref a0), .val (.int p1), .val (.long q2), .second, .val (.int ff)] [(.ref a0)]))
  have G129 : Fld Z h128 a0 "com/example/pathsieve/pathsieve/engine/Messages" "heads" "[I" (.ref b1) := (Fld.other W128 (Fld.other W122 (Fld.other W117 (Fld.other W114 (Fld.other W109 F_heads (Or.inl n_a0_ob)) (Or.inr (slot_ne (Or.inl (hw _ (List.mem_of_getElem? (i := 59) rfl))) (Or.inl (hw _ (List.mem_of_getElem? (i := 45) rfl))) (by decide) (t := (.array .int)) (t' := .int) (by decide) (by decide)))) (Or.inr (slot_ne (Or.inl (hw _ (List.mem_of_getElem? (i := 59) rfl))) (Or.inl (hw _ (List.mem_of_getElem? (i := 47) rfl))) (by decide) (t := (.array .int)) (t' := .int) (by decide) (by decide)))) (Or.inr (slot_ne (Or.inl (hw _ (List.mem_of_getElem? (i := 59) rfl))) (Or.inl (hw _ (List.mem_of_getElem? (i := 80) rfl))) (by decide) (t := (.array .int)) (t' := .int) (by decide) (by decide)))) (Or.inr (slot_ne (Or.inl (hw _ (List.mem_of_getElem? (i := 59) rfl))) (Or.inl (hw _ (List.mem_of_getElem? (i := 82) rfl))) (by decide) (t := (.array .int)) (t' := .int) (by decide) (by decide))))
  obtain ⟨T130, X130, e130, st130⟩ := getF X128 hx hZ hown (host := "") (Or.inl (hw _ (List.mem_of_getElem? (i := 58) rfl))) Via.refl e128 G129 (g := (mkF m 132 #[.val (.ref a0), .val (.int p1), .val (.long q2), .second, .val (.int ff)] [(.ref a0)])) rfl rfl (hb hby d8_132)
  refine OGo.st st130 ?_
  show OGo p.tables e below _ (T130.setTop (mkF m 135 #[.val (.ref a0), .val (.int p1), .val (.long q2), .second, .val (.int ff)] [(.ref b1)]))
  refine OGo.st (fun t k => XS.aloadN X130.here hx rfl (hb hby d8_135) rfl rfl k) ?_
  show OGo p.tables e below _ (T130.setTop (mkF m 136 #[.val (.ref a0), .val (.int p1), .val (.long q2), .second, .val (.int ff)] [(.ref a0), (.ref b1)]))
  have G131 : Fld Z h128 a0 "com/example/pathsieve/pathsieve/engine/Messages" "place" "I" (.int (ff <<< ((9 : Int32) &&& 31))) := (Fld.other W128 Fw122 (Or.inr (slot_ne (Or.inl (hw _ (List.mem_of_getElem? (i := 80) rfl))) (Or.inl (hw _ (List.mem_of_getElem? (i := 82) rfl))) (by decide) (t := .int) (t' := .int) (by decide) (by decide))))
  obtain ⟨T132, X132, e132, st132⟩ := getF X130 hx hZ hown (host := "") (Or.inl (hw _ (List.mem_of_getElem? (i := 79) rfl))) Via.refl e130 G131 (g := (mkF m 136 #[.val (.ref a0), .val (.int p1), .val (.long q2), .second, .val (.int ff)] [(.ref a0), (.ref b1)])) rfl rfl (hb hby d8_136)
  refine OGo.st st132 ?_
  show OGo p.tables e below _ (T132.setTop (mkF m 139 #[.val (.ref a0), .val (.int p1), .val (.long q2), .second, .val (.int ff)] [(.int (ff <<< ((9 : Int32) &&& 31))), (.ref b1)]))
  refine OGo.st (fun t k => XS.iloadN X132.here hx rfl (hb hby d8_139) rfl k) ?_
  show OGo p.tables e below _ (T132.setTop (mkF m 140 #[.val (.ref a0), .val (.int p1), .val (.long q2), .second, .val (.int ff)] [(.int p1), (.int (ff <<< ((9 : Int32) &&& 31))), (.ref b1)]))
  have G133 : Arh Z h128 b1 k1 .int (2048 : Int32) gs [] (.int (0 : Int32)) := (((((V1.other W109 (Ne.symm n_ob_b1)).other W114 (Ne.symm n_a0_b1)).other W117 (Ne.symm n_a0_b1)).other W122 (Ne.symm n_a0_b1)).other W128 (Ne.symm n_a0_b1))
  obtain ⟨cl134, Ar134, qc134, Sz134, Nz134, Hs134, Gs134⟩ := G133
  have hin134 : ¬ ((ff <<< ((9 : Int32) &&& 31)) < 0 ∨ cl134.slots.size ≤ ((ff <<< ((9 : Int32) &&& 31))).toNatClampNeg) := inb_of Sz134 hz
  obtain ⟨T135, h135, X135, e135, W135, st135⟩ := stI X132 hx hZ e132 Ar134 (j := (ff <<< ((9 : Int32) &&& 31))) hin134 (g := (mkF m 140 #[.val (.ref a0), .val (.int p1), .val (.long q2), .second, .val (.int ff)] [(.int p1), (.int (ff <<< ((9 : Int32) &&& 31))), (.ref b1)])) rfl rfl (hb hby d8_140)
  refine OGo.st st135 ?_
  have N135 := Fr.snoc X135 N128 g_b1
  have V135 : Arh Z h135 b1 k1 .int (2048 : Int32) (((ff <<< ((9 : Int32) &&& 31)), (.int p1)) :: gs) [] (.int (0 : Int32)) := Arh.push Ar134 qc134 Sz134 Nz134 Hs134 Gs134 rfl W135 hin134
  show OGo p.tables e below _ (T135.setTop (mkF m 141 #[.val (.ref a0), .val (.int p1), .val (.long q2), .second, .val (.int ff)] []))
  refine OGo.st (fun t k => XS.aloadN X135.here hx rfl (hb hby d8_141) rfl rfl k) ?_
  show OGo p.tables e below _ (T135.setTop (mkF m 142 #[.val (.ref a0), .val (.int p1), .val (.long q2), .second, .val (.int ff)] [(.ref a0)]))
  have G136 : Fld Z h135 a0 "com/example/pathsieve/pathsieve/engine/Messages" "distances" "[J" (.ref b2) := (Fld.other W135 (Fld.other W128 (Fld.other W122 (Fld.other W117 (Fld.other W114 (Fld.other W109 F_distances (Or.inl n_a0_ob)) (Or.inr (slot_ne (Or.inl (hw _ (List.mem_of_getElem? (i := 61) rfl))) (Or.inl (hw _ (List.mem_of_getElem? (i := 45) rfl))) (by decide) (t := (.array .long)) (t' := .int) (by decide) (by decide)))) (Or.inr (slot_ne (Or.inl (hw _ (List.mem_of_getElem? (i := 61) rfl))) (Or.inl (hw _ (List.mem_of_getElem? (i := 47) rfl))) (by decide) (t := (.array .long)) (t' := .int) (by decide) (by decide)))) (Or.inr (slot_ne (Or.inl (hw _ (List.mem_of_getElem? (i := 61) rfl))) (Or.inl (hw _ (List.mem_of_getElem? (i := 80) rfl))) (by decide) (t := (.array .long)) (t' := .int) (by decide) (by decide)))) (Or.inr (slot_ne (Or.inl (hw _ (List.mem_of_getElem? (i := 61) rfl))) (Or.inl (hw _ (List.mem_of_getElem? (i := 82) rfl))) (by decide) (t := (.array .long)) (t' := .int) (by decide) (by decide)))) (Or.inl n_a0_b1))
  obtain ⟨T137, X137, e137, st137⟩ := getF X135 hx hZ hown (host := "") (Or.inl (hw _ (List.mem_of_getElem? (i := 60) rfl))) Via.refl e135 G136 (g := (mkF m 142 #[.val (.ref a0), .val (.int p1), .val (.long q2), .second, .val (.int ff)] [(.ref a0)])) rfl rfl (hb hby d8_142)
  refine OGo.st st137 ?_
  show OGo p.tables e below _ (T137.setTop (mkF m 145 #[.val (.ref a0), .val (.int p1), .val (.long q2), .second, .val (.int ff)] [(.ref b2)]))
  refine OGo.st (fun t k => XS.aloadN X137.here hx rfl (hb hby d8_145) rfl rfl k) ?_
  show OGo p.tables e below _ (T137.setTop (mkF m 146 #[.val (.ref a0), .val (.int p1), .val (.long q2), .second, .val (.int ff)] [(.ref a0), (.ref b2)]))
  have G138 : Fld Z h135 a0 "com/example/pathsieve/pathsieve/engine/Messages" "place" "I" (.int (ff <<< ((9 : Int32) &&& 31))) := (Fld.other W135 G131 (Or.inl n_a0_b1))
  obtain ⟨T139, X139, e139, st139⟩ := getF X137 hx hZ hown (host := "") (Or.inl (hw _ (List.mem_of_getElem? (i := 79) rfl))) Via.refl e137 G138 (g := (mkF m 146 #[.val (.ref a0), .val (.int p1), .val (.long q2), .second, .val (.int ff)] [(.ref a0), (.ref b2)])) rfl rfl (hb hby d8_146)
  refine OGo.st st139 ?_
  show OGo p.tables e below _ (T139.setTop (mkF m 149 #[.val (.ref a0), .val (.int p1), .val (.long q2), .second, .val (.int ff)] [(.int (ff <<< ((9 : Int32) &&& 31))), (.ref b2)]))
  refine OGo.st (fun t k => XS.lloadN X139.here hx rfl (hb hby d8_149) rfl k) ?_
  show OGo p.tables e below _ (T139.setTop (mkF m 150 #[.val (.ref a0), .val (.int p1), .val (.long q2), .second, .val (.int ff)] [(.long q2), (.int (ff <<< ((9 : Int32) &&& 31))), (.ref b2)]))
  have G140 : Arh Z h135 b2 k2 .long (2048 : Int32) ds [] (.long (0 : Int64)) := ((((((V2.other W109 (Ne.symm n_ob_b2)).other W114 (Ne.symm n_a0_b2)).other W117 (Ne.symm n_a0_b2)).other W122 (Ne.symm n_a0_b2)).other W128 (Ne.symm n_a0_b2)).other W135 (Ne.symm n_b1_b2))
  obtain ⟨cl141, Ar141, qc141, Sz141, Nz141, Hs141, Gs141⟩ := G140
  have hin141 : ¬ ((ff <<< ((9 : Int32) &&& 31)) < 0 ∨ cl141.slots.size ≤ ((ff <<< ((9 : Int32) &&& 31))).toNatClampNeg) := inb_of Sz141 hz
  obtain ⟨T142, h142, X142, e142, W142, st142⟩ := stJ X139 hx hZ e139 Ar141 (j := (ff <<< ((9 : Int32) &&& 31))) hin141 (g := (mkF m 150 #[.val (.ref a0), .val (.int p1), .val (.long q2), .second, .val (.int ff)] [(.long q2), (.int (ff <<< ((9 : Int32) &&& 31))), (.ref b2)])) rfl rfl (hb hby d8_150)
  refine OGo.st st142 ?_
  have N142 := Fr.snoc X142 N135 g_b2
  have V142 : Arh Z h142 b2 k2 .long (2048 : Int32) (((ff <<< ((9 : Int32) &&& 31)), (.long q2)) :: ds) [] (.long (0 : Int64)) := Arh.push Ar141 qc141 Sz141 Nz141 Hs141 Gs141 rfl W142 hin141
  show OGo p.tables e below _ (T142.setTop (mkF m 151 #[.val (.ref a0), .val (.int p1), .val (.long q2), .second, .val (.int ff)] []))
  refine OGo.st (fun t k => XS.aloadN X142.here hx rfl (hb hby d8_151) rfl rfl k) ?_
  show OGo p.tables e below _ (T142.setTop (mkF m 152 #[.val (.ref a0), .val (.int p1), .val (.long q2), .second, .val (.int ff)] [(.ref a0)]))
  refine OGo.st (fun t k => XS.dup X142.here hx rfl (hb hby d8_152) rfl rfl k) ?_
  show OGo p.tables e below _ (T142.setTop (mkF m 153 #[.val (.ref a0), .val (.int p1), .val (.long q2), .second, .val (.int ff)] [(.ref a0), (.ref a0)]))
  have G143 : Fld Z h142 a0 "com/example/pathsieve/pathsieve/engine/Messages" "place" "I" (.int (ff <<< ((9 : Int32) &&& 31))) := (Fld.other W142 G138 (Or.inl n_a0_b2))
  obtain ⟨T144, X144, e144, st144⟩ := getF X142 hx hZ hown (host := "") (Or.inl (hw _ (List.mem_of_getElem? (i := 79) rfl))) Via.refl e142 G143 (g := (mkF m 153 #[.val (.ref a0), .val (.int p1), .val (.long q2), .second, .val (.int ff)] [(.ref a0), (.ref a0)])) rfl rfl (hb hby d8_153)
  refine OGo.st st144 ?_
  show OGo p.tables e below _ (T144.setTop (mkF m 156 #[.val (.ref a0), .val (.int p1), .val (.long q2), .second, .val (.int ff)] [(.int (ff <<< ((9 : Int32) &&& 31))), (.ref a0)]))
  refine OGo.st (fun t k => XS.iconst X144.here hx rfl (hb hby d8_156) k) ?_
  show OGo p.tables e below _ (T144.setTop (mkF m 157 #[.val (.ref a0), .val (.int p1), .val (.long q2), .second, .val (.int ff)] [(.int (1 : Int32)), (.int (ff <<< ((9 : Int32) &&& 31))), (.ref a0)]))
  refine OGo.st (fun t k => XS.iadd X144.here hx rfl (hb hby d8_157) rfl k) ?_
  show OGo p.tables e below _ (T144.setTop (mkF m 158 #[.val (.ref a0), .val (.int p1), .val (.long q2), .second, .val (.int ff)] [(.int ((ff <<< ((9 : Int32) &&& 31)) + (1 : Int32))), (.ref a0)]))
  have G145 : Exa Z h142 a0 "com/example/pathsieve/pathsieve/engine/Messages" := (Exa.wr W142 (Exa.wr W135 (Exa.wr W128 G126)))
  obtain ⟨T146, h146, X146, e146, W146, st146⟩ := putF X144 hx hZ hown (host := "") (Or.inl (hw _ (List.mem_of_getElem? (i := 79) rfl))) Via.refl e144 G143 G145 (Or.inl (hw _ (List.mem_of_getElem? (i := 80) rfl))) (hw _ (List.mem_of_getElem? (i := 38) rfl)) (ty := .int) (by decide) rfl rfl (g := (mkF m 158 #[.val (.ref a0), .val (.int p1), .val (.long q2), .second, .val (.int ff)] [(.int ((ff <<< ((9 : Int32) &&& 31)) + (1 : Int32))), (.ref a0)])) rfl rfl (hb hby d8_158)
  refine OGo.st st146 ?_
  have Fw146 : Fld Z h146 a0 "com/example/pathsieve/pathsieve/engine/Messages" "place" "I" (.int ((ff <<< ((9 : Int32) &&& 31)) + (1 : Int32))) := Fld.same W146 G143
  have N146 := Fr.snoc X146 N142 g_a0
  show OGo p.tables e below _ (T146.setTop (mkF m 161 #[.val (.ref a0), .val (.int p1), .val (.long q2), .second, .val (.int ff)] []))
  obtain ⟨fs, hr, hrun, hended, hW, hsame⟩ := X146.leave (v := none) (fun _ => rfl)
  have G148 : Fld Z h146 a0 "com/example/pathsieve/pathsieve/engine/Messages" "heads" "[I" (.ref b1) := (Fld.other W146 (Fld.other W142 (Fld.other W135 G129 (Or.inl n_a0_b1)) (Or.inl n_a0_b2)) (Or.inr (slot_ne (Or.inl (hw _ (List.mem_of_getElem? (i := 59) rfl))) (Or.inl (hw _ (List.mem_of_getElem? (i := 80) rfl))) (by decide) (t := (.array .int)) (t' := .int) (by decide) (by decide))))
  have G149 : Fld Z h146 a0 "com/example/pathsieve/pathsieve/engine/Messages" "distances" "[J" (.ref b2) := (Fld.other W146 (Fld.other W142 G136 (Or.inl n_a0_b2)) (Or.inr (slot_ne (Or.inl (hw _ (List.mem_of_getElem? (i := 61) rfl))) (Or.inl (hw _ (List.mem_of_getElem? (i := 80) rfl))) (by decide) (t := (.array .long)) (t' := .int) (by decide) (by decide))))
  have G150 : Fld Z h146 a0 "com/example/pathsieve/pathsieve/engine/Messages" "tags" "[I" (.ref b3) := (Fld.other W146 (Fld.other W142 (Fld.other W135 (Fld.other W128 (Fld.other W122 (Fld.other W117 (Fld.other W114 (Fld.other W109 F_tags (Or.inl n_a0_ob)) (Or.inr (slot_ne (Or.inl (hw _ (List.mem_of_getElem? (i := 63) rfl))) (Or.inl (hw _ (List.mem_of_getElem? (i := 45) rfl))) (by decide) (t := (.array .int)) (t' := .int) (by decide) (by decide)))) (Or.inr (slot_ne (Or.inl (hw _ (List.mem_of_getElem? (i := 63) rfl))) (Or.inl (hw _ (List.mem_of_getElem? (i := 47) rfl))) (by decide) (t := (.array .int)) (t' := .int) (by decide) (by decide)))) (Or.inr (slot_ne (Or.inl (hw _ (List.mem_of_getElem? (i := 63) rfl))) (Or.inl (hw _ (List.mem_of_getElem? (i := 80) rfl))) (by decide) (t := (.array .int)) (t' := .int) (by decide) (by decide)))) (Or.inr (slot_ne (Or.inl (hw _ (List.mem_of_getElem? (i := 63) rfl))) (Or.inl (hw _ (List.mem_of_getElem? (i := 82) rfl))) (by decide) (t := (.array .int)) (t' := .int) (by decide) (by decide)))) (Or.inl n_a0_b1)) (Or.inl n_a0_b2)) (Or.inr (slot_ne (Or.inl (hw _ (List.mem_of_getElem? (i := 63) rfl))) (Or.inl (hw _ (List.mem_of_getElem? (i := 80) rfl))) (by decide) (t := (.array .int)) (t' := .int) (by decide) (by decide))))
  have G151 : Fld Z h146 a0 "com/example/pathsieve/pathsieve/engine/Messages" "before" "I" (.int (0 : Int32)) := (Fld.other W146 (Fld.other W142 (Fld.other W135 (Fld.other W128 (Fld.other W122 (Fld.other W117 (Fld.other W114 (Fld.other W109 F_before (Or.inl n_a0_ob)) (Or.inr (slot_ne (Or.inl (hw _ (List.mem_of_getElem? (i := 92) rfl))) (Or.inl (hw _ (List.mem_of_getElem? (i := 45) rfl))) (by decide) (t := .int) (t' := .int) (by decide) (by decide)))) (Or.inr (slot_ne (Or.inl (hw _ (List.mem_of_getElem? (i := 92) rfl))) (Or.inl (hw _ (List.mem_of_getElem? (i := 47) rfl))) (by decide) (t := .int) (t' := .int) (by decide) (by decide)))) (Or.inr (slot_ne (Or.inl (hw _ (List.mem_of_getElem? (i := 92) rfl))) (Or.inl (hw _ (List.mem_of_getElem? (i := 80) rfl))) (by decide) (t := .int) (t' := .int) (by decide) (by decide)))) (Or.inr (slot_ne (Or.inl (hw _ (List.mem_of_getElem? (i := 92) rfl))) (Or.inl (hw _ (List.mem_of_getElem? (i := 82) rfl))) (by decide) (t := .int) (t' := .int) (by decide) (by decide)))) (Or.inl n_a0_b1)) (Or.inl n_a0_b2)) (Or.inr (slot_ne (Or.inl (hw _ (List.mem_of_getElem? (i := 92) rfl))) (Or.inl (hw _ (List.mem_of_getElem? (i := 80) rfl))) (by decide) (t := .int) (t' := .int) (by decide) (by decide))))
  have G152 : Fld Z h146 a0 "com/example/pathsieve/pathsieve/engine/Messages" "blockBits" "I" (.int (9 : Int32)) := (Fld.other W146 (Fld.other W142 (Fld.other W135 (Fld.other W128 G124 (Or.inr (slot_ne (Or.inr (hw _ (List.mem_of_getElem? (i := 52) rfl))) (Or.inl (hw _ (List.mem_of_getElem? (i := 82) rfl))) (by decide) (t := .int) (t' := .int) (by decide) (by decide)))) (Or.inl n_a0_b1)) (Or.inl n_a0_b2)) (Or.inr (slot_ne (Or.inr (hw _ (List.mem_of_getElem? (i := 52) rfl))) (Or.inl (hw _ (List.mem_of_getElem? (i := 80) rfl))) (by decide) (t := .int) (t' := .int) (by decide) (by decide))))
  have G153 : Fld Z h146 a0 "com/example/pathsieve/pathsieve/engine/Messages" "end" "I" (.int ((ff <<< ((9 : Int32) &&& 31)) + ((1 : Int32) <<< ((9 : Int32) &&& 31)))) := (Fld.other W146 (Fld.other W142 (Fld.other W135 Fw128 (Or.inl n_a0_b1)) (Or.inl n_a0_b2)) (Or.inr (slot_ne (Or.inl (hw _ (List.mem_of_getElem? (i := 82) rfl))) (Or.inl (hw _ (List.mem_of_getElem? (i := 80) rfl))) (by decide) (t := .int) (t' := .int) (by decide) (by decide))))
  have G154 : Fld Z h146 a0 "com/example/pathsieve/pathsieve/engine/Messages" "last" "I" (.int ff) := (Fld.other W146 (Fld.other W142 (Fld.other W135 (Fld.other W128 (Fld.other W122 Fw117 (Or.inr (slot_ne (Or.inl (hw _ (List.mem_of_getElem? (i := 47) rfl))) (Or.inl (hw _ (List.mem_of_getElem? (i := 80) rfl))) (by decide) (t := .int) (t' := .int) (by decide) (by decide)))) (Or.inr (slot_ne (Or.inl (hw _ (List.mem_of_getElem? (i := 47) rfl))) (Or.inl (hw _ (List.mem_of_getElem? (i := 82) rfl))) (by decide) (t := .int) (t' := .int) (by decide) (by decide)))) (Or.inl n_a0_b1)) (Or.inl n_a0_b2)) (Or.inr (slot_ne (Or.inl (hw _ (List.mem_of_getElem? (i := 47) rfl))) (Or.inl (hw _ (List.mem_of_getElem? (i := 80) rfl))) (by decide) (t := .int) (t' := .int) (by decide) (by decide))))
  have G155 : Arh Z h146 b1 k1 .int (2048 : Int32) (((ff <<< ((9 : Int32) &&& 31)), (.int p1)) :: gs) [] (.int (0 : Int32)) := ((V135.other W142 n_b1_b2).other W146 (Ne.symm n_a0_b1))
  have G156 : Arh Z h146 b2 k2 .long (2048 : Int32) (((ff <<< ((9 : Int32) &&& 31)), (.long q2)) :: ds) [] (.long (0 : Int64)) := (V142.other W146 (Ne.symm n_a0_b2))
  refine OGo.done (X146.returnOut hx Bd.returns (hb hby d8_161) hr) ⟨hrun, hended, _, _, rfl, ?_, ⟨_, rfl⟩, hW, hsame.mono (by decide) (by decide)⟩
  show Q8 Z a0 p1 q2 ob ff bn kn b1 k1 gs b2 k2 ds b3 h0 n0 _ T146.heap _
  rw [e146]
  exact ⟨rfl, N146, (((((((((Keep.refl h0 [a0, ob, b1, b2]).wr W109 (Or.inl (List.mem_of_getElem? (i := 1) rfl))).wr W114 (Or.inl (List.mem_of_getElem? (i := 0) rfl))).wr W117 (Or.inl (List.mem_of_getElem? (i := 0) rfl))).wr W122 (Or.inl (List.mem_of_getElem? (i := 0) rfl))).wr W128 (Or.inl (List.mem_of_getElem? (i := 0) rfl))).wr W135 (Or.inl (List.mem_of_getElem? (i := 2) rfl))).wr W142 (Or.inl (List.mem_of_getElem? (i := 3) rfl))).wr W146 (Or.inl (List.mem_of_getElem? (i := 0) rfl))), G148, G149, G150, G151, G152, Fw146, G153, G154, G155, G156⟩
theorem pd_2 : parseMethodDescriptor "(IJ)V" = some ⟨[.int, .long], none⟩ := by decide +kernel
theorem d9_0 : decode prog_16_method_3_code 0 = .ok (.aload_n 0, 1) := by decide +kernel
theorem d9_1 : decode prog_16_method_3_code 1 = .ok (.iload_n 1, 1) := by decide +kernel
theorem d9_2 : decode prog_16_method_3_code 2 = .ok (.lload_n 2, 1) := by decide +kernel
theorem d9_3 : decode prog_16_method_3_code 3 = .ok (.invokevirtual 56, 3) := by decide +kernel
theorem d9_6 : decode prog_16_method_3_code 6 = .ok (.aload_n 0, 1) := by decide +kernel
theorem d9_7 : decode prog_16_method_3_code 7 = .ok (.getfield 60, 3) := by decide +kernel
theorem d9_10 : decode prog_16_method_3_code 10 = .ok (.aload_n 0, 1) := by decide +kernel
theorem d9_11 : decode prog_16_method_3_code 11 = .ok (.getfield 26, 3) := by decide +kernel
theorem d9_14 : decode prog_16_method_3_code 14 = .ok (.iconst 1, 1) := by decide +kernel
theorem d9_15 : decode prog_16_method_3_code 15 = .ok (.isub, 1) := by decide +kernel
theorem d9_16 : decode prog_16_method_3_code 16 = .ok (.iload 4, 2) := by decide +kernel
theorem d9_18 : decode prog_16_method_3_code 18 = .ok (.iastore, 1) := by decide +kernel
theorem d9_19 : decode prog_16_method_3_code 19 = .ok (.return_, 1) := by decide +kernel
theorem ef_9 (m : MethodId) (x0 : Addr) (x1 : Int32) (x2 : Int64) (x3 : Int32) : entryFrame m #[(.ref x0), (.int x1), (.long x2), (.int x3)] 5 = mkF m 0 #[.val (.ref x0), .val (.int x1), .val (.long x2), .second, .val (.int x3)] [] := by first | (simp [entryFrame, mkF, argsToLocals, Value.category]; done) | rfl
def Q9 (Z : State) (a0 : Addr) (p1 : Int32) (q2 : Int64) (p3 : Int32) (ob : Addr) (ff : Int32) (bn : Addr) (kn : ClassId) (b1 : Addr) (k1 : ClassId) (gs : List (Int32 × Value)) (b2 : Addr) (k2 : ClassId) (ds : List (Int32 × Value)) (b3 : Addr) (k3 : ClassId) (ts : List (Int32 × Value)) (h0 : Heap) (n0 : Nat) (v : Option Value) (h : Heap) (L : List Loc) : Prop := v = none ∧ Fr n0 L ∧ Keep h0 h [a0, ob, b1, b2, b3] ∧ (Fld Z h a0 "com/example/pathsieve/pathsieve/engine/Messages" "heads" "[I" (.ref b1)) ∧ (Fld Z h a0 "com/example/pathsieve/pathsieve/engine/Messages" "distances" "[J" (.ref b2)) ∧ (Fld Z h a0 "com/example/pathsieve/pathsieve/engine/Messages" "tags" "[I" (.ref b3)) ∧ (Fld Z h a0 "com/example/pathsieve/pathsieve/engine/Messages" "before" "I" (.int (0 : Int32))) ∧ (Fld Z h a0 "com/example/pathsieve/pathsieve/engine/Messages" "blockBits" "I" (.int (9 : Int32))) ∧ (Fld Z h a0 "com/example/pathsieve/pathsieve/engine/Messages" "place" "I" (.int ((ff <<< ((9 : Int32) &&& 31)) + (1 : Int32)))) ∧ (Fld Z h a0 "com/example/pathsieve/pathsieve/engine/Messages" "end" "I" (.int ((ff <<< ((9 : Int32) &&& 31)) + ((1 : Int32) <<< ((9 : Int32) &&& 31))))) ∧ (Fld Z h a0 "com/example/pathsieve/pathsieve/engine/Messages" "last" "I" (.int ff)) ∧ (Arh Z h b1 k1 .int (2048 : Int32) (((ff <<< ((9 : Int32) &&& 31)), (.int p1)) :: gs) [] (.int (0 : Int32))) ∧ (Arh Z h b2 k2 .long (2048 : Int32) (((ff <<< ((9 : Int32) &&& 31)), (.long q2)) :: ds) [] (.long (0 : Int64))) ∧ (Arh Z h b3 k3 .int (2048 : Int32) (((((ff <<< ((9 : Int32) &&& 31)) + (1 : Int32)) - (1 : Int32)), (.int p3)) :: ts) [] (.int (0 : Int32)))
set_option maxRecDepth 65536 in
set_option maxHeartbeats 40000000 in
theorem rm9 (l : Launch) (Z : State) (ar : Array Value) (hw : ∀ d ∈ tables_1, d.before ar Z = true) (ws : List Jvm.Cond) (a0 : Addr) (p1 : Int32) (q2 : Int64) (p3 : Int32) (ob : Addr) (ff : Int32) (bn : Addr) (kn : ClassId) (b1 : Addr) (k1 : ClassId) (gs : List (Int32 × Value)) (b2 : Addr) (k2 : ClassId) (ds : List (Int32 × Value)) (b3 : Addr) (k3 : ClassId) (ts : List (Int32 × Value)) (h0 : Heap) (n0 : Nat) (Z0 : n0 ≤ h0.size) (F_out : Fld Z h0 a0 "com/example/pathsieve/pathsieve/engine/Messages" "outbox" "Lcom/example/pathsieve/pathsieve/engine/Outbox;" (.ref ob)) (F_taken : Fld Z h0 ob "com/example/pathsieve/pathsieve/engine/Outbox" "taken" "I" (.int ff)) (F_nb : Fld Z h0 ob "com/example/pathsieve/pathsieve/engine/Outbox" "nextBlocks" "[I" (.ref bn)) (VN : Arv Z h0 bn kn .int (4 : Int32) [(.int (0 : Int32)), (.int (0 : Int32)), (.int (0 : Int32)), (.int (0 : Int32))] (.int (0 : Int32))) (EO : Exa Z h0 ob "com/example/pathsieve/pathsieve/engine/Outbox") (EM : Exa Z h0 a0 "com/example/pathsieve/pathsieve/engine/Messages") (F_place : Fld Z h0 a0 "com/example/pathsieve/pathsieve/engine/Messages" "place" "I" (.int (0 : Int32))) (F_end : Fld Z h0 a0 "com/example/pathsieve/pathsieve/engine/Messages" "end" "I" (.int (0 : Int32))) (F_last : Fld Z h0 a0 "com/example/pathsieve/pathsieve/engine/Messages" "last" "I" (.int (-1 : Int32))) (F_first : Fld Z h0 a0 "com/example/pathsieve/pathsieve/engine/Messages" "first" "I" (.int (-1 : Int32))) (F_heads : Fld Z h0 a0 "com/example/pathsieve/pathsieve/engine/Messages" "heads" "[I" (.ref b1)) (F_distances : Fld Z h0 a0 "com/example/pathsieve/pathsieve/engine/Messages" "distances" "[J" (.ref b2)) (F_tags : Fld Z h0 a0 "com/example/pathsieve/pathsieve/engine/Messages" "tags" "[I" (.ref b3)) (F_before : Fld Z h0 a0 "com/example/pathsieve/pathsieve/engine/Messages" "before" "I" (.int (0 : Int32))) (F_bb : Fld Z h0 a0 "com/example/pathsieve/pathsieve/engine/Messages" "blockBits" "I" (.int (9 : Int32))) (V1 : Arh Z h0 b1 k1 .int (2048 : Int32) gs [] (.int (0 : Int32))) (V2 : Arh Z h0 b2 k2 .long (2048 : Int32) ds [] (.long (0 : Int64))) (V3 : Arh Z h0 b3 k3 .int (2048 : Int32) ts [] (.int (0 : Int32))) (n_a0_ob : a0 ≠ ob) (n_a0_b1 : a0 ≠ b1) (n_a0_b2 : a0 ≠ b2) (n_a0_b3 : a0 ≠ b3) (n_ob_b1 : ob ≠ b1) (n_ob_b2 : ob ≠ b2) (n_ob_b3 : ob ≠ b3) (n_b1_b2 : b1 ≠ b2) (n_b1_b3 : b1 ≠ b3) (n_b2_b3 : b2 ≠ b3) (g_a0 : n0 ≤ a0) (g_ob : n0 ≤ ob) (g_b1 : n0 ≤ b1) (g_b2 : n0 ≤ b2) (g_b3 : n0 ≤ b3) (hff : ¬ ff = (4 : Int32)) (hz : ¬ (ff <<< ((9 : Int32) &&& 31)) < 0 ∧ (ff <<< ((9 : Int32) &&& 31)) < 2048) (hz2 : ¬ (((ff <<< ((9 : Int32) &&& 31)) + (1 : Int32)) - (1 : Int32)) < 0 ∧ (((ff <<< ((9 : Int32) &&& 31)) + (1 : Int32)) - (1 : Int32)) < 2048) :
    MetFree l (⟨"com/example/pathsieve/pathsieve/engine/Messages", "add", "(IJI)V"⟩ : MethodName) (head1 (Jvm.Cond.code (⟨"com/example/pathsieve/pathsieve/engine/Messages", "add", "(IJI)V"⟩ : MethodName) prog_16_method_3_code 5 none :: ws) ({ frames := 1, cells := 0, slots := 0, locals := 16 } : Room)) (fun a U => a = #[(.ref a0), (.int p1), (.long q2), (.int p3)] ∧ Z.Warmed39 U.vm ∧ U.heap = h0) (fun _ _ _ _ _ => True) (fun _ U o U' => ∃ v L, o = .returned v ∧ Q9 Z a0 p1 q2 p3 ob ff bn kn b1 k1 gs b2 k2 ds b3 k3 ts h0 n0 v U'.heap L ∧ FrameEnd U o U' L ({ frames := 1, cells := 0, slots := 0, locals := 16 } : Room).cells ({ frames := 1, cells := 0, slots := 0, locals := 16 } : Room).slots) := by
  refine MetFree.of_bodySF (plainFor_of_name pn_2) hisR ?_
  intro p e s m args below meth c s₁ Bd hml0 hP hK
  obtain ⟨rfl, hZ, hh⟩ := hP
  have hx := Bd.exec
  have hby := Bd.bytes
  have hml : c.maxLocals = 5 := hml0
  have hown : s.vm.findClass "com/example/pathsieve/pathsieve/engine/Messages" = some m.cls := findClass_of_methodNamed Bd.named
  have hnm := (name_of_methodNamed Bd.named Bd.method).1
  have X0 : Stand p l e ({ frames := 1, cells := 0, slots := 0, locals := 16 } : Room) s m #[(.ref a0), (.int p1), (.long q2), (.int p3)] below meth c s₁ [] 0 0 := Stand.of_body Bd
  have e0 : s₁.heap = h0 := by rw [← hh, Bd.state]; rfl
  have N0 := Fr.nil n0
  have pre0 : ∀ t, Steps p.tables e below (s₁.setTop (mkF m 0 #[.val (.ref a0), .val (.int p1), .val (.long q2), .second, .val (.int p3)] [])) t → Steps p.tables e below (s₁.setTop (entryFrame m #[(.ref a0), (.int p1), (.long q2), (.int p3)] 5)) t := fun t k => castTop (ef_9 m a0 p1 q2 p3) k
  refine OGo.start pre0 ?_
  show OGo p.tables e below _ (s₁.setTop (mkF m 0 #[.val (.ref a0), .val (.int p1), .val (.long q2), .second, .val (.int p3)] []))
  refine OGo.st (fun t k => XS.aloadN X0.here hx rfl (hb hby d9_0) rfl rfl k) ?_
  show OGo p.tables e below _ (s₁.setTop (mkF m 1 #[.val (.ref a0), .val (.int p1), .val (.long q2), .second, .val (.int p3)] [(.ref a0)]))
  refine OGo.st (fun t k => XS.iloadN X0.here hx rfl (hb hby d9_1) rfl k) ?_
  show OGo p.tables e below _ (s₁.setTop (mkF m 2 #[.val (.ref a0), .val (.int p1), .val (.long q2), .second, .val (.int p3)] [(.int p1), (.ref a0)]))
  refine OGo.st (fun t k => XS.lloadN X0.here hx rfl (hb hby d9_2) rfl k) ?_
  show OGo p.tables e below _ (s₁.setTop (mkF m 3 #[.val (.ref a0), .val (.int p1), .val (.long q2), .second, .val (.int p3)] [(.long q2), (.int p1), (.ref a0)]))
  obtain ⟨cq101, kq101, q101a, q101b, q101c⟩ := isOf hZ e0 EM
  obtain ⟨_, _, ⟨T101, L101, kk101, nn101⟩, -, X101, ⟨Lc101, hQ101, l101, y101, z101⟩, st101⟩ := X0.virtualBack hx (y := (⟨"com/example/pathsieve/pathsieve/engine/Messages", "add", "(IJ)V"⟩ : MethodName)) (z := (⟨"com/example/pathsieve/pathsieve/engine/Messages", "add", "(IJ)V"⟩ : MethodName)) hown (mvT hZ (hw _ (List.mem_of_getElem? (i := 90) rfl))) (mvT hZ (hw _ (List.mem_of_getElem? (i := 75) rfl))) (notFace_of_selects (args := #[]) (mvT hZ (hw _ (List.mem_of_getElem? (i := 77) rfl)))) (mvT hZ (hw _ (List.mem_of_getElem? (i := 77) rfl))) (mvT hZ (hw _ (List.mem_of_getElem? (i := 76) rfl))) (by decide) (backOf (W := 0) (rm8 l Z ar hw [] a0 p1 q2 ob ff bn kn b1 k1 gs b2 k2 ds b3 h0 n0 Z0 F_out F_taken F_nb VN EO EM F_place F_end F_last F_first F_heads F_distances F_tags F_before F_bb V1 V2 n_a0_ob n_a0_b1 n_a0_b2 n_ob_b1 n_ob_b2 n_b1_b2 g_a0 g_ob g_b1 g_b2 hff hz) hZ (hw _ (List.mem_of_getElem? (i := 78) rfl)) (hw _ (List.mem_of_getElem? (i := 39) rfl)) (by decide) (by decide)) q101a q101c (g := (mkF m 3 #[.val (.ref a0), .val (.int p1), .val (.long q2), .second, .val (.int p3)] [(.long q2), (.int p1), (.ref a0)])) rfl (by rw [hml]; rfl) (Steps.refl _) (argsL := [(.int p1), (.long q2)]) (rest := []) (lenOf pd_2 rfl) rfl (by show 2 * 0 + _ ≤ _; exact Nat.le_of_eq rfl) (hb hby d9_3) (fun _ _ => ⟨rfl, e0, (by decide : 0 + 0 ≤ _), (by decide : 0 + 0 ≤ _)⟩)
  dsimp only [Pt.U, Pt.locs, Pt.cells, Pt.slots] at X101 l101 y101 z101 st101 hQ101
  subst l101 y101 z101
  obtain ⟨rfl, Nq101, K101, P101_0, P101_1, P101_2, P101_3, P101_4, P101_5, P101_6, P101_7, P101_8, P101_9⟩ := hQ101
  have N101 := Fr.app N0 Nq101
  refine OGo.st (fun t k => st101.trans k) ?_
  show OGo p.tables e below _ (T101.setTop (mkF m 6 #[.val (.ref a0), .val (.int p1), .val (.long q2), .second, .val (.int p3)] []))
  refine OGo.st (fun t k => XS.aloadN X101.here hx rfl (hb hby d9_6) rfl rfl k) ?_
  show OGo p.tables e below _ (T101.setTop (mkF m 7 #[.val (.ref a0), .val (.int p1), .val (.long q2), .second, .val (.int p3)] [(.ref a0)]))
  obtain ⟨T102, X102, e102, st102⟩ := getF X101 hx hZ hown (host := "") (Or.inl (hw _ (List.mem_of_getElem? (i := 62) rfl))) Via.refl rfl P101_2 (g := (mkF m 7 #[.val (.ref a0), .val (.int p1), .val (.long q2), .second, .val (.int p3)] [(.ref a0)])) rfl rfl (hb hby d9_7)
  refine OGo.st st102 ?_
  show OGo p.tables e below _ (T102.setTop (mkF m 10 #[.val (.ref a0), .val (.int p1), .val (.long q2), .second, .val (.int p3)] [(.ref b3)]))
  refine OGo.st (fun t k => XS.aloadN X102.here hx rfl (hb hby d9_10) rfl rfl k) ?_
  show OGo p.tables e below _ (T102.setTop (mkF m 11 #[.val (.ref a0), .val (.int p1), .val (.long q2), .second, .val (.int p3)] [(.ref a0), (.ref b3)]))
  obtain ⟨T103, X103, e103, st103⟩ := getF X102 hx hZ hown (host := "") (Or.inl (hw _ (List.mem_of_getElem? (i := 79) rfl))) Via.refl e102 P101_5 (g := (mkF m 11 #[.val (.ref a0), .val (.int p1), .val (.long q2), .second, .val (.int p3)] [(.ref a0), (.ref b3)])) rfl rfl (hb hby d9_11)
  refine OGo.st st103 ?_
  show OGo p.tables e below _ (T103.setTop (mkF m 14 #[.val (.ref a0), .val (.int p1), .val (.long q2), .second, .val (.int p3)] [(.int ((ff <<< ((9 : Int32) &&& 31)) + (1 : Int32))), (.ref b3)]))
  refine OGo.st (fun t k => XS.iconst X103.here hx rfl (hb hby d9_14) k) ?_
  show OGo p.tables e below _ (T103.setTop (mkF m 15 #[.val (.ref a0), .val (.int p1), .val (.long q2), .second, .val (.int p3)] [(.int (1 : Int32)), (.int ((ff <<< ((9 : Int32) &&& 31)) + (1 : Int32))), (.ref b3)]))
  refine OGo.st (fun t k => XS.isub X103.here hx rfl (hb hby d9_15) rfl k) ?_
  show OGo p.tables e below _ (T103.setTop (mkF m 16 #[.val (.ref a0), .val (.int p1), .val (.long q2), .second, .val (.int p3)] [(.int (((ff <<< ((9 : Int32) &&& 31)) + (1 : Int32)) - (1 : Int32))), (.ref b3)]))
  refine OGo.st (fun t k => XS.iload X103.here hx rfl (hb hby d9_16) rfl k) ?_
  show OGo p.tables e below _ (T103.setTop (mkF m 18 #[.val (.ref a0), .val (.int p1), .val (.long q2), .second, .val (.int p3)] [(.int p3), (.int (((ff <<< ((9 : Int32) &&& 31)) + (1 : Int32)) - (1 : Int32))), (.ref b3)]))
  have G104 : Arh Z T101.heap b3 k3 .int (2048 : Int32) ts [] (.int (0 : Int32)) := (V3.keep K101 (ninS (Ne.symm n_a0_b3) (ninS (Ne.symm n_ob_b3) (ninS (Ne.symm n_b1_b3) (ninS (Ne.symm n_b2_b3) nin0)))))
  obtain ⟨cl105, Ar105, qc105, Sz105, Nz105, Hs105, Gs105⟩ := G104
  have hin105 : ¬ ((((ff <<< ((9 : Int32) &&& 31)) + (1 : Int32)) - (1 : Int32)) < 0 ∨ cl105.slots.size ≤ ((((ff <<< ((9 : Int32) &&& 31)) + (1 : Int32)) - (1 : Int32))).toNatClampNeg) := inb_of Sz105 hz2
  obtain ⟨T106, h106, X106, e106, W106, st106⟩ := stI X103 hx hZ e103 Ar105 (j := (((ff <<< ((9 : Int32) &&& 31)) + (1 : Int32)) - (1 : Int32))) hin105 (g := (mkF m 18 #[.val (.ref a0), .val (.int p1), .val (.long q2), .second, .val (.int p3)] [(.int p3), (.int (((ff <<< ((9 : Int32) &&& 31)) + (1 : Int32)) - (1 : Int32))), (.ref b3)])) rfl rfl (hb hby d9_18)
  refine OGo.st st106 ?_
  have N106 := Fr.snoc X106 N101 g_b3
  have V106 : Arh Z h106 b3 k3 .int (2048 : Int32) (((((ff <<< ((9 : Int32) &&& 31)) + (1 : Int32)) - (1 : Int32)), (.int p3)) :: ts) [] (.int (0 : Int32)) := Arh.push Ar105 qc105 Sz105 Nz105 Hs105 Gs105 rfl W106 hin105
  show OGo p.tables e below _ (T106.setTop (mkF m 19 #[.val (.ref a0), .val (.int p1), .val (.long q2), .second, .val (.int p3)] []))
  obtain ⟨fs, hr, hrun, hended, hW, hsame⟩ := X106.leave (v := none) (fun _ => rfl)
  have G108 : Fld Z h106 a0 "com/example/pathsieve/pathsieve/engine/Messages" "heads" "[I" (.ref b1) := (Fld.other W106 P101_0 (Or.inl n_a0_b3))
  have G109 : Fld Z h106 a0 "com/example/pathsieve/pathsieve/engine/Messages" "distances" "[J" (.ref b2) := (Fld.other W106 P101_1 (Or.inl n_a0_b3))
  have G110 : Fld Z h106 a0 "com/example/pathsieve/pathsieve/engine/Messages" "tags" "[I" (.ref b3) := (Fld.other W106 P101_2 (Or.inl n_a0_b3))
  have G111 : Fld Z h106 a0 "com/example/pathsieve/pathsieve/engine/Messages" "before" "I" (.int (0 : Int32)) := (Fld.other W106 P101_3 (Or.inl n_a0_b3))
  have G112 : Fld Z h106 a0 "com/example/pathsieve/pathsieve/engine/Messages" "blockBits" "I" (.int (9 : Int32)) := (Fld.other W106 P101_4 (Or.inl n_a0_b3))
  have G113 : Fld Z h106 a0 "com/example/pathsieve/pathsieve/engine/Messages" "place" "I" (.int ((ff <<< ((9 : Int32) &&& 31)) + (1 : Int32))) := (Fld.other W106 P101_5 (Or.inl n_a0_b3))
  have G114 : Fld Z h106 a0 "com/example/pathsieve/pathsieve/engine/Messages" "end" "I" (.int ((ff <<< ((9 : Int32) &&& 31)) + ((1 : Int32) <<< ((9 : Int32) &&& 31)))) := (Fld.other W106 P101_6 (Or.inl n_a0_b3))
  have G115 : Fld Z h106 a0 "com/example/pathsieve/pathsieve/engine/Messages" "last" "I" (.int ff) := (Fld.other W106 P101_7 (Or.inl n_a0_b3))
  have G116 : Arh Z h106 b1 k1 .int (2048 : Int32) (((ff <<< ((9 : Int32) &&& 31)), (.int p1)) :: gs) [] (.int (0 : Int32)) := (P101_8.other W106 n_b1_b3)
  have G117 : Arh Z h106 b2 k2 .long (2048 : Int32) (((ff <<< ((9 : Int32) &&& 31)), (.long q2)) :: ds) [] (.long (0 : Int64)) := (P101_9.other W106 n_b2_b3)
  refine OGo.done (X106.returnOut hx Bd.returns (hb hby d9_19) hr) ⟨hrun, hended, _, _, rfl, ?_, ⟨_, rfl⟩, hW, hsame.mono (by decide) (by decide)⟩
  show Q9 Z a0 p1 q2 p3 ob ff bn kn b1 k1 gs b2 k2 ds b3 k3 ts h0 n0 _ T106.heap _
  rw [e106]
  exact ⟨rfl, N106, (((Keep.refl h0 [a0, ob, b1, b2, b3]).trans K101 (allS (Or.inl (List.mem_of_getElem? (i := 0) rfl)) (allS (Or.inl (List.mem_of_getElem? (i := 1) rfl)) (allS (Or.inl (List.mem_of_getElem? (i := 2) rfl)) (allS (Or.inl (List.mem_of_getElem? (i := 3) rfl)) all0))))).wr W106 (Or.inl (List.mem_of_getElem? (i := 4) rfl))), G108, G109, G110, G111, G112, G113, G114, G115, G116, G117, V106⟩
theorem pd_3 : parseMethodDescriptor "(IJI)V" = some ⟨[.int, .long, .int], none⟩ := by decide +kernel
theorem d10_0 : decode method_3_code 0 = .ok (.iload_n 1, 1) := by decide +kernel
theorem d10_1 : decode method_3_code 1 = .ok (.ifCond .eq 14, 3) := by decide +kernel
theorem d10_4 : decode method_3_code 4 = .ok (.aload_n 0, 1) := by decide +kernel
theorem d10_5 : decode method_3_code 5 = .ok (.iload_n 2, 1) := by decide +kernel
theorem d10_6 : decode method_3_code 6 = .ok (.lload_n 3, 1) := by decide +kernel
theorem d10_7 : decode method_3_code 7 = .ok (.iload 5, 2) := by decide +kernel
theorem d10_9 : decode method_3_code 9 = .ok (.invokevirtual 42, 3) := by decide +kernel
theorem d10_12 : decode method_3_code 12 = .ok (.goto 9, 3) := by decide +kernel
theorem d10_15 : decode method_3_code 15 = .ok (.aload_n 0, 1) := by decide +kernel
theorem d10_16 : decode method_3_code 16 = .ok (.iload_n 2, 1) := by decide +kernel
theorem d10_17 : decode method_3_code 17 = .ok (.lload_n 3, 1) := by decide +kernel
theorem d10_18 : decode method_3_code 18 = .ok (.invokevirtual 46, 3) := by decide +kernel
theorem d10_21 : decode method_3_code 21 = .ok (.return_, 1) := by decide +kernel
theorem pn_3 : plainName "com/example/pathsieve/pathsieve/engine/MessagesSizePinLaw" = true := by first | (simp [plainName, overriddenIn]; done) | decide +kernel
theorem ef_10 (m : MethodId) (x0 : Addr) (x1 : Int32) (x2 : Int32) (x3 : Int64) (x4 : Int32) : entryFrame m #[(.ref x0), (.int x1), (.int x2), (.long x3), (.int x4)] 6 = mkF m 0 #[.val (.ref x0), .val (.int x1), .val (.int x2), .val (.long x3), .second, .val (.int x4)] [] := by first | (simp [entryFrame, mkF, argsToLocals, Value.category]; done) | rfl
def Q10 (Z : State) (a0 : Addr) (p1 : Int32) (p2 : Int32) (q3 : Int64) (p4 : Int32) (ob : Addr) (ff : Int32) (bn : Addr) (kn : ClassId) (b1 : Addr) (k1 : ClassId) (gs : List (Int32 × Value)) (b2 : Addr) (k2 : ClassId) (ds : List (Int32 × Value)) (b3 : Addr) (k3 : ClassId) (ts : List (Int32 × Value)) (h0 : Heap) (n0 : Nat) (v : Option Value) (h : Heap) (L : List Loc) : Prop := ∃ tq : List (Int32 × Value), v = none ∧ Fr n0 L ∧ Keep h0 h [a0, ob, b1, b2, b3] ∧ (Fld Z h a0 "com/example/pathsieve/pathsieve/engine/Messages" "heads" "[I" (.ref b1)) ∧ (Fld Z h a0 "com/example/pathsieve/pathsieve/engine/Messages" "distances" "[J" (.ref b2)) ∧ (Fld Z h a0 "com/example/pathsieve/pathsieve/engine/Messages" "tags" "[I" (.ref b3)) ∧ (Fld Z h a0 "com/example/pathsieve/pathsieve/engine/Messages" "before" "I" (.int (0 : Int32))) ∧ (Fld Z h a0 "com/example/pathsieve/pathsieve/engine/Messages" "blockBits" "I" (.int (9 : Int32))) ∧ (Fld Z h a0 "com/example/pathsieve/pathsieve/engine/Messages" "place" "I" (.int ((ff <<< ((9 : Int32) &&& 31)) + (1 : Int32)))) ∧ (Fld Z h a0 "com/example/pathsieve/pathsieve/engine/Messages" "end" "I" (.int ((ff <<< ((9 : Int32) &&& 31)) + ((1 : Int32) <<< ((9 : Int32) &&& 31))))) ∧ (Fld Z h a0 "com/example/pathsieve/pathsieve/engine/Messages" "last" "I" (.int ff)) ∧ (Arh Z h b1 k1 .int (2048 : Int32) (((ff <<< ((9 : Int32) &&& 31)), (.int p2)) :: gs) [] (.int (0 : Int32))) ∧ (Arh Z h b2 k2 .long (2048 : Int32) (((ff <<< ((9 : Int32) &&& 31)), (.long q3)) :: ds) [] (.long (0 : Int64))) ∧ (Arh Z h b3 k3 .int (2048 : Int32) tq [] (.int (0 : Int32)))
set_option maxRecDepth 65536 in
set_option maxHeartbeats 40000000 in
theorem rm10 (l : Launch) (Z : State) (ar : Array Value) (hw : ∀ d ∈ tables_1, d.before ar Z = true) (ws : List Jvm.Cond) (a0 : Addr) (p1 : Int32) (p2 : Int32) (q3 : Int64) (p4 : Int32) (ob : Addr) (ff : Int32) (bn : Addr) (kn : ClassId) (b1 : Addr) (k1 : ClassId) (gs : List (Int32 × Value)) (b2 : Addr) (k2 : ClassId) (ds : List (Int32 × Value)) (b3 : Addr) (k3 : ClassId) (ts : List (Int32 × Value)) (h0 : Heap) (n0 : Nat) (Z0 : n0 ≤ h0.size) (F_out : Fld Z h0 a0 "com/example/pathsieve/pathsieve/engine/Messages" "outbox" "Lcom/example/pathsieve/pathsieve/engine/Outbox;" (.ref ob)) (F_taken : Fld Z h0 ob "com/example/pathsieve/pathsieve/engine/Outbox" "taken" "I" (.int ff)) (F_nb : Fld Z h0 ob "com/example/pathsieve/pathsieve/engine/Outbox" "nextBlocks" "[I" (.ref bn)) (VN : Arv Z h0 bn kn .int (4 : Int32) [(.int (0 : Int32)), (.int (0 : Int32)), (.int (0 : Int32)), (.int (0 : Int32))] (.int (0 : Int32))) (EO : Exa Z h0 ob "com/example/pathsieve/pathsieve/engine/Outbox") (EM : Exa Z h0 a0 "com/example/pathsieve/pathsieve/engine/Messages") (F_place : Fld Z h0 a0 "com/example/pathsieve/pathsieve/engine/Messages" "place" "I" (.int (0 : Int32))) (F_end : Fld Z h0 a0 "com/example/pathsieve/pathsieve/engine/Messages" "end" "I" (.int (0 : Int32))) (F_last : Fld Z h0 a0 "com/example/pathsieve/pathsieve/engine/Messages" "last" "I" (.int (-1 : Int32))) (F_first : Fld Z h0 a0 "com/example/pathsieve/pathsieve/engine/Messages" "first" "I" (.int (-1 : Int32))) (F_heads : Fld Z h0 a0 "com/example/pathsieve/pathsieve/engine/Messages" "heads" "[I" (.ref b1)) (F_distances : Fld Z h0 a0 "com/example/pathsieve/pathsieve/engine/Messages" "distances" "[J" (.ref b2)) (F_tags : Fld Z h0 a0 "com/example/pathsieve/pathsieve/engine/Messages" "tags" "[I" (.ref b3)) (F_before : Fld Z h0 a0 "com/example/pathsieve/pathsieve/engine/Messages" "before" "I" (.int (0 : Int32))) (F_bb : Fld Z h0 a0 "com/example/pathsieve/pathsieve/engine/Messages" "blockBits" "I" (.int (9 : Int32))) (V1 : Arh Z h0 b1 k1 .int (2048 : Int32) gs [] (.int (0 : Int32))) (V2 : Arh Z h0 b2 k2 .long (2048 : Int32) ds [] (.long (0 : Int64))) (V3 : Arh Z h0 b3 k3 .int (2048 : Int32) ts [] (.int (0 : Int32))) (n_a0_ob : a0 ≠ ob) (n_a0_b1 : a0 ≠ b1) (n_a0_b2 : a0 ≠ b2) (n_a0_b3 : a0 ≠ b3) (n_ob_b1 : ob ≠ b1) (n_ob_b2 : ob ≠ b2) (n_ob_b3 : ob ≠ b3) (n_b1_b2 : b1 ≠ b2) (n_b1_b3 : b1 ≠ b3) (n_b2_b3 : b2 ≠ b3) (g_a0 : n0 ≤ a0) (g_ob : n0 ≤ ob) (g_b1 : n0 ≤ b1) (g_b2 : n0 ≤ b2) (g_b3 : n0 ≤ b3) (hff : ¬ ff = (4 : Int32)) (hz : ¬ (ff <<< ((9 : Int32) &&& 31)) < 0 ∧ (ff <<< ((9 : Int32) &&& 31)) < 2048) (hz2 : ¬ (((ff <<< ((9 : Int32) &&& 31)) + (1 : Int32)) - (1 : Int32)) < 0 ∧ (((ff <<< ((9 : Int32) &&& 31)) + (1 : Int32)) - (1 : Int32)) < 2048) :
    MetFree l (⟨"com/example/pathsieve/pathsieve/engine/MessagesSizePinLaw", "send", "(Lcom/example/pathsieve/pathsieve/engine/Messages;ZIJI)V"⟩ : MethodName) (head1 (Jvm.Cond.code (⟨"com/example/pathsieve/pathsieve/engine/MessagesSizePinLaw", "send", "(Lcom/example/pathsieve/pathsieve/engine/Messages;ZIJI)V"⟩ : MethodName) method_3_code 6 none :: ws) ({ frames := 2, cells := 0, slots := 0, locals := 32 } : Room)) (fun a U => a = #[(.ref a0), (.int p1), (.int p2), (.long q3), (.int p4)] ∧ Z.Warmed39 U.vm ∧ U.heap = h0) (fun _ _ _ _ _ => True) (fun _ U o U' => ∃ v L, o = .returned v ∧ Q10 Z a0 p1 p2 q3 p4 ob ff bn kn b1 k1 gs b2 k2 ds b3 k3 ts h0 n0 v U'.heap L ∧ FrameEnd U o U' L ({ frames := 2, cells := 0, slots := 0, locals := 32 } : Room).cells ({ frames := 2, cells := 0, slots := 0, locals := 32 } : Room).slots) := by
  refine MetFree.of_bodySF (plainFor_of_name pn_3) hisR ?_
  intro p e s m args below meth c s₁ Bd hml0 hP hK
  obtain ⟨rfl, hZ, hh⟩ := hP
  have hx := Bd.exec
  have hby := Bd.bytes
  have hml : c.maxLocals = 6 := hml0
  have hown : s.vm.findClass "com/example/pathsieve/pathsieve/engine/MessagesSizePinLaw" = some m.cls := findClass_of_methodNamed Bd.named
  have hnm := (name_of_methodNamed Bd.named Bd.method).1
  have X0 : Stand p l e ({ frames := 2, cells := 0, slots := 0, locals := 32 } : Room) s m #[(.ref a0), (.int p1), (.int p2), (.long q3), (.int p4)] below meth c s₁ [] 0 0 := Stand.of_body Bd
  have e0 : s₁.heap = h0 := by rw [← hh, Bd.state]; rfl
  have N0 := Fr.nil n0
  have pre0 : ∀ t, Steps p.tables e below (s₁.setTop (mkF m 0 #[.val (.ref a0), .val (.int p1), .val (.int p2), .val (.long q3), .second, .val (.int p4)] [])) t → Steps p.tables e below (s₁.setTop (entryFrame m #[(.ref a0), (.int p1), (.int p2), (.long q3), (.int p4)] 6)) t := fun t k => castTop (ef_10 m a0 p1 p2 q3 p4) k
  refine OGo.start pre0 ?_
  show OGo p.tables e below _ (s₁.setTop (mkF m 0 #[.val (.ref a0), .val (.int p1), .val (.int p2), .val (.long q3), .second, .val (.int p4)] []))
  refine OGo.st (fun t k => XS.iloadN X0.here hx rfl (hb hby d10_0) rfl k) ?_
  show OGo p.tables e below _ (s₁.setTop (mkF m 1 #[.val (.ref a0), .val (.int p1), .val (.int p2), .val (.long q3), .second, .val (.int p4)] [(.int p1)]))
  by_cases hc1_101 : p1 = (0 : Int32)
  ·
    refine OGo.st (fun t k => XS.ifYes X0.here hx rfl (pc0 := 1) (pc' := 15) rfl (hb hby d10_1) rfl ((if0 _ _).trans (teq hc1_101).1) (by decide) (by decide) k) ?_
    show OGo p.tables e below _ (s₁.setTop (mkF m 15 #[.val (.ref a0), .val (.int p1), .val (.int p2), .val (.long q3), .second, .val (.int p4)] []))
    refine OGo.st (fun t k => XS.aloadN X0.here hx rfl (hb hby d10_15) rfl rfl k) ?_
    show OGo p.tables e below _ (s₁.setTop (mkF m 16 #[.val (.ref a0), .val (.int p1), .val (.int p2), .val (.long q3), .second, .val (.int p4)] [(.ref a0)]))
    refine OGo.st (fun t k => XS.iloadN X0.here hx rfl (hb hby d10_16) rfl k) ?_
    show OGo p.tables e below _ (s₁.setTop (mkF m 17 #[.val (.ref a0), .val (.int p1), .val (.int p2), .val (.long q3), .second, .val (.int p4)] [(.int p2), (.ref a0)]))
    refine OGo.st (fun t k => XS.lloadN X0.here hx rfl (hb hby d10_17) rfl k) ?_
    show OGo p.tables e below _ (s₁.setTop (mkF m 18 #[.val (.ref a0), .val (.int p1), .val (.int p2), .val (.long q3), .second, .val (.int p4)] [(.long q3), (.int p2), (.ref a0)]))
    obtain ⟨cq102, kq102, q102a, q102b, q102c⟩ := isOf hZ e0 EM
    obtain ⟨_, _, ⟨T102, L102, kk102, nn102⟩, -, X102, ⟨Lc102, hQ102, l102, y102, z102⟩, st102⟩ := X0.virtualBack hx (y := (⟨"com/example/pathsieve/pathsieve/engine/Messages", "add", "(IJ)V"⟩ : MethodName)) (z := (⟨"com/example/pathsieve/pathsieve/engine/Messages", "add", "(IJ)V"⟩ : MethodName)) hown (mvT hZ (hw _ (List.mem_of_getElem? (i := 74) rfl))) (mvT hZ (hw _ (List.mem_of_getElem? (i := 75) rfl))) (notFace_of_selects (args := #[]) (mvT hZ (hw _ (List.mem_of_getElem? (i := 77) rfl)))) (mvT hZ (hw _ (List.mem_of_getElem? (i := 77) rfl))) (mvT hZ (hw _ (List.mem_of_getElem? (i := 76) rfl))) (by decide) (backOf (W := 0) (rm8 l Z ar hw [] a0 p2 q3 ob ff bn kn b1 k1 gs b2 k2 ds b3 h0 n0 Z0 F_out F_taken F_nb VN EO EM F_place F_end F_last F_first F_heads F_distances F_tags F_before F_bb V1 V2 n_a0_ob n_a0_b1 n_a0_b2 n_ob_b1 n_ob_b2 n_b1_b2 g_a0 g_ob g_b1 g_b2 hff hz) hZ (hw _ (List.mem_of_getElem? (i := 78) rfl)) (hw _ (List.mem_of_getElem? (i := 39) rfl)) (by decide) (by decide)) q102a q102c (g := (mkF m 18 #[.val (.ref a0), .val (.int p1), .val (.int p2), .val (.long q3), .second, .val (.int p4)] [(.long q3), (.int p2), (.ref a0)])) rfl (by rw [hml]; rfl) (Steps.refl _) (argsL := [(.int p2), (.long q3)]) (rest := []) (lenOf pd_2 rfl) rfl (by show 2 * 0 + _ ≤ _; exact Nat.le_of_eq rfl) (hb hby d10_18) (fun _ _ => ⟨rfl, e0, (by decide : 0 + 0 ≤ _), (by decide : 0 + 0 ≤ _)⟩)
    dsimp only [Pt.U, Pt.locs, Pt.cells, Pt.slots] at X102 l102 y102 z102 st102 hQ102
    subst l102 y102 z102
    obtain ⟨rfl, Nq102, K102, P102_0, P102_1, P102_2, P102_3, P102_4, P102_5, P102_6, P102_7, P102_8, P102_9⟩ := hQ102
    have N102 := Fr.app N0 Nq102
    refine OGo.st (fun t k => st102.trans k) ?_
    show OGo p.tables e below _ (T102.setTop (mkF m 21 #[.val (.ref a0), .val (.int p1), .val (.int p2), .val (.long q3), .second, .val (.int p4)] []))
    obtain ⟨fs, hr, hrun, hended, hW, hsame⟩ := X102.leave (v := none) (fun _ => rfl)
    have G104 : Arh Z T102.heap b3 k3 .int (2048 : Int32) ts [] (.int (0 : Int32)) := (V3.keep K102 (ninS (Ne.symm n_a0_b3) (ninS (Ne.symm n_ob_b3) (ninS (Ne.symm n_b1_b3) (ninS (Ne.symm n_b2_b3) nin0)))))
    refine OGo.done (X102.returnOut hx Bd.returns (hb hby d10_21) hr) ⟨hrun, hended, _, _, rfl, ?_, ⟨_, rfl⟩, hW, hsame.mono (by decide) (by decide)⟩
    show Q10 Z a0 p1 p2 q3 p4 ob ff bn kn b1 k1 gs b2 k2 ds b3 k3 ts h0 n0 _ T102.heap _
    exact ⟨ts, rfl, N102, ((Keep.refl h0 [a0, ob, b1, b2, b3]).trans K102 (allS (Or.inl (List.mem_of_getElem? (i := 0) rfl)) (allS (Or.inl (List.mem_of_getElem? (i := 1) rfl)) (allS (Or.inl (List.mem_of_getElem? (i := 2) rfl)) (allS (Or.inl (List.mem_of_getElem? (i := 3) rfl)) all0))))), P102_0, P102_1, P102_2, P102_3, P102_4, P102_5, P102_6, P102_7, P102_8, P102_9, G104⟩
  ·
    refine OGo.st (fun t k => XS.ifNo X0.here hx rfl (hb hby d10_1) rfl ((if0 _ _).trans (feq hc1_101).1) k) ?_
    show OGo p.tables e below _ (s₁.setTop (mkF m 4 #[.val (.ref a0), .val (.int p1), .val (.int p2), .val (.long q3), .second, .val (.int p4)] []))
    refine OGo.st (fun t k => XS.aloadN X0.here hx rfl (hb hby d10_4) rfl rfl k) ?_
    show OGo p.tables e below _ (s₁.setTop (mkF m 5 #[.val (.ref a0), .val (.int p1), .val (.int p2), .val (.long q3), .second, .val (.int p4)] [(.ref a0)]))
    refine OGo.st (fun t k => XS.iloadN X0.here hx rfl (hb hby d10_5) rfl k) ?_
    show OGo p.tables e below _ (s₁.setTop (mkF m 6 #[.val (.ref a0), .val (.int p1), .val (.int p2), .val (.long q3), .second, .val (.int p4)] [(.int p2), (.ref a0)]))
    refine OGo.st (fun t k => XS.lloadN X0.here hx rfl (hb hby d10_6) rfl k) ?_
    show OGo p.tables e below _ (s₁.setTop (mkF m 7 #[.val (.ref a0), .val (.int p1), .val (.int p2), .val (.long q3), .second, .val (.int p4)] [(.long q3), (.int p2), (.ref a0)]))
    refine OGo.st (fun t k => XS.iload X0.here hx rfl (hb hby d10_7) rfl k) ?_
    show OGo p.tables e below _ (s₁.setTop (mkF m 9 #[.val (.ref a0), .val (.int p1), .val (.int p2), .val (.long q3), .second, .val (.int p4)] [(.int p4), (.long q3), (.int p2), (.ref a0)]))
    obtain ⟨cq105, kq105, q105a, q105b, q105c⟩ := isOf hZ e0 EM
    obtain ⟨_, _, ⟨T105, L105, kk105, nn105⟩, -, X105, ⟨Lc105, hQ105, l105, y105, z105⟩, st105⟩ := X0.virtualBack hx (y := (⟨"com/example/pathsieve/pathsieve/engine/Messages", "add", "(IJI)V"⟩ : MethodName)) (z := (⟨"com/example/pathsieve/pathsieve/engine/Messages", "add", "(IJI)V"⟩ : MethodName)) hown (mvT hZ (hw _ (List.mem_of_getElem? (i := 85) rfl))) (mvT hZ (hw _ (List.mem_of_getElem? (i := 86) rfl))) (notFace_of_selects (args := #[]) (mvT hZ (hw _ (List.mem_of_getElem? (i := 88) rfl)))) (mvT hZ (hw _ (List.mem_of_getElem? (i := 88) rfl))) (mvT hZ (hw _ (List.mem_of_getElem? (i := 87) rfl))) (by decide) (backOf (W := 0) (rm9 l Z ar hw [] a0 p2 q3 p4 ob ff bn kn b1 k1 gs b2 k2 ds b3 k3 ts h0 n0 Z0 F_out F_taken F_nb VN EO EM F_place F_end F_last F_first F_heads F_distances F_tags F_before F_bb V1 V2 V3 n_a0_ob n_a0_b1 n_a0_b2 n_a0_b3 n_ob_b1 n_ob_b2 n_ob_b3 n_b1_b2 n_b1_b3 n_b2_b3 g_a0 g_ob g_b1 g_b2 g_b3 hff hz hz2) hZ (hw _ (List.mem_of_getElem? (i := 89) rfl)) (hw _ (List.mem_of_getElem? (i := 39) rfl)) (by decide) (by decide)) q105a q105c (g := (mkF m 9 #[.val (.ref a0), .val (.int p1), .val (.int p2), .val (.long q3), .second, .val (.int p4)] [(.int p4), (.long q3), (.int p2), (.ref a0)])) rfl (by rw [hml]; rfl) (Steps.refl _) (argsL := [(.int p2), (.long q3), (.int p4)]) (rest := []) (lenOf pd_3 rfl) rfl (by show 2 * 0 + _ ≤ _; exact Nat.le_of_eq rfl) (hb hby d10_9) (fun _ _ => ⟨rfl, e0, (by decide : 0 + 0 ≤ _), (by decide : 0 + 0 ≤ _)⟩)
    dsimp only [Pt.U, Pt.locs, Pt.cells, Pt.slots] at X105 l105 y105 z105 st105 hQ105
    subst l105 y105 z105
    obtain ⟨rfl, Nq105, K105, P105_0, P105_1, P105_2, P105_3, P105_4, P105_5, P105_6, P105_7, P105_8, P105_9, P105_10⟩ := hQ105
    have N105 := Fr.app N0 Nq105
    refine OGo.st (fun t k => st105.trans k) ?_
    show OGo p.tables e below _ (T105.setTop (mkF m 12 #[.val (.ref a0), .val (.int p1), .val (.int p2), .val (.long q3), .second, .val (.int p4)] []))
    refine OGo.st (fun t k => XS.goto X105.here hx rfl (pc0 := 12) (pc' := 21) rfl (hb hby d10_12) (by decide) (by decide) k) ?_
    show OGo p.tables e below _ (T105.setTop (mkF m 21 #[.val (.ref a0), .val (.int p1), .val (.int p2), .val (.long q3), .second, .val (.int p4)] []))
    obtain ⟨fs, hr, hrun, hended, hW, hsame⟩ := X105.leave (v := none) (fun _ => rfl)
    refine OGo.done (X105.returnOut hx Bd.returns (hb hby d10_21) hr) ⟨hrun, hended, _, _, rfl, ?_, ⟨_, rfl⟩, hW, hsame.mono (by decide) (by decide)⟩
    show Q10 Z a0 p1 p2 q3 p4 ob ff bn kn b1 k1 gs b2 k2 ds b3 k3 ts h0 n0 _ T105.heap _
    exact ⟨(((((ff <<< ((9 : Int32) &&& 31)) + (1 : Int32)) - (1 : Int32)), (.int p4)) :: ts), rfl, N105, ((Keep.refl h0 [a0, ob, b1, b2, b3]).trans K105 (allS (Or.inl (List.mem_of_getElem? (i := 0) rfl)) (allS (Or.inl (List.mem_of_getElem? (i := 1) rfl)) (allS (Or.inl (List.mem_of_getElem? (i := 2) rfl)) (allS (Or.inl (List.mem_of_getElem? (i := 3) rfl)) (allS (Or.inl (List.mem_of_getElem? (i := 4) rfl)) all0)))))), P105_0, P105_1, P105_2, P105_3, P105_4, P105_5, P105_6, P105_7, P105_8, P105_9, P105_10⟩
theorem d11_0 : decode prog_16_method_2_code 0 = .ok (.aload_n 0, 1) := by decide +kernel
theorem d11_1 : decode prog_16_method_2_code 1 = .ok (.getfield 26, 3) := by decide +kernel
theorem d11_4 : decode prog_16_method_2_code 4 = .ok (.aload_n 0, 1) := by decide +kernel
theorem d11_5 : decode prog_16_method_2_code 5 = .ok (.getfield 29, 3) := by decide +kernel
theorem d11_8 : decode prog_16_method_2_code 8 = .ok (.if_icmp .ne 123, 3) := by decide +kernel
theorem d11_131 : decode prog_16_method_2_code 131 = .ok (.aload_n 0, 1) := by decide +kernel
theorem d11_132 : decode prog_16_method_2_code 132 = .ok (.getfield 49, 3) := by decide +kernel
theorem d11_135 : decode prog_16_method_2_code 135 = .ok (.aload_n 0, 1) := by decide +kernel
theorem d11_136 : decode prog_16_method_2_code 136 = .ok (.getfield 26, 3) := by decide +kernel
theorem d11_139 : decode prog_16_method_2_code 139 = .ok (.iload_n 1, 1) := by decide +kernel
theorem d11_140 : decode prog_16_method_2_code 140 = .ok (.iastore, 1) := by decide +kernel
theorem d11_141 : decode prog_16_method_2_code 141 = .ok (.aload_n 0, 1) := by decide +kernel
theorem d11_142 : decode prog_16_method_2_code 142 = .ok (.getfield 52, 3) := by decide +kernel
theorem d11_145 : decode prog_16_method_2_code 145 = .ok (.aload_n 0, 1) := by decide +kernel
theorem d11_146 : decode prog_16_method_2_code 146 = .ok (.getfield 26, 3) := by decide +kernel
theorem d11_149 : decode prog_16_method_2_code 149 = .ok (.lload_n 2, 1) := by decide +kernel
theorem d11_150 : decode prog_16_method_2_code 150 = .ok (.lastore, 1) := by decide +kernel
theorem d11_151 : decode prog_16_method_2_code 151 = .ok (.aload_n 0, 1) := by decide +kernel
theorem d11_152 : decode prog_16_method_2_code 152 = .ok (.dup, 1) := by decide +kernel
theorem d11_153 : decode prog_16_method_2_code 153 = .ok (.getfield 26, 3) := by decide +kernel
theorem d11_156 : decode prog_16_method_2_code 156 = .ok (.iconst 1, 1) := by decide +kernel
theorem d11_157 : decode prog_16_method_2_code 157 = .ok (.iadd, 1) := by decide +kernel
theorem d11_158 : decode prog_16_method_2_code 158 = .ok (.putfield 26, 3) := by decide +kernel
theorem d11_161 : decode prog_16_method_2_code 161 = .ok (.return_, 1) := by decide +kernel
theorem ef_11 (m : MethodId) (x0 : Addr) (x1 : Int32) (x2 : Int64) : entryFrame m #[(.ref x0), (.int x1), (.long x2)] 5 = mkF m 0 #[.val (.ref x0), .val (.int x1), .val (.long x2), .second, .unset] [] := by first | (simp [entryFrame, mkF, argsToLocals, Value.category]; done) | rfl
def Q11 (Z : State) (a0 : Addr) (p1 : Int32) (q2 : Int64) (w : Int32) (en : Int32) (ff : Int32) (b1 : Addr) (k1 : ClassId) (gs : List (Int32 × Value)) (b2 : Addr) (k2 : ClassId) (ds : List (Int32 × Value)) (b3 : Addr) (h0 : Heap) (n0 : Nat) (v : Option Value) (h : Heap) (L : List Loc) : Prop := v = none ∧ Fr n0 L ∧ Keep h0 h [a0, b1, b2] ∧ (Fld Z h a0 "com/example/pathsieve/pathsieve/engine/Messages" "heads" "[I" (.ref b1)) ∧ (Fld Z h a0 "com/example/pathsieve/pathsieve/engine/Messages" "distances" "[J" (.ref b2)) ∧ (Fld Z h a0 "com/example/pathsieve/pathsieve/engine/Messages" "tags" "[I" (.ref b3)) ∧ (Fld Z h a0 "com/example/pathsieve/pathsieve/engine/Messages" "before" "I" (.int (0 : Int32))) ∧ (Fld Z h a0 "com/example/pathsieve/pathsieve/engine/Messages" "blockBits" "I" (.int (9 : Int32))) ∧ (Fld Z h a0 "com/example/pathsieve/pathsieve/engine/Messages" "place" "I" (.int (w + (1 : Int32)))) ∧ (Fld Z h a0 "com/example/pathsieve/pathsieve/engine/Messages" "end" "I" (.int en)) ∧ (Fld Z h a0 "com/example/pathsieve/pathsieve/engine/Messages" "last" "I" (.int ff)) ∧ (Arh Z h b1 k1 .int (2048 : Int32) ((w, (.int p1)) :: gs) [] (.int (0 : Int32))) ∧ (Arh Z h b2 k2 .long (2048 : Int32) ((w, (.long q2)) :: ds) [] (.long (0 : Int64)))
set_option maxRecDepth 65536 in
set_option maxHeartbeats 40000000 in
theorem rm11 (l : Launch) (Z : State) (ar : Array Value) (hw : ∀ d ∈ tables_1, d.before ar Z = true) (ws : List Jvm.Cond) (a0 : Addr) (p1 : Int32) (q2 : Int64) (w : Int32) (en : Int32) (ff : Int32) (b1 : Addr) (k1 : ClassId) (gs : List (Int32 × Value)) (b2 : Addr) (k2 : ClassId) (ds : List (Int32 × Value)) (b3 : Addr) (h0 : Heap) (n0 : Nat) (Z0 : n0 ≤ h0.size) (EM : Exa Z h0 a0 "com/example/pathsieve/pathsieve/engine/Messages") (F_place : Fld Z h0 a0 "com/example/pathsieve/pathsieve/engine/Messages" "place" "I" (.int w)) (F_end : Fld Z h0 a0 "com/example/pathsieve/pathsieve/engine/Messages" "end" "I" (.int en)) (F_last : Fld Z h0 a0 "com/example/pathsieve/pathsieve/engine/Messages" "last" "I" (.int ff)) (F_heads : Fld Z h0 a0 "com/example/pathsieve/pathsieve/engine/Messages" "heads" "[I" (.ref b1)) (F_distances : Fld Z h0 a0 "com/example/pathsieve/pathsieve/engine/Messages" "distances" "[J" (.ref b2)) (F_tags : Fld Z h0 a0 "com/example/pathsieve/pathsieve/engine/Messages" "tags" "[I" (.ref b3)) (F_before : Fld Z h0 a0 "com/example/pathsieve/pathsieve/engine/Messages" "before" "I" (.int (0 : Int32))) (F_bb : Fld Z h0 a0 "com/example/pathsieve/pathsieve/engine/Messages" "blockBits" "I" (.int (9 : Int32))) (V1 : Arh Z h0 b1 k1 .int (2048 : Int32) gs [] (.int (0 : Int32))) (V2 : Arh Z h0 b2 k2 .long (2048 : Int32) ds [] (.long (0 : Int64))) (n_a0_b1 : a0 ≠ b1) (n_a0_b2 : a0 ≠ b2) (n_b1_b2 : b1 ≠ b2) (g_a0 : n0 ≤ a0) (g_b1 : n0 ≤ b1) (g_b2 : n0 ≤ b2) (hne : ¬ w = en) (hz : ¬ w < 0 ∧ w < 2048) :
    MetFree l (⟨"com/example/pathsieve/pathsieve/engine/Messages", "add", "(IJ)V"⟩ : MethodName) (head1 (Jvm.Cond.code (⟨"com/example/pathsieve/pathsieve/engine/Messages", "add", "(IJ)V"⟩ : MethodName) prog_16_method_2_code 5 none :: ws) ({ frames := 0, cells := 0, slots := 0, locals := 0 } : Room)) (fun a U => a = #[(.ref a0), (.int p1), (.long q2)] ∧ Z.Warmed39 U.vm ∧ U.heap = h0) (fun _ _ _ _ _ => True) (fun _ U o U' => ∃ v L, o = .returned v ∧ Q11 Z a0 p1 q2 w en ff b1 k1 gs b2 k2 ds b3 h0 n0 v U'.heap L ∧ FrameEnd U o U' L ({ frames := 0, cells := 0, slots := 0, locals := 0 } : Room).cells ({ frames := 0, cells := 0, slots := 0, locals := 0 } : Room).slots) := by
  refine MetFree.of_bodySF (plainFor_of_name pn_2) hisR ?_
  intro p e s m args below meth c s₁ Bd hml0 hP hK
  obtain ⟨rfl, hZ, hh⟩ := hP
  have hx := Bd.exec
  have hby := Bd.bytes
  have hml : c.maxLocals = 5 := hml0
  have hown : s.vm.findClass "com/example/pathsieve/pathsieve/engine/Messages" = some m.cls := findClass_of_methodNamed Bd.named
  have hnm := (name_of_methodNamed Bd.named Bd.method).1
  have X0 : Stand p l e ({ frames := 0, cells := 0, slots := 0, locals := 0 } : Room) s m #[(.ref a0), (.int p1), (.long q2)] below meth c s₁ [] 0 0 := Stand.of_body Bd
  have e0 : s₁.heap = h0 := by rw [← hh, Bd.state]; rfl
  have N0 := Fr.nil n0
  have pre0 : ∀ t, Steps p.tables e below (s₁.setTop (mkF m 0 #[.val (.ref a0), .val (.int p1), .val (.long q2), .second, .unset] [])) t → Steps p.tables e below (s₁.setTop (entryFrame m #[(.ref a0), (.int p1), (.long q2)] 5)) t := fun t k => castTop (ef_11 m a0 p1 q2) k
  refine OGo.start pre0 ?_
  show OGo p.tables e below _ (s₁.setTop (mkF m 0 #[.val (.ref a0), .val (.int p1), .val (.long q2), .second, .unset] []))
  refine OGo.st (fun t k => XS.aloadN X0.here hx rfl (hb hby d11_0) rfl rfl k) ?_
  show OGo p.tables e below _ (s₁.setTop (mkF m 1 #[.val (.ref a0), .val (.int p1), .val (.long q2), .second, .unset] [(.ref a0)]))
  obtain ⟨T101, X101, e101, st101⟩ := getF X0 hx hZ hown (host := "") (Or.inl (hw _ (List.mem_of_getElem? (i := 79) rfl))) Via.refl e0 F_place (g := (mkF m 1 #[.val (.ref a0), .val (.int p1), .val (.long q2), .second, .unset] [(.ref a0)])) rfl rfl (hb hby d11_1)
  refine OGo.st st101 ?_
  show OGo p.tables e below _ (T101.setTop (mkF m 4 #[.val (.ref a0), .val (.int p1), .val (.long q2), .second, .unset] [(.int w)]))
  refine OGo.st (fun t k => XS.aloadN X101.here hx rfl (hb hby d11_4) rfl rfl k) ?_
  show OGo p.tables e below _ (T101.setTop (mkF m 5 #[.val (.ref a0), .val (.int p1), .val (.long q2), .second, .unset] [(.ref a0), (.int w)]))
  obtain ⟨T102, X102, e102, st102⟩ := getF X101 hx hZ hown (host := "") (Or.inl (hw _ (List.mem_of_getElem? (i := 81) rfl))) Via.refl e101 F_end (g := (mkF m 5 #[.val (.ref a0), .val (.int p1), .val (.long q2), .second, .unset] [(.ref a0), (.int w)])) rfl rfl (hb hby d11_5)
  refine OGo.st st102 ?_
  show OGo p.tables e below _ (T102.setTop (mkF m 8 #[.val (.ref a0), .val (.int p1), .val (.long q2), .second, .unset] [(.int en), (.int w)]))
  refine OGo.st (fun t k => XS.icmpYes X102.here hx rfl (pc0 := 8) (pc' := 131) rfl (hb hby d11_8) rfl (feq (hne : ¬ (w = en))).2 (by decide) (by decide) k) ?_
  show OGo p.tables e below _ (T102.setTop (mkF m 131 #[.val (.ref a0), .val (.int p1), .val (.long q2), .second, .unset] []))
  refine OGo.st (fun t k => XS.aloadN X102.here hx rfl (hb hby d11_131) rfl rfl k) ?_
  show OGo p.tables e below _ (T102.setTop (mkF m 132 #[.val (.ref a0), .val (.int p1), .val (.long q2), .second, .unset] [(.ref a0)]))
  obtain ⟨T103, X103, e103, st103⟩ := getF X102 hx hZ hown (host := "") (Or.inl (hw _ (List.mem_of_getElem? (i := 58) rfl))) Via.refl e102 F_heads (g := (mkF m 132 #[.val (.ref a0), .val (.int p1), .val (.long q2), .second, .unset] [(.ref a0)])) rfl rfl (hb hby d11_132)
  refine OGo.st st103 ?_
  show OGo p.tables e below _ (T103.setTop (mkF m 135 #[.val (.ref a0), .val (.int p1), .val (.long q2), .second, .unset] [(.ref b1)]))
  refine OGo.st (fun t k => XS.aloadN X103.here hx rfl (hb hby d11_135) rfl rfl k) ?_
  show OGo p.tables e below _ (T103.setTop (mkF m 136 #[.val (.ref a0), .val (.int p1), .val (.long q2), .second, .unset] [(.ref a0), (.ref b1)]))
  obtain ⟨T104, X104, e104, st104⟩ := getF X103 hx hZ hown (host := "") (Or.inl (hw _ (List.mem_of_getElem? (i := 79) rfl))) Via.refl e103 F_place (g := (mkF m 136 #[.val (.ref a0), .val (.int p1), .val (.long q2), .second, .unset] [(.ref a0), (.ref b1)])) rfl rfl (hb hby d11_136)
  refine OGo.st st104 ?_
  show OGo p.tables e below _ (T104.setTop (mkF m 139 #[.val (.ref a0), .val (.int p1), .val (.long q2), .second, .unset] [(.int w), (.ref b1)]))
  refine OGo.st (fun t k => XS.iloadN X104.here hx rfl (hb hby d11_139) rfl k) ?_
  show OGo p.tables e below _ (T104.setTop (mkF m 140 #[.val (.ref a0), .val (.int p1), .val (.long q2), .second, .unset] [(.int p1), (.int w), (.ref b1)]))
  obtain ⟨cl105, Ar105, qc105, Sz105, Nz105, Hs105, Gs105⟩ := V1
  have hin105 : ¬ (w < 0 ∨ cl105.slots.size ≤ (w).toNatClampNeg) := inb_of Sz105 hz
  obtain ⟨T106, h106, X106, e106, W106, st106⟩ := stI X104 hx hZ e104 Ar105 (j := w) hin105 (g := (mkF m 140 #[.val (.ref a0), .val (.int p1), .val (.long q2), .second, .unset] [(.int p1), (.int w), (.ref b1)])) rfl rfl (hb hby d11_140)
  refine OGo.st st106 ?_
  have N106 := Fr.snoc X106 N0 g_b1
  have V106 : Arh Z h106 b1 k1 .int (2048 : Int32) ((w, (.int p1)) :: gs) [] (.int (0 : Int32)) := Arh.push Ar105 qc105 Sz105 Nz105 Hs105 Gs105 rfl W106 hin105
  show OGo p.tables e below _ (T106.setTop (mkF m 141 #[.val (.ref a0), .val (.int p1), .val (.long q2), .second, .unset] []))
  refine OGo.st (fun t k => XS.aloadN X106.here hx rfl (hb hby d11_141) rfl rfl k) ?_
  show OGo p.tables e below _ (T106.setTop (mkF m 142 #[.val (.ref a0), .val (.int p1), .val (.long q2), .second, .unset] [(.ref a0)]))
  have G107 : Fld Z h106 a0 "com/example/pathsieve/pathsieve/engine/Messages" "distances" "[J" (.ref b2) := (Fld.other W106 F_distances (Or.inl n_a0_b1))
  obtain ⟨T108, X108, e108, st108⟩ := getF X106 hx hZ hown (host := "") (Or.inl (hw _ (List.mem_of_getElem? (i := 60) rfl))) Via.refl e106 G107 (g := (mkF m 142 #[.val (.ref a0), .val (.int p1), .val (.long q2), .second, .unset] [(.ref a0)])) rfl rfl (hb hby d11_142)
  refine OGo.st st108 ?_
  show OGo p.tables e below _ (T108.setTop (mkF m 145 #[.val (.ref a0), .val (.int p1), .val (.long q2), .second, .unset] [(.ref b2)]))
  refine OGo.st (fun t k => XS.aloadN X108.here hx rfl (hb hby d11_145) rfl rfl k) ?_
  show OGo p.tables e below _ (T108.setTop (mkF m 146 #[.val (.ref a0), .val (.int p1), .val (.long q2), .second, .unset] [(.ref a0), (.ref b2)]))
  have G109 : Fld Z h106 a0 "com/example/pathsieve/pathsieve/engine/Messages" "place" "I" (.int w) := (Fld.other W106 F_place (Or.inl n_a0_b1))
  obtain ⟨T110, X110, e110, st110⟩ := getF X108 hx hZ hown (host := "") (Or.inl (hw _ (List.mem_of_getElem? (i := 79) rfl))) Via.refl e108 G109 (g := (mkF m 146 #[.val (.ref a0), .val (.int p1), .val (.long q2), .second, .unset] [(.ref a0), (.ref b2)])) rfl rfl (hb hby d11_146)
  refine OGo.st st110 ?_
  show OGo p.tables e below _ (T110.setTop (mkF m 149 #[.val (.ref a0), .val (.int p1), .val (.long q2), .second, .unset] [(.int w), (.ref b2)]))
  refine OGo.st (fun t k => XS.lloadN X110.here hx rfl (hb hby d11_149) rfl k) ?_
  show OGo p.tables e below _ (T110.setTop (mkF m 150 #[.val (.ref a0), .val (.int p1), .val (.long q2), .second, .unset] [(.long q2), (.int w), (.ref b2)]))
  have G111 : Arh Z h106 b2 k2 .long (2048 : Int32) ds [] (.long (0 : Int64)) := (V2.other W106 (Ne.symm n_b1_b2))
  obtain ⟨cl112, Ar112, qc112, Sz112, Nz112, Hs112, Gs112⟩ := G111
  have hin112 : ¬ (w < 0 ∨ cl112.slots.size ≤ (w).toNatClampNeg) := inb_of Sz112 hz
  obtain ⟨T113, h113, X113, e113, W113, st113⟩ := stJ X110 hx hZ e110 Ar112 (j := w) hin112 (g := (mkF m 150 #[.val (.ref a0), .val (.int p1), .val (.long q2), .second, .unset] [(.long q2), (.int w), (.ref b2)])) rfl rfl (hb hby d11_150)
  refine OGo.st st113 ?_
  have N113 := Fr.snoc X113 N106 g_b2
  have V113 : Arh Z h113 b2 k2 .long (2048 : Int32) ((w, (.long q2)) :: ds) [] (.long (0 : Int64)) := Arh.push Ar112 qc112 Sz112 Nz112 Hs112 Gs112 rfl W113 hin112
  show OGo p.tables e below _ (T113.setTop (mkF m 151 #[.val (.ref a0), .val (.int p1), .val (.long q2), .second, .unset] []))
  refine OGo.st (fun t k => XS.aloadN X113.here hx rfl (hb hby d11_151) rfl rfl k) ?_
  show OGo p.tables e below _ (T113.setTop (mkF m 152 #[.val (.ref a0), .val (.int p1), .val (.long q2), .second, .unset] [(.ref a0)]))
  refine OGo.st (fun t k => XS.dup X113.here hx rfl (hb hby d11_152) rfl rfl k) ?_
  show OGo p.tables e below _ (T113.setTop (mkF m 153 #[.val (.ref a0), .val (.int p1), .val (.long q2), .second, .unset] [(.ref a0), (.ref a0)]))
  have G114 : Fld Z h113 a0 "com/example/pathsieve/pathsieve/engine/Messages" "place" "I" (.int w) := (Fld.other W113 G109 (Or.inl n_a0_b2))
  obtain ⟨T115, X115, e115, st115⟩ := getF X113 hx hZ hown (host := "") (Or.inl (hw _ (List.mem_of_getElem? (i := 79) rfl))) Via.refl e113 G114 (g := (mkF m 153 #[.val (.ref a0), .val (.int p1), .val (.long q2), .second, .unset] [(.ref a0), (.ref a0)])) rfl rfl (hb hby d11_153)
  refine OGo.st st115 ?_
  show OGo p.tables e below _ (T115.setTop (mkF m 156 #[.val (.ref a0), .val (.int p1), .val (.long q2), .second, .unset] [(.int w), (.ref a0)]))
  refine OGo.st (fun t k => XS.iconst X115.here hx rfl (hb hby d11_156) k) ?_
  show OGo p.tables e below _ (T115.setTop (mkF m 157 #[.val (.ref a0), .val (.int p1), .val (.long q2), .second, .unset] [(.int (1 : Int32)), (.int w), (.ref a0)]))
  refine OGo.st (fun t k => XS.iadd X115.here hx rfl (hb hby d11_157) rfl k) ?_
  show OGo p.tables e below _ (T115.setTop (mkF m 158 #[.val (.ref a0), .val (.int p1), .val (.long q2), .second, .unset] [(.int (w + (1 : Int32))), (.ref a0)]))
  have G116 : Exa Z h113 a0 "com/example/pathsieve/pathsieve/engine/Messages" := (Exa.wr W113 (Exa.wr W106 EM))
  obtain ⟨T117, h117, X117, e117, W117, st117⟩ := putF X115 hx hZ hown (host := "") (Or.inl (hw _ (List.mem_of_getElem? (i := 79) rfl))) Via.refl e115 G114 G116 (Or.inl (hw _ (List.mem_of_getElem? (i := 80) rfl))) (hw _ (List.mem_of_getElem? (i := 38) rfl)) (ty := .int) (by decide) rfl rfl (g := (mkF m 158 #[.val (.ref a0), .val (.int p1), .val (.long q2), .second, .unset] [(.int (w + (1 : Int32))), (.ref a0)])) rfl rfl (hb hby d11_158)
  refine OGo.st st117 ?_
  have Fw117 : Fld Z h117 a0 "com/example/pathsieve/pathsieve/engine/Messages" "place" "I" (.int (w + (1 : Int32))) := Fld.same W117 G114
  have N117 := Fr.snoc X117 N113 g_a0
  show OGo p.tables e below _ (T117.setTop (mkF m 161 #[.val (.ref a0), .val (.int p1), .val (.long q2), .second, .unset] []))
  obtain ⟨fs, hr, hrun, hended, hW, hsame⟩ := X117.leave (v := none) (fun _ => rfl)
  have G119 : Fld Z h117 a0 "com/example/pathsieve/pathsieve/engine/Messages" "heads" "[I" (.ref b1) := (Fld.other W117 (Fld.other W113 (Fld.other W106 F_heads (Or.inl n_a0_b1)) (Or.inl n_a0_b2)) (Or.inr (slot_ne (Or.inl (hw _ (List.mem_of_getElem? (i := 59) rfl))) (Or.inl (hw _ (List.mem_of_getElem? (i := 80) rfl))) (by decide) (t := (.array .int)) (t' := .int) (by decide) (by decide))))
  have G120 : Fld Z h117 a0 "com/example/pathsieve/pathsieve/engine/Messages" "distances" "[J" (.ref b2) := (Fld.other W117 (Fld.other W113 G107 (Or.inl n_a0_b2)) (Or.inr (slot_ne (Or.inl (hw _ (List.mem_of_getElem? (i := 61) rfl))) (Or.inl (hw _ (List.mem_of_getElem? (i := 80) rfl))) (by decide) (t := (.array .long)) (t' := .int) (by decide) (by decide))))
  have G121 : Fld Z h117 a0 "com/example/pathsieve/pathsieve/engine/Messages" "tags" "[I" (.ref b3) := (Fld.other W117 (Fld.other W113 (Fld.other W106 F_tags (Or.inl n_a0_b1)) (Or.inl n_a0_b2)) (Or.inr (slot_ne (Or.inl (hw _ (List.mem_of_getElem? (i := 63) rfl))) (Or.inl (hw _ (List.mem_of_getElem? (i := 80) rfl))) (by decide) (t := (.array .int)) (t' := .int) (by decide) (by decide))))
  have G122 : Fld Z h117 a0 "com/example/pathsieve/pathsieve/engine/Messages" "before" "I" (.int (0 : Int32)) := (Fld.other W117 (Fld.other W113 (Fld.other W106 F_before (Or.inl n_a0_b1)) (Or.inl n_a0_b2)) (Or.inr (slot_ne (Or.inl (hw _ (List.mem_of_getElem? (i := 92) rfl))) (Or.inl (hw _ (List.mem_of_getElem? (i := 80) rfl))) (by decide) (t := .int) (t' := .int) (by decide) (by decide))))
  have G123 : Fld Z h117 a0 "com/example/pathsieve/pathsieve/engine/Messages" "blockBits" "I" (.int (9 : Int32)) := (Fld.other W117 (Fld.other W113 (Fld.other W106 F_bb (Or.inl n_a0_b1)) (Or.inl n_a0_b2)) (Or.inr (slot_ne (Or.inr (hw _ (List.mem_of_getElem? (i := 52) rfl))) (Or.inl (hw _ (List.mem_of_getElem? (i := 80) rfl))) (by decide) (t := .int) (t' := .int) (by decide) (by decide))))
  have G124 : Fld Z h117 a0 "com/example/pathsieve/pathsieve/engine/Messages" "end" "I" (.int en) := (Fld.other W117 (Fld.other W113 (Fld.other W106 F_end (Or.inl n_a0_b1)) (Or.inl n_a0_b2)) (Or.inr (slot_ne (Or.inl (hw _ (List.mem_of_getElem? (i := 82) rfl))) (Or.inl (hw _ (List.mem_of_getElem? (i := 80) rfl))) (by decide) (t := .int) (t' := .int) (by decide) (by decide))))
  have G125 : Fld Z h117 a0 "com/example/pathsieve/pathsieve/engine/Messages" "last" "I" (.int ff) := (Fld.other W117 (Fld.other W113 (Fld.other W106 F_last (Or.inl n_a0_b1)) (Or.inl n_a0_b2)) (Or.inr (slot_ne (Or.inl (hw _ (List.mem_of_getElem? (i := 47) rfl))) (Or.inl (hw _ (List.mem_of_getElem? (i := 80) rfl))) (by decide) (t := .int) (t' := .int) (by decide) (by decide))))
  have G126 : Arh Z h117 b1 k1 .int (2048 : Int32) ((w, (.int p1)) :: gs) [] (.int (0 : Int32)) := ((V106.other W113 n_b1_b2).other W117 (Ne.symm n_a0_b1))
  have G127 : Arh Z h117 b2 k2 .long (2048 : Int32) ((w, (.long q2)) :: ds) [] (.long (0 : Int64)) := (V113.other W117 (Ne.symm n_a0_b2))
  refine OGo.done (X117.returnOut hx Bd.returns (hb hby d11_161) hr) ⟨hrun, hended, _, _, rfl, ?_, ⟨_, rfl⟩, hW, hsame.mono (by decide) (by decide)⟩
  show Q11 Z a0 p1 q2 w en ff b1 k1 gs b2 k2 ds b3 h0 n0 _ T117.heap _
  rw [e117]
  exact ⟨rfl, N117, ((((Keep.refl h0 [a0, b1, b2]).wr W106 (Or.inl (List.mem_of_getElem? (i := 1) rfl))).wr W113 (Or.inl (List.mem_of_getElem? (i := 2) rfl))).wr W117 (Or.inl (List.mem_of_getElem? (i := 0) rfl))), G119, G120, G121, G122, G123, Fw117, G124, G125, G126, G127⟩
theorem d12_0 : decode prog_16_method_3_code 0 = .ok (.aload_n 0, 1) := by decide +kernel
theorem d12_1 : decode prog_16_method_3_code 1 = .ok (.iload_n 1, 1) := by decide +kernel
theorem d12_2 : decode prog_16_method_3_code 2 = .ok (.lload_n 2, 1) := by decide +kernel
theorem d12_3 : decode prog_16_method_3_code 3 = .ok (.invokevirtual 56, 3) := by decide +kernel
theorem d12_6 : decode prog_16_method_3_code 6 = .ok (.aload_n 0, 1) := by decide +kernel
theorem d12_7 : decode prog_16_method_3_code 7 = .ok (.getfield 60, 3) := by decide +kernel
theorem d12_10 : decode prog_16_method_3_code 10 = .ok (.aload_n 0, 1) := by decide +kernel
theorem d12_11 : decode prog_16_method_3_code 11 = .ok (.getfield 26, 3) := by decide +kernel
theorem d12_14 : decode prog_16_method_3_code 14 = .ok (.iconst 1, 1) := by decide +kernel
theorem d12_15 : decode prog_16_method_3_code 15 = .ok (.isub, 1) := by decide +kernel
theorem d12_16 : decode prog_16_method_3_code 16 = .ok (.iload 4, 2) := by decide +kernel
theorem d12_18 : decode prog_16_method_3_code 18 = .ok (.iastore, 1) := by decide +kernel
theorem d12_19 : decode prog_16_method_3_code 19 = .ok (.return_, 1) := by decide +kernel
theorem ef_12 (m : MethodId) (x0 : Addr) (x1 : Int32) (x2 : Int64) (x3 : Int32) : entryFrame m #[(.ref x0), (.int x1), (.long x2), (.int x3)] 5 = mkF m 0 #[.val (.ref x0), .val (.int x1), .val (.long x2), .second, .val (.int x3)] [] := by first | (simp [entryFrame, mkF, argsToLocals, Value.category]; done) | rfl
def Q12 (Z : State) (a0 : Addr) (p1 : Int32) (q2 : Int64) (p3 : Int32) (w : Int32) (en : Int32) (ff : Int32) (b1 : Addr) (k1 : ClassId) (gs : List (Int32 × Value)) (b2 : Addr) (k2 : ClassId) (ds : List (Int32 × Value)) (b3 : Addr) (k3 : ClassId) (ts : List (Int32 × Value)) (h0 : Heap) (n0 : Nat) (v : Option Value) (h : Heap) (L : List Loc) : Prop := v = none ∧ Fr n0 L ∧ Keep h0 h [a0, b1, b2, b3] ∧ (Fld Z h a0 "com/example/pathsieve/pathsieve/engine/Messages" "heads" "[I" (.ref b1)) ∧ (Fld Z h a0 "com/example/pathsieve/pathsieve/engine/Messages" "distances" "[J" (.ref b2)) ∧ (Fld Z h a0 "com/example/pathsieve/pathsieve/engine/Messages" "tags" "[I" (.ref b3)) ∧ (Fld Z h a0 "com/example/pathsieve/pathsieve/engine/Messages" "before" "I" (.int (0 : Int32))) ∧ (Fld Z h a0 "com/example/pathsieve/pathsieve/engine/Messages" "blockBits" "I" (.int (9 : Int32))) ∧ (Fld Z h a0 "com/example/pathsieve/pathsieve/engine/Messages" "place" "I" (.int (w + (1 : Int32)))) ∧ (Fld Z h a0 "com/example/pathsieve/pathsieve/engine/Messages" "end" "I" (.int en)) ∧ (Fld Z h a0 "com/example/pathsieve/pathsieve/engine/Messages" "last" "I" (.int ff)) ∧ (Arh Z h b1 k1 .int (2048 : Int32) ((w, (.int p1)) :: gs) [] (.int (0 : Int32))) ∧ (Arh Z h b2 k2 .long (2048 : Int32) ((w, (.long q2)) :: ds) [] (.long (0 : Int64))) ∧ (Arh Z h b3 k3 .int (2048 : Int32) ((((w + (1 : Int32)) - (1 : Int32)), (.int p3)) :: ts) [] (.int (0 : Int32)))
set_option maxRecDepth 65536 in
set_option maxHeartbeats 40000000 in
theorem rm12 (l : Launch) (Z : State) (ar : Array Value) (hw : ∀ d ∈ tables_1, d.before ar Z = true) (ws : List Jvm.Cond) (a0 : Addr) (p1 : Int32) (q2 : Int64) (p3 : Int32) (w : Int32) (en : Int32) (ff : Int32) (b1 : Addr) (k1 : ClassId) (gs : List (Int32 × Value)) (b2 : Addr) (k2 : ClassId) (ds : List (Int32 × Value)) (b3 : Addr) (k3 : ClassId) (ts : List (Int32 × Value)) (h0 : Heap) (n0 : Nat) (Z0 : n0 ≤ h0.size) (EM : Exa Z h0 a0 "com/example/pathsieve/pathsieve/engine/Messages") (F_place : Fld Z h0 a0 "com/example/pathsieve/pathsieve/engine/Messages" "place" "I" (.int w)) (F_end : Fld Z h0 a0 "com/example/pathsieve/pathsieve/engine/Messages" "end" "I" (.int en)) (F_last : Fld Z h0 a0 "com/example/pathsieve/pathsieve/engine/Messages" "last" "I" (.int ff)) (F_heads : Fld Z h0 a0 "com/example/pathsieve/pathsieve/engine/Messages" "heads" "[I" (.ref b1)) (F_distances : Fld Z h0 a0 "com/example/pathsieve/pathsieve/engine/Messages" "distances" "[J" (.ref b2)) (F_tags : Fld Z h0 a0 "com/example/pathsieve/pathsieve/engine/Messages" "tags" "[I" (.ref b3)) (F_before : Fld Z h0 a0 "com/example/pathsieve/pathsieve/engine/Messages" "before" "I" (.int (0 : Int32))) (F_bb : Fld Z h0 a0 "com/example/pathsieve/pathsieve/engine/Messages" "blockBits" "I" (.int (9 : Int32))) (V1 : Arh Z h0 b1 k1 .int (2048 : Int32) gs [] (.int (0 : Int32))) (V2 : Arh Z h0 b2 k2 .long (2048 : Int32) ds [] (.long (0 : Int64))) (V3 : Arh Z h0 b3 k3 .int (2048 : Int32) ts [] (.int (0 : Int32))) (n_a0_b1 : a0 ≠ b1) (n_a0_b2 : a0 ≠ b2) (n_a0_b3 : a0 ≠ b3) (n_b1_b2 : b1 ≠ b2) (n_b1_b3 : b1 ≠ b3) (n_b2_b3 : b2 ≠ b3) (g_a0 : n0 ≤ a0) (g_b1 : n0 ≤ b1) (g_b2 : n0 ≤ b2) (g_b3 : n0 ≤ b3) (hne : ¬ w = en) (hz : ¬ w < 0 ∧ w < 2048) (hz2 : ¬ ((w + (1 : Int32)) - (1 : Int32)) < 0 ∧ ((w + (1 : Int32)) - (1 : Int32)) < 2048) :
    MetFree l (⟨"com/example/pathsieve/pathsieve/engine/Messages", "add", "(IJI)V"⟩ : MethodName) (head1 (Jvm.Cond.code (⟨"com/example/pathsieve/pathsieve/engine/Messages", "add", "(IJI)V"⟩ : MethodName) prog_16_method_3_code 5 none :: ws) ({ frames := 1, cells := 0, slots := 0, locals := 16 } : Room)) (fun a U => a = #[(.ref a0), (.int p1), (.long q2), (.int p3)] ∧ Z.Warmed39 U.vm ∧ U.heap = h0) (fun _ _ _ _ _ => True) (fun _ U o U' => ∃ v L, o = .returned v ∧ Q12 Z a0 p1 q2 p3 w en ff b1 k1 gs b2 k2 ds b3 k3 ts h0 n0 v U'.heap L ∧ FrameEnd U o U' L ({ frames := 1, cells := 0, slots := 0, locals := 16 } : Room).cells ({ frames := 1, cells := 0, slots := 0, locals := 16 } : Room).slots) := by
  refine MetFree.of_bodySF (plainFor_of_name pn_2) hisR ?_
  intro p e s m args below meth c s₁ Bd hml0 hP hK
  obtain ⟨rfl, hZ, hh⟩ := hP
  have hx := Bd.exec
  have hby := Bd.bytes
  have hml : c.maxLocals = 5 := hml0
  have hown : s.vm.findClass "com/example/pathsieve/pathsieve/engine/Messages" = some m.cls := findClass_of_methodNamed Bd.named
  have hnm := (name_of_methodNamed Bd.named Bd.method).1
  have X0 : Stand p l e ({ frames := 1, cells := 0, slots := 0, locals := 16 } : Room) s m #[(.ref a0), (.int p1), (.long q2), (.int p3)] below meth c s₁ [] 0 0 := Stand.of_body Bd
  have e0 : s₁.heap = h0 := by rw [← hh, Bd.state]; rfl
  have N0 := Fr.nil n0
  have pre0 : ∀ t, Steps p.tables e below (s₁.setTop (mkF m 0 #[.val (.ref a0), .val (.int p1), .val (.long q2), .second, .val (.int p3)] [])) t → Steps p.tables e below (s₁.setTop (entryFrame m #[(.ref a0), (.int p1), (.long q2), (.int p3)] 5)) t := fun t k => castTop (ef_12 m a0 p1 q2 p3) k
  refine OGo.start pre0 ?_
  show OGo p.tables e below _ (s₁.setTop (mkF m 0 #[.val (.ref a0), .val (.int p1), .val (.long q2), .second, .val (.int p3)] []))
  refine OGo.st (fun t k => XS.aloadN X0.here hx rfl (hb hby d12_0) rfl rfl k) ?_
  show OGo p.tables e below _ (s₁.setTop (mkF m 1 #[.val (.ref a0), .val (.int p1), .val (.long q2), .second, .val (.int p3)] [(.ref a0)]))
  refine OGo.st (fun t k => XS.iloadN X0.here hx rfl (hb hby d12_1) rfl k) ?_
  show OGo p.tables e below _ (s₁.setTop (mkF m 2 #[.val (.ref a0), .val (.int p1), .val (.long q2), .second, .val (.int p3)] [(.int p1), (.ref a0)]))
  refine OGo.st (fun t k => XS.lloadN X0.here hx rfl (hb hby d12_2) rfl k) ?_
  show OGo p.tables e below _ (s₁.setTop (mkF m 3 #[.val (.ref a0), .val (.int p1), .val (.long q2), .second, .val (.int p3)] [(.long q2), (.int p1), (.ref a0)]))
  obtain ⟨cq101, kq101, q101a, q101b, q101c⟩ := isOf hZ e0 EM
  obtain ⟨_, _, ⟨T101, L101, kk101, nn101⟩, -, X101, ⟨Lc101, hQ101, l101, y101, z101⟩, st101⟩ := X0.virtualBack hx (y := (⟨"com/example/pathsieve/pathsieve/engine/Messages", "add", "(IJ)V"⟩ : MethodName)) (z := (⟨"com/example/pathsieve/pathsieve/engine/Messages", "add", "(IJ)V"⟩ : MethodName)) hown (mvT hZ (hw _ (List.mem_of_getElem? (i := 90) rfl))) (mvT hZ (hw _ (List.mem_of_getElem? (i := 75) rfl))) (notFace_of_selects (args := #[]) (mvT hZ (hw _ (List.mem_of_getElem? (i := 77) rfl)))) (mvT hZ (hw _ (List.mem_of_getElem? (i := 77) rfl))) (mvT hZ (hw _ (List.mem_of_getElem? (i := 76) rfl))) (by decide) (backOf (W := 0) (rm11 l Z ar hw [] a0 p1 q2 w en ff b1 k1 gs b2 k2 ds b3 h0 n0 Z0 EM F_place F_end F_last F_heads F_distances F_tags F_before F_bb V1 V2 n_a0_b1 n_a0_b2 n_b1_b2 g_a0 g_b1 g_b2 hne hz) hZ (hw _ (List.mem_of_getElem? (i := 78) rfl)) (hw _ (List.mem_of_getElem? (i := 39) rfl)) (by decide) (by decide)) q101a q101c (g := (mkF m 3 #[.val (.ref a0), .val (.int p1), .val (.long q2), .second, .val (.int p3)] [(.long q2), (.int p1), (.ref a0)])) rfl (by rw [hml]; rfl) (Steps.refl _) (argsL := [(.int p1), (.long q2)]) (rest := []) (lenOf pd_2 rfl) rfl (by show 2 * 0 + _ ≤ _; exact Nat.le_of_eq rfl) (hb hby d12_3) (fun _ _ => ⟨rfl, e0, (by decide : 0 + 0 ≤ _), (by decide : 0 + 0 ≤ _)⟩)
  dsimp only [Pt.U, Pt.locs, Pt.cells, Pt.slots] at X101 l101 y101 z101 st101 hQ101
  subst l101 y101 z101
  obtain ⟨rfl, Nq101, K101, P101_0, P101_1, P101_2, P101_3, P101_4, P101_5, P101_6, P101_7, P101_8, P101_9⟩ := hQ101
  have N101 := Fr.app N0 Nq101
  refine OGo.st (fun t k => st101.trans k) ?_
  show OGo p.tables e below _ (T101.setTop (mkF m 6 #[.val (.ref a0), .val (.int p1), .val (.long q2), .second, .val (.int p3)] []))
  refine OGo.st (fun t k => XS.aloadN X101.here hx rfl (hb hby d12_6) rfl rfl k) ?_
  show OGo p.tables e below _ (T101.setTop (mkF m 7 #[.val (.ref a0), .val (.int p1), .val (.long q2), .second, .val (.int p3)] [(.ref a0)]))
  obtain ⟨T102, X102, e102, st102⟩ := getF X101 hx hZ hown (host := "") (Or.inl (hw _ (List.mem_of_getElem? (i := 62) rfl))) Via.refl rfl P101_2 (g := (mkF m 7 #[.val (.ref a0), .val (.int p1), .val (.long q2), .second, .val (.int p3)] [(.ref a0)])) rfl rfl (hb hby d12_7)
  refine OGo.st st102 ?_
  show OGo p.tables e below _ (T102.setTop (mkF m 10 #[.val (.ref a0), .val (.int p1), .val (.long q2), .second, .val (.int p3)] [(.ref b3)]))
  refine OGo.st (fun t k => XS.aloadN X102.here hx rfl (hb hby d12_10) rfl rfl k) ?_
  show OGo p.tables e below _ (T102.setTop (mkF m 11 #[.val (.ref a0), .val (.int p1), .val (.long q2), .second, .val (.int p3)] [(.ref a0), (.ref b3)]))
  obtain ⟨T103, X103, e103, st103⟩ := getF X102 hx hZ hown (host := "") (Or.inl (hw _ (List.mem_of_getElem? (i := 79) rfl))) Via.refl e102 P101_5 (g := (mkF m 11 #[.val (.ref a0), .val (.int p1), .val (.long q2), .second, .val (.int p3)] [(.ref a0), (.ref b3)])) rfl rfl (hb hby d12_11)
  refine OGo.st st103 ?_
  show OGo p.tables e below _ (T103.setTop (mkF m 14 #[.val (.ref a0), .val (.int p1), .val (.long q2), .second, .val (.int p3)] [(.int (w + (1 : Int32))), (.ref b3)]))
  refine OGo.st (fun t k => XS.iconst X103.here hx rfl (hb hby d12_14) k) ?_
  show OGo p.tables e below _ (T103.setTop (mkF m 15 #[.val (.ref a0), .val (.int p1), .val (.long q2), .second, .val (.int p3)] [(.int (1 : Int32)), (.int (w + (1 : Int32))), (.ref b3)]))
  refine OGo.st (fun t k => XS.isub X103.here hx rfl (hb hby d12_15) rfl k) ?_
  show OGo p.tables e below _ (T103.setTop (mkF m 16 #[.val (.ref a0), .val (.int p1), .val (.long q2), .second, .val (.int p3)] [(.int ((w + (1 : Int32)) - (1 : Int32))), (.ref b3)]))
  refine OGo.st (fun t k => XS.iload X103.here hx rfl (hb hby d12_16) rfl k) ?_
  show OGo p.tables e below _ (T103.setTop (mkF m 18 #[.val (.ref a0), .val (.int p1), .val (.long q2), .second, .val (.int p3)] [(.int p3), (.int ((w + (1 : Int32)) - (1 : Int32))), (.ref b3)]))
  have G104 : Arh Z T101.heap b3 k3 .int (2048 : Int32) ts [] (.int (0 : Int32)) := (V3.keep K101 (ninS (Ne.symm n_a0_b3) (ninS (Ne.symm n_b1_b3) (ninS (Ne.symm n_b2_b3) nin0))))
  obtain ⟨cl105, Ar105, qc105, Sz105, Nz105, Hs105, Gs105⟩ := G104
  have hin105 : ¬ (((w + (1 : Int32)) - (1 : Int32)) < 0 ∨ cl105.slots.size ≤ (((w + (1 : Int32)) - (1 : Int32))).toNatClampNeg) := inb_of Sz105 hz2
  obtain ⟨T106, h106, X106, e106, W106, st106⟩ := stI X103 hx hZ e103 Ar105 (j := ((w + (1 : Int32)) - (1 : Int32))) hin105 (g := (mkF m 18 #[.val (.ref a0), .val (.int p1), .val (.long q2), .second, .val (.int p3)] [(.int p3), (.int ((w + (1 : Int32)) - (1 : Int32))), (.ref b3)])) rfl rfl (hb hby d12_18)
  refine OGo.st st106 ?_
  have N106 := Fr.snoc X106 N101 g_b3
  have V106 : Arh Z h106 b3 k3 .int (2048 : Int32) ((((w + (1 : Int32)) - (1 : Int32)), (.int p3)) :: ts) [] (.int (0 : Int32)) := Arh.push Ar105 qc105 Sz105 Nz105 Hs105 Gs105 rfl W106 hin105
  show OGo p.tables e below _ (T106.setTop (mkF m 19 #[.val (.ref a0), .val (.int p1), .val (.long q2), .second, .val (.int p3)] []))
  obtain ⟨fs, hr, hrun, hended, hW, hsame⟩ := X106.leave (v := none) (fun _ => rfl)
  have G108 : Fld Z h106 a0 "com/example/pathsieve/pathsieve/engine/Messages" "heads" "[I" (.ref b1) := (Fld.other W106 P101_0 (Or.inl n_a0_b3))
  have G109 : Fld Z h106 a0 "com/example/pathsieve/pathsieve/engine/Messages" "distances" "[J" (.ref b2) := (Fld.other W106 P101_1 (Or.inl n_a0_b3))
  have G110 : Fld Z h106 a0 "com/example/pathsieve/pathsieve/engine/Messages" "tags" "[I" (.ref b3) := (Fld.other W106 P101_2 (Or.inl n_a0_b3))
  have G111 : Fld Z h106 a0 "com/example/pathsieve/pathsieve/engine/Messages" "before" "I" (.int (0 : Int32)) := (Fld.other W106 P101_3 (Or.inl n_a0_b3))
  have G112 : Fld Z h106 a0 "com/example/pathsieve/pathsieve/engine/Messages" "blockBits" "I" (.int (9 : Int32)) := (Fld.other W106 P101_4 (Or.inl n_a0_b3))
  have G113 : Fld Z h106 a0 "com/example/pathsieve/pathsieve/engine/Messages" "place" "I" (.int (w + (1 : Int32))) := (Fld.other W106 P101_5 (Or.inl n_a0_b3))
  have G114 : Fld Z h106 a0 "com/example/pathsieve/pathsieve/engine/Messages" "end" "I" (.int en) := (Fld.other W106 P101_6 (Or.inl n_a0_b3))
  have G115 : Fld Z h106 a0 "com/example/pathsieve/pathsieve/engine/Messages" "last" "I" (.int ff) := (Fld.other W106 P101_7 (Or.inl n_a0_b3))
  have G116 : Arh Z h106 b1 k1 .int (2048 : Int32) ((w, (.int p1)) :: gs) [] (.int (0 : Int32)) := (P101_8.other W106 n_b1_b3)
  have G117 : Arh Z h106 b2 k2 .long (2048 : Int32) ((w, (.long q2)) :: ds) [] (.long (0 : Int64)) := (P101_9.other W106 n_b2_b3)
  refine OGo.done (X106.returnOut hx Bd.returns (hb hby d12_19) hr) ⟨hrun, hended, _, _, rfl, ?_, ⟨_, rfl⟩, hW, hsame.mono (by decide) (by decide)⟩
  show Q12 Z a0 p1 q2 p3 w en ff b1 k1 gs b2 k2 ds b3 k3 ts h0 n0 _ T106.heap _
  rw [e106]
  exact ⟨rfl, N106, (((Keep.refl h0 [a0, b1, b2, b3]).trans K101 (allS (Or.inl (List.mem_of_getElem? (i := 0) rfl)) (allS (Or.inl (List.mem_of_getElem? (i := 1) rfl)) (allS (Or.inl (List.mem_of_getElem? (i := 2) rfl)) all0)))).wr W106 (Or.inl (List.mem_of_getElem? (i := 3) rfl))), G108, G109, G110, G111, G112, G113, G114, G115, G116, G117, V106⟩
theorem d13_0 : decode method_3_code 0 = .ok (.iload_n 1, 1) := by decide +kernel
theorem d13_1 : decode method_3_code 1 = .ok (.ifCond .eq 14, 3) := by decide +kernel
theorem d13_4 : decode method_3_code 4 = .ok (.aload_n 0, 1) := by decide +kernel
theorem d13_5 : decode method_3_code 5 = .ok (.iload_n 2, 1) := by decide +kernel
theorem d13_6 : decode method_3_code 6 = .ok (.lload_n 3, 1) := by decide +kernel
theorem d13_7 : decode method_3_code 7 = .ok (.iload 5, 2) := by decide +kernel
theorem d13_9 : decode method_3_code 9 = .ok (.invokevirtual 42, 3) := by decide +kernel
theorem d13_12 : decode method_3_code 12 = .ok (.goto 9, 3) := by decide +kernel
theorem d13_15 : decode method_3_code 15 = .ok (.aload_n 0, 1) := by decide +kernel
theorem d13_16 : decode method_3_code 16 = .ok (.iload_n 2, 1) := by decide +kernel
theorem d13_17 : decode method_3_code 17 = .ok (.lload_n 3, 1) := by decide +kernel
theorem d13_18 : decode method_3_code 18 = .ok (.invokevirtual 46, 3) := by decide +kernel
theorem d13_21 : decode method_3_code 21 = .ok (.return_, 1) := by decide +kernel
theorem ef_13 (m : MethodId) (x0 : Addr) (x1 : Int32) (x2 : Int32) (x3 : Int64) (x4 : Int32) : entryFrame m #[(.ref x0), (.int x1), (.int x2), (.long x3), (.int x4)] 6 = mkF m 0 #[.val (.ref x0), .val (.int x1), .val (.int x2), .val (.long x3), .second, .val (.int x4)] [] := by first | (simp [entryFrame, mkF, argsToLocals, Value.category]; done) | rfl
def Q13 (Z : State) (a0 : Addr) (p1 : Int32) (p2 : Int32) (q3 : Int64) (p4 : Int32) (w : Int32) (en : Int32) (ff : Int32) (b1 : Addr) (k1 : ClassId) (gs : List (Int32 × Value)) (b2 : Addr) (k2 : ClassId) (ds : List (Int32 × Value)) (b3 : Addr) (k3 : ClassId) (ts : List (Int32 × Value)) (h0 : Heap) (n0 : Nat) (v : Option Value) (h : Heap) (L : List Loc) : Prop := ∃ tq : List (Int32 × Value), v = none ∧ Fr n0 L ∧ Keep h0 h [a0, b1, b2, b3] ∧ (Fld Z h a0 "com/example/pathsieve/pathsieve/engine/Messages" "heads" "[I" (.ref b1)) ∧ (Fld Z h a0 "com/example/pathsieve/pathsieve/engine/Messages" "distances" "[J" (.ref b2)) ∧ (Fld Z h a0 "com/example/pathsieve/pathsieve/engine/Messages" "tags" "[I" (.ref b3)) ∧ (Fld Z h a0 "com/example/pathsieve/pathsieve/engine/Messages" "before" "I" (.int (0 : Int32))) ∧ (Fld Z h a0 "com/example/pathsieve/pathsieve/engine/Messages" "blockBits" "I" (.int (9 : Int32))) ∧ (Fld Z h a0 "com/example/pathsieve/pathsieve/engine/Messages" "place" "I" (.int (w + (1 : Int32)))) ∧ (Fld Z h a0 "com/example/pathsieve/pathsieve/engine/Messages" "end" "I" (.int en)) ∧ (Fld Z h a0 "com/example/pathsieve/pathsieve/engine/Messages" "last" "I" (.int ff)) ∧ (Arh Z h b1 k1 .int (2048 : Int32) ((w, (.int p2)) :: gs) [] (.int (0 : Int32))) ∧ (Arh Z h b2 k2 .long (2048 : Int32) ((w, (.long q3)) :: ds) [] (.long (0 : Int64))) ∧ (Arh Z h b3 k3 .int (2048 : Int32) tq [] (.int (0 : Int32)))
set_option maxRecDepth 65536 in
set_option maxHeartbeats 40000000 in
theorem rm13 (l : Launch) (Z : State) (ar : Array Value) (hw : ∀ d ∈ tables_1, d.before ar Z = true) (ws : List Jvm.Cond) (a0 : Addr) (p1 : Int32) (p2 : Int32) (q3 : Int64) (p4 : Int32) (w : Int32) (en : Int32) (ff : Int32) (b1 : Addr) (k1 : ClassId) (gs : List (Int32 × Value)) (b2 : Addr) (k2 : ClassId) (ds : List (Int32 × Value)) (b3 : Addr) (k3 : ClassId) (ts : List (Int32 × Value)) (h0 : Heap) (n0 : Nat) (Z0 : n0 ≤ h0.size) (EM : Exa Z h0 a0 "com/example/pathsieve/pathsieve/engine/Messages") (F_place : Fld Z h0 a0 "com/example/pathsieve/pathsieve/engine/Messages" "place" "I" (.int w)) (F_end : Fld Z h0 a0 "com/example/pathsieve/pathsieve/engine/Messages" "end" "I" (.int en)) (F_last : Fld Z h0 a0 "com/example/pathsieve/pathsieve/engine/Messages" "last" "I" (.int ff)) (F_heads : Fld Z h0 a0 "com/example/pathsieve/pathsieve/engine/Messages" "heads" "[I" (.ref b1)) (F_distances : Fld Z h0 a0 "com/example/pathsieve/pathsieve/engine/Messages" "distances" "[J" (.ref b2)) (F_tags : Fld Z h0 a0 "com/example/pathsieve/pathsieve/engine/Messages" "tags" "[I" (.ref b3)) (F_before : Fld Z h0 a0 "com/example/pathsieve/pathsieve/engine/Messages" "before" "I" (.int (0 : Int32))) (F_bb : Fld Z h0 a0 "com/example/pathsieve/pathsieve/engine/Messages" "blockBits" "I" (.int (9 : Int32))) (V1 : Arh Z h0 b1 k1 .int (2048 : Int32) gs [] (.int (0 : Int32))) (V2 : Arh Z h0 b2 k2 .long (2048 : Int32) ds [] (.long (0 : Int64))) (V3 : Arh Z h0 b3 k3 .int (2048 : Int32) ts [] (.int (0 : Int32))) (n_a0_b1 : a0 ≠ b1) (n_a0_b2 : a0 ≠ b2) (n_a0_b3 : a0 ≠ b3) (n_b1_b2 : b1 ≠ b2) (n_b1_b3 : b1 ≠ b3) (n_b2_b3 : b2 ≠ b3) (g_a0 : n0 ≤ a0) (g_b1 : n0 ≤ b1) (g_b2 : n0 ≤ b2) (g_b3 : n0 ≤ b3) (hne : ¬ w = en) (hz : ¬ w < 0 ∧ w < 2048) (hz2 : ¬ ((w + (1 : Int32)) - (1 : Int32)) < 0 ∧ ((w + (1 : Int32)) - (1 : Int32)) < 2048) :
    MetFree l (⟨"com/example/pathsieve/pathsieve/engine/MessagesSizePinLaw", "send", "(Lcom/example/pathsieve/pathsieve/engine/Messages;ZIJI)V"⟩ : MethodName) (head1 (Jvm.Cond.code (⟨"com/example/pathsieve/pathsieve/engine/MessagesSizePinLaw", "send", "(Lcom/example/pathsieve/pathsieve/engine/Messages;ZIJI)V"⟩ : MethodName) method_3_code 6 none :: ws) ({ frames := 2, cells := 0, slots := 0, locals := 32 } : Room)) (fun a U => a = #[(.ref a0), (.int p1), (.int p2), (.long q3), (.int p4)] ∧ Z.Warmed39 U.vm ∧ U.heap = h0) (fun _ _ _ _ _ => True) (fun _ U o U' => ∃ v L, o = .returned v ∧ Q13 Z a0 p1 p2 q3 p4 w en ff b1 k1 gs b2 k2 ds b3 k3 ts h0 n0 v U'.heap L ∧ FrameEnd U o U' L ({ frames := 2, cells := 0, slots := 0, locals := 32 } : Room).cells ({ frames := 2, cells := 0, slots := 0, locals := 32 } : Room).slots) := by
  refine MetFree.of_bodySF (plainFor_of_name pn_3) hisR ?_
  intro p e s m args below meth c s₁ Bd hml0 hP hK
  obtain ⟨rfl, hZ, hh⟩ := hP
  have hx := Bd.exec
  have hby := Bd.bytes
  have hml : c.maxLocals = 6 := hml0
  have hown : s.vm.findClass "com/example/pathsieve/pathsieve/engine/MessagesSizePinLaw" = some m.cls := findClass_of_methodNamed Bd.named
  have hnm := (name_of_methodNamed Bd.named Bd.method).1
  have X0 : Stand p l e ({ frames := 2, cells := 0, slots := 0, locals := 32 } : Room) s m #[(.ref a0), (.int p1), (.int p2), (.long q3), (.int p4)] below meth c s₁ [] 0 0 := Stand.of_body Bd
  have e0 : s₁.heap = h0 := by rw [← hh, Bd.state]; rfl
  have N0 := Fr.nil n0
  have pre0 : ∀ t, Steps p.tables e below (s₁.setTop (mkF m 0 #[.val (.ref a0), .val (.int p1), .val (.int p2), .val (.long q3), .second, .val (.int p4)] [])) t → Steps p.tables e below (s₁.setTop (entryFrame m #[(.ref a0), (.int p1), (.int p2), (.long q3), (.int p4)] 6)) t := fun t k => castTop (ef_13 m a0 p1 p2 q3 p4) k
  refine OGo.start pre0 ?_
  show OGo p.tables e below _ (s₁.setTop (mkF m 0 #[.val (.ref a0), .val (.int p1), .val (.int p2), .val (.long q3), .second, .val (.int p4)] []))
  refine OGo.st (fun t k => XS.iloadN X0.here hx rfl (hb hby d13_0) rfl k) ?_
  show OGo p.tables e below _ (s₁.setTop (mkF m 1 #[.val (.ref a0), .val (.int p1), .val (.int p2), .val (.long q3), .second, .val (.int p4)] [(.int p1)]))
  by_cases hc1_101 : p1 = (0 : Int32)
  ·
    refine OGo.st (fun t k => XS.ifYes X0.here hx rfl (pc0 := 1) (pc' := 15) rfl (hb hby d13_1) rfl ((if0 _ _).trans (teq hc1_101).1) (by decide) (by decide) k) ?_
    show OGo p.tables e below _ (s₁.setTop (mkF m 15 #[.val (.ref a0), .val (.int p1), .val (.int p2), .val (.long q3), .second, .val (.int p4)] []))
    refine OGo.st (fun t k => XS.aloadN X0.here hx rfl (hb hby d13_15) rfl rfl k) ?_
    show OGo p.tables e below _ (s₁.setTop (mkF m 16 #[.val (.ref a0), .val (.int p1), .val (.int p2), .val (.long q3), .second, .val (.int p4)] [(.ref a0)]))
    refine OGo.st (fun t k => XS.iloadN X0.here hx rfl (hb hby d13_16) rfl k) ?_
    show OGo p.tables e below _ (s₁.setTop (mkF m 17 #[.val (.ref a0), .val (.int p1), .val (.int p2), .val (.long q3), .second, .val (.int p4)] [(.int p2), (.ref a0)]))
    refine OGo.st (fun t k => XS.lloadN X0.here hx rfl (hb hby d13_17) rfl k) ?_
    show OGo p.tables e below _ (s₁.setTop (mkF m 18 #[.val (.ref a0), .val (.int p1), .val (.int p2), .val (.long q3), .second, .val (.int p4)] [(.long q3), (.int p2), (.ref a0)]))
    obtain ⟨cq102, kq102, q102a, q102b, q102c⟩ := isOf hZ e0 EM
    obtain ⟨_, _, ⟨T102, L102, kk102, nn102⟩, -, X102, ⟨Lc102, hQ102, l102, y102, z102⟩, st102⟩ := X0.virtualBack hx (y := (⟨"com/example/pathsieve/pathsieve/engine/Messages", "add", "(IJ)V"⟩ : MethodName)) (z := (⟨"com/example/pathsieve/pathsieve/engine/Messages", "add", "(IJ)V"⟩ : MethodName)) hown (mvT hZ (hw _ (List.mem_of_getElem? (i := 74) rfl))) (mvT hZ (hw _ (List.mem_of_getElem? (i := 75) rfl))) (notFace_of_selects (args := #[]) (mvT hZ (hw _ (List.mem_of_getElem? (i := 77) rfl)))) (mvT hZ (hw _ (List.mem_of_getElem? (i := 77) rfl))) (mvT hZ (hw _ (List.mem_of_getElem? (i := 76) rfl))) (by decide) (backOf (W := 0) (rm11 l Z ar hw [] a0 p2 q3 w en ff b1 k1 gs b2 k2 ds b3 h0 n0 Z0 EM F_place F_end F_last F_heads F_distances F_tags F_before F_bb V1 V2 n_a0_b1 n_a0_b2 n_b1_b2 g_a0 g_b1 g_b2 hne hz) hZ (hw _ (List.mem_of_getElem? (i := 78) rfl)) (hw _ (List.mem_of_getElem? (i := 39) rfl)) (by decide) (by decide)) q102a q102c (g := (mkF m 18 #[.val (.ref a0), .val (.int p1), .val (.int p2), .val (.long q3), .second, .val (.int p4)] [(.long q3), (.int p2), (.ref a0)])) rfl (by rw [hml]; rfl) (Steps.refl _) (argsL := [(.int p2), (.long q3)]) (rest := []) (lenOf pd_2 rfl) rfl (by show 2 * 0 + _ ≤ _; exact Nat.le_of_eq rfl) (hb hby d13_18) (fun _ _ => ⟨rfl, e0, (by decide : 0 + 0 ≤ _), (by decide : 0 + 0 ≤ _)⟩)
    dsimp only [Pt.U, Pt.locs, Pt.cells, Pt.slots] at X102 l102 y102 z102 st102 hQ102
    subst l102 y102 z102
    obtain ⟨rfl, Nq102, K102, P102_0, P102_1, P102_2, P102_3, P102_4, P102_5, P102_6, P102_7, P102_8, P102_9⟩ := hQ102
    have N102 := Fr.app N0 Nq102
    refine OGo.st (fun t k => st102.trans k) ?_
    show OGo p.tables e below _ (T102.setTop (mkF m 21 #[.val (.ref a0), .val (.int p1), .val (.int p2), .val (.long q3), .second, .val (.int p4)] []))
    obtain ⟨fs, hr, hrun, hended, hW, hsame⟩ := X102.leave (v := none) (fun _ => rfl)
    have G104 : Arh Z T102.heap b3 k3 .int (2048 : Int32) ts [] (.int (0 : Int32)) := (V3.keep K102 (ninS (Ne.symm n_a0_b3) (ninS (Ne.symm n_b1_b3) (ninS (Ne.symm n_b2_b3) nin0))))
    refine OGo.done (X102.returnOut hx Bd.returns (hb hby d13_21) hr) ⟨hrun, hended, _, _, rfl, ?_, ⟨_, rfl⟩, hW, hsame.mono (by decide) (by decide)⟩
    show Q13 Z a0 p1 p2 q3 p4 w en ff b1 k1 gs b2 k2 ds b3 k3 ts h0 n0 _ T102.heap _
    exact ⟨ts, rfl, N102, ((Keep.refl h0 [a0, b1, b2, b3]).trans K102 (allS (Or.inl (List.mem_of_getElem? (i := 0) rfl)) (allS (Or.inl (List.mem_of_getElem? (i := 1) rfl)) (allS (Or.inl (List.mem_of_getElem? (i := 2) rfl)) all0)))), P102_0, P102_1, P102_2, P102_3, P102_4, P102_5, P102_6, P102_7, P102_8, P102_9, G104⟩
  ·
    refine OGo.st (fun t k => XS.ifNo X0.here hx rfl (hb hby d13_1) rfl ((if0 _ _).trans (feq hc1_101).1) k) ?_
    show OGo p.tables e below _ (s₁.setTop (mkF m 4 #[.val (.ref a0), .val (.int p1), .val (.int p2), .val (.long q3), .second, .val (.int p4)] []))
    refine OGo.st (fun t k => XS.aloadN X0.here hx rfl (hb hby d13_4) rfl rfl k) ?_
    show OGo p.tables e below _ (s₁.setTop (mkF m 5 #[.val (.ref a0), .val (.int p1), .val (.int p2), .val (.long q3), .second, .val (.int p4)] [(.ref a0)]))
    refine OGo.st (fun t k => XS.iloadN X0.here hx rfl (hb hby d13_5) rfl k) ?_
    show OGo p.tables e below _ (s₁.setTop (mkF m 6 #[.val (.ref a0), .val (.int p1), .val (.int p2), .val (.long q3), .second, .val (.int p4)] [(.int p2), (.ref a0)]))
    refine OGo.st (fun t k => XS.lloadN X0.here hx rfl (hb hby d13_6) rfl k) ?_
    show OGo p.tables e below _ (s₁.setTop (mkF m 7 #[.val (.ref a0), .val (.int p1), .val (.int p2), .val (.long q3), .second, .val (.int p4)] [(.long q3), (.int p2), (.ref a0)]))
    refine OGo.st (fun t k => XS.iload X0.here hx rfl (hb hby d13_7) rfl k) ?_
    show OGo p.tables e below _ (s₁.setTop (mkF m 9 #[.val (.ref a0), .val (.int p1), .val (.int p2), .val (.long q3), .second, .val (.int p4)] [(.int p4), (.long q3), (.int p2), (.ref a0)]))
    obtain ⟨cq105, kq105, q105a, q105b, q105c⟩ := isOf hZ e0 EM
    obtain ⟨_, _, ⟨T105, L105, kk105, nn105⟩, -, X105, ⟨Lc105, hQ105, l105, y105, z105⟩, st105⟩ := X0.virtualBack hx (y := (⟨"com/example/pathsieve/pathsieve/engine/Messages", "add", "(IJI)V"⟩ : MethodName)) (z := (⟨"com/example/pathsieve/pathsieve/engine/Messages", "add", "(IJI)V"⟩ : MethodName)) hown (mvT hZ (hw _ (List.mem_of_getElem? (i := 85) rfl))) (mvT hZ (hw _ (List.mem_of_getElem? (i := 86) rfl))) (notFace_of_selects (args := #[]) (mvT hZ (hw _ (List.mem_of_getElem? (i := 88) rfl)))) (mvT hZ (hw _ (List.mem_of_getElem? (i := 88) rfl))) (mvT hZ (hw _ (List.mem_of_getElem? (i := 87) rfl))) (by decide) (backOf (W := 0) (rm12 l Z ar hw [] a0 p2 q3 p4 w en ff b1 k1 gs b2 k2 ds b3 k3 ts h0 n0 Z0 EM F_place F_end F_last F_heads F_distances F_tags F_before F_bb V1 V2 V3 n_a0_b1 n_a0_b2 n_a0_b3 n_b1_b2 n_b1_b3 n_b2_b3 g_a0 g_b1 g_b2 g_b3 hne hz hz2) hZ (hw _ (List.mem_of_getElem? (i := 89) rfl)) (hw _ (List.mem_of_getElem? (i := 39) rfl)) (by decide) (by decide)) q105a q105c (g := (mkF m 9 #[.val (.ref a0), .val (.int p1), .val (.int p2), .val (.long q3), .second, .val (.int p4)] [(.int p4), (.long q3), (.int p2), (.ref a0)])) rfl (by rw [hml]; rfl) (Steps.refl _) (argsL := [(.int p2), (.long q3), (.int p4)]) (rest := []) (lenOf pd_3 rfl) rfl (by show 2 * 0 + _ ≤ _; exact Nat.le_of_eq rfl) (hb hby d13_9) (fun _ _ => ⟨rfl, e0, (by decide : 0 + 0 ≤ _), (by decide : 0 + 0 ≤ _)⟩)
    dsimp only [Pt.U, Pt.locs, Pt.cells, Pt.slots] at X105 l105 y105 z105 st105 hQ105
    subst l105 y105 z105
    obtain ⟨rfl, Nq105, K105, P105_0, P105_1, P105_2, P105_3, P105_4, P105_5, P105_6, P105_7, P105_8, P105_9, P105_10⟩ := hQ105
    have N105 := Fr.app N0 Nq105
    refine OGo.st (fun t k => st105.trans k) ?_
    show OGo p.tables e below _ (T105.setTop (mkF m 12 #[.val (.ref a0), .val (.int p1), .val (.int p2), .val (.long q3), .second, .val (.int p4)] []))
    refine OGo.st (fun t k => XS.goto X105.here hx rfl (pc0 := 12) (pc' := 21) rfl (hb hby d13_12) (by decide) (by decide) k) ?_
    show OGo p.tables e below _ (T105.setTop (mkF m 21 #[.val (.ref a0), .val (.int p1), .val (.int p2), .val (.long q3), .second, .val (.int p4)] []))
    obtain ⟨fs, hr, hrun, hended, hW, hsame⟩ := X105.leave (v := none) (fun _ => rfl)
    refine OGo.done (X105.returnOut hx Bd.returns (hb hby d13_21) hr) ⟨hrun, hended, _, _, rfl, ?_, ⟨_, rfl⟩, hW, hsame.mono (by decide) (by decide)⟩
    show Q13 Z a0 p1 p2 q3 p4 w en ff b1 k1 gs b2 k2 ds b3 k3 ts h0 n0 _ T105.heap _
    exact ⟨((((w + (1 : Int32)) - (1 : Int32)), (.int p4)) :: ts), rfl, N105, ((Keep.refl h0 [a0, b1, b2, b3]).trans K105 (allS (Or.inl (List.mem_of_getElem? (i := 0) rfl)) (allS (Or.inl (List.mem_of_getElem? (i := 1) rfl)) (allS (Or.inl (List.mem_of_getElem? (i := 2) rfl)) (allS (Or.inl (List.mem_of_getElem? (i := 3) rfl)) all0))))), P105_0, P105_1, P105_2, P105_3, P105_4, P105_5, P105_6, P105_7, P105_8, P105_9, P105_10⟩
theorem pd_4 : parseMethodDescriptor "(II)V" = some ⟨[.int, .int], none⟩ := by decide +kernel
theorem pd_5 : parseMethodDescriptor "(Lcom/example/pathsieve/pathsieve/engine/Outbox;)V" = some ⟨[(.object "com/example/pathsieve/pathsieve/engine/Outbox")], none⟩ := by decide +kernel
theorem pd_6 : parseMethodDescriptor "([I[J[I)V" = some ⟨[(.array .int), (.array .long), (.array .int)], none⟩ := by decide +kernel
theorem pd_7 : parseMethodDescriptor "()I" = some ⟨[], some .int⟩ := by decide +kernel
theorem pd_8 : parseMethodDescriptor "(Lcom/example/pathsieve/pathsieve/engine/Messages;ZIJI)V" = some ⟨[(.object "com/example/pathsieve/pathsieve/engine/Messages"), .boolean, .int, .long, .int], none⟩ := by decide +kernel
theorem ef_14 (m : MethodId) (x0 : Int32) (x1 : Int32) (x2 : Int32) (x3 : Int32) (x4 : Int64) (x5 : Int32) : entryFrame m #[(.int x0), (.int x1), (.int x2), (.int x3), (.long x4), (.int x5)] maxLocals = mkF m 0 #[.val (.int x0), .val (.int x1), .val (.int x2), .val (.int x3), .val (.long x4), .second, .val (.int x5), .unset, .unset, .unset, .unset, .unset] [] := by first | (simp [entryFrame, mkF, argsToLocals, Value.category, maxLocals]; done) | rfl
def Q14 (Z : State) (p0 : Int32) (p1 : Int32) (p2 : Int32) (p3 : Int32) (q4 : Int64) (p5 : Int32) (h0 : Heap) (n0 : Nat) (v : Option Value) (h : Heap) (L : List Loc) : Prop := v = some (.int (1 : Int32)) ∧ Fr n0 L
set_option maxRecDepth 65536 in
set_option maxHeartbeats 40000000 in
theorem rm14 (l : Launch) (Z : State) (ar : Array Value) (hw : ∀ d ∈ tables_1, d.before ar Z = true) (ws : List Jvm.Cond) (p0 : Int32) (p1 : Int32) (p2 : Int32) (p3 : Int32) (q4 : Int64) (p5 : Int32) (h0 : Heap) (n0 : Nat) (Z0 : n0 ≤ h0.size)  :
    MetFree l x (head1 (Jvm.Cond.code x code maxLocals ret :: ws) room_1) (fun a U => a = #[(.int p0), (.int p1), (.int p2), (.int p3), (.long q4), (.int p5)] ∧ Z.Warmed39 U.vm ∧ U.heap = h0) (fun _ _ _ _ _ => True) (fun _ U o U' => ∃ v L, o = .returned v ∧ Q14 Z p0 p1 p2 p3 q4 p5 h0 n0 v U'.heap L ∧ FrameEnd U o U' L room_1.cells room_1.slots) := by
  refine MetFree.of_bodySF (plainFor_of_name pn_3) hisR ?_
  intro p e s m args below meth c s₁ Bd hml0 hP hK
  obtain ⟨rfl, hZ, hh⟩ := hP
  have hx := Bd.exec
  have hby := Bd.bytes
  have hml : c.maxLocals = 12 := hml0
  have hown : s.vm.findClass "com/example/pathsieve/pathsieve/engine/MessagesSizePinLaw" = some m.cls := findClass_of_methodNamed Bd.named
  have hnm := (name_of_methodNamed Bd.named Bd.method).1
  have X0 : Stand p l e room_1 s m #[(.int p0), (.int p1), (.int p2), (.int p3), (.long q4), (.int p5)] below meth c s₁ [] 0 0 := Stand.of_body Bd
  have e0 : s₁.heap = h0 := by rw [← hh, Bd.state]; rfl
  have N0 := Fr.nil n0
  have pre0 : ∀ t, Steps p.tables e below (s₁.setTop (mkF m 0 #[.val (.int p0), .val (.int p1), .val (.int p2), .val (.int p3), .val (.long q4), .second, .val (.int p5), .unset, .unset, .unset, .unset, .unset] [])) t → Steps p.tables e below (s₁.setTop (entryFrame m #[(.int p0), (.int p1), (.int p2), (.int p3), (.long q4), (.int p5)] maxLocals)) t := fun t k => castTop (ef_14 m p0 p1 p2 p3 q4 p5) k
  refine OGo.start pre0 ?_
  show OGo p.tables e below _ (s₁.setTop (mkF m 0 #[.val (.int p0), .val (.int p1), .val (.int p2), .val (.int p3), .val (.long q4), .second, .val (.int p5), .unset, .unset, .unset, .unset, .unset] []))
  obtain ⟨T101, h101, X101, e101, E101, A101, D101, -, st101⟩ := newO X0 hx hZ hown (hw _ (List.mem_of_getElem? (i := 0) rfl)) (hw _ (List.mem_of_getElem? (i := 1) rfl)) (hw _ (List.mem_of_getElem? (i := 2) rfl)) e0 (g := (mkF m 0 #[.val (.int p0), .val (.int p1), .val (.int p2), .val (.int p3), .val (.long q4), .second, .val (.int p5), .unset, .unset, .unset, .unset, .unset] [])) rfl (hb hby at_0) (by decide) (by decide)
  obtain ⟨b101, g101⟩ : ∃ z, z = h0.size := ⟨_, rfl⟩
  rw [← g101] at A101 D101 st101
  have ge_b101 : n0 ≤ b101 := Nat.le_trans Z0 (Nat.le_of_eq g101.symm)
  have sz_b101 : h0.size ≤ b101 := Nat.le_trans (Nat.le_refl h0.size) (Nat.le_of_eq g101.symm)
  refine OGo.st st101 ?_
  have Fn101_heads : Fld Z h101 b101 "com/example/pathsieve/pathsieve/engine/Outbox" "heads" "[I" .null := D101 (Or.inl (hw _ (List.mem_of_getElem? (i := 11) rfl))) (ty := (.array .int)) (by decide)
  have Fn101_distances : Fld Z h101 b101 "com/example/pathsieve/pathsieve/engine/Outbox" "distances" "[J" .null := D101 (Or.inl (hw _ (List.mem_of_getElem? (i := 14) rfl))) (ty := (.array .long)) (by decide)
  have Fn101_nextBlocks : Fld Z h101 b101 "com/example/pathsieve/pathsieve/engine/Outbox" "nextBlocks" "[I" .null := D101 (Or.inl (hw _ (List.mem_of_getElem? (i := 16) rfl))) (ty := (.array .int)) (by decide)
  have Fn101_blockBits : Fld Z h101 b101 "com/example/pathsieve/pathsieve/engine/Outbox" "blockBits" "I" (.int (0 : Int32)) := D101 (Or.inr (hw _ (List.mem_of_getElem? (i := 29) rfl))) (ty := .int) (by decide)
  have Fn101_to : Fld Z h101 b101 "com/example/pathsieve/pathsieve/engine/Outbox" "to" "[Lcom/example/pathsieve/pathsieve/engine/Messages;" .null := D101 (Or.inr (hw _ (List.mem_of_getElem? (i := 33) rfl))) (ty := (.array (.object "com/example/pathsieve/pathsieve/engine/Messages"))) (by decide)
  have Fn101_taken : Fld Z h101 b101 "com/example/pathsieve/pathsieve/engine/Outbox" "taken" "I" (.int (0 : Int32)) := D101 (Or.inl (hw _ (List.mem_of_getElem? (i := 36) rfl))) (ty := .int) (by decide)
  have Fn101_tags : Fld Z h101 b101 "com/example/pathsieve/pathsieve/engine/Outbox" "tags" "[I" .null := D101 (Or.inl (hw _ (List.mem_of_getElem? (i := 96) rfl))) (ty := (.array .int)) (by decide)
  show OGo p.tables e below _ (T101.setTop (mkF m 3 #[.val (.int p0), .val (.int p1), .val (.int p2), .val (.int p3), .val (.long q4), .second, .val (.int p5), .unset, .unset, .unset, .unset, .unset] [(.ref b101)]))
  refine OGo.st (fun t k => XS.dup X101.here hx rfl (hb hby at_3) rfl rfl k) ?_
  show OGo p.tables e below _ (T101.setTop (mkF m 4 #[.val (.int p0), .val (.int p1), .val (.int p2), .val (.int p3), .val (.long q4), .second, .val (.int p5), .unset, .unset, .unset, .unset, .unset] [(.ref b101), (.ref b101)]))
  refine OGo.st (fun t k => XS.iconst X101.here hx rfl (hb hby at_4) k) ?_
  show OGo p.tables e below _ (T101.setTop (mkF m 5 #[.val (.int p0), .val (.int p1), .val (.int p2), .val (.int p3), .val (.long q4), .second, .val (.int p5), .unset, .unset, .unset, .unset, .unset] [(.int (0 : Int32)), (.ref b101), (.ref b101)]))
  refine OGo.st (fun t k => XS.iconst X101.here hx rfl (hb hby at_5) k) ?_
  show OGo p.tables e below _ (T101.setTop (mkF m 6 #[.val (.int p0), .val (.int p1), .val (.int p2), .val (.int p3), .val (.long q4), .second, .val (.int p5), .unset, .unset, .unset, .unset, .unset] [(.int (1 : Int32)), (.int (0 : Int32)), (.ref b101), (.ref b101)]))
  obtain ⟨_, _, ⟨T102, L102, kk102, nn102⟩, -, X102, ⟨Lc102, hQ102, l102, y102, z102⟩, st102⟩ := X101.specialBack hx (y := (⟨"com/example/pathsieve/pathsieve/engine/Outbox", "<init>", "(II)V"⟩ : MethodName)) rfl hown (mvT hZ (hw _ (List.mem_of_getElem? (i := 3) rfl))) (mvT hZ (hw _ (List.mem_of_getElem? (i := 4) rfl))) (mvT hZ (hw _ (List.mem_of_getElem? (i := 5) rfl))) (by decide) (backOf (W := 1) (rm3 l Z ar hw [] b101 h101 n0 (Nat.le_trans Z0 E101.1) A101 ge_b101 Fn101_heads Fn101_distances Fn101_nextBlocks Fn101_blockBits Fn101_to Fn101_taken) hZ (hw _ (List.mem_of_getElem? (i := 5) rfl)) (hw _ (List.mem_of_getElem? (i := 2) rfl)) (by decide) (by decide)) (g := (mkF m 6 #[.val (.int p0), .val (.int p1), .val (.int p2), .val (.int p3), .val (.long q4), .second, .val (.int p5), .unset, .unset, .unset, .unset, .unset] [(.int (1 : Int32)), (.int (0 : Int32)), (.ref b101), (.ref b101)])) rfl (by rw [hml]; rfl) (Steps.refl _) (a := b101) (argsL := [(.int (0 : Int32)), (.int (1 : Int32))]) (rest := [(.ref b101)]) (lenOf pd_4 rfl) rfl (by show 2 * 0 + _ ≤ _; exact Nat.le_of_eq rfl) (hb hby at_6) (fun _ _ => ⟨rfl, e101, (by decide : 1 + 4 ≤ _), (by decide : 7 + 1 ≤ _)⟩)
  dsimp only [Pt.U, Pt.locs, Pt.cells, Pt.slots] at X102 l102 y102 z102 st102 hQ102
  subst l102 y102 z102
  obtain ⟨x102_nb, rfl, Nq102, K102, P102_0, P102_1, P102_2⟩ := hQ102
  have N102 := Fr.app N0 Nq102
  refine OGo.st (fun t k => st102.trans k) ?_
  show OGo p.tables e below _ (T102.setTop (mkF m 9 #[.val (.int p0), .val (.int p1), .val (.int p2), .val (.int p3), .val (.long q4), .second, .val (.int p5), .unset, .unset, .unset, .unset, .unset] [(.ref b101)]))
  refine OGo.st (fun t k => XS.astore X102.here hx rfl (hb hby at_9) rfl rfl (l' := #[.val (.int p0), .val (.int p1), .val (.int p2), .val (.int p3), .val (.long q4), .second, .val (.int p5), .val (.ref b101), .unset, .unset, .unset, .unset]) rfl k) ?_
  show OGo p.tables e below _ (T102.setTop (mkF m 11 #[.val (.int p0), .val (.int p1), .val (.int p2), .val (.int p3), .val (.long q4), .second, .val (.int p5), .val (.ref b101), .unset, .unset, .unset, .unset] []))
  refine OGo.st (fun t k => XS.iloadN X102.here hx rfl (hb hby at_11) rfl k) ?_
  show OGo p.tables e below _ (T102.setTop (mkF m 12 #[.val (.int p0), .val (.int p1), .val (.int p2), .val (.int p3), .val (.long q4), .second, .val (.int p5), .val (.ref b101), .unset, .unset, .unset, .unset] [(.int p0)]))
  refine OGo.st (fun t k => XS.iconst X102.here hx rfl (hb hby at_12) k) ?_
  show OGo p.tables e below _ (T102.setTop (mkF m 13 #[.val (.int p0), .val (.int p1), .val (.int p2), .val (.int p3), .val (.long q4), .second, .val (.int p5), .val (.ref b101), .unset, .unset, .unset, .unset] [(.int (3 : Int32)), (.int p0)]))
  refine OGo.st (fun t k => XS.iand X102.here hx rfl (hb hby at_13) rfl k) ?_
  show OGo p.tables e below _ (T102.setTop (mkF m 14 #[.val (.int p0), .val (.int p1), .val (.int p2), .val (.int p3), .val (.long q4), .second, .val (.int p5), .val (.ref b101), .unset, .unset, .unset, .unset] [(.int (p0 &&& (3 : Int32)))]))
  refine OGo.st (fun t k => XS.istore X102.here hx rfl (hb hby at_14) rfl (l' := #[.val (.int p0), .val (.int p1), .val (.int p2), .val (.int p3), .val (.long q4), .second, .val (.int p5), .val (.ref b101), .val (.int (p0 &&& (3 : Int32))), .unset, .unset, .unset]) rfl k) ?_
  show OGo p.tables e below _ (T102.setTop (mkF m 16 #[.val (.int p0), .val (.int p1), .val (.int p2), .val (.int p3), .val (.long q4), .second, .val (.int p5), .val (.ref b101), .val (.int (p0 &&& (3 : Int32))), .unset, .unset, .unset] []))
  have hff := own_m3 p0
  generalize (p0 &&& (3 : Int32)) = ff at hff ⊢
  have hz := own_z ff hff
  have j1 := own_i (ff <<< ((9 : Int32) &&& 31)) (1 : Int32) (by omega) (by omega) (by decide) (by decide)
  have j2 := own_i ((ff <<< ((9 : Int32) &&& 31)) + (1 : Int32)) (1 : Int32) (by have k1 : (1 : Int32).toInt = 1 := rfl; omega) (by have k1 : (1 : Int32).toInt = 1 := rfl; omega) (by decide) (by decide)
  have j3 := own_i (((ff <<< ((9 : Int32) &&& 31)) + (1 : Int32)) + (1 : Int32)) (1 : Int32) (by have k1 : (1 : Int32).toInt = 1 := rfl; omega) (by have k1 : (1 : Int32).toInt = 1 := rfl; omega) (by decide) (by decide)
  have j9 := own_i (ff <<< ((9 : Int32) &&& 31)) ((1 : Int32) <<< ((9 : Int32) &&& 31)) (by omega) (by omega) (by decide) (by decide)
  have k1 : (1 : Int32).toInt = 1 := rfl
  have k4 : (4 : Int32).toInt = 4 := rfl
  have k9 : ((1 : Int32) <<< ((9 : Int32) &&& 31)).toInt = 512 := rfl
  show OGo p.tables e below _ (T102.setTop (mkF m 16 #[.val (.int p0), .val (.int p1), .val (.int p2), .val (.int p3), .val (.long q4), .second, .val (.int p5), .val (.ref b101), .val (.int ff), .unset, .unset, .unset] []))
  refine OGo.st (fun t k => XS.aload X102.here hx rfl (hb hby at_16) rfl rfl k) ?_
  show OGo p.tables e below _ (T102.setTop (mkF m 18 #[.val (.int p0), .val (.int p1), .val (.int p2), .val (.int p3), .val (.long q4), .second, .val (.int p5), .val (.ref b101), .val (.int ff), .unset, .unset, .unset] [(.ref b101)]))
  refine OGo.st (fun t k => XS.iconst X102.here hx rfl (hb hby at_18) k) ?_
  show OGo p.tables e below _ (T102.setTop (mkF m 19 #[.val (.int p0), .val (.int p1), .val (.int p2), .val (.int p3), .val (.long q4), .second, .val (.int p5), .val (.ref b101), .val (.int ff), .unset, .unset, .unset] [(.int (4 : Int32)), (.ref b101)]))
  have G103 : Exa Z T102.heap b101 "com/example/pathsieve/pathsieve/engine/Outbox" := (A101.keep K102)
  obtain ⟨T104, h104, k104, X104, e104, E104, A104, st104⟩ := newP X102 hx hZ (hw _ (List.mem_of_getElem? (i := 9) rfl)) rfl (g := (mkF m 19 #[.val (.int p0), .val (.int p1), .val (.int p2), .val (.int p3), .val (.long q4), .second, .val (.int p5), .val (.ref b101), .val (.int ff), .unset, .unset, .unset] [(.int (4 : Int32)), (.ref b101)])) rfl (hb hby at_19) rfl (by decide) (cap := 4) (by decide) (by decide) (by decide) (by decide)
  obtain ⟨b104, g104⟩ : ∃ z, z = T102.heap.size := ⟨_, rfl⟩
  rw [← g104] at A104 st104
  have ge_b104 : n0 ≤ b104 := Nat.le_trans (Nat.le_trans (Nat.le_trans Z0 E101.1) K102.1) (Nat.le_of_eq g104.symm)
  have sz_b104 : h0.size ≤ b104 := Nat.le_trans (Nat.le_trans (Nat.le_trans (Nat.le_refl h0.size) E101.1) K102.1) (Nat.le_of_eq g104.symm)
  have ne_b101_b104 : b101 ≠ b104 := Nat.ne_of_lt (Nat.lt_of_lt_of_le G103.lt (Nat.le_of_eq g104.symm))
  have V104 : Arv Z h104 b104 k104 .int (4 : Int32) [(.int (0 : Int32)), (.int (0 : Int32)), (.int (0 : Int32)), (.int (0 : Int32))] (.int (0 : Int32)) := (Arv.new A104 (by decide)).pad (pad_rep [] (.int (0 : Int32)) 4)
  refine OGo.st st104 ?_
  show OGo p.tables e below _ (T104.setTop (mkF m 21 #[.val (.int p0), .val (.int p1), .val (.int p2), .val (.int p3), .val (.long q4), .second, .val (.int p5), .val (.ref b101), .val (.int ff), .unset, .unset, .unset] [(.ref b104), (.ref b101)]))
  have G105 : Exa Z h104 b101 "com/example/pathsieve/pathsieve/engine/Outbox" := (Exa.ext E104 G103)
  have G106 : Fld Z h104 b101 "com/example/pathsieve/pathsieve/engine/Outbox" "nextBlocks" "[I" (.ref x102_nb) := (Fld.ext E104 P102_0)
  obtain ⟨T107, h107, X107, e107, W107, st107⟩ := putF X104 hx hZ hown (host := "") (Or.inl (hw _ (List.mem_of_getElem? (i := 34) rfl))) Via.refl e104 G106 G105 (Or.inl (hw _ (List.mem_of_getElem? (i := 16) rfl))) (hw _ (List.mem_of_getElem? (i := 1) rfl)) (ty := (.array .int)) (by decide) rfl rfl (g := (mkF m 21 #[.val (.int p0), .val (.int p1), .val (.int p2), .val (.int p3), .val (.long q4), .second, .val (.int p5), .val (.ref b101), .val (.int ff), .unset, .unset, .unset] [(.ref b104), (.ref b101)])) rfl rfl (hb hby at_21)
  refine OGo.st st107 ?_
  have Fw107 : Fld Z h107 b101 "com/example/pathsieve/pathsieve/engine/Outbox" "nextBlocks" "[I" (.ref b104) := Fld.same W107 G106
  have N107 := Fr.snoc X107 N102 ge_b101
  show OGo p.tables e below _ (T107.setTop (mkF m 24 #[.val (.int p0), .val (.int p1), .val (.int p2), .val (.int p3), .val (.long q4), .second, .val (.int p5), .val (.ref b101), .val (.int ff), .unset, .unset, .unset] []))
  refine OGo.st (fun t k => XS.aload X107.here hx rfl (hb hby at_24) rfl rfl k) ?_
  show OGo p.tables e below _ (T107.setTop (mkF m 26 #[.val (.int p0), .val (.int p1), .val (.int p2), .val (.int p3), .val (.long q4), .second, .val (.int p5), .val (.ref b101), .val (.int ff), .unset, .unset, .unset] [(.ref b101)]))
  refine OGo.st (fun t k => XS.iload X107.here hx rfl (hb hby at_26) rfl k) ?_
  show OGo p.tables e below _ (T107.setTop (mkF m 28 #[.val (.int p0), .val (.int p1), .val (.int p2), .val (.int p3), .val (.long q4), .second, .val (.int p5), .val (.ref b101), .val (.int ff), .unset, .unset, .unset] [(.int ff), (.ref b101)]))
  have G108 : Exa Z h107 b101 "com/example/pathsieve/pathsieve/engine/Outbox" := (Exa.wr W107 G105)
  have G109 : Fld Z h107 b101 "com/example/pathsieve/pathsieve/engine/Outbox" "taken" "I" (.int (0 : Int32)) := (Fld.other W107 (Fld.ext E104 P102_2) (Or.inr (slot_ne (Or.inl (hw _ (List.mem_of_getElem? (i := 36) rfl))) (Or.inl (hw _ (List.mem_of_getElem? (i := 16) rfl))) (by decide) (t := .int) (t' := (.array .int)) (by decide) (by decide))))
  obtain ⟨T110, h110, X110, e110, W110, st110⟩ := putF X107 hx hZ hown (host := "") (Or.inl (hw _ (List.mem_of_getElem? (i := 35) rfl))) Via.refl e107 G109 G108 (Or.inl (hw _ (List.mem_of_getElem? (i := 36) rfl))) (hw _ (List.mem_of_getElem? (i := 1) rfl)) (ty := .int) (by decide) rfl rfl (g := (mkF m 28 #[.val (.int p0), .val (.int p1), .val (.int p2), .val (.int p3), .val (.long q4), .second, .val (.int p5), .val (.ref b101), .val (.int ff), .unset, .unset, .unset] [(.int ff), (.ref b101)])) rfl rfl (hb hby at_28)
  refine OGo.st st110 ?_
  have Fw110 : Fld Z h110 b101 "com/example/pathsieve/pathsieve/engine/Outbox" "taken" "I" (.int ff) := Fld.same W110 G109
  have N110 := Fr.snoc X110 N107 ge_b101
  show OGo p.tables e below _ (T110.setTop (mkF m 31 #[.val (.int p0), .val (.int p1), .val (.int p2), .val (.int p3), .val (.long q4), .second, .val (.int p5), .val (.ref b101), .val (.int ff), .unset, .unset, .unset] []))
  have G111 : Exa Z h110 b101 "com/example/pathsieve/pathsieve/engine/Outbox" := (Exa.wr W110 G108)
  have G112 : Arv Z h110 b104 k104 .int (4 : Int32) [(.int (0 : Int32)), (.int (0 : Int32)), (.int (0 : Int32)), (.int (0 : Int32))] (.int (0 : Int32)) := ((V104.other W107 (Ne.symm ne_b101_b104)).other W110 (Ne.symm ne_b101_b104))
  obtain ⟨T113, h113, X113, e113, E113, A113, D113, -, st113⟩ := newO X110 hx hZ hown (hw _ (List.mem_of_getElem? (i := 37) rfl)) (hw _ (List.mem_of_getElem? (i := 38) rfl)) (hw _ (List.mem_of_getElem? (i := 39) rfl)) e110 (g := (mkF m 31 #[.val (.int p0), .val (.int p1), .val (.int p2), .val (.int p3), .val (.long q4), .second, .val (.int p5), .val (.ref b101), .val (.int ff), .unset, .unset, .unset] [])) rfl (hb hby at_31) (by decide) (by decide)
  obtain ⟨b113, g113⟩ : ∃ z, z = h110.size := ⟨_, rfl⟩
  rw [← g113] at A113 D113 st113
  have ge_b113 : n0 ≤ b113 := Nat.le_trans (Nat.le_trans (Nat.le_trans (Nat.le_trans (Nat.le_trans (Nat.le_trans Z0 E101.1) K102.1) E104.1) (Keep.of_wr W107).1) (Keep.of_wr W110).1) (Nat.le_of_eq g113.symm)
  have sz_b113 : h0.size ≤ b113 := Nat.le_trans (Nat.le_trans (Nat.le_trans (Nat.le_trans (Nat.le_trans (Nat.le_trans (Nat.le_refl h0.size) E101.1) K102.1) E104.1) (Keep.of_wr W107).1) (Keep.of_wr W110).1) (Nat.le_of_eq g113.symm)
  have ne_b101_b113 : b101 ≠ b113 := Nat.ne_of_lt (Nat.lt_of_lt_of_le G111.lt (Nat.le_of_eq g113.symm))
  have ne_b104_b113 : b104 ≠ b113 := Nat.ne_of_lt (Nat.lt_of_lt_of_le G112.lt (Nat.le_of_eq g113.symm))
  refine OGo.st st113 ?_
  have Fn113_first : Fld Z h113 b113 "com/example/pathsieve/pathsieve/engine/Messages" "first" "I" (.int (0 : Int32)) := D113 (Or.inl (hw _ (List.mem_of_getElem? (i := 45) rfl))) (ty := .int) (by decide)
  have Fn113_last : Fld Z h113 b113 "com/example/pathsieve/pathsieve/engine/Messages" "last" "I" (.int (0 : Int32)) := D113 (Or.inl (hw _ (List.mem_of_getElem? (i := 47) rfl))) (ty := .int) (by decide)
  have Fn113_outbox : Fld Z h113 b113 "com/example/pathsieve/pathsieve/engine/Messages" "outbox" "Lcom/example/pathsieve/pathsieve/engine/Outbox;" .null := D113 (Or.inr (hw _ (List.mem_of_getElem? (i := 49) rfl))) (ty := (.object "com/example/pathsieve/pathsieve/engine/Outbox")) (by decide)
  have Fn113_blockBits : Fld Z h113 b113 "com/example/pathsieve/pathsieve/engine/Messages" "blockBits" "I" (.int (0 : Int32)) := D113 (Or.inr (hw _ (List.mem_of_getElem? (i := 52) rfl))) (ty := .int) (by decide)
  have Fn113_heads : Fld Z h113 b113 "com/example/pathsieve/pathsieve/engine/Messages" "heads" "[I" .null := D113 (Or.inl (hw _ (List.mem_of_getElem? (i := 59) rfl))) (ty := (.array .int)) (by decide)
  have Fn113_distances : Fld Z h113 b113 "com/example/pathsieve/pathsieve/engine/Messages" "distances" "[J" .null := D113 (Or.inl (hw _ (List.mem_of_getElem? (i := 61) rfl))) (ty := (.array .long)) (by decide)
  have Fn113_tags : Fld Z h113 b113 "com/example/pathsieve/pathsieve/engine/Messages" "tags" "[I" .null := D113 (Or.inl (hw _ (List.mem_of_getElem? (i := 63) rfl))) (ty := (.array .int)) (by decide)
  have Fn113_place : Fld Z h113 b113 "com/example/pathsieve/pathsieve/engine/Messages" "place" "I" (.int (0 : Int32)) := D113 (Or.inl (hw _ (List.mem_of_getElem? (i := 80) rfl))) (ty := .int) (by decide)
  have Fn113_end : Fld Z h113 b113 "com/example/pathsieve/pathsieve/engine/Messages" "end" "I" (.int (0 : Int32)) := D113 (Or.inl (hw _ (List.mem_of_getElem? (i := 82) rfl))) (ty := .int) (by decide)
  have Fn113_before : Fld Z h113 b113 "com/example/pathsieve/pathsieve/engine/Messages" "before" "I" (.int (0 : Int32)) := D113 (Or.inl (hw _ (List.mem_of_getElem? (i := 92) rfl))) (ty := .int) (by decide)
  show OGo p.tables e below _ (T113.setTop (mkF m 34 #[.val (.int p0), .val (.int p1), .val (.int p2), .val (.int p3), .val (.long q4), .second, .val (.int p5), .val (.ref b101), .val (.int ff), .unset, .unset, .unset] [(.ref b113)]))
  refine OGo.st (fun t k => XS.dup X113.here hx rfl (hb hby at_34) rfl rfl k) ?_
  show OGo p.tables e below _ (T113.setTop (mkF m 35 #[.val (.int p0), .val (.int p1), .val (.int p2), .val (.int p3), .val (.long q4), .second, .val (.int p5), .val (.ref b101), .val (.int ff), .unset, .unset, .unset] [(.ref b113), (.ref b113)]))
  refine OGo.st (fun t k => XS.aload X113.here hx rfl (hb hby at_35) rfl rfl k) ?_
  show OGo p.tables e below _ (T113.setTop (mkF m 37 #[.val (.int p0), .val (.int p1), .val (.int p2), .val (.int p3), .val (.long q4), .second, .val (.int p5), .val (.ref b101), .val (.int ff), .unset, .unset, .unset] [(.ref b101), (.ref b113), (.ref b113)]))
  have G114 : Fld Z h113 b101 "com/example/pathsieve/pathsieve/engine/Outbox" "blockBits" "I" (.int (9 : Int32)) := (Fld.ext E113 (Fld.other W110 (Fld.other W107 (Fld.ext E104 P102_1) (Or.inr (slot_ne (Or.inr (hw _ (List.mem_of_getElem? (i := 29) rfl))) (Or.inl (hw _ (List.mem_of_getElem? (i := 16) rfl))) (by decide) (t := .int) (t' := (.array .int)) (by decide) (by decide)))) (Or.inr (slot_ne (Or.inr (hw _ (List.mem_of_getElem? (i := 29) rfl))) (Or.inl (hw _ (List.mem_of_getElem? (i := 36) rfl))) (by decide) (t := .int) (t' := .int) (by decide) (by decide)))))
  obtain ⟨_, _, ⟨T115, L115, kk115, nn115⟩, -, X115, ⟨Lc115, hQ115, l115, y115, z115⟩, st115⟩ := X113.specialBack hx (y := (⟨"com/example/pathsieve/pathsieve/engine/Messages", "<init>", "(Lcom/example/pathsieve/pathsieve/engine/Outbox;)V"⟩ : MethodName)) rfl hown (mvT hZ (hw _ (List.mem_of_getElem? (i := 40) rfl))) (mvT hZ (hw _ (List.mem_of_getElem? (i := 41) rfl))) (mvT hZ (hw _ (List.mem_of_getElem? (i := 42) rfl))) (by decide) (backOf (W := 1) (rm4 l Z ar hw [] b113 b101 (9 : Int32) h113 n0 (Nat.le_trans (Nat.le_trans (Nat.le_trans (Nat.le_trans (Nat.le_trans (Nat.le_trans Z0 E101.1) K102.1) E104.1) (Keep.of_wr W107).1) (Keep.of_wr W110).1) E113.1) A113 ge_b113 (Ne.symm ne_b101_b113) G114 Fn113_first Fn113_last Fn113_outbox Fn113_blockBits Fn113_heads Fn113_distances Fn113_tags Fn113_place Fn113_end Fn113_before) hZ (hw _ (List.mem_of_getElem? (i := 42) rfl)) (hw _ (List.mem_of_getElem? (i := 39) rfl)) (by decide) (by decide)) (g := (mkF m 37 #[.val (.int p0), .val (.int p1), .val (.int p2), .val (.int p3), .val (.long q4), .second, .val (.int p5), .val (.ref b101), .val (.int ff), .unset, .unset, .unset] [(.ref b101), (.ref b113), (.ref b113)])) rfl (by rw [hml]; rfl) (Steps.refl _) (a := b113) (argsL := [(.ref b101)]) (rest := [(.ref b113)]) (lenOf pd_5 rfl) rfl (by show 2 * 0 + _ ≤ _; exact Nat.le_of_eq rfl) (hb hby at_37) (fun _ _ => ⟨rfl, e113, (by decide : 7 + 0 ≤ _), (by decide : 22 + 0 ≤ _)⟩)
  dsimp only [Pt.U, Pt.locs, Pt.cells, Pt.slots] at X115 l115 y115 z115 st115 hQ115
  subst l115 y115 z115
  obtain ⟨rfl, Nq115, K115, P115_0, P115_1, P115_2, P115_3, P115_4, P115_5, P115_6, P115_7, P115_8, P115_9⟩ := hQ115
  have N115 := Fr.app N110 Nq115
  refine OGo.st (fun t k => st115.trans k) ?_
  show OGo p.tables e below _ (T115.setTop (mkF m 40 #[.val (.int p0), .val (.int p1), .val (.int p2), .val (.int p3), .val (.long q4), .second, .val (.int p5), .val (.ref b101), .val (.int ff), .unset, .unset, .unset] [(.ref b113)]))
  refine OGo.st (fun t k => XS.astore X115.here hx rfl (hb hby at_40) rfl rfl (l' := #[.val (.int p0), .val (.int p1), .val (.int p2), .val (.int p3), .val (.long q4), .second, .val (.int p5), .val (.ref b101), .val (.int ff), .val (.ref b113), .unset, .unset]) rfl k) ?_
  show OGo p.tables e below _ (T115.setTop (mkF m 42 #[.val (.int p0), .val (.int p1), .val (.int p2), .val (.int p3), .val (.long q4), .second, .val (.int p5), .val (.ref b101), .val (.int ff), .val (.ref b113), .unset, .unset] []))
  refine OGo.st (fun t k => XS.aload X115.here hx rfl (hb hby at_42) rfl rfl k) ?_
  show OGo p.tables e below _ (T115.setTop (mkF m 44 #[.val (.int p0), .val (.int p1), .val (.int p2), .val (.int p3), .val (.long q4), .second, .val (.int p5), .val (.ref b101), .val (.int ff), .val (.ref b113), .unset, .unset] [(.ref b113)]))
  refine OGo.st (fun t k => XS.sipush X115.here hx rfl (hb hby at_44) k) ?_
  show OGo p.tables e below _ (T115.setTop (mkF m 47 #[.val (.int p0), .val (.int p1), .val (.int p2), .val (.int p3), .val (.long q4), .second, .val (.int p5), .val (.ref b101), .val (.int ff), .val (.ref b113), .unset, .unset] [(.int (2048 : Int32)), (.ref b113)]))
  have G116 : Exa Z T115.heap b101 "com/example/pathsieve/pathsieve/engine/Outbox" := ((Exa.ext E113 G111).keep K115)
  have G117 : Arv Z T115.heap b104 k104 .int (4 : Int32) [(.int (0 : Int32)), (.int (0 : Int32)), (.int (0 : Int32)), (.int (0 : Int32))] (.int (0 : Int32)) := ((G112.ext E113).keep K115 (ninS ne_b104_b113 nin0))
  have G118 : Exa Z T115.heap b113 "com/example/pathsieve/pathsieve/engine/Messages" := (A113.keep K115)
  obtain ⟨T119, h119, k119, X119, e119, E119, A119, st119⟩ := newP X115 hx hZ (hw _ (List.mem_of_getElem? (i := 9) rfl)) rfl (g := (mkF m 47 #[.val (.int p0), .val (.int p1), .val (.int p2), .val (.int p3), .val (.long q4), .second, .val (.int p5), .val (.ref b101), .val (.int ff), .val (.ref b113), .unset, .unset] [(.int (2048 : Int32)), (.ref b113)])) rfl (hb hby at_47) rfl (by decide) (cap := 2048) (by decide) (by decide) (by decide) (by decide)
  obtain ⟨b119, g119⟩ : ∃ z, z = T115.heap.size := ⟨_, rfl⟩
  rw [← g119] at A119 st119
  have ge_b119 : n0 ≤ b119 := Nat.le_trans (Nat.le_trans (Nat.le_trans (Nat.le_trans (Nat.le_trans (Nat.le_trans (Nat.le_trans (Nat.le_trans Z0 E101.1) K102.1) E104.1) (Keep.of_wr W107).1) (Keep.of_wr W110).1) E113.1) K115.1) (Nat.le_of_eq g119.symm)
  have sz_b119 : h0.size ≤ b119 := Nat.le_trans (Nat.le_trans (Nat.le_trans (Nat.le_trans (Nat.le_trans (Nat.le_trans (Nat.le_trans (Nat.le_trans (Nat.le_refl h0.size) E101.1) K102.1) E104.1) (Keep.of_wr W107).1) (Keep.of_wr W110).1) E113.1) K115.1) (Nat.le_of_eq g119.symm)
  have ne_b101_b119 : b101 ≠ b119 := Nat.ne_of_lt (Nat.lt_of_lt_of_le G116.lt (Nat.le_of_eq g119.symm))
  have ne_b104_b119 : b104 ≠ b119 := Nat.ne_of_lt (Nat.lt_of_lt_of_le G117.lt (Nat.le_of_eq g119.symm))
  have ne_b113_b119 : b113 ≠ b119 := Nat.ne_of_lt (Nat.lt_of_lt_of_le G118.lt (Nat.le_of_eq g119.symm))
  have V119 : Arv Z h119 b119 k119 .int (2048 : Int32) [] (.int (0 : Int32)) := Arv.new A119 (by decide)
  refine OGo.st st119 ?_
  show OGo p.tables e below _ (T119.setTop (mkF m 49 #[.val (.int p0), .val (.int p1), .val (.int p2), .val (.int p3), .val (.long q4), .second, .val (.int p5), .val (.ref b101), .val (.int ff), .val (.ref b113), .unset, .unset] [(.ref b119), (.ref b113)]))
  refine OGo.st (fun t k => XS.sipush X119.here hx rfl (hb hby at_49) k) ?_
  show OGo p.tables e below _ (T119.setTop (mkF m 52 #[.val (.int p0), .val (.int p1), .val (.int p2), .val (.int p3), .val (.long q4), .second, .val (.int p5), .val (.ref b101), .val (.int ff), .val (.ref b113), .unset, .unset] [(.int (2048 : Int32)), (.ref b119), (.ref b113)]))
  have G120 : Exa Z h119 b101 "com/example/pathsieve/pathsieve/engine/Outbox" := (Exa.ext E119 G116)
  have G121 : Arv Z h119 b104 k104 .int (4 : Int32) [(.int (0 : Int32)), (.int (0 : Int32)), (.int (0 : Int32)), (.int (0 : Int32))] (.int (0 : Int32)) := (G117.ext E119)
  have G122 : Exa Z h119 b113 "com/example/pathsieve/pathsieve/engine/Messages" := (Exa.ext E119 G118)
  obtain ⟨T123, h123, k123, X123, e123, E123, A123, st123⟩ := newP X119 hx hZ (hw _ (List.mem_of_getElem? (i := 12) rfl)) e119 (g := (mkF m 52 #[.val (.int p0), .val (.int p1), .val (.int p2), .val (.int p3), .val (.long q4), .second, .val (.int p5), .val (.ref b101), .val (.int ff), .val (.ref b113), .unset, .unset] [(.int (2048 : Int32)), (.ref b119), (.ref b113)])) rfl (hb hby at_52) rfl (by decide) (cap := 2048) (by decide) (by decide) (by decide) (by decide)
  obtain ⟨b123, g123⟩ : ∃ z, z = h119.size := ⟨_, rfl⟩
  rw [← g123] at A123 st123
  have ge_b123 : n0 ≤ b123 := Nat.le_trans (Nat.le_trans (Nat.le_trans (Nat.le_trans (Nat.le_trans (Nat.le_trans (Nat.le_trans (Nat.le_trans (Nat.le_trans Z0 E101.1) K102.1) E104.1) (Keep.of_wr W107).1) (Keep.of_wr W110).1) E113.1) K115.1) E119.1) (Nat.le_of_eq g123.symm)
  have sz_b123 : h0.size ≤ b123 := Nat.le_trans (Nat.le_trans (Nat.le_trans (Nat.le_trans (Nat.le_trans (Nat.le_trans (Nat.le_trans (Nat.le_trans (Nat.le_trans (Nat.le_refl h0.size) E101.1) K102.1) E104.1) (Keep.of_wr W107).1) (Keep.of_wr W110).1) E113.1) K115.1) E119.1) (Nat.le_of_eq g123.symm)
  have ne_b101_b123 : b101 ≠ b123 := Nat.ne_of_lt (Nat.lt_of_lt_of_le G120.lt (Nat.le_of_eq g123.symm))
  have ne_b104_b123 : b104 ≠ b123 := Nat.ne_of_lt (Nat.lt_of_lt_of_le G121.lt (Nat.le_of_eq g123.symm))
  have ne_b113_b123 : b113 ≠ b123 := Nat.ne_of_lt (Nat.lt_of_lt_of_le G122.lt (Nat.le_of_eq g123.symm))
  have ne_b119_b123 : b119 ≠ b123 := Nat.ne_of_lt (Nat.lt_of_lt_of_le V119.arh.lt (Nat.le_of_eq g123.symm))
  have V123 : Arv Z h123 b123 k123 .long (2048 : Int32) [] (.long (0 : Int64)) := Arv.new A123 (by decide)
  refine OGo.st st123 ?_
  show OGo p.tables e below _ (T123.setTop (mkF m 54 #[.val (.int p0), .val (.int p1), .val (.int p2), .val (.int p3), .val (.long q4), .second, .val (.int p5), .val (.ref b101), .val (.int ff), .val (.ref b113), .unset, .unset] [(.ref b123), (.ref b119), (.ref b113)]))
  refine OGo.st (fun t k => XS.sipush X123.here hx rfl (hb hby at_54) k) ?_
  show OGo p.tables e below _ (T123.setTop (mkF m 57 #[.val (.int p0), .val (.int p1), .val (.int p2), .val (.int p3), .val (.long q4), .second, .val (.int p5), .val (.ref b101), .val (.int ff), .val (.ref b113), .unset, .unset] [(.int (2048 : Int32)), (.ref b123), (.ref b119), (.ref b113)]))
  have G124 : Exa Z h123 b101 "com/example/pathsieve/pathsieve/engine/Outbox" := (Exa.ext E123 G120)
  have G125 : Arv Z h123 b104 k104 .int (4 : Int32) [(.int (0 : Int32)), (.int (0 : Int32)), (.int (0 : Int32)), (.int (0 : Int32))] (.int (0 : Int32)) := (G121.ext E123)
  have G126 : Exa Z h123 b113 "com/example/pathsieve/pathsieve/engine/Messages" := (Exa.ext E123 G122)
  have G127 : Arh Z h123 b119 k119 .int (2048 : Int32) [] [] (.int (0 : Int32)) := (V119.arh.ext E123)
  obtain ⟨T128, h128, k128, X128, e128, E128, A128, st128⟩ := newP X123 hx hZ (hw _ (List.mem_of_getElem? (i := 9) rfl)) e123 (g := (mkF m 57 #[.val (.int p0), .val (.int p1), .val (.int p2), .val (.int p3), .val (.long q4), .second, .val (.int p5), .val (.ref b101), .val (.int ff), .val (.ref b113), .unset, .unset] [(.int (2048 : Int32)), (.ref b123), (.ref b119), (.ref b113)])) rfl (hb hby at_57) rfl (by decide) (cap := 2048) (by decide) (by decide) (by decide) (by decide)
  obtain ⟨b128, g128⟩ : ∃ z, z = h123.size := ⟨_, rfl⟩
  rw [← g128] at A128 st128
  have ge_b128 : n0 ≤ b128 := Nat.le_trans (Nat.le_trans (Nat.le_trans (Nat.le_trans (Nat.le_trans (Nat.le_trans (Nat.le_trans (Nat.le_trans (Nat.le_trans (Nat.le_trans Z0 E101.1) K102.1) E104.1) (Keep.of_wr W107).1) (Keep.of_wr W110).1) E113.1) K115.1) E119.1) E123.1) (Nat.le_of_eq g128.symm)
  have sz_b128 : h0.size ≤ b128 := Nat.le_trans (Nat.le_trans (Nat.le_trans (Nat.le_trans (Nat.le_trans (Nat.le_trans (Nat.le_trans (Nat.le_trans (Nat.le_trans (Nat.le_trans (Nat.le_refl h0.size) E101.1) K102.1) E104.1) (Keep.of_wr W107).1) (Keep.of_wr W110).1) E113.1) K115.1) E119.1) E123.1) (Nat.le_of_eq g128.symm)
  have ne_b101_b128 : b101 ≠ b128 := Nat.ne_of_lt (Nat.lt_of_lt_of_le G124.lt (Nat.le_of_eq g128.symm))
  have ne_b104_b128 : b104 ≠ b128 := Nat.ne_of_lt (Nat.lt_of_lt_of_le G125.lt (Nat.le_of_eq g128.symm))
  have ne_b113_b128 : b113 ≠ b128 := Nat.ne_of_lt (Nat.lt_of_lt_of_le G126.lt (Nat.le_of_eq g128.symm))
  have ne_b119_b128 : b119 ≠ b128 := Nat.ne_of_lt (Nat.lt_of_lt_of_le G127.lt (Nat.le_of_eq g128.symm))
  have ne_b123_b128 : b123 ≠ b128 := Nat.ne_of_lt (Nat.lt_of_lt_of_le V123.arh.lt (Nat.le_of_eq g128.symm))
  have V128 : Arv Z h128 b128 k128 .int (2048 : Int32) [] (.int (0 : Int32)) := Arv.new A128 (by decide)
  refine OGo.st st128 ?_
  show OGo p.tables e below _ (T128.setTop (mkF m 59 #[.val (.int p0), .val (.int p1), .val (.int p2), .val (.int p3), .val (.long q4), .second, .val (.int p5), .val (.ref b101), .val (.int ff), .val (.ref b113), .unset, .unset] [(.ref b128), (.ref b123), (.ref b119), (.ref b113)]))
  have G129 : Exa Z h128 b113 "com/example/pathsieve/pathsieve/engine/Messages" := (Exa.ext E128 G126)
  have G130 : Fld Z h128 b113 "com/example/pathsieve/pathsieve/engine/Messages" "heads" "[I" .null := (Fld.ext E128 (Fld.ext E123 (Fld.ext E119 P115_4)))
  have G131 : Fld Z h128 b113 "com/example/pathsieve/pathsieve/engine/Messages" "distances" "[J" .null := (Fld.ext E128 (Fld.ext E123 (Fld.ext E119 P115_5)))
  have G132 : Fld Z h128 b113 "com/example/pathsieve/pathsieve/engine/Messages" "tags" "[I" .null := (Fld.ext E128 (Fld.ext E123 (Fld.ext E119 P115_6)))
  have G133 : Fld Z h128 b113 "com/example/pathsieve/pathsieve/engine/Messages" "first" "I" (.int (-1 : Int32)) := (Fld.ext E128 (Fld.ext E123 (Fld.ext E119 P115_0)))
  have G134 : Fld Z h128 b113 "com/example/pathsieve/pathsieve/engine/Messages" "last" "I" (.int (-1 : Int32)) := (Fld.ext E128 (Fld.ext E123 (Fld.ext E119 P115_1)))
  have G135 : Fld Z h128 b113 "com/example/pathsieve/pathsieve/engine/Messages" "outbox" "Lcom/example/pathsieve/pathsieve/engine/Outbox;" (.ref b101) := (Fld.ext E128 (Fld.ext E123 (Fld.ext E119 P115_2)))
  have G136 : Fld Z h128 b113 "com/example/pathsieve/pathsieve/engine/Messages" "blockBits" "I" (.int (9 : Int32)) := (Fld.ext E128 (Fld.ext E123 (Fld.ext E119 P115_3)))
  have G137 : Fld Z h128 b113 "com/example/pathsieve/pathsieve/engine/Messages" "place" "I" (.int (0 : Int32)) := (Fld.ext E128 (Fld.ext E123 (Fld.ext E119 P115_7)))
  have G138 : Fld Z h128 b113 "com/example/pathsieve/pathsieve/engine/Messages" "end" "I" (.int (0 : Int32)) := (Fld.ext E128 (Fld.ext E123 (Fld.ext E119 P115_8)))
  have G139 : Fld Z h128 b113 "com/example/pathsieve/pathsieve/engine/Messages" "before" "I" (.int (0 : Int32)) := (Fld.ext E128 (Fld.ext E123 (Fld.ext E119 P115_9)))
  obtain ⟨cq140, kq140, q140a, q140b, q140c⟩ := isOf hZ e128 G129
  obtain ⟨_, _, ⟨T140, L140, kk140, nn140⟩, -, X140, ⟨Lc140, hQ140, l140, y140, z140⟩, st140⟩ := X128.virtualBack hx (y := (⟨"com/example/pathsieve/pathsieve/engine/Messages", "store", "([I[J[I)V"⟩ : MethodName)) (z := (⟨"com/example/pathsieve/pathsieve/engine/Messages", "store", "([I[J[I)V"⟩ : MethodName)) hown (mvT hZ (hw _ (List.mem_of_getElem? (i := 53) rfl))) (mvT hZ (hw _ (List.mem_of_getElem? (i := 54) rfl))) (notFace_of_selects (args := #[]) (mvT hZ (hw _ (List.mem_of_getElem? (i := 56) rfl)))) (mvT hZ (hw _ (List.mem_of_getElem? (i := 56) rfl))) (mvT hZ (hw _ (List.mem_of_getElem? (i := 55) rfl))) (by decide) (backOf (W := 0) (rm5 l Z ar hw [] b113 b119 b123 b128 (-1 : Int32) (-1 : Int32) (9 : Int32) (0 : Int32) (0 : Int32) (0 : Int32) b101 h128 n0 (Nat.le_trans (Nat.le_trans (Nat.le_trans (Nat.le_trans (Nat.le_trans (Nat.le_trans (Nat.le_trans (Nat.le_trans (Nat.le_trans (Nat.le_trans Z0 E101.1) K102.1) E104.1) (Keep.of_wr W107).1) (Keep.of_wr W110).1) E113.1) K115.1) E119.1) E123.1) E128.1) G129 ge_b113 G130 G131 G132 G133 G134 G135 G136 G137 G138 G139) hZ (hw _ (List.mem_of_getElem? (i := 57) rfl)) (hw _ (List.mem_of_getElem? (i := 39) rfl)) (by decide) (by decide)) q140a q140c (g := (mkF m 59 #[.val (.int p0), .val (.int p1), .val (.int p2), .val (.int p3), .val (.long q4), .second, .val (.int p5), .val (.ref b101), .val (.int ff), .val (.ref b113), .unset, .unset] [(.ref b128), (.ref b123), (.ref b119), (.ref b113)])) rfl (by rw [hml]; rfl) (Steps.refl _) (argsL := [(.ref b119), (.ref b123), (.ref b128)]) (rest := []) (lenOf pd_6 rfl) rfl (by show 2 * 0 + _ ≤ _; exact Nat.le_of_eq rfl) (hb hby at_59) (fun _ _ => ⟨rfl, e128, (by decide : 10 + 0 ≤ _), (by decide : 6166 + 0 ≤ _)⟩)
  dsimp only [Pt.U, Pt.locs, Pt.cells, Pt.slots] at X140 l140 y140 z140 st140 hQ140
  subst l140 y140 z140
  obtain ⟨rfl, Nq140, K140, P140_0, P140_1, P140_2, P140_3, P140_4, P140_5, P140_6, P140_7, P140_8, P140_9⟩ := hQ140
  have N140 := Fr.app N115 Nq140
  refine OGo.st (fun t k => st140.trans k) ?_
  show OGo p.tables e below _ (T140.setTop (mkF m 62 #[.val (.int p0), .val (.int p1), .val (.int p2), .val (.int p3), .val (.long q4), .second, .val (.int p5), .val (.ref b101), .val (.int ff), .val (.ref b113), .unset, .unset] []))
  refine OGo.st (fun t k => XS.iloadN X140.here hx rfl (hb hby at_62) rfl k) ?_
  show OGo p.tables e below _ (T140.setTop (mkF m 63 #[.val (.int p0), .val (.int p1), .val (.int p2), .val (.int p3), .val (.long q4), .second, .val (.int p5), .val (.ref b101), .val (.int ff), .val (.ref b113), .unset, .unset] [(.int p1)]))
  refine OGo.st (fun t k => X140.ldcInt hx hown (mvT hZ (hw _ (List.mem_of_getElem? (i := 64) rfl))) (g := (mkF m 63 #[.val (.int p0), .val (.int p1), .val (.int p2), .val (.int p3), .val (.long q4), .second, .val (.int p5), .val (.ref b101), .val (.int ff), .val (.ref b113), .unset, .unset] [(.int p1)])) rfl (hb hby at_63) _ k) ?_
  show OGo p.tables e below _ (T140.setTop (mkF m 65 #[.val (.int p0), .val (.int p1), .val (.int p2), .val (.int p3), .val (.long q4), .second, .val (.int p5), .val (.ref b101), .val (.int ff), .val (.ref b113), .unset, .unset] [(.int (2147483647 : Int32)), (.int p1)]))
  refine OGo.st (fun t k => XS.iand X140.here hx rfl (hb hby at_65) rfl k) ?_
  show OGo p.tables e below _ (T140.setTop (mkF m 66 #[.val (.int p0), .val (.int p1), .val (.int p2), .val (.int p3), .val (.long q4), .second, .val (.int p5), .val (.ref b101), .val (.int ff), .val (.ref b113), .unset, .unset] [(.int (p1 &&& (2147483647 : Int32)))]))
  refine OGo.st (fun t k => XS.iconst X140.here hx rfl (hb hby at_66) k) ?_
  show OGo p.tables e below _ (T140.setTop (mkF m 67 #[.val (.int p0), .val (.int p1), .val (.int p2), .val (.int p3), .val (.long q4), .second, .val (.int p5), .val (.ref b101), .val (.int ff), .val (.ref b113), .unset, .unset] [(.int (5 : Int32)), (.int (p1 &&& (2147483647 : Int32)))]))
  refine OGo.st (fun t k => XS.irem X140.here hx rfl (hb hby at_67) rfl (by decide) k) ?_
  show OGo p.tables e below _ (T140.setTop (mkF m 68 #[.val (.int p0), .val (.int p1), .val (.int p2), .val (.int p3), .val (.long q4), .second, .val (.int p5), .val (.ref b101), .val (.int ff), .val (.ref b113), .unset, .unset] [(.int ((p1 &&& (2147483647 : Int32)) - ((p1 &&& (2147483647 : Int32)) / (5 : Int32)) * (5 : Int32)))]))
  refine OGo.st (fun t k => XS.istore X140.here hx rfl (hb hby at_68) rfl (l' := #[.val (.int p0), .val (.int p1), .val (.int p2), .val (.int p3), .val (.long q4), .second, .val (.int p5), .val (.ref b101), .val (.int ff), .val (.ref b113), .val (.int ((p1 &&& (2147483647 : Int32)) - ((p1 &&& (2147483647 : Int32)) / (5 : Int32)) * (5 : Int32))), .unset]) rfl k) ?_
  show OGo p.tables e below _ (T140.setTop (mkF m 70 #[.val (.int p0), .val (.int p1), .val (.int p2), .val (.int p3), .val (.long q4), .second, .val (.int p5), .val (.ref b101), .val (.int ff), .val (.ref b113), .val (.int ((p1 &&& (2147483647 : Int32)) - ((p1 &&& (2147483647 : Int32)) / (5 : Int32)) * (5 : Int32))), .unset] []))
  rcases own_five p1 with hn | hn | hn | hn | hn
  ·
    rw [hn]
    show OGo p.tables e below _ (T140.setTop (mkF m 70 #[.val (.int p0), .val (.int p1), .val (.int p2), .val (.int p3), .val (.long q4), .second, .val (.int p5), .val (.ref b101), .val (.int ff), .val (.ref b113), .val (.int (0 : Int32)), .unset] []))
    refine OGo.st (fun t k => XS.aload X140.here hx rfl (hb hby at_70) rfl rfl k) ?_
    show OGo p.tables e below _ (T140.setTop (mkF m 72 #[.val (.int p0), .val (.int p1), .val (.int p2), .val (.int p3), .val (.long q4), .second, .val (.int p5), .val (.ref b101), .val (.int ff), .val (.ref b113), .val (.int (0 : Int32)), .unset] [(.ref b113)]))
    have G142 : Exa Z T140.heap b113 "com/example/pathsieve/pathsieve/engine/Messages" := (G129.keep K140)
    obtain ⟨cq141, kq141, q141a, q141b, q141c⟩ := isOf hZ rfl G142
    obtain ⟨_, _, ⟨T141, L141, kk141, nn141⟩, -, X141, ⟨Lc141, hQ141, l141, y141, z141⟩, st141⟩ := X140.virtualBack hx (y := (⟨"com/example/pathsieve/pathsieve/engine/Messages", "size", "()I"⟩ : MethodName)) (z := (⟨"com/example/pathsieve/pathsieve/engine/Messages", "size", "()I"⟩ : MethodName)) hown (mvT hZ (hw _ (List.mem_of_getElem? (i := 65) rfl))) (mvT hZ (hw _ (List.mem_of_getElem? (i := 66) rfl))) (notFace_of_selects (args := #[]) (mvT hZ (hw _ (List.mem_of_getElem? (i := 68) rfl)))) (mvT hZ (hw _ (List.mem_of_getElem? (i := 68) rfl))) (mvT hZ (hw _ (List.mem_of_getElem? (i := 67) rfl))) (by decide) (backOf (W := 0) (rm6 l Z ar hw [] b113 T140.heap n0 (Nat.le_trans (Nat.le_trans (Nat.le_trans (Nat.le_trans (Nat.le_trans (Nat.le_trans (Nat.le_trans (Nat.le_trans (Nat.le_trans (Nat.le_trans (Nat.le_trans Z0 E101.1) K102.1) E104.1) (Keep.of_wr W107).1) (Keep.of_wr W110).1) E113.1) K115.1) E119.1) E123.1) E128.1) K140.1) P140_1) hZ (hw _ (List.mem_of_getElem? (i := 69) rfl)) (hw _ (List.mem_of_getElem? (i := 39) rfl)) (by decide) (by decide)) q141a q141c (g := (mkF m 72 #[.val (.int p0), .val (.int p1), .val (.int p2), .val (.int p3), .val (.long q4), .second, .val (.int p5), .val (.ref b101), .val (.int ff), .val (.ref b113), .val (.int (0 : Int32)), .unset] [(.ref b113)])) rfl (by rw [hml]; rfl) (Steps.refl _) (argsL := []) (rest := []) (lenOf pd_7 rfl) rfl (by show 2 * 0 + _ ≤ _; exact Nat.le_of_eq rfl) (hb hby at_72) (fun _ _ => ⟨rfl, rfl, (by decide : 10 + 0 ≤ _), (by decide : 6166 + 0 ≤ _)⟩)
    dsimp only [Pt.U, Pt.locs, Pt.cells, Pt.slots] at X141 l141 y141 z141 st141 hQ141
    subst l141 y141 z141
    obtain ⟨rfl, Nq141, hh141⟩ := hQ141
    have N141 := Fr.app N140 Nq141
    refine OGo.st (fun t k => st141.trans k) ?_
    have e141 : T141.heap = T140.heap := hh141
    show OGo p.tables e below _ (T141.setTop (mkF m 75 #[.val (.int p0), .val (.int p1), .val (.int p2), .val (.int p3), .val (.long q4), .second, .val (.int p5), .val (.ref b101), .val (.int ff), .val (.ref b113), .val (.int (0 : Int32)), .unset] [(.int (0 : Int32))]))
    refine OGo.st (fun t k => XS.ifNo X141.here hx rfl (hb hby at_75) rfl ((if0 _ _).trans (teq (by decide : (0 : Int32) = (0 : Int32))).2) k) ?_
    show OGo p.tables e below _ (T141.setTop (mkF m 78 #[.val (.int p0), .val (.int p1), .val (.int p2), .val (.int p3), .val (.long q4), .second, .val (.int p5), .val (.ref b101), .val (.int ff), .val (.ref b113), .val (.int (0 : Int32)), .unset] []))
    refine OGo.st (fun t k => XS.iconst X141.here hx rfl (hb hby at_78) k) ?_
    show OGo p.tables e below _ (T141.setTop (mkF m 79 #[.val (.int p0), .val (.int p1), .val (.int p2), .val (.int p3), .val (.long q4), .second, .val (.int p5), .val (.ref b101), .val (.int ff), .val (.ref b113), .val (.int (0 : Int32)), .unset] [(.int (1 : Int32))]))
    refine OGo.st (fun t k => XS.goto X141.here hx rfl (pc0 := 79) (pc' := 83) rfl (hb hby at_79) (by decide) (by decide) k) ?_
    show OGo p.tables e below _ (T141.setTop (mkF m 83 #[.val (.int p0), .val (.int p1), .val (.int p2), .val (.int p3), .val (.long q4), .second, .val (.int p5), .val (.ref b101), .val (.int ff), .val (.ref b113), .val (.int (0 : Int32)), .unset] [(.int (1 : Int32))]))
    refine OGo.st (fun t k => XS.istore X141.here hx rfl (hb hby at_83) rfl (l' := #[.val (.int p0), .val (.int p1), .val (.int p2), .val (.int p3), .val (.long q4), .second, .val (.int p5), .val (.ref b101), .val (.int ff), .val (.ref b113), .val (.int (0 : Int32)), .val (.int (1 : Int32))]) rfl k) ?_
    show OGo p.tables e below _ (T141.setTop (mkF m 85 #[.val (.int p0), .val (.int p1), .val (.int p2), .val (.int p3), .val (.long q4), .second, .val (.int p5), .val (.ref b101), .val (.int ff), .val (.ref b113), .val (.int (0 : Int32)), .val (.int (1 : Int32))] []))
    refine OGo.st (fun t k => XS.iload X141.here hx rfl (hb hby at_85) rfl k) ?_
    show OGo p.tables e below _ (T141.setTop (mkF m 87 #[.val (.int p0), .val (.int p1), .val (.int p2), .val (.int p3), .val (.long q4), .second, .val (.int p5), .val (.ref b101), .val (.int ff), .val (.ref b113), .val (.int (0 : Int32)), .val (.int (1 : Int32))] [(.int (0 : Int32))]))
    refine OGo.st (fun t k => XS.ifYes X141.here hx rfl (pc0 := 87) (pc' := 111) rfl (hb hby at_87) rfl ((if0 _ _).trans (flt (by decide : ¬ ((0 : Int32) < (0 : Int32)))).2.2.2) (by decide) (by decide) k) ?_
    show OGo p.tables e below _ (T141.setTop (mkF m 111 #[.val (.int p0), .val (.int p1), .val (.int p2), .val (.int p3), .val (.long q4), .second, .val (.int p5), .val (.ref b101), .val (.int ff), .val (.ref b113), .val (.int (0 : Int32)), .val (.int (1 : Int32))] []))
    refine OGo.st (fun t k => XS.iload X141.here hx rfl (hb hby at_111) rfl k) ?_
    show OGo p.tables e below _ (T141.setTop (mkF m 113 #[.val (.int p0), .val (.int p1), .val (.int p2), .val (.int p3), .val (.long q4), .second, .val (.int p5), .val (.ref b101), .val (.int ff), .val (.ref b113), .val (.int (0 : Int32)), .val (.int (1 : Int32))] [(.int (0 : Int32))]))
    refine OGo.st (fun t k => XS.iconst X141.here hx rfl (hb hby at_113) k) ?_
    show OGo p.tables e below _ (T141.setTop (mkF m 114 #[.val (.int p0), .val (.int p1), .val (.int p2), .val (.int p3), .val (.long q4), .second, .val (.int p5), .val (.ref b101), .val (.int ff), .val (.ref b113), .val (.int (0 : Int32)), .val (.int (1 : Int32))] [(.int (1 : Int32)), (.int (0 : Int32))]))
    refine OGo.st (fun t k => XS.icmpYes X141.here hx rfl (pc0 := 114) (pc' := 144) rfl (hb hby at_114) rfl (flt (by decide : ¬ ((1 : Int32) < (0 : Int32)))).2.2.2 (by decide) (by decide) k) ?_
    show OGo p.tables e below _ (T141.setTop (mkF m 144 #[.val (.int p0), .val (.int p1), .val (.int p2), .val (.int p3), .val (.long q4), .second, .val (.int p5), .val (.ref b101), .val (.int ff), .val (.ref b113), .val (.int (0 : Int32)), .val (.int (1 : Int32))] []))
    refine OGo.st (fun t k => XS.iload X141.here hx rfl (hb hby at_144) rfl k) ?_
    show OGo p.tables e below _ (T141.setTop (mkF m 146 #[.val (.int p0), .val (.int p1), .val (.int p2), .val (.int p3), .val (.long q4), .second, .val (.int p5), .val (.ref b101), .val (.int ff), .val (.ref b113), .val (.int (0 : Int32)), .val (.int (1 : Int32))] [(.int (0 : Int32))]))
    refine OGo.st (fun t k => XS.iconst X141.here hx rfl (hb hby at_146) k) ?_
    show OGo p.tables e below _ (T141.setTop (mkF m 147 #[.val (.int p0), .val (.int p1), .val (.int p2), .val (.int p3), .val (.long q4), .second, .val (.int p5), .val (.ref b101), .val (.int ff), .val (.ref b113), .val (.int (0 : Int32)), .val (.int (1 : Int32))] [(.int (2 : Int32)), (.int (0 : Int32))]))
    refine OGo.st (fun t k => XS.icmpYes X141.here hx rfl (pc0 := 147) (pc' := 177) rfl (hb hby at_147) rfl (flt (by decide : ¬ ((2 : Int32) < (0 : Int32)))).2.2.2 (by decide) (by decide) k) ?_
    show OGo p.tables e below _ (T141.setTop (mkF m 177 #[.val (.int p0), .val (.int p1), .val (.int p2), .val (.int p3), .val (.long q4), .second, .val (.int p5), .val (.ref b101), .val (.int ff), .val (.ref b113), .val (.int (0 : Int32)), .val (.int (1 : Int32))] []))
    refine OGo.st (fun t k => XS.iload X141.here hx rfl (hb hby at_177) rfl k) ?_
    show OGo p.tables e below _ (T141.setTop (mkF m 179 #[.val (.int p0), .val (.int p1), .val (.int p2), .val (.int p3), .val (.long q4), .second, .val (.int p5), .val (.ref b101), .val (.int ff), .val (.ref b113), .val (.int (0 : Int32)), .val (.int (1 : Int32))] [(.int (0 : Int32))]))
    refine OGo.st (fun t k => XS.iconst X141.here hx rfl (hb hby at_179) k) ?_
    show OGo p.tables e below _ (T141.setTop (mkF m 180 #[.val (.int p0), .val (.int p1), .val (.int p2), .val (.int p3), .val (.long q4), .second, .val (.int p5), .val (.ref b101), .val (.int ff), .val (.ref b113), .val (.int (0 : Int32)), .val (.int (1 : Int32))] [(.int (3 : Int32)), (.int (0 : Int32))]))
    refine OGo.st (fun t k => XS.icmpYes X141.here hx rfl (pc0 := 180) (pc' := 213) rfl (hb hby at_180) rfl (flt (by decide : ¬ ((3 : Int32) < (0 : Int32)))).2.2.2 (by decide) (by decide) k) ?_
    show OGo p.tables e below _ (T141.setTop (mkF m 213 #[.val (.int p0), .val (.int p1), .val (.int p2), .val (.int p3), .val (.long q4), .second, .val (.int p5), .val (.ref b101), .val (.int ff), .val (.ref b113), .val (.int (0 : Int32)), .val (.int (1 : Int32))] []))
    refine OGo.st (fun t k => XS.iload X141.here hx rfl (hb hby at_213) rfl k) ?_
    show OGo p.tables e below _ (T141.setTop (mkF m 215 #[.val (.int p0), .val (.int p1), .val (.int p2), .val (.int p3), .val (.long q4), .second, .val (.int p5), .val (.ref b101), .val (.int ff), .val (.ref b113), .val (.int (0 : Int32)), .val (.int (1 : Int32))] [(.int (1 : Int32))]))
    refine OGo.st (fun t k => XS.ifNo X141.here hx rfl (hb hby at_215) rfl ((if0 _ _).trans (feq (by decide : ¬ ((1 : Int32) = (0 : Int32)))).1) k) ?_
    show OGo p.tables e below _ (T141.setTop (mkF m 218 #[.val (.int p0), .val (.int p1), .val (.int p2), .val (.int p3), .val (.long q4), .second, .val (.int p5), .val (.ref b101), .val (.int ff), .val (.ref b113), .val (.int (0 : Int32)), .val (.int (1 : Int32))] []))
    refine OGo.st (fun t k => XS.aload X141.here hx rfl (hb hby at_218) rfl rfl k) ?_
    show OGo p.tables e below _ (T141.setTop (mkF m 220 #[.val (.int p0), .val (.int p1), .val (.int p2), .val (.int p3), .val (.long q4), .second, .val (.int p5), .val (.ref b101), .val (.int ff), .val (.ref b113), .val (.int (0 : Int32)), .val (.int (1 : Int32))] [(.ref b113)]))
    obtain ⟨cq143, kq143, q143a, q143b, q143c⟩ := isOf hZ e141 G142
    obtain ⟨_, _, ⟨T143, L143, kk143, nn143⟩, -, X143, ⟨Lc143, hQ143, l143, y143, z143⟩, st143⟩ := X141.virtualBack hx (y := (⟨"com/example/pathsieve/pathsieve/engine/Messages", "size", "()I"⟩ : MethodName)) (z := (⟨"com/example/pathsieve/pathsieve/engine/Messages", "size", "()I"⟩ : MethodName)) hown (mvT hZ (hw _ (List.mem_of_getElem? (i := 65) rfl))) (mvT hZ (hw _ (List.mem_of_getElem? (i := 66) rfl))) (notFace_of_selects (args := #[]) (mvT hZ (hw _ (List.mem_of_getElem? (i := 68) rfl)))) (mvT hZ (hw _ (List.mem_of_getElem? (i := 68) rfl))) (mvT hZ (hw _ (List.mem_of_getElem? (i := 67) rfl))) (by decide) (backOf (W := 0) (rm6 l Z ar hw [] b113 T140.heap n0 (Nat.le_trans (Nat.le_trans (Nat.le_trans (Nat.le_trans (Nat.le_trans (Nat.le_trans (Nat.le_trans (Nat.le_trans (Nat.le_trans (Nat.le_trans (Nat.le_trans Z0 E101.1) K102.1) E104.1) (Keep.of_wr W107).1) (Keep.of_wr W110).1) E113.1) K115.1) E119.1) E123.1) E128.1) K140.1) P140_1) hZ (hw _ (List.mem_of_getElem? (i := 69) rfl)) (hw _ (List.mem_of_getElem? (i := 39) rfl)) (by decide) (by decide)) q143a q143c (g := (mkF m 220 #[.val (.int p0), .val (.int p1), .val (.int p2), .val (.int p3), .val (.long q4), .second, .val (.int p5), .val (.ref b101), .val (.int ff), .val (.ref b113), .val (.int (0 : Int32)), .val (.int (1 : Int32))] [(.ref b113)])) rfl (by rw [hml]; rfl) (Steps.refl _) (argsL := []) (rest := []) (lenOf pd_7 rfl) rfl (by show 2 * 0 + _ ≤ _; exact Nat.le_of_eq rfl) (hb hby at_220) (fun _ _ => ⟨rfl, e141, (by decide : 10 + 0 ≤ _), (by decide : 6166 + 0 ≤ _)⟩)
    dsimp only [Pt.U, Pt.locs, Pt.cells, Pt.slots] at X143 l143 y143 z143 st143 hQ143
    subst l143 y143 z143
    obtain ⟨rfl, Nq143, hh143⟩ := hQ143
    have N143 := Fr.app N141 Nq143
    refine OGo.st (fun t k => st143.trans k) ?_
    have e143 : T143.heap = T140.heap := hh143
    show OGo p.tables e below _ (T143.setTop (mkF m 223 #[.val (.int p0), .val (.int p1), .val (.int p2), .val (.int p3), .val (.long q4), .second, .val (.int p5), .val (.ref b101), .val (.int ff), .val (.ref b113), .val (.int (0 : Int32)), .val (.int (1 : Int32))] [(.int (0 : Int32))]))
    refine OGo.st (fun t k => XS.iload X143.here hx rfl (hb hby at_223) rfl k) ?_
    show OGo p.tables e below _ (T143.setTop (mkF m 225 #[.val (.int p0), .val (.int p1), .val (.int p2), .val (.int p3), .val (.long q4), .second, .val (.int p5), .val (.ref b101), .val (.int ff), .val (.ref b113), .val (.int (0 : Int32)), .val (.int (1 : Int32))] [(.int (0 : Int32)), (.int (0 : Int32))]))
    refine OGo.st (fun t k => XS.icmpNo X143.here hx rfl (hb hby at_225) rfl (teq (by decide : (0 : Int32) = (0 : Int32))).2 k) ?_
    show OGo p.tables e below _ (T143.setTop (mkF m 228 #[.val (.int p0), .val (.int p1), .val (.int p2), .val (.int p3), .val (.long q4), .second, .val (.int p5), .val (.ref b101), .val (.int ff), .val (.ref b113), .val (.int (0 : Int32)), .val (.int (1 : Int32))] []))
    refine OGo.st (fun t k => XS.iconst X143.here hx rfl (hb hby at_228) k) ?_
    show OGo p.tables e below _ (T143.setTop (mkF m 229 #[.val (.int p0), .val (.int p1), .val (.int p2), .val (.int p3), .val (.long q4), .second, .val (.int p5), .val (.ref b101), .val (.int ff), .val (.ref b113), .val (.int (0 : Int32)), .val (.int (1 : Int32))] [(.int (1 : Int32))]))
    refine OGo.st (fun t k => XS.goto X143.here hx rfl (pc0 := 229) (pc' := 233) rfl (hb hby at_229) (by decide) (by decide) k) ?_
    show OGo p.tables e below _ (T143.setTop (mkF m 233 #[.val (.int p0), .val (.int p1), .val (.int p2), .val (.int p3), .val (.long q4), .second, .val (.int p5), .val (.ref b101), .val (.int ff), .val (.ref b113), .val (.int (0 : Int32)), .val (.int (1 : Int32))] [(.int (1 : Int32))]))
    obtain ⟨fs, hr, hrun, hended, hW, hsame⟩ := X143.leave (v := some (.int (1 : Int32))) (fun h => by rw [Bd.returns] at h; cases h)
    refine OGo.done (retN X143 hx (t := .boolean) Bd.returns (by simp) (hb hby at_233) hr) ⟨hrun, hended, _, _, rfl, ?_, ⟨_, rfl⟩, hW, hsame.mono (by decide) (by decide)⟩
    show Q14 Z p0 p1 p2 p3 q4 p5 h0 n0 _ T143.heap _
    rw [e143]
    exact ⟨rfl, N143⟩
  ·
    rw [hn]
    show OGo p.tables e below _ (T140.setTop (mkF m 70 #[.val (.int p0), .val (.int p1), .val (.int p2), .val (.int p3), .val (.long q4), .second, .val (.int p5), .val (.ref b101), .val (.int ff), .val (.ref b113), .val (.int (1 : Int32)), .unset] []))
    refine OGo.st (fun t k => XS.aload X140.here hx rfl (hb hby at_70) rfl rfl k) ?_
    show OGo p.tables e below _ (T140.setTop (mkF m 72 #[.val (.int p0), .val (.int p1), .val (.int p2), .val (.int p3), .val (.long q4), .second, .val (.int p5), .val (.ref b101), .val (.int ff), .val (.ref b113), .val (.int (1 : Int32)), .unset] [(.ref b113)]))
    have G146 : Exa Z T140.heap b113 "com/example/pathsieve/pathsieve/engine/Messages" := (G129.keep K140)
    obtain ⟨cq145, kq145, q145a, q145b, q145c⟩ := isOf hZ rfl G146
    obtain ⟨_, _, ⟨T145, L145, kk145, nn145⟩, -, X145, ⟨Lc145, hQ145, l145, y145, z145⟩, st145⟩ := X140.virtualBack hx (y := (⟨"com/example/pathsieve/pathsieve/engine/Messages", "size", "()I"⟩ : MethodName)) (z := (⟨"com/example/pathsieve/pathsieve/engine/Messages", "size", "()I"⟩ : MethodName)) hown (mvT hZ (hw _ (List.mem_of_getElem? (i := 65) rfl))) (mvT hZ (hw _ (List.mem_of_getElem? (i := 66) rfl))) (notFace_of_selects (args := #[]) (mvT hZ (hw _ (List.mem_of_getElem? (i := 68) rfl)))) (mvT hZ (hw _ (List.mem_of_getElem? (i := 68) rfl))) (mvT hZ (hw _ (List.mem_of_getElem? (i := 67) rfl))) (by decide) (backOf (W := 0) (rm6 l Z ar hw [] b113 T140.heap n0 (Nat.le_trans (Nat.le_trans (Nat.le_trans (Nat.le_trans (Nat.le_trans (Nat.le_trans (Nat.le_trans (Nat.le_trans (Nat.le_trans (Nat.le_trans (Nat.le_trans Z0 E101.1) K102.1) E104.1) (Keep.of_wr W107).1) (Keep.of_wr W110).1) E113.1) K115.1) E119.1) E123.1) E128.1) K140.1) P140_1) hZ (hw _ (List.mem_of_getElem? (i := 69) rfl)) (hw _ (List.mem_of_getElem? (i := 39) rfl)) (by decide) (by decide)) q145a q145c (g := (mkF m 72 #[.val (.int p0), .val (.int p1), .val (.int p2), .val (.int p3), .val (.long q4), .second, .val (.int p5), .val (.ref b101), .val (.int ff), .val (.ref b113), .val (.int (1 : Int32)), .unset] [(.ref b113)])) rfl (by rw [hml]; rfl) (Steps.refl _) (argsL := []) (rest := []) (lenOf pd_7 rfl) rfl (by show 2 * 0 + _ ≤ _; exact Nat.le_of_eq rfl) (hb hby at_72) (fun _ _ => ⟨rfl, rfl, (by decide : 10 + 0 ≤ _), (by decide : 6166 + 0 ≤ _)⟩)
    dsimp only [Pt.U, Pt.locs, Pt.cells, Pt.slots] at X145 l145 y145 z145 st145 hQ145
    subst l145 y145 z145
    obtain ⟨rfl, Nq145, hh145⟩ := hQ145
    have N145 := Fr.app N140 Nq145
    refine OGo.st (fun t k => st145.trans k) ?_
    have e145 : T145.heap = T140.heap := hh145
    show OGo p.tables e below _ (T145.setTop (mkF m 75 #[.val (.int p0), .val (.int p1), .val (.int p2), .val (.int p3), .val (.long q4), .second, .val (.int p5), .val (.ref b101), .val (.int ff), .val (.ref b113), .val (.int (1 : Int32)), .unset] [(.int (0 : Int32))]))
    refine OGo.st (fun t k => XS.ifNo X145.here hx rfl (hb hby at_75) rfl ((if0 _ _).trans (teq (by decide : (0 : Int32) = (0 : Int32))).2) k) ?_
    show OGo p.tables e below _ (T145.setTop (mkF m 78 #[.val (.int p0), .val (.int p1), .val (.int p2), .val (.int p3), .val (.long q4), .second, .val (.int p5), .val (.ref b101), .val (.int ff), .val (.ref b113), .val (.int (1 : Int32)), .unset] []))
    refine OGo.st (fun t k => XS.iconst X145.here hx rfl (hb hby at_78) k) ?_
    show OGo p.tables e below _ (T145.setTop (mkF m 79 #[.val (.int p0), .val (.int p1), .val (.int p2), .val (.int p3), .val (.long q4), .second, .val (.int p5), .val (.ref b101), .val (.int ff), .val (.ref b113), .val (.int (1 : Int32)), .unset] [(.int (1 : Int32))]))
    refine OGo.st (fun t k => XS.goto X145.here hx rfl (pc0 := 79) (pc' := 83) rfl (hb hby at_79) (by decide) (by decide) k) ?_
    show OGo p.tables e below _ (T145.setTop (mkF m 83 #[.val (.int p0), .val (.int p1), .val (.int p2), .val (.int p3), .val (.long q4), .second, .val (.int p5), .val (.ref b101), .val (.int ff), .val (.ref b113), .val (.int (1 : Int32)), .unset] [(.int (1 : Int32))]))
    refine OGo.st (fun t k => XS.istore X145.here hx rfl (hb hby at_83) rfl (l' := #[.val (.int p0), .val (.int p1), .val (.int p2), .val (.int p3), .val (.long q4), .second, .val (.int p5), .val (.ref b101), .val (.int ff), .val (.ref b113), .val (.int (1 : Int32)), .val (.int (1 : Int32))]) rfl k) ?_
    show OGo p.tables e below _ (T145.setTop (mkF m 85 #[.val (.int p0), .val (.int p1), .val (.int p2), .val (.int p3), .val (.long q4), .second, .val (.int p5), .val (.ref b101), .val (.int ff), .val (.ref b113), .val (.int (1 : Int32)), .val (.int (1 : Int32))] []))
    refine OGo.st (fun t k => XS.iload X145.here hx rfl (hb hby at_85) rfl k) ?_
    show OGo p.tables e below _ (T145.setTop (mkF m 87 #[.val (.int p0), .val (.int p1), .val (.int p2), .val (.int p3), .val (.long q4), .second, .val (.int p5), .val (.ref b101), .val (.int ff), .val (.ref b113), .val (.int (1 : Int32)), .val (.int (1 : Int32))] [(.int (1 : Int32))]))
    refine OGo.st (fun t k => XS.ifNo X145.here hx rfl (hb hby at_87) rfl ((if0 _ _).trans (tlt (by decide : (0 : Int32) < (1 : Int32))).2.2.2) k) ?_
    show OGo p.tables e below _ (T145.setTop (mkF m 90 #[.val (.int p0), .val (.int p1), .val (.int p2), .val (.int p3), .val (.long q4), .second, .val (.int p5), .val (.ref b101), .val (.int ff), .val (.ref b113), .val (.int (1 : Int32)), .val (.int (1 : Int32))] []))
    refine OGo.st (fun t k => XS.aload X145.here hx rfl (hb hby at_90) rfl rfl k) ?_
    show OGo p.tables e below _ (T145.setTop (mkF m 92 #[.val (.int p0), .val (.int p1), .val (.int p2), .val (.int p3), .val (.long q4), .second, .val (.int p5), .val (.ref b101), .val (.int ff), .val (.ref b113), .val (.int (1 : Int32)), .val (.int (1 : Int32))] [(.ref b113)]))
    refine OGo.st (fun t k => XS.iloadN X145.here hx rfl (hb hby at_92) rfl k) ?_
    show OGo p.tables e below _ (T145.setTop (mkF m 93 #[.val (.int p0), .val (.int p1), .val (.int p2), .val (.int p3), .val (.long q4), .second, .val (.int p5), .val (.ref b101), .val (.int ff), .val (.ref b113), .val (.int (1 : Int32)), .val (.int (1 : Int32))] [(.int p2), (.ref b113)]))
    refine OGo.st (fun t k => XS.iconst X145.here hx rfl (hb hby at_93) k) ?_
    show OGo p.tables e below _ (T145.setTop (mkF m 94 #[.val (.int p0), .val (.int p1), .val (.int p2), .val (.int p3), .val (.long q4), .second, .val (.int p5), .val (.ref b101), .val (.int ff), .val (.ref b113), .val (.int (1 : Int32)), .val (.int (1 : Int32))] [(.int (1 : Int32)), (.int p2), (.ref b113)]))
    refine OGo.st (fun t k => XS.iand X145.here hx rfl (hb hby at_94) rfl k) ?_
    show OGo p.tables e below _ (T145.setTop (mkF m 95 #[.val (.int p0), .val (.int p1), .val (.int p2), .val (.int p3), .val (.long q4), .second, .val (.int p5), .val (.ref b101), .val (.int ff), .val (.ref b113), .val (.int (1 : Int32)), .val (.int (1 : Int32))] [(.int (p2 &&& (1 : Int32))), (.ref b113)]))
    refine OGo.join (α := Int32) (fun tg => True) (fun tg => T145.setTop (mkF m 103 #[.val (.int p0), .val (.int p1), .val (.int p2), .val (.int p3), .val (.long q4), .second, .val (.int p5), .val (.ref b101), .val (.int ff), .val (.ref b113), .val (.int (1 : Int32)), .val (.int (1 : Int32))] [(.int tg), (.ref b113)])) ?_ (fun jn103_147 => ?_)
    ·
      intro tg hj103_147
      show OGo p.tables e below _ (T145.setTop (mkF m 103 #[.val (.int p0), .val (.int p1), .val (.int p2), .val (.int p3), .val (.long q4), .second, .val (.int p5), .val (.ref b101), .val (.int ff), .val (.ref b113), .val (.int (1 : Int32)), .val (.int (1 : Int32))] [(.int tg), (.ref b113)]))
      refine OGo.st (fun t k => XS.iloadN X145.here hx rfl (hb hby at_103) rfl k) ?_
      show OGo p.tables e below _ (T145.setTop (mkF m 104 #[.val (.int p0), .val (.int p1), .val (.int p2), .val (.int p3), .val (.long q4), .second, .val (.int p5), .val (.ref b101), .val (.int ff), .val (.ref b113), .val (.int (1 : Int32)), .val (.int (1 : Int32))] [(.int p3), (.int tg), (.ref b113)]))
      refine OGo.st (fun t k => XS.lload X145.here hx rfl (hb hby at_104) rfl k) ?_
      show OGo p.tables e below _ (T145.setTop (mkF m 106 #[.val (.int p0), .val (.int p1), .val (.int p2), .val (.int p3), .val (.long q4), .second, .val (.int p5), .val (.ref b101), .val (.int ff), .val (.ref b113), .val (.int (1 : Int32)), .val (.int (1 : Int32))] [(.long q4), (.int p3), (.int tg), (.ref b113)]))
      refine OGo.st (fun t k => XS.iload X145.here hx rfl (hb hby at_106) rfl k) ?_
      show OGo p.tables e below _ (T145.setTop (mkF m 108 #[.val (.int p0), .val (.int p1), .val (.int p2), .val (.int p3), .val (.long q4), .second, .val (.int p5), .val (.ref b101), .val (.int ff), .val (.ref b113), .val (.int (1 : Int32)), .val (.int (1 : Int32))] [(.int p5), (.long q4), (.int p3), (.int tg), (.ref b113)]))
      have G148 : Fld Z T140.heap b101 "com/example/pathsieve/pathsieve/engine/Outbox" "taken" "I" (.int ff) := ((Fld.ext E128 (Fld.ext E123 (Fld.ext E119 ((Fld.ext E113 Fw110).keep K115 (ninS ne_b101_b113 nin0))))).keep K140 (ninS ne_b101_b113 nin0))
      have G149 : Fld Z T140.heap b101 "com/example/pathsieve/pathsieve/engine/Outbox" "nextBlocks" "[I" (.ref b104) := ((Fld.ext E128 (Fld.ext E123 (Fld.ext E119 ((Fld.ext E113 (Fld.other W110 Fw107 (Or.inr (slot_ne (Or.inl (hw _ (List.mem_of_getElem? (i := 16) rfl))) (Or.inl (hw _ (List.mem_of_getElem? (i := 36) rfl))) (by decide) (t := (.array .int)) (t' := .int) (by decide) (by decide))))).keep K115 (ninS ne_b101_b113 nin0))))).keep K140 (ninS ne_b101_b113 nin0))
      have G150 : Arv Z T140.heap b104 k104 .int (4 : Int32) [(.int (0 : Int32)), (.int (0 : Int32)), (.int (0 : Int32)), (.int (0 : Int32))] (.int (0 : Int32)) := ((G125.ext E128).keep K140 (ninS ne_b104_b113 nin0))
      have G151 : Exa Z T140.heap b101 "com/example/pathsieve/pathsieve/engine/Outbox" := ((Exa.ext E128 G124).keep K140)
      have G152 : Arh Z T140.heap b119 k119 .int (2048 : Int32) [] [] (.int (0 : Int32)) := ((G127.ext E128).keep K140 (ninS (Ne.symm ne_b113_b119) nin0))
      have G153 : Arh Z T140.heap b123 k123 .long (2048 : Int32) [] [] (.long (0 : Int64)) := ((V123.arh.ext E128).keep K140 (ninS (Ne.symm ne_b113_b123) nin0))
      have G154 : Arh Z T140.heap b128 k128 .int (2048 : Int32) [] [] (.int (0 : Int32)) := (V128.arh.keep K140 (ninS (Ne.symm ne_b113_b128) nin0))
      obtain ⟨_, _, ⟨T155, L155, kk155, nn155⟩, -, X155, ⟨Lc155, hQ155, l155, y155, z155⟩, st155⟩ := Jvm.LawKit.callS X145 hx (y := (⟨"com/example/pathsieve/pathsieve/engine/MessagesSizePinLaw", "send", "(Lcom/example/pathsieve/pathsieve/engine/Messages;ZIJI)V"⟩ : MethodName)) hown (mvT hZ (hw _ (List.mem_of_getElem? (i := 70) rfl))) (mvT hZ (hw _ (List.mem_of_getElem? (i := 71) rfl))) (mvT hZ (hw _ (List.mem_of_getElem? (i := 72) rfl))) (mvT hZ (hw _ (List.mem_of_getElem? (i := 73) rfl))) (by decide) (backOf (W := 0) (rm10 l Z ar hw [] b113 tg p3 q4 p5 b101 ff b104 k104 b119 k119 [] b123 k123 [] b128 k128 [] T140.heap n0 (Nat.le_trans (Nat.le_trans (Nat.le_trans (Nat.le_trans (Nat.le_trans (Nat.le_trans (Nat.le_trans (Nat.le_trans (Nat.le_trans (Nat.le_trans (Nat.le_trans Z0 E101.1) K102.1) E104.1) (Keep.of_wr W107).1) (Keep.of_wr W110).1) E113.1) K115.1) E119.1) E123.1) E128.1) K140.1) P140_2 G148 G149 G150 G151 G146 P140_4 P140_5 P140_1 P140_0 P140_7 P140_8 P140_9 P140_6 P140_3 G152 G153 G154 (Ne.symm ne_b101_b113) ne_b113_b119 ne_b113_b123 ne_b113_b128 ne_b101_b119 ne_b101_b123 ne_b101_b128 ne_b119_b123 ne_b119_b128 ne_b123_b128 ge_b113 ge_b101 ge_b119 ge_b123 ge_b128 (own_ne (by omega)) (own_rng _ (by omega) (by omega)) (own_rng _ (by have q := c_isub ((ff <<< ((9 : Int32) &&& 31)) + (1 : Int32)) 1; have r := rng32 (((ff <<< ((9 : Int32) &&& 31)) + (1 : Int32)) - 1); omega) (by have q := c_isub ((ff <<< ((9 : Int32) &&& 31)) + (1 : Int32)) 1; have r := rng32 (((ff <<< ((9 : Int32) &&& 31)) + (1 : Int32)) - 1); omega))) hZ (hw _ (List.mem_of_getElem? (i := 73) rfl)) (hw _ (List.mem_of_getElem? (i := 72) rfl)) (by decide) (by decide)) (g := (mkF m 108 #[.val (.int p0), .val (.int p1), .val (.int p2), .val (.int p3), .val (.long q4), .second, .val (.int p5), .val (.ref b101), .val (.int ff), .val (.ref b113), .val (.int (1 : Int32)), .val (.int (1 : Int32))] [(.int p5), (.long q4), (.int p3), (.int tg), (.ref b113)])) rfl (by rw [hml]; rfl) (argsL := [(.ref b113), (.int tg), (.int p3), (.long q4), (.int p5)]) (rest := []) (lenOf pd_8 rfl) rfl (by show 2 * 0 + _ ≤ _; exact Nat.le_of_eq rfl) (hb hby at_108) (fun _ _ => ⟨rfl, e145, (by decide : 10 + 0 ≤ _), (by decide : 6166 + 0 ≤ _)⟩)
      dsimp only [Pt.U, Pt.locs, Pt.cells, Pt.slots] at X155 l155 y155 z155 st155 hQ155
      subst l155 y155 z155
      obtain ⟨x155_tq, rfl, Nq155, K155, P155_0, P155_1, P155_2, P155_3, P155_4, P155_5, P155_6, P155_7, P155_8, P155_9, P155_10⟩ := hQ155
      have N155 := Fr.app N145 Nq155
      refine OGo.st st155 ?_
      show OGo p.tables e below _ (T155.setTop (mkF m 111 #[.val (.int p0), .val (.int p1), .val (.int p2), .val (.int p3), .val (.long q4), .second, .val (.int p5), .val (.ref b101), .val (.int ff), .val (.ref b113), .val (.int (1 : Int32)), .val (.int (1 : Int32))] []))
      refine OGo.st (fun t k => XS.iload X155.here hx rfl (hb hby at_111) rfl k) ?_
      show OGo p.tables e below _ (T155.setTop (mkF m 113 #[.val (.int p0), .val (.int p1), .val (.int p2), .val (.int p3), .val (.long q4), .second, .val (.int p5), .val (.ref b101), .val (.int ff), .val (.ref b113), .val (.int (1 : Int32)), .val (.int (1 : Int32))] [(.int (1 : Int32))]))
      refine OGo.st (fun t k => XS.iconst X155.here hx rfl (hb hby at_113) k) ?_
      show OGo p.tables e below _ (T155.setTop (mkF m 114 #[.val (.int p0), .val (.int p1), .val (.int p2), .val (.int p3), .val (.long q4), .second, .val (.int p5), .val (.ref b101), .val (.int ff), .val (.ref b113), .val (.int (1 : Int32)), .val (.int (1 : Int32))] [(.int (1 : Int32)), (.int (1 : Int32))]))
      refine OGo.st (fun t k => XS.icmpYes X155.here hx rfl (pc0 := 114) (pc' := 144) rfl (hb hby at_114) rfl (flt (by decide : ¬ ((1 : Int32) < (1 : Int32)))).2.2.2 (by decide) (by decide) k) ?_
      show OGo p.tables e below _ (T155.setTop (mkF m 144 #[.val (.int p0), .val (.int p1), .val (.int p2), .val (.int p3), .val (.long q4), .second, .val (.int p5), .val (.ref b101), .val (.int ff), .val (.ref b113), .val (.int (1 : Int32)), .val (.int (1 : Int32))] []))
      refine OGo.st (fun t k => XS.iload X155.here hx rfl (hb hby at_144) rfl k) ?_
      show OGo p.tables e below _ (T155.setTop (mkF m 146 #[.val (.int p0), .val (.int p1), .val (.int p2), .val (.int p3), .val (.long q4), .second, .val (.int p5), .val (.ref b101), .val (.int ff), .val (.ref b113), .val (.int (1 : Int32)), .val (.int (1 : Int32))] [(.int (1 : Int32))]))
      refine OGo.st (fun t k => XS.iconst X155.here hx rfl (hb hby at_146) k) ?_
      show OGo p.tables e below _ (T155.setTop (mkF m 147 #[.val (.int p0), .val (.int p1), .val (.int p2), .val (.int p3), .val (.long q4), .second, .val (.int p5), .val (.ref b101), .val (.int ff), .val (.ref b113), .val (.int (1 : Int32)), .val (.int (1 : Int32))] [(.int (2 : Int32)), (.int (1 : Int32))]))
      refine OGo.st (fun t k => XS.icmpYes X155.here hx rfl (pc0 := 147) (pc' := 177) rfl (hb hby at_147) rfl (flt (by decide : ¬ ((2 : Int32) < (1 : Int32)))).2.2.2 (by decide) (by decide) k) ?_
      show OGo p.tables e below _ (T155.setTop (mkF m 177 #[.val (.int p0), .val (.int p1), .val (.int p2), .val (.int p3), .val (.long q4), .second, .val (.int p5), .val (.ref b101), .val (.int ff), .val (.ref b113), .val (.int (1 : Int32)), .val (.int (1 : Int32))] []))
      refine OGo.st (fun t k => XS.iload X155.here hx rfl (hb hby at_177) rfl k) ?_
      show OGo p.tables e below _ (T155.setTop (mkF m 179 #[.val (.int p0), .val (.int p1), .val (.int p2), .val (.int p3), .val (.long q4), .second, .val (.int p5), .val (.ref b101), .val (.int ff), .val (.ref b113), .val (.int (1 : Int32)), .val (.int (1 : Int32))] [(.int (1 : Int32))]))
      refine OGo.st (fun t k => XS.iconst X155.here hx rfl (hb hby at_179) k) ?_
      show OGo p.tables e below _ (T155.setTop (mkF m 180 #[.val (.int p0), .val (.int p1), .val (.int p2), .val (.int p3), .val (.long q4), .second, .val (.int p5), .val (.ref b101), .val (.int ff), .val (.ref b113), .val (.int (1 : Int32)), .val (.int (1 : Int32))] [(.int (3 : Int32)), (.int (1 : Int32))]))
      refine OGo.st (fun t k => XS.icmpYes X155.here hx rfl (pc0 := 180) (pc' := 213) rfl (hb hby at_180) rfl (flt (by decide : ¬ ((3 : Int32) < (1 : Int32)))).2.2.2 (by decide) (by decide) k) ?_
      show OGo p.tables e below _ (T155.setTop (mkF m 213 #[.val (.int p0), .val (.int p1), .val (.int p2), .val (.int p3), .val (.long q4), .second, .val (.int p5), .val (.ref b101), .val (.int ff), .val (.ref b113), .val (.int (1 : Int32)), .val (.int (1 : Int32))] []))
      refine OGo.st (fun t k => XS.iload X155.here hx rfl (hb hby at_213) rfl k) ?_
      show OGo p.tables e below _ (T155.setTop (mkF m 215 #[.val (.int p0), .val (.int p1), .val (.int p2), .val (.int p3), .val (.long q4), .second, .val (.int p5), .val (.ref b101), .val (.int ff), .val (.ref b113), .val (.int (1 : Int32)), .val (.int (1 : Int32))] [(.int (1 : Int32))]))
      refine OGo.st (fun t k => XS.ifNo X155.here hx rfl (hb hby at_215) rfl ((if0 _ _).trans (feq (by decide : ¬ ((1 : Int32) = (0 : Int32)))).1) k) ?_
      show OGo p.tables e below _ (T155.setTop (mkF m 218 #[.val (.int p0), .val (.int p1), .val (.int p2), .val (.int p3), .val (.long q4), .second, .val (.int p5), .val (.ref b101), .val (.int ff), .val (.ref b113), .val (.int (1 : Int32)), .val (.int (1 : Int32))] []))
      refine OGo.st (fun t k => XS.aload X155.here hx rfl (hb hby at_218) rfl rfl k) ?_
      show OGo p.tables e below _ (T155.setTop (mkF m 220 #[.val (.int p0), .val (.int p1), .val (.int p2), .val (.int p3), .val (.long q4), .second, .val (.int p5), .val (.ref b101), .val (.int ff), .val (.ref b113), .val (.int (1 : Int32)), .val (.int (1 : Int32))] [(.ref b113)]))
      have G157 : Exa Z T155.heap b113 "com/example/pathsieve/pathsieve/engine/Messages" := (G146.keep K155)
      obtain ⟨cq156, kq156, q156a, q156b, q156c⟩ := isOf hZ rfl G157
      obtain ⟨_, _, ⟨T156, L156, kk156, nn156⟩, -, X156, ⟨Lc156, hQ156, l156, y156, z156⟩, st156⟩ := X155.virtualBack hx (y := (⟨"com/example/pathsieve/pathsieve/engine/Messages", "size", "()I"⟩ : MethodName)) (z := (⟨"com/example/pathsieve/pathsieve/engine/Messages", "size", "()I"⟩ : MethodName)) hown (mvT hZ (hw _ (List.mem_of_getElem? (i := 65) rfl))) (mvT hZ (hw _ (List.mem_of_getElem? (i := 66) rfl))) (notFace_of_selects (args := #[]) (mvT hZ (hw _ (List.mem_of_getElem? (i := 68) rfl)))) (mvT hZ (hw _ (List.mem_of_getElem? (i := 68) rfl))) (mvT hZ (hw _ (List.mem_of_getElem? (i := 67) rfl))) (by decide) (backOf (W := 0) (rm7 l Z ar hw [] b113 ((ff <<< ((9 : Int32) &&& 31)) + (1 : Int32)) ff T155.heap n0 (Nat.le_trans (Nat.le_trans (Nat.le_trans (Nat.le_trans (Nat.le_trans (Nat.le_trans (Nat.le_trans (Nat.le_trans (Nat.le_trans (Nat.le_trans (Nat.le_trans (Nat.le_trans Z0 E101.1) K102.1) E104.1) (Keep.of_wr W107).1) (Keep.of_wr W110).1) E113.1) K115.1) E119.1) E123.1) E128.1) K140.1) K155.1) P155_7 P155_5 P155_3 P155_4 (own_rng ff (by omega) (by omega)).1) hZ (hw _ (List.mem_of_getElem? (i := 69) rfl)) (hw _ (List.mem_of_getElem? (i := 39) rfl)) (by decide) (by decide)) q156a q156c (g := (mkF m 220 #[.val (.int p0), .val (.int p1), .val (.int p2), .val (.int p3), .val (.long q4), .second, .val (.int p5), .val (.ref b101), .val (.int ff), .val (.ref b113), .val (.int (1 : Int32)), .val (.int (1 : Int32))] [(.ref b113)])) rfl (by rw [hml]; rfl) (Steps.refl _) (argsL := []) (rest := []) (lenOf pd_7 rfl) rfl (by show 2 * 0 + _ ≤ _; exact Nat.le_of_eq rfl) (hb hby at_220) (fun _ _ => ⟨rfl, rfl, (by decide : 10 + 0 ≤ _), (by decide : 6166 + 0 ≤ _)⟩)
      dsimp only [Pt.U, Pt.locs, Pt.cells, Pt.slots] at X156 l156 y156 z156 st156 hQ156
      subst l156 y156 z156
      obtain ⟨rfl, Nq156, hh156⟩ := hQ156
      have N156 := Fr.app N155 Nq156
      refine OGo.st (fun t k => st156.trans k) ?_
      have e156 : T156.heap = T155.heap := hh156
      show OGo p.tables e below _ (T156.setTop (mkF m 223 #[.val (.int p0), .val (.int p1), .val (.int p2), .val (.int p3), .val (.long q4), .second, .val (.int p5), .val (.ref b101), .val (.int ff), .val (.ref b113), .val (.int (1 : Int32)), .val (.int (1 : Int32))] [(.int (((0 : Int32) + ((ff <<< ((9 : Int32) &&& 31)) + (1 : Int32))) - (ff <<< ((9 : Int32) &&& 31))))]))
      refine OGo.st (fun t k => XS.iload X156.here hx rfl (hb hby at_223) rfl k) ?_
      show OGo p.tables e below _ (T156.setTop (mkF m 225 #[.val (.int p0), .val (.int p1), .val (.int p2), .val (.int p3), .val (.long q4), .second, .val (.int p5), .val (.ref b101), .val (.int ff), .val (.ref b113), .val (.int (1 : Int32)), .val (.int (1 : Int32))] [(.int (1 : Int32)), (.int (((0 : Int32) + ((ff <<< ((9 : Int32) &&& 31)) + (1 : Int32))) - (ff <<< ((9 : Int32) &&& 31))))]))
      refine OGo.st (fun t k => XS.icmpNo X156.here hx rfl (hb hby at_225) rfl (teq ((own_sz _ _ _ rfl) : (((0 : Int32) + ((ff <<< ((9 : Int32) &&& 31)) + (1 : Int32))) - (ff <<< ((9 : Int32) &&& 31))) = (1 : Int32))).2 k) ?_
      show OGo p.tables e below _ (T156.setTop (mkF m 228 #[.val (.int p0), .val (.int p1), .val (.int p2), .val (.int p3), .val (.long q4), .second, .val (.int p5), .val (.ref b101), .val (.int ff), .val (.ref b113), .val (.int (1 : Int32)), .val (.int (1 : Int32))] []))
      refine OGo.st (fun t k => XS.iconst X156.here hx rfl (hb hby at_228) k) ?_
      show OGo p.tables e below _ (T156.setTop (mkF m 229 #[.val (.int p0), .val (.int p1), .val (.int p2), .val (.int p3), .val (.long q4), .second, .val (.int p5), .val (.ref b101), .val (.int ff), .val (.ref b113), .val (.int (1 : Int32)), .val (.int (1 : Int32))] [(.int (1 : Int32))]))
      refine OGo.st (fun t k => XS.goto X156.here hx rfl (pc0 := 229) (pc' := 233) rfl (hb hby at_229) (by decide) (by decide) k) ?_
      show OGo p.tables e below _ (T156.setTop (mkF m 233 #[.val (.int p0), .val (.int p1), .val (.int p2), .val (.int p3), .val (.long q4), .second, .val (.int p5), .val (.ref b101), .val (.int ff), .val (.ref b113), .val (.int (1 : Int32)), .val (.int (1 : Int32))] [(.int (1 : Int32))]))
      obtain ⟨fs, hr, hrun, hended, hW, hsame⟩ := X156.leave (v := some (.int (1 : Int32))) (fun h => by rw [Bd.returns] at h; cases h)
      refine OGo.done (retN X156 hx (t := .boolean) Bd.returns (by simp) (hb hby at_233) hr) ⟨hrun, hended, _, _, rfl, ?_, ⟨_, rfl⟩, hW, hsame.mono (by decide) (by decide)⟩
      show Q14 Z p0 p1 p2 p3 q4 p5 h0 n0 _ T156.heap _
      rw [e156]
      exact ⟨rfl, N156⟩
    by_cases hc95_159 : (p2 &&& (1 : Int32)) = (0 : Int32)
    ·
      refine OGo.st (fun t k => XS.ifYes X145.here hx rfl (pc0 := 95) (pc' := 102) rfl (hb hby at_95) rfl ((if0 _ _).trans (teq hc95_159).1) (by decide) (by decide) k) ?_
      show OGo p.tables e below _ (T145.setTop (mkF m 102 #[.val (.int p0), .val (.int p1), .val (.int p2), .val (.int p3), .val (.long q4), .second, .val (.int p5), .val (.ref b101), .val (.int ff), .val (.ref b113), .val (.int (1 : Int32)), .val (.int (1 : Int32))] [(.ref b113)]))
      refine OGo.st (fun t k => XS.iconst X145.here hx rfl (hb hby at_102) k) ?_
      show OGo p.tables e below _ (T145.setTop (mkF m 103 #[.val (.int p0), .val (.int p1), .val (.int p2), .val (.int p3), .val (.long q4), .second, .val (.int p5), .val (.ref b101), .val (.int ff), .val (.ref b113), .val (.int (1 : Int32)), .val (.int (1 : Int32))] [(.int (0 : Int32)), (.ref b113)]))
      exact jn103_147 (0 : Int32) trivial
    ·
      refine OGo.st (fun t k => XS.ifNo X145.here hx rfl (hb hby at_95) rfl ((if0 _ _).trans (feq hc95_159).1) k) ?_
      show OGo p.tables e below _ (T145.setTop (mkF m 98 #[.val (.int p0), .val (.int p1), .val (.int p2), .val (.int p3), .val (.long q4), .second, .val (.int p5), .val (.ref b101), .val (.int ff), .val (.ref b113), .val (.int (1 : Int32)), .val (.int (1 : Int32))] [(.ref b113)]))
      refine OGo.st (fun t k => XS.iconst X145.here hx rfl (hb hby at_98) k) ?_
      show OGo p.tables e below _ (T145.setTop (mkF m 99 #[.val (.int p0), .val (.int p1), .val (.int p2), .val (.int p3), .val (.long q4), .second, .val (.int p5), .val (.ref b101), .val (.int ff), .val (.ref b113), .val (.int (1 : Int32)), .val (.int (1 : Int32))] [(.int (1 : Int32)), (.ref b113)]))
      refine OGo.st (fun t k => XS.goto X145.here hx rfl (pc0 := 99) (pc' := 103) rfl (hb hby at_99) (by decide) (by decide) k) ?_
      show OGo p.tables e below _ (T145.setTop (mkF m 103 #[.val (.int p0), .val (.int p1), .val (.int p2), .val (.int p3), .val (.long q4), .second, .val (.int p5), .val (.ref b101), .val (.int ff), .val (.ref b113), .val (.int (1 : Int32)), .val (.int (1 : Int32))] [(.int (1 : Int32)), (.ref b113)]))
      exact jn103_147 (1 : Int32) trivial
  ·
    rw [hn]
    show OGo p.tables e below _ (T140.setTop (mkF m 70 #[.val (.int p0), .val (.int p1), .val (.int p2), .val (.int p3), .val (.long q4), .second, .val (.int p5), .val (.ref b101), .val (.int ff), .val (.ref b113), .val (.int (2 : Int32)), .unset] []))
    refine OGo.st (fun t k => XS.aload X140.here hx rfl (hb hby at_70) rfl rfl k) ?_
    show OGo p.tables e below _ (T140.setTop (mkF m 72 #[.val (.int p0), .val (.int p1), .val (.int p2), .val (.int p3), .val (.long q4), .second, .val (.int p5), .val (.ref b101), .val (.int ff), .val (.ref b113), .val (.int (2 : Int32)), .unset] [(.ref b113)]))
    have G161 : Exa Z T140.heap b113 "com/example/pathsieve/pathsieve/engine/Messages" := (G129.keep K140)
    obtain ⟨cq160, kq160, q160a, q160b, q160c⟩ := isOf hZ rfl G161
    obtain ⟨_, _, ⟨T160, L160, kk160, nn160⟩, -, X160, ⟨Lc160, hQ160, l160, y160, z160⟩, st160⟩ := X140.virtualBack hx (y := (⟨"com/example/pathsieve/pathsieve/engine/Messages", "size", "()I"⟩ : MethodName)) (z := (⟨"com/example/pathsieve/pathsieve/engine/Messages", "size", "()I"⟩ : MethodName)) hown (mvT hZ (hw _ (List.mem_of_getElem? (i := 65) rfl))) (mvT hZ (hw _ (List.mem_of_getElem? (i := 66) rfl))) (notFace_of_selects (args := #[]) (mvT hZ (hw _ (List.mem_of_getElem? (i := 68) rfl)))) (mvT hZ (hw _ (List.mem_of_getElem? (i := 68) rfl))) (mvT hZ (hw _ (List.mem_of_getElem? (i := 67) rfl))) (by decide) (backOf (W := 0) (rm6 l Z ar hw [] b113 T140.heap n0 (Nat.le_trans (Nat.le_trans (Nat.le_trans (Nat.le_trans (Nat.le_trans (Nat.le_trans (Nat.le_trans (Nat.le_trans (Nat.le_trans (Nat.le_trans (Nat.le_trans Z0 E101.1) K102.1) E104.1) (Keep.of_wr W107).1) (Keep.of_wr W110).1) E113.1) K115.1) E119.1) E123.1) E128.1) K140.1) P140_1) hZ (hw _ (List.mem_of_getElem? (i := 69) rfl)) (hw _ (List.mem_of_getElem? (i := 39) rfl)) (by decide) (by decide)) q160a q160c (g := (mkF m 72 #[.val (.int p0), .val (.int p1), .val (.int p2), .val (.int p3), .val (.long q4), .second, .val (.int p5), .val (.ref b101), .val (.int ff), .val (.ref b113), .val (.int (2 : Int32)), .unset] [(.ref b113)])) rfl (by rw [hml]; rfl) (Steps.refl _) (argsL := []) (rest := []) (lenOf pd_7 rfl) rfl (by show 2 * 0 + _ ≤ _; exact Nat.le_of_eq rfl) (hb hby at_72) (fun _ _ => ⟨rfl, rfl, (by decide : 10 + 0 ≤ _), (by decide : 6166 + 0 ≤ _)⟩)
    dsimp only [Pt.U, Pt.locs, Pt.cells, Pt.slots] at X160 l160 y160 z160 st160 hQ160
    subst l160 y160 z160
    obtain ⟨rfl, Nq160, hh160⟩ := hQ160
    have N160 := Fr.app N140 Nq160
    refine OGo.st (fun t k => st160.trans k) ?_
    have e160 : T160.heap = T140.heap := hh160
    show OGo p.tables e below _ (T160.setTop (mkF m 75 #[.val (.int p0), .val (.int p1), .val (.int p2), .val (.int p3), .val (.long q4), .second, .val (.int p5), .val (.ref b101), .val (.int ff), .val (.ref b113), .val (.int (2 : Int32)), .unset] [(.int (0 : Int32))]))
    refine OGo.st (fun t k => XS.ifNo X160.here hx rfl (hb hby at_75) rfl ((if0 _ _).trans (teq (by decide : (0 : Int32) = (0 : Int32))).2) k) ?_
    show OGo p.tables e below _ (T160.setTop (mkF m 78 #[.val (.int p0), .val (.int p1), .val (.int p2), .val (.int p3), .val (.long q4), .second, .val (.int p5), .val (.ref b101), .val (.int ff), .val (.ref b113), .val (.int (2 : Int32)), .unset] []))
    refine OGo.st (fun t k => XS.iconst X160.here hx rfl (hb hby at_78) k) ?_
    show OGo p.tables e below _ (T160.setTop (mkF m 79 #[.val (.int p0), .val (.int p1), .val (.int p2), .val (.int p3), .val (.long q4), .second, .val (.int p5), .val (.ref b101), .val (.int ff), .val (.ref b113), .val (.int (2 : Int32)), .unset] [(.int (1 : Int32))]))
    refine OGo.st (fun t k => XS.goto X160.here hx rfl (pc0 := 79) (pc' := 83) rfl (hb hby at_79) (by decide) (by decide) k) ?_
    show OGo p.tables e below _ (T160.setTop (mkF m 83 #[.val (.int p0), .val (.int p1), .val (.int p2), .val (.int p3), .val (.long q4), .second, .val (.int p5), .val (.ref b101), .val (.int ff), .val (.ref b113), .val (.int (2 : Int32)), .unset] [(.int (1 : Int32))]))
    refine OGo.st (fun t k => XS.istore X160.here hx rfl (hb hby at_83) rfl (l' := #[.val (.int p0), .val (.int p1), .val (.int p2), .val (.int p3), .val (.long q4), .second, .val (.int p5), .val (.ref b101), .val (.int ff), .val (.ref b113), .val (.int (2 : Int32)), .val (.int (1 : Int32))]) rfl k) ?_
    show OGo p.tables e below _ (T160.setTop (mkF m 85 #[.val (.int p0), .val (.int p1), .val (.int p2), .val (.int p3), .val (.long q4), .second, .val (.int p5), .val (.ref b101), .val (.int ff), .val (.ref b113), .val (.int (2 : Int32)), .val (.int (1 : Int32))] []))
    refine OGo.st (fun t k => XS.iload X160.here hx rfl (hb hby at_85) rfl k) ?_
    show OGo p.tables e below _ (T160.setTop (mkF m 87 #[.val (.int p0), .val (.int p1), .val (.int p2), .val (.int p3), .val (.long q4), .second, .val (.int p5), .val (.ref b101), .val (.int ff), .val (.ref b113), .val (.int (2 : Int32)), .val (.int (1 : Int32))] [(.int (2 : Int32))]))
    refine OGo.st (fun t k => XS.ifNo X160.here hx rfl (hb hby at_87) rfl ((if0 _ _).trans (tlt (by decide : (0 : Int32) < (2 : Int32))).2.2.2) k) ?_
    show OGo p.tables e below _ (T160.setTop (mkF m 90 #[.val (.int p0), .val (.int p1), .val (.int p2), .val (.int p3), .val (.long q4), .second, .val (.int p5), .val (.ref b101), .val (.int ff), .val (.ref b113), .val (.int (2 : Int32)), .val (.int (1 : Int32))] []))
    refine OGo.st (fun t k => XS.aload X160.here hx rfl (hb hby at_90) rfl rfl k) ?_
    show OGo p.tables e below _ (T160.setTop (mkF m 92 #[.val (.int p0), .val (.int p1), .val (.int p2), .val (.int p3), .val (.long q4), .second, .val (.int p5), .val (.ref b101), .val (.int ff), .val (.ref b113), .val (.int (2 : Int32)), .val (.int (1 : Int32))] [(.ref b113)]))
    refine OGo.st (fun t k => XS.iloadN X160.here hx rfl (hb hby at_92) rfl k) ?_
    show OGo p.tables e below _ (T160.setTop (mkF m 93 #[.val (.int p0), .val (.int p1), .val (.int p2), .val (.int p3), .val (.long q4), .second, .val (.int p5), .val (.ref b101), .val (.int ff), .val (.ref b113), .val (.int (2 : Int32)), .val (.int (1 : Int32))] [(.int p2), (.ref b113)]))
    refine OGo.st (fun t k => XS.iconst X160.here hx rfl (hb hby at_93) k) ?_
    show OGo p.tables e below _ (T160.setTop (mkF m 94 #[.val (.int p0), .val (.int p1), .val (.int p2), .val (.int p3), .val (.long q4), .second, .val (.int p5), .val (.ref b101), .val (.int ff), .val (.ref b113), .val (.int (2 : Int32)), .val (.int (1 : Int32))] [(.int (1 : Int32)), (.int p2), (.ref b113)]))
    refine OGo.st (fun t k => XS.iand X160.here hx rfl (hb hby at_94) rfl k) ?_
    show OGo p.tables e below _ (T160.setTop (mkF m 95 #[.val (.int p0), .val (.int p1), .val (.int p2), .val (.int p3), .val (.long q4), .second, .val (.int p5), .val (.ref b101), .val (.int ff), .val (.ref b113), .val (.int (2 : Int32)), .val (.int (1 : Int32))] [(.int (p2 &&& (1 : Int32))), (.ref b113)]))
    refine OGo.join (α := Int32) (fun tg => True) (fun tg => T160.setTop (mkF m 103 #[.val (.int p0), .val (.int p1), .val (.int p2), .val (.int p3), .val (.long q4), .second, .val (.int p5), .val (.ref b101), .val (.int ff), .val (.ref b113), .val (.int (2 : Int32)), .val (.int (1 : Int32))] [(.int tg), (.ref b113)])) ?_ (fun jn103_162 => ?_)
    ·
      intro tg hj103_162
      show OGo p.tables e below _ (T160.setTop (mkF m 103 #[.val (.int p0), .val (.int p1), .val (.int p2), .val (.int p3), .val (.long q4), .second, .val (.int p5), .val (.ref b101), .val (.int ff), .val (.ref b113), .val (.int (2 : Int32)), .val (.int (1 : Int32))] [(.int tg), (.ref b113)]))
      refine OGo.st (fun t k => XS.iloadN X160.here hx rfl (hb hby at_103) rfl k) ?_
      show OGo p.tables e below _ (T160.setTop (mkF m 104 #[.val (.int p0), .val (.int p1), .val (.int p2), .val (.int p3), .val (.long q4), .second, .val (.int p5), .val (.ref b101), .val (.int ff), .val (.ref b113), .val (.int (2 : Int32)), .val (.int (1 : Int32))] [(.int p3), (.int tg), (.ref b113)]))
      refine OGo.st (fun t k => XS.lload X160.here hx rfl (hb hby at_104) rfl k) ?_
      show OGo p.tables e below _ (T160.setTop (mkF m 106 #[.val (.int p0), .val (.int p1), .val (.int p2), .val (.int p3), .val (.long q4), .second, .val (.int p5), .val (.ref b101), .val (.int ff), .val (.ref b113), .val (.int (2 : Int32)), .val (.int (1 : Int32))] [(.long q4), (.int p3), (.int tg), (.ref b113)]))
      refine OGo.st (fun t k => XS.iload X160.here hx rfl (hb hby at_106) rfl k) ?_
      show OGo p.tables e below _ (T160.setTop (mkF m 108 #[.val (.int p0), .val (.int p1), .val (.int p2), .val (.int p3), .val (.long q4), .second, .val (.int p5), .val (.ref b101), .val (.int ff), .val (.ref b113), .val (.int (2 : Int32)), .val (.int (1 : Int32))] [(.int p5), (.long q4), (.int p3), (.int tg), (.ref b113)]))
      have G163 : Fld Z T140.heap b101 "com/example/pathsieve/pathsieve/engine/Outbox" "taken" "I" (.int ff) := ((Fld.ext E128 (Fld.ext E123 (Fld.ext E119 ((Fld.ext E113 Fw110).keep K115 (ninS ne_b101_b113 nin0))))).keep K140 (ninS ne_b101_b113 nin0))
      have G164 : Fld Z T140.heap b101 "com/example/pathsieve/pathsieve/engine/Outbox" "nextBlocks" "[I" (.ref b104) := ((Fld.ext E128 (Fld.ext E123 (Fld.ext E119 ((Fld.ext E113 (Fld.other W110 Fw107 (Or.inr (slot_ne (Or.inl (hw _ (List.mem_of_getElem? (i := 16) rfl))) (Or.inl (hw _ (List.mem_of_getElem? (i := 36) rfl))) (by decide) (t := (.array .int)) (t' := .int) (by decide) (by decide))))).keep K115 (ninS ne_b101_b113 nin0))))).keep K140 (ninS ne_b101_b113 nin0))
      have G165 : Arv Z T140.heap b104 k104 .int (4 : Int32) [(.int (0 : Int32)), (.int (0 : Int32)), (.int (0 : Int32)), (.int (0 : Int32))] (.int (0 : Int32)) := ((G125.ext E128).keep K140 (ninS ne_b104_b113 nin0))
      have G166 : Exa Z T140.heap b101 "com/example/pathsieve/pathsieve/engine/Outbox" := ((Exa.ext E128 G124).keep K140)
      have G167 : Arh Z T140.heap b119 k119 .int (2048 : Int32) [] [] (.int (0 : Int32)) := ((G127.ext E128).keep K140 (ninS (Ne.symm ne_b113_b119) nin0))
      have G168 : Arh Z T140.heap b123 k123 .long (2048 : Int32) [] [] (.long (0 : Int64)) := ((V123.arh.ext E128).keep K140 (ninS (Ne.symm ne_b113_b123) nin0))
      have G169 : Arh Z T140.heap b128 k128 .int (2048 : Int32) [] [] (.int (0 : Int32)) := (V128.arh.keep K140 (ninS (Ne.symm ne_b113_b128) nin0))
      obtain ⟨_, _, ⟨T170, L170, kk170, nn170⟩, -, X170, ⟨Lc170, hQ170, l170, y170, z170⟩, st170⟩ := Jvm.LawKit.callS X160 hx (y := (⟨"com/example/pathsieve/pathsieve/engine/MessagesSizePinLaw", "send", "(Lcom/example/pathsieve/pathsieve/engine/Messages;ZIJI)V"⟩ : MethodName)) hown (mvT hZ (hw _ (List.mem_of_getElem? (i := 70) rfl))) (mvT hZ (hw _ (List.mem_of_getElem? (i := 71) rfl))) (mvT hZ (hw _ (List.mem_of_getElem? (i := 72) rfl))) (mvT hZ (hw _ (List.mem_of_getElem? (i := 73) rfl))) (by decide) (backOf (W := 0) (rm10 l Z ar hw [] b113 tg p3 q4 p5 b101 ff b104 k104 b119 k119 [] b123 k123 [] b128 k128 [] T140.heap n0 (Nat.le_trans (Nat.le_trans (Nat.le_trans (Nat.le_trans (Nat.le_trans (Nat.le_trans (Nat.le_trans (Nat.le_trans (Nat.le_trans (Nat.le_trans (Nat.le_trans Z0 E101.1) K102.1) E104.1) (Keep.of_wr W107).1) (Keep.of_wr W110).1) E113.1) K115.1) E119.1) E123.1) E128.1) K140.1) P140_2 G163 G164 G165 G166 G161 P140_4 P140_5 P140_1 P140_0 P140_7 P140_8 P140_9 P140_6 P140_3 G167 G168 G169 (Ne.symm ne_b101_b113) ne_b113_b119 ne_b113_b123 ne_b113_b128 ne_b101_b119 ne_b101_b123 ne_b101_b128 ne_b119_b123 ne_b119_b128 ne_b123_b128 ge_b113 ge_b101 ge_b119 ge_b123 ge_b128 (own_ne (by omega)) (own_rng _ (by omega) (by omega)) (own_rng _ (by have q := c_isub ((ff <<< ((9 : Int32) &&& 31)) + (1 : Int32)) 1; have r := rng32 (((ff <<< ((9 : Int32) &&& 31)) + (1 : Int32)) - 1); omega) (by have q := c_isub ((ff <<< ((9 : Int32) &&& 31)) + (1 : Int32)) 1; have r := rng32 (((ff <<< ((9 : Int32) &&& 31)) + (1 : Int32)) - 1); omega))) hZ (hw _ (List.mem_of_getElem? (i := 73) rfl)) (hw _ (List.mem_of_getElem? (i := 72) rfl)) (by decide) (by decide)) (g := (mkF m 108 #[.val (.int p0), .val (.int p1), .val (.int p2), .val (.int p3), .val (.long q4), .second, .val (.int p5), .val (.ref b101), .val (.int ff), .val (.ref b113), .val (.int (2 : Int32)), .val (.int (1 : Int32))] [(.int p5), (.long q4), (.int p3), (.int tg), (.ref b113)])) rfl (by rw [hml]; rfl) (argsL := [(.ref b113), (.int tg), (.int p3), (.long q4), (.int p5)]) (rest := []) (lenOf pd_8 rfl) rfl (by show 2 * 0 + _ ≤ _; exact Nat.le_of_eq rfl) (hb hby at_108) (fun _ _ => ⟨rfl, e160, (by decide : 10 + 0 ≤ _), (by decide : 6166 + 0 ≤ _)⟩)
      dsimp only [Pt.U, Pt.locs, Pt.cells, Pt.slots] at X170 l170 y170 z170 st170 hQ170
      subst l170 y170 z170
      obtain ⟨x170_tq, rfl, Nq170, K170, P170_0, P170_1, P170_2, P170_3, P170_4, P170_5, P170_6, P170_7, P170_8, P170_9, P170_10⟩ := hQ170
      have N170 := Fr.app N160 Nq170
      refine OGo.st st170 ?_
      show OGo p.tables e below _ (T170.setTop (mkF m 111 #[.val (.int p0), .val (.int p1), .val (.int p2), .val (.int p3), .val (.long q4), .second, .val (.int p5), .val (.ref b101), .val (.int ff), .val (.ref b113), .val (.int (2 : Int32)), .val (.int (1 : Int32))] []))
      refine OGo.st (fun t k => XS.iload X170.here hx rfl (hb hby at_111) rfl k) ?_
      show OGo p.tables e below _ (T170.setTop (mkF m 113 #[.val (.int p0), .val (.int p1), .val (.int p2), .val (.int p3), .val (.long q4), .second, .val (.int p5), .val (.ref b101), .val (.int ff), .val (.ref b113), .val (.int (2 : Int32)), .val (.int (1 : Int32))] [(.int (2 : Int32))]))
      refine OGo.st (fun t k => XS.iconst X170.here hx rfl (hb hby at_113) k) ?_
      show OGo p.tables e below _ (T170.setTop (mkF m 114 #[.val (.int p0), .val (.int p1), .val (.int p2), .val (.int p3), .val (.long q4), .second, .val (.int p5), .val (.ref b101), .val (.int ff), .val (.ref b113), .val (.int (2 : Int32)), .val (.int (1 : Int32))] [(.int (1 : Int32)), (.int (2 : Int32))]))
      refine OGo.st (fun t k => XS.icmpNo X170.here hx rfl (hb hby at_114) rfl (tlt (by decide : (1 : Int32) < (2 : Int32))).2.2.2 k) ?_
      show OGo p.tables e below _ (T170.setTop (mkF m 117 #[.val (.int p0), .val (.int p1), .val (.int p2), .val (.int p3), .val (.long q4), .second, .val (.int p5), .val (.ref b101), .val (.int ff), .val (.ref b113), .val (.int (2 : Int32)), .val (.int (1 : Int32))] []))
      refine OGo.st (fun t k => XS.aload X170.here hx rfl (hb hby at_117) rfl rfl k) ?_
      show OGo p.tables e below _ (T170.setTop (mkF m 119 #[.val (.int p0), .val (.int p1), .val (.int p2), .val (.int p3), .val (.long q4), .second, .val (.int p5), .val (.ref b101), .val (.int ff), .val (.ref b113), .val (.int (2 : Int32)), .val (.int (1 : Int32))] [(.ref b113)]))
      refine OGo.st (fun t k => XS.iloadN X170.here hx rfl (hb hby at_119) rfl k) ?_
      show OGo p.tables e below _ (T170.setTop (mkF m 120 #[.val (.int p0), .val (.int p1), .val (.int p2), .val (.int p3), .val (.long q4), .second, .val (.int p5), .val (.ref b101), .val (.int ff), .val (.ref b113), .val (.int (2 : Int32)), .val (.int (1 : Int32))] [(.int p2), (.ref b113)]))
      refine OGo.st (fun t k => XS.iconst X170.here hx rfl (hb hby at_120) k) ?_
      show OGo p.tables e below _ (T170.setTop (mkF m 121 #[.val (.int p0), .val (.int p1), .val (.int p2), .val (.int p3), .val (.long q4), .second, .val (.int p5), .val (.ref b101), .val (.int ff), .val (.ref b113), .val (.int (2 : Int32)), .val (.int (1 : Int32))] [(.int (2 : Int32)), (.int p2), (.ref b113)]))
      refine OGo.st (fun t k => XS.iand X170.here hx rfl (hb hby at_121) rfl k) ?_
      show OGo p.tables e below _ (T170.setTop (mkF m 122 #[.val (.int p0), .val (.int p1), .val (.int p2), .val (.int p3), .val (.long q4), .second, .val (.int p5), .val (.ref b101), .val (.int ff), .val (.ref b113), .val (.int (2 : Int32)), .val (.int (1 : Int32))] [(.int (p2 &&& (2 : Int32))), (.ref b113)]))
      refine OGo.join (α := Int32) (fun tg => True) (fun tg => T170.setTop (mkF m 130 #[.val (.int p0), .val (.int p1), .val (.int p2), .val (.int p3), .val (.long q4), .second, .val (.int p5), .val (.ref b101), .val (.int ff), .val (.ref b113), .val (.int (2 : Int32)), .val (.int (1 : Int32))] [(.int tg), (.ref b113)])) ?_ (fun jn130_171 => ?_)
      ·
        intro tg hj130_171
        show OGo p.tables e below _ (T170.setTop (mkF m 130 #[.val (.int p0), .val (.int p1), .val (.int p2), .val (.int p3), .val (.long q4), .second, .val (.int p5), .val (.ref b101), .val (.int ff), .val (.ref b113), .val (.int (2 : Int32)), .val (.int (1 : Int32))] [(.int tg), (.ref b113)]))
        refine OGo.st (fun t k => XS.iloadN X170.here hx rfl (hb hby at_130) rfl k) ?_
        show OGo p.tables e below _ (T170.setTop (mkF m 131 #[.val (.int p0), .val (.int p1), .val (.int p2), .val (.int p3), .val (.long q4), .second, .val (.int p5), .val (.ref b101), .val (.int ff), .val (.ref b113), .val (.int (2 : Int32)), .val (.int (1 : Int32))] [(.int p3), (.int tg), (.ref b113)]))
        refine OGo.st (fun t k => XS.iconst X170.here hx rfl (hb hby at_131) k) ?_
        show OGo p.tables e below _ (T170.setTop (mkF m 132 #[.val (.int p0), .val (.int p1), .val (.int p2), .val (.int p3), .val (.long q4), .second, .val (.int p5), .val (.ref b101), .val (.int ff), .val (.ref b113), .val (.int (2 : Int32)), .val (.int (1 : Int32))] [(.int (1 : Int32)), (.int p3), (.int tg), (.ref b113)]))
        refine OGo.st (fun t k => XS.ixor X170.here hx rfl (hb hby at_132) rfl k) ?_
        show OGo p.tables e below _ (T170.setTop (mkF m 133 #[.val (.int p0), .val (.int p1), .val (.int p2), .val (.int p3), .val (.long q4), .second, .val (.int p5), .val (.ref b101), .val (.int ff), .val (.ref b113), .val (.int (2 : Int32)), .val (.int (1 : Int32))] [(.int (p3 ^^^ (1 : Int32))), (.int tg), (.ref b113)]))
        refine OGo.st (fun t k => XS.lload X170.here hx rfl (hb hby at_133) rfl k) ?_
        show OGo p.tables e below _ (T170.setTop (mkF m 135 #[.val (.int p0), .val (.int p1), .val (.int p2), .val (.int p3), .val (.long q4), .second, .val (.int p5), .val (.ref b101), .val (.int ff), .val (.ref b113), .val (.int (2 : Int32)), .val (.int (1 : Int32))] [(.long q4), (.int (p3 ^^^ (1 : Int32))), (.int tg), (.ref b113)]))
        refine OGo.st (fun t k => XS.lconst X170.here hx rfl (hb hby at_135) k) ?_
        show OGo p.tables e below _ (T170.setTop (mkF m 136 #[.val (.int p0), .val (.int p1), .val (.int p2), .val (.int p3), .val (.long q4), .second, .val (.int p5), .val (.ref b101), .val (.int ff), .val (.ref b113), .val (.int (2 : Int32)), .val (.int (1 : Int32))] [(.long (1 : Int64)), (.long q4), (.int (p3 ^^^ (1 : Int32))), (.int tg), (.ref b113)]))
        refine OGo.st (fun t k => XS.ladd X170.here hx rfl (hb hby at_136) rfl k) ?_
        show OGo p.tables e below _ (T170.setTop (mkF m 137 #[.val (.int p0), .val (.int p1), .val (.int p2), .val (.int p3), .val (.long q4), .second, .val (.int p5), .val (.ref b101), .val (.int ff), .val (.ref b113), .val (.int (2 : Int32)), .val (.int (1 : Int32))] [(.long (q4 + (1 : Int64))), (.int (p3 ^^^ (1 : Int32))), (.int tg), (.ref b113)]))
        refine OGo.st (fun t k => XS.iload X170.here hx rfl (hb hby at_137) rfl k) ?_
        show OGo p.tables e below _ (T170.setTop (mkF m 139 #[.val (.int p0), .val (.int p1), .val (.int p2), .val (.int p3), .val (.long q4), .second, .val (.int p5), .val (.ref b101), .val (.int ff), .val (.ref b113), .val (.int (2 : Int32)), .val (.int (1 : Int32))] [(.int p5), (.long (q4 + (1 : Int64))), (.int (p3 ^^^ (1 : Int32))), (.int tg), (.ref b113)]))
        refine OGo.st (fun t k => XS.iconst X170.here hx rfl (hb hby at_139) k) ?_
        show OGo p.tables e below _ (T170.setTop (mkF m 140 #[.val (.int p0), .val (.int p1), .val (.int p2), .val (.int p3), .val (.long q4), .second, .val (.int p5), .val (.ref b101), .val (.int ff), .val (.ref b113), .val (.int (2 : Int32)), .val (.int (1 : Int32))] [(.int (1 : Int32)), (.int p5), (.long (q4 + (1 : Int64))), (.int (p3 ^^^ (1 : Int32))), (.int tg), (.ref b113)]))
        refine OGo.st (fun t k => XS.ixor X170.here hx rfl (hb hby at_140) rfl k) ?_
        show OGo p.tables e below _ (T170.setTop (mkF m 141 #[.val (.int p0), .val (.int p1), .val (.int p2), .val (.int p3), .val (.long q4), .second, .val (.int p5), .val (.ref b101), .val (.int ff), .val (.ref b113), .val (.int (2 : Int32)), .val (.int (1 : Int32))] [(.int (p5 ^^^ (1 : Int32))), (.long (q4 + (1 : Int64))), (.int (p3 ^^^ (1 : Int32))), (.int tg), (.ref b113)]))
        have G172 : Exa Z T170.heap b113 "com/example/pathsieve/pathsieve/engine/Messages" := (G161.keep K170)
        obtain ⟨_, _, ⟨T173, L173, kk173, nn173⟩, -, X173, ⟨Lc173, hQ173, l173, y173, z173⟩, st173⟩ := Jvm.LawKit.callS X170 hx (y := (⟨"com/example/pathsieve/pathsieve/engine/MessagesSizePinLaw", "send", "(Lcom/example/pathsieve/pathsieve/engine/Messages;ZIJI)V"⟩ : MethodName)) hown (mvT hZ (hw _ (List.mem_of_getElem? (i := 70) rfl))) (mvT hZ (hw _ (List.mem_of_getElem? (i := 71) rfl))) (mvT hZ (hw _ (List.mem_of_getElem? (i := 72) rfl))) (mvT hZ (hw _ (List.mem_of_getElem? (i := 73) rfl))) (by decide) (backOf (W := 0) (rm13 l Z ar hw [] b113 tg (p3 ^^^ (1 : Int32)) (q4 + (1 : Int64)) (p5 ^^^ (1 : Int32)) ((ff <<< ((9 : Int32) &&& 31)) + (1 : Int32)) ((ff <<< ((9 : Int32) &&& 31)) + ((1 : Int32) <<< ((9 : Int32) &&& 31))) ff b119 k119 (((ff <<< ((9 : Int32) &&& 31)), (.int p3)) :: []) b123 k123 (((ff <<< ((9 : Int32) &&& 31)), (.long q4)) :: []) b128 k128 x170_tq T170.heap n0 (Nat.le_trans (Nat.le_trans (Nat.le_trans (Nat.le_trans (Nat.le_trans (Nat.le_trans (Nat.le_trans (Nat.le_trans (Nat.le_trans (Nat.le_trans (Nat.le_trans (Nat.le_trans Z0 E101.1) K102.1) E104.1) (Keep.of_wr W107).1) (Keep.of_wr W110).1) E113.1) K115.1) E119.1) E123.1) E128.1) K140.1) K170.1) G172 P170_5 P170_6 P170_7 P170_0 P170_1 P170_2 P170_3 P170_4 P170_8 P170_9 P170_10 ne_b113_b119 ne_b113_b123 ne_b113_b128 ne_b119_b123 ne_b119_b128 ne_b123_b128 ge_b113 ge_b119 ge_b123 ge_b128 (own_ne (by omega)) (own_rng _ (by omega) (by omega)) (own_rng _ (by have q1 := c_iadd ((ff <<< ((9 : Int32) &&& 31)) + (1 : Int32)) 1; have r1 := rng32 (((ff <<< ((9 : Int32) &&& 31)) + (1 : Int32)) + (1 : Int32)); have q := c_isub (((ff <<< ((9 : Int32) &&& 31)) + (1 : Int32)) + (1 : Int32)) 1; have r := rng32 ((((ff <<< ((9 : Int32) &&& 31)) + (1 : Int32)) + (1 : Int32)) - 1); omega) (by have q1 := c_iadd ((ff <<< ((9 : Int32) &&& 31)) + (1 : Int32)) 1; have r1 := rng32 (((ff <<< ((9 : Int32) &&& 31)) + (1 : Int32)) + (1 : Int32)); have q := c_isub (((ff <<< ((9 : Int32) &&& 31)) + (1 : Int32)) + (1 : Int32)) 1; have r := rng32 ((((ff <<< ((9 : Int32) &&& 31)) + (1 : Int32)) + (1 : Int32)) - 1); omega))) hZ (hw _ (List.mem_of_getElem? (i := 73) rfl)) (hw _ (List.mem_of_getElem? (i := 72) rfl)) (by decide) (by decide)) (g := (mkF m 141 #[.val (.int p0), .val (.int p1), .val (.int p2), .val (.int p3), .val (.long q4), .second, .val (.int p5), .val (.ref b101), .val (.int ff), .val (.ref b113), .val (.int (2 : Int32)), .val (.int (1 : Int32))] [(.int (p5 ^^^ (1 : Int32))), (.long (q4 + (1 : Int64))), (.int (p3 ^^^ (1 : Int32))), (.int tg), (.ref b113)])) rfl (by rw [hml]; rfl) (argsL := [(.ref b113), (.int tg), (.int (p3 ^^^ (1 : Int32))), (.long (q4 + (1 : Int64))), (.int (p5 ^^^ (1 : Int32)))]) (rest := []) (lenOf pd_8 rfl) rfl (by show 2 * 0 + _ ≤ _; exact Nat.le_of_eq rfl) (hb hby at_141) (fun _ _ => ⟨rfl, rfl, (by decide : 10 + 0 ≤ _), (by decide : 6166 + 0 ≤ _)⟩)
        dsimp only [Pt.U, Pt.locs, Pt.cells, Pt.slots] at X173 l173 y173 z173 st173 hQ173
        subst l173 y173 z173
        obtain ⟨x173_tq, rfl, Nq173, K173, P173_0, P173_1, P173_2, P173_3, P173_4, P173_5, P173_6, P173_7, P173_8, P173_9, P173_10⟩ := hQ173
        have N173 := Fr.app N170 Nq173
        refine OGo.st st173 ?_
        show OGo p.tables e below _ (T173.setTop (mkF m 144 #[.val (.int p0), .val (.int p1), .val (.int p2), .val (.int p3), .val (.long q4), .second, .val (.int p5), .val (.ref b101), .val (.int ff), .val (.ref b113), .val (.int (2 : Int32)), .val (.int (1 : Int32))] []))
        refine OGo.st (fun t k => XS.iload X173.here hx rfl (hb hby at_144) rfl k) ?_
        show OGo p.tables e below _ (T173.setTop (mkF m 146 #[.val (.int p0), .val (.int p1), .val (.int p2), .val (.int p3), .val (.long q4), .second, .val (.int p5), .val (.ref b101), .val (.int ff), .val (.ref b113), .val (.int (2 : Int32)), .val (.int (1 : Int32))] [(.int (2 : Int32))]))
        refine OGo.st (fun t k => XS.iconst X173.here hx rfl (hb hby at_146) k) ?_
        show OGo p.tables e below _ (T173.setTop (mkF m 147 #[.val (.int p0), .val (.int p1), .val (.int p2), .val (.int p3), .val (.long q4), .second, .val (.int p5), .val (.ref b101), .val (.int ff), .val (.ref b113), .val (.int (2 : Int32)), .val (.int (1 : Int32))] [(.int (2 : Int32)), (.int (2 : Int32))]))
        refine OGo.st (fun t k => XS.icmpYes X173.here hx rfl (pc0 := 147) (pc' := 177) rfl (hb hby at_147) rfl (flt (by decide : ¬ ((2 : Int32) < (2 : Int32)))).2.2.2 (by decide) (by decide) k) ?_
        show OGo p.tables e below _ (T173.setTop (mkF m 177 #[.val (.int p0), .val (.int p1), .val (.int p2), .val (.int p3), .val (.long q4), .second, .val (.int p5), .val (.ref b101), .val (.int ff), .val (.ref b113), .val (.int (2 : Int32)), .val (.int (1 : Int32))] []))
        refine OGo.st (fun t k => XS.iload X173.here hx rfl (hb hby at_177) rfl k) ?_
        show OGo p.tables e below _ (T173.setTop (mkF m 179 #[.val (.int p0), .val (.int p1), .val (.int p2), .val (.int p3), .val (.long q4), .second, .val (.int p5), .val (.ref b101), .val (.int ff), .val (.ref b113), .val (.int (2 : Int32)), .val (.int (1 : Int32))] [(.int (2 : Int32))]))
        refine OGo.st (fun t k => XS.iconst X173.here hx rfl (hb hby at_179) k) ?_
        show OGo p.tables e below _ (T173.setTop (mkF m 180 #[.val (.int p0), .val (.int p1), .val (.int p2), .val (.int p3), .val (.long q4), .second, .val (.int p5), .val (.ref b101), .val (.int ff), .val (.ref b113), .val (.int (2 : Int32)), .val (.int (1 : Int32))] [(.int (3 : Int32)), (.int (2 : Int32))]))
        refine OGo.st (fun t k => XS.icmpYes X173.here hx rfl (pc0 := 180) (pc' := 213) rfl (hb hby at_180) rfl (flt (by decide : ¬ ((3 : Int32) < (2 : Int32)))).2.2.2 (by decide) (by decide) k) ?_
        show OGo p.tables e below _ (T173.setTop (mkF m 213 #[.val (.int p0), .val (.int p1), .val (.int p2), .val (.int p3), .val (.long q4), .second, .val (.int p5), .val (.ref b101), .val (.int ff), .val (.ref b113), .val (.int (2 : Int32)), .val (.int (1 : Int32))] []))
        refine OGo.st (fun t k => XS.iload X173.here hx rfl (hb hby at_213) rfl k) ?_
        show OGo p.tables e below _ (T173.setTop (mkF m 215 #[.val (.int p0), .val (.int p1), .val (.int p2), .val (.int p3), .val (.long q4), .second, .val (.int p5), .val (.ref b101), .val (.int ff), .val (.ref b113), .val (.int (2 : Int32)), .val (.int (1 : Int32))] [(.int (1 : Int32))]))
        refine OGo.st (fun t k => XS.ifNo X173.here hx rfl (hb hby at_215) rfl ((if0 _ _).trans (feq (by decide : ¬ ((1 : Int32) = (0 : Int32)))).1) k) ?_
        show OGo p.tables e below _ (T173.setTop (mkF m 218 #[.val (.int p0), .val (.int p1), .val (.int p2), .val (.int p3), .val (.long q4), .second, .val (.int p5), .val (.ref b101), .val (.int ff), .val (.ref b113), .val (.int (2 : Int32)), .val (.int (1 : Int32))] []))
        refine OGo.st (fun t k => XS.aload X173.here hx rfl (hb hby at_218) rfl rfl k) ?_
        show OGo p.tables e below _ (T173.setTop (mkF m 220 #[.val (.int p0), .val (.int p1), .val (.int p2), .val (.int p3), .val (.long q4), .second, .val (.int p5), .val (.ref b101), .val (.int ff), .val (.ref b113), .val (.int (2 : Int32)), .val (.int (1 : Int32))] [(.ref b113)]))
        have G175 : Exa Z T173.heap b113 "com/example/pathsieve/pathsieve/engine/Messages" := (G172.keep K173)
        obtain ⟨cq174, kq174, q174a, q174b, q174c⟩ := isOf hZ rfl G175
        obtain ⟨_, _, ⟨T174, L174, kk174, nn174⟩, -, X174, ⟨Lc174, hQ174, l174, y174, z174⟩, st174⟩ := X173.virtualBack hx (y := (⟨"com/example/pathsieve/pathsieve/engine/Messages", "size", "()I"⟩ : MethodName)) (z := (⟨"com/example/pathsieve/pathsieve/engine/Messages", "size", "()I"⟩ : MethodName)) hown (mvT hZ (hw _ (List.mem_of_getElem? (i := 65) rfl))) (mvT hZ (hw _ (List.mem_of_getElem? (i := 66) rfl))) (notFace_of_selects (args := #[]) (mvT hZ (hw _ (List.mem_of_getElem? (i := 68) rfl)))) (mvT hZ (hw _ (List.mem_of_getElem? (i := 68) rfl))) (mvT hZ (hw _ (List.mem_of_getElem? (i := 67) rfl))) (by decide) (backOf (W := 0) (rm7 l Z ar hw [] b113 (((ff <<< ((9 : Int32) &&& 31)) + (1 : Int32)) + (1 : Int32)) ff T173.heap n0 (Nat.le_trans (Nat.le_trans (Nat.le_trans (Nat.le_trans (Nat.le_trans (Nat.le_trans (Nat.le_trans (Nat.le_trans (Nat.le_trans (Nat.le_trans (Nat.le_trans (Nat.le_trans (Nat.le_trans Z0 E101.1) K102.1) E104.1) (Keep.of_wr W107).1) (Keep.of_wr W110).1) E113.1) K115.1) E119.1) E123.1) E128.1) K140.1) K170.1) K173.1) P173_7 P173_5 P173_3 P173_4 (own_rng ff (by omega) (by omega)).1) hZ (hw _ (List.mem_of_getElem? (i := 69) rfl)) (hw _ (List.mem_of_getElem? (i := 39) rfl)) (by decide) (by decide)) q174a q174c (g := (mkF m 220 #[.val (.int p0), .val (.int p1), .val (.int p2), .val (.int p3), .val (.long q4), .second, .val (.int p5), .val (.ref b101), .val (.int ff), .val (.ref b113), .val (.int (2 : Int32)), .val (.int (1 : Int32))] [(.ref b113)])) rfl (by rw [hml]; rfl) (Steps.refl _) (argsL := []) (rest := []) (lenOf pd_7 rfl) rfl (by show 2 * 0 + _ ≤ _; exact Nat.le_of_eq rfl) (hb hby at_220) (fun _ _ => ⟨rfl, rfl, (by decide : 10 + 0 ≤ _), (by decide : 6166 + 0 ≤ _)⟩)
        dsimp only [Pt.U, Pt.locs, Pt.cells, Pt.slots] at X174 l174 y174 z174 st174 hQ174
        subst l174 y174 z174
        obtain ⟨rfl, Nq174, hh174⟩ := hQ174
        have N174 := Fr.app N173 Nq174
        refine OGo.st (fun t k => st174.trans k) ?_
        have e174 : T174.heap = T173.heap := hh174
        show OGo p.tables e below _ (T174.setTop (mkF m 223 #[.val (.int p0), .val (.int p1), .val (.int p2), .val (.int p3), .val (.long q4), .second, .val (.int p5), .val (.ref b101), .val (.int ff), .val (.ref b113), .val (.int (2 : Int32)), .val (.int (1 : Int32))] [(.int (((0 : Int32) + (((ff <<< ((9 : Int32) &&& 31)) + (1 : Int32)) + (1 : Int32))) - (ff <<< ((9 : Int32) &&& 31))))]))
        refine OGo.st (fun t k => XS.iload X174.here hx rfl (hb hby at_223) rfl k) ?_
        show OGo p.tables e below _ (T174.setTop (mkF m 225 #[.val (.int p0), .val (.int p1), .val (.int p2), .val (.int p3), .val (.long q4), .second, .val (.int p5), .val (.ref b101), .val (.int ff), .val (.ref b113), .val (.int (2 : Int32)), .val (.int (1 : Int32))] [(.int (2 : Int32)), (.int (((0 : Int32) + (((ff <<< ((9 : Int32) &&& 31)) + (1 : Int32)) + (1 : Int32))) - (ff <<< ((9 : Int32) &&& 31))))]))
        refine OGo.st (fun t k => XS.icmpNo X174.here hx rfl (hb hby at_225) rfl (teq ((own_sz _ _ _ (own_add2 _)) : (((0 : Int32) + (((ff <<< ((9 : Int32) &&& 31)) + (1 : Int32)) + (1 : Int32))) - (ff <<< ((9 : Int32) &&& 31))) = (2 : Int32))).2 k) ?_
        show OGo p.tables e below _ (T174.setTop (mkF m 228 #[.val (.int p0), .val (.int p1), .val (.int p2), .val (.int p3), .val (.long q4), .second, .val (.int p5), .val (.ref b101), .val (.int ff), .val (.ref b113), .val (.int (2 : Int32)), .val (.int (1 : Int32))] []))
        refine OGo.st (fun t k => XS.iconst X174.here hx rfl (hb hby at_228) k) ?_
        show OGo p.tables e below _ (T174.setTop (mkF m 229 #[.val (.int p0), .val (.int p1), .val (.int p2), .val (.int p3), .val (.long q4), .second, .val (.int p5), .val (.ref b101), .val (.int ff), .val (.ref b113), .val (.int (2 : Int32)), .val (.int (1 : Int32))] [(.int (1 : Int32))]))
        refine OGo.st (fun t k => XS.goto X174.here hx rfl (pc0 := 229) (pc' := 233) rfl (hb hby at_229) (by decide) (by decide) k) ?_
        show OGo p.tables e below _ (T174.setTop (mkF m 233 #[.val (.int p0), .val (.int p1), .val (.int p2), .val (.int p3), .val (.long q4), .second, .val (.int p5), .val (.ref b101), .val (.int ff), .val (.ref b113), .val (.int (2 : Int32)), .val (.int (1 : Int32))] [(.int (1 : Int32))]))
        obtain ⟨fs, hr, hrun, hended, hW, hsame⟩ := X174.leave (v := some (.int (1 : Int32))) (fun h => by rw [Bd.returns] at h; cases h)
        refine OGo.done (retN X174 hx (t := .boolean) Bd.returns (by simp) (hb hby at_233) hr) ⟨hrun, hended, _, _, rfl, ?_, ⟨_, rfl⟩, hW, hsame.mono (by decide) (by decide)⟩
        show Q14 Z p0 p1 p2 p3 q4 p5 h0 n0 _ T174.heap _
        rw [e174]
        exact ⟨rfl, N174⟩
      by_cases hc122_177 : (p2 &&& (2 : Int32)) = (0 : Int32)
      ·
        refine OGo.st (fun t k => XS.ifYes X170.here hx rfl (pc0 := 122) (pc' := 129) rfl (hb hby at_122) rfl ((if0 _ _).trans (teq hc122_177).1) (by decide) (by decide) k) ?_
        show OGo p.tables e below _ (T170.setTop (mkF m 129 #[.val (.int p0), .val (.int p1), .val (.int p2), .val (.int p3), .val (.long q4), .second, .val (.int p5), .val (.ref b101), .val (.int ff), .val (.ref b113), .val (.int (2 : Int32)), .val (.int (1 : Int32))] [(.ref b113)]))
        refine OGo.st (fun t k => XS.iconst X170.here hx rfl (hb hby at_129) k) ?_
        show OGo p.tables e below _ (T170.setTop (mkF m 130 #[.val (.int p0), .val (.int p1), .val (.int p2), .val (.int p3), .val (.long q4), .second, .val (.int p5), .val (.ref b101), .val (.int ff), .val (.ref b113), .val (.int (2 : Int32)), .val (.int (1 : Int32))] [(.int (0 : Int32)), (.ref b113)]))
        exact jn130_171 (0 : Int32) trivial
      ·
        refine OGo.st (fun t k => XS.ifNo X170.here hx rfl (hb hby at_122) rfl ((if0 _ _).trans (feq hc122_177).1) k) ?_
        show OGo p.tables e below _ (T170.setTop (mkF m 125 #[.val (.int p0), .val (.int p1), .val (.int p2), .val (.int p3), .val (.long q4), .second, .val (.int p5), .val (.ref b101), .val (.int ff), .val (.ref b113), .val (.int (2 : Int32)), .val (.int (1 : Int32))] [(.ref b113)]))
        refine OGo.st (fun t k => XS.iconst X170.here hx rfl (hb hby at_125) k) ?_
        show OGo p.tables e below _ (T170.setTop (mkF m 126 #[.val (.int p0), .val (.int p1), .val (.int p2), .val (.int p3), .val (.long q4), .second, .val (.int p5), .val (.ref b101), .val (.int ff), .val (.ref b113), .val (.int (2 : Int32)), .val (.int (1 : Int32))] [(.int (1 : Int32)), (.ref b113)]))
        refine OGo.st (fun t k => XS.goto X170.here hx rfl (pc0 := 126) (pc' := 130) rfl (hb hby at_126) (by decide) (by decide) k) ?_
        show OGo p.tables e below _ (T170.setTop (mkF m 130 #[.val (.int p0), .val (.int p1), .val (.int p2), .val (.int p3), .val (.long q4), .second, .val (.int p5), .val (.ref b101), .val (.int ff), .val (.ref b113), .val (.int (2 : Int32)), .val (.int (1 : Int32))] [(.int (1 : Int32)), (.ref b113)]))
        exact jn130_171 (1 : Int32) trivial
    by_cases hc95_178 : (p2 &&& (1 : Int32)) = (0 : Int32)
    ·
      refine OGo.st (fun t k => XS.ifYes X160.here hx rfl (pc0 := 95) (pc' := 102) rfl (hb hby at_95) rfl ((if0 _ _).trans (teq hc95_178).1) (by decide) (by decide) k) ?_
      show OGo p.tables e below _ (T160.setTop (mkF m 102 #[.val (.int p0), .val (.int p1), .val (.int p2), .val (.int p3), .val (.long q4), .second, .val (.int p5), .val (.ref b101), .val (.int ff), .val (.ref b113), .val (.int (2 : Int32)), .val (.int (1 : Int32))] [(.ref b113)]))
      refine OGo.st (fun t k => XS.iconst X160.here hx rfl (hb hby at_102) k) ?_
      show OGo p.tables e below _ (T160.setTop (mkF m 103 #[.val (.int p0), .val (.int p1), .val (.int p2), .val (.int p3), .val (.long q4), .second, .val (.int p5), .val (.ref b101), .val (.int ff), .val (.ref b113), .val (.int (2 : Int32)), .val (.int (1 : Int32))] [(.int (0 : Int32)), (.ref b113)]))
      exact jn103_162 (0 : Int32) trivial
    ·
      refine OGo.st (fun t k => XS.ifNo X160.here hx rfl (hb hby at_95) rfl ((if0 _ _).trans (feq hc95_178).1) k) ?_
      show OGo p.tables e below _ (T160.setTop (mkF m 98 #[.val (.int p0), .val (.int p1), .val (.int p2), .val (.int p3), .val (.long q4), .second, .val (.int p5), .val (.ref b101), .val (.int ff), .val (.ref b113), .val (.int (2 : Int32)), .val (.int (1 : Int32))] [(.ref b113)]))
      refine OGo.st (fun t k => XS.iconst X160.here hx rfl (hb hby at_98) k) ?_
      show OGo p.tables e below _ (T160.setTop (mkF m 99 #[.val (.int p0), .val (.int p1), .val (.int p2), .val (.int p3), .val (.long q4), .second, .val (.int p5), .val (.ref b101), .val (.int ff), .val (.ref b113), .val (.int (2 : Int32)), .val (.int (1 : Int32))] [(.int (1 : Int32)), (.ref b113)]))
      refine OGo.st (fun t k => XS.goto X160.here hx rfl (pc0 := 99) (pc' := 103) rfl (hb hby at_99) (by decide) (by decide) k) ?_
      show OGo p.tables e below _ (T160.setTop (mkF m 103 #[.val (.int p0), .val (.int p1), .val (.int p2), .val (.int p3), .val (.long q4), .second, .val (.int p5), .val (.ref b101), .val (.int ff), .val (.ref b113), .val (.int (2 : Int32)), .val (.int (1 : Int32))] [(.int (1 : Int32)), (.ref b113)]))
      exact jn103_162 (1 : Int32) trivial
  ·
    rw [hn]
    show OGo p.tables e below _ (T140.setTop (mkF m 70 #[.val (.int p0), .val (.int p1), .val (.int p2), .val (.int p3), .val (.long q4), .second, .val (.int p5), .val (.ref b101), .val (.int ff), .val (.ref b113), .val (.int (3 : Int32)), .unset] []))
    refine OGo.st (fun t k => XS.aload X140.here hx rfl (hb hby at_70) rfl rfl k) ?_
    show OGo p.tables e below _ (T140.setTop (mkF m 72 #[.val (.int p0), .val (.int p1), .val (.int p2), .val (.int p3), .val (.long q4), .second, .val (.int p5), .val (.ref b101), .val (.int ff), .val (.ref b113), .val (.int (3 : Int32)), .unset] [(.ref b113)]))
    have G180 : Exa Z T140.heap b113 "com/example/pathsieve/pathsieve/engine/Messages" := (G129.keep K140)
    obtain ⟨cq179, kq179, q179a, q179b, q179c⟩ := isOf hZ rfl G180
    obtain ⟨_, _, ⟨T179, L179, kk179, nn179⟩, -, X179, ⟨Lc179, hQ179, l179, y179, z179⟩, st179⟩ := X140.virtualBack hx (y := (⟨"com/example/pathsieve/pathsieve/engine/Messages", "size", "()I"⟩ : MethodName)) (z := (⟨"com/example/pathsieve/pathsieve/engine/Messages", "size", "()I"⟩ : MethodName)) hown (mvT hZ (hw _ (List.mem_of_getElem? (i := 65) rfl))) (mvT hZ (hw _ (List.mem_of_getElem? (i := 66) rfl))) (notFace_of_selects (args := #[]) (mvT hZ (hw _ (List.mem_of_getElem? (i := 68) rfl)))) (mvT hZ (hw _ (List.mem_of_getElem? (i := 68) rfl))) (mvT hZ (hw _ (List.mem_of_getElem? (i := 67) rfl))) (by decide) (backOf (W := 0) (rm6 l Z ar hw [] b113 T140.heap n0 (Nat.le_trans (Nat.le_trans (Nat.le_trans (Nat.le_trans (Nat.le_trans (Nat.le_trans (Nat.le_trans (Nat.le_trans (Nat.le_trans (Nat.le_trans (Nat.le_trans Z0 E101.1) K102.1) E104.1) (Keep.of_wr W107).1) (Keep.of_wr W110).1) E113.1) K115.1) E119.1) E123.1) E128.1) K140.1) P140_1) hZ (hw _ (List.mem_of_getElem? (i := 69) rfl)) (hw _ (List.mem_of_getElem? (i := 39) rfl)) (by decide) (by decide)) q179a q179c (g := (mkF m 72 #[.val (.int p0), .val (.int p1), .val (.int p2), .val (.int p3), .val (.long q4), .second, .val (.int p5), .val (.ref b101), .val (.int ff), .val (.ref b113), .val (.int (3 : Int32)), .unset] [(.ref b113)])) rfl (by rw [hml]; rfl) (Steps.refl _) (argsL := []) (rest := []) (lenOf pd_7 rfl) rfl (by show 2 * 0 + _ ≤ _; exact Nat.le_of_eq rfl) (hb hby at_72) (fun _ _ => ⟨rfl, rfl, (by decide : 10 + 0 ≤ _), (by decide : 6166 + 0 ≤ _)⟩)
    dsimp only [Pt.U, Pt.locs, Pt.cells, Pt.slots] at X179 l179 y179 z179 st179 hQ179
    subst l179 y179 z179
    obtain ⟨rfl, Nq179, hh179⟩ := hQ179
    have N179 := Fr.app N140 Nq179
    refine OGo.st (fun t k => st179.trans k) ?_
    have e179 : T179.heap = T140.heap := hh179
    show OGo p.tables e below _ (T179.setTop (mkF m 75 #[.val (.int p0), .val (.int p1), .val (.int p2), .val (.int p3), .val (.long q4), .second, .val (.int p5), .val (.ref b101), .val (.int ff), .val (.ref b113), .val (.int (3 : Int32)), .unset] [(.int (0 : Int32))]))
    refine OGo.st (fun t k => XS.ifNo X179.here hx rfl (hb hby at_75) rfl ((if0 _ _).trans (teq (by decide : (0 : Int32) = (0 : Int32))).2) k) ?_
    show OGo p.tables e below _ (T179.setTop (mkF m 78 #[.val (.int p0), .val (.int p1), .val (.int p2), .val (.int p3), .val (.long q4), .second, .val (.int p5), .val (.ref b101), .val (.int ff), .val (.ref b113), .val (.int (3 : Int32)), .unset] []))
    refine OGo.st (fun t k => XS.iconst X179.here hx rfl (hb hby at_78) k) ?_
    show OGo p.tables e below _ (T179.setTop (mkF m 79 #[.val (.int p0), .val (.int p1), .val (.int p2), .val (.int p3), .val (.long q4), .second, .val (.int p5), .val (.ref b101), .val (.int ff), .val (.ref b113), .val (.int (3 : Int32)), .unset] [(.int (1 : Int32))]))
    refine OGo.st (fun t k => XS.goto X179.here hx rfl (pc0 := 79) (pc' := 83) rfl (hb hby at_79) (by decide) (by decide) k) ?_
    show OGo p.tables e below _ (T179.setTop (mkF m 83 #[.val (.int p0), .val (.int p1), .val (.int p2), .val (.int p3), .val (.long q4), .second, .val (.int p5), .val (.ref b101), .val (.int ff), .val (.ref b113), .val (.int (3 : Int32)), .unset] [(.int (1 : Int32))]))
    refine OGo.st (fun t k => XS.istore X179.here hx rfl (hb hby at_83) rfl (l' := #[.val (.int p0), .val (.int p1), .val (.int p2), .val (.int p3), .val (.long q4), .second, .val (.int p5), .val (.ref b101), .val (.int ff), .val (.ref b113), .val (.int (3 : Int32)), .val (.int (1 : Int32))]) rfl k) ?_
    show OGo p.tables e below _ (T179.setTop (mkF m 85 #[.val (.int p0), .val (.int p1), .val (.int p2), .val (.int p3), .val (.long q4), .second, .val (.int p5), .val (.ref b101), .val (.int ff), .val (.ref b113), .val (.int (3 : Int32)), .val (.int (1 : Int32))] []))
    refine OGo.st (fun t k => XS.iload X179.here hx rfl (hb hby at_85) rfl k) ?_
    show OGo p.tables e below _ (T179.setTop (mkF m 87 #[.val (.int p0), .val (.int p1), .val (.int p2), .val (.int p3), .val (.long q4), .second, .val (.int p5), .val (.ref b101), .val (.int ff), .val (.ref b113), .val (.int (3 : Int32)), .val (.int (1 : Int32))] [(.int (3 : Int32))]))
    refine OGo.st (fun t k => XS.ifNo X179.here hx rfl (hb hby at_87) rfl ((if0 _ _).trans (tlt (by decide : (0 : Int32) < (3 : Int32))).2.2.2) k) ?_
    show OGo p.tables e below _ (T179.setTop (mkF m 90 #[.val (.int p0), .val (.int p1), .val (.int p2), .val (.int p3), .val (.long q4), .second, .val (.int p5), .val (.ref b101), .val (.int ff), .val (.ref b113), .val (.int (3 : Int32)), .val (.int (1 : Int32))] []))
    refine OGo.st (fun t k => XS.aload X179.here hx rfl (hb hby at_90) rfl rfl k) ?_
    show OGo p.tables e below _ (T179.setTop (mkF m 92 #[.val (.int p0), .val (.int p1), .val (.int p2), .val (.int p3), .val (.long q4), .second, .val (.int p5), .val (.ref b101), .val (.int ff), .val (.ref b113), .val (.int (3 : Int32)), .val (.int (1 : Int32))] [(.ref b113)]))
    refine OGo.st (fun t k => XS.iloadN X179.here hx rfl (hb hby at_92) rfl k) ?_
    show OGo p.tables e below _ (T179.setTop (mkF m 93 #[.val (.int p0), .val (.int p1), .val (.int p2), .val (.int p3), .val (.long q4), .second, .val (.int p5), .val (.ref b101), .val (.int ff), .val (.ref b113), .val (.int (3 : Int32)), .val (.int (1 : Int32))] [(.int p2), (.ref b113)]))
    refine OGo.st (fun t k => XS.iconst X179.here hx rfl (hb hby at_93) k) ?_
    show OGo p.tables e below _ (T179.setTop (mkF m 94 #[.val (.int p0), .val (.int p1), .val (.int p2), .val (.int p3), .val (.long q4), .second, .val (.int p5), .val (.ref b101), .val (.int ff), .val (.ref b113), .val (.int (3 : Int32)), .val (.int (1 : Int32))] [(.int (1 : Int32)), (.int p2), (.ref b113)]))
    refine OGo.st (fun t k => XS.iand X179.here hx rfl (hb hby at_94) rfl k) ?_
    show OGo p.tables e below _ (T179.setTop (mkF m 95 #[.val (.int p0), .val (.int p1), .val (.int p2), .val (.int p3), .val (.long q4), .second, .val (.int p5), .val (.ref b101), .val (.int ff), .val (.ref b113), .val (.int (3 : Int32)), .val (.int (1 : Int32))] [(.int (p2 &&& (1 : Int32))), (.ref b113)]))
    refine OGo.join (α := Int32) (fun tg => True) (fun tg => T179.setTop (mkF m 103 #[.val (.int p0), .val (.int p1), .val (.int p2), .val (.int p3), .val (.long q4), .second, .val (.int p5), .val (.ref b101), .val (.int ff), .val (.ref b113), .val (.int (3 : Int32)), .val (.int (1 : Int32))] [(.int tg), (.ref b113)])) ?_ (fun jn103_181 => ?_)
    ·
      intro tg hj103_181
      show OGo p.tables e below _ (T179.setTop (mkF m 103 #[.val (.int p0), .val (.int p1), .val (.int p2), .val (.int p3), .val (.long q4), .second, .val (.int p5), .val (.ref b101), .val (.int ff), .val (.ref b113), .val (.int (3 : Int32)), .val (.int (1 : Int32))] [(.int tg), (.ref b113)]))
      refine OGo.st (fun t k => XS.iloadN X179.here hx rfl (hb hby at_103) rfl k) ?_
      show OGo p.tables e below _ (T179.setTop (mkF m 104 #[.val (.int p0), .val (.int p1), .val (.int p2), .val (.int p3), .val (.long q4), .second, .val (.int p5), .val (.ref b101), .val (.int ff), .val (.ref b113), .val (.int (3 : Int32)), .val (.int (1 : Int32))] [(.int p3), (.int tg), (.ref b113)]))
      refine OGo.st (fun t k => XS.lload X179.here hx rfl (hb hby at_104) rfl k) ?_
      show OGo p.tables e below _ (T179.setTop (mkF m 106 #[.val (.int p0), .val (.int p1), .val (.int p2), .val (.int p3), .val (.long q4), .second, .val (.int p5), .val (.ref b101), .val (.int ff), .val (.ref b113), .val (.int (3 : Int32)), .val (.int (1 : Int32))] [(.long q4), (.int p3), (.int tg), (.ref b113)]))
      refine OGo.st (fun t k => XS.iload X179.here hx rfl (hb hby at_106) rfl k) ?_
      show OGo p.tables e below _ (T179.setTop (mkF m 108 #[.val (.int p0), .val (.int p1), .val (.int p2), .val (.int p3), .val (.long q4), .second, .val (.int p5), .val (.ref b101), .val (.int ff), .val (.ref b113), .val (.int (3 : Int32)), .val (.int (1 : Int32))] [(.int p5), (.long q4), (.int p3), (.int tg), (.ref b113)]))
      have G182 : Fld Z T140.heap b101 "com/example/pathsieve/pathsieve/engine/Outbox" "taken" "I" (.int ff) := ((Fld.ext E128 (Fld.ext E123 (Fld.ext E119 ((Fld.ext E113 Fw110).keep K115 (ninS ne_b101_b113 nin0))))).keep K140 (ninS ne_b101_b113 nin0))
      have G183 : Fld Z T140.heap b101 "com/example/pathsieve/pathsieve/engine/Outbox" "nextBlocks" "[I" (.ref b104) := ((Fld.ext E128 (Fld.ext E123 (Fld.ext E119 ((Fld.ext E113 (Fld.other W110 Fw107 (Or.inr (slot_ne (Or.inl (hw _ (List.mem_of_getElem? (i := 16) rfl))) (Or.inl (hw _ (List.mem_of_getElem? (i := 36) rfl))) (by decide) (t := (.array .int)) (t' := .int) (by decide) (by decide))))).keep K115 (ninS ne_b101_b113 nin0))))).keep K140 (ninS ne_b101_b113 nin0))
      have G184 : Arv Z T140.heap b104 k104 .int (4 : Int32) [(.int (0 : Int32)), (.int (0 : Int32)), (.int (0 : Int32)), (.int (0 : Int32))] (.int (0 : Int32)) := ((G125.ext E128).keep K140 (ninS ne_b104_b113 nin0))
      have G185 : Exa Z T140.heap b101 "com/example/pathsieve/pathsieve/engine/Outbox" := ((Exa.ext E128 G124).keep K140)
      have G186 : Arh Z T140.heap b119 k119 .int (2048 : Int32) [] [] (.int (0 : Int32)) := ((G127.ext E128).keep K140 (ninS (Ne.symm ne_b113_b119) nin0))
      have G187 : Arh Z T140.heap b123 k123 .long (2048 : Int32) [] [] (.long (0 : Int64)) := ((V123.arh.ext E128).keep K140 (ninS (Ne.symm ne_b113_b123) nin0))
      have G188 : Arh Z T140.heap b128 k128 .int (2048 : Int32) [] [] (.int (0 : Int32)) := (V128.arh.keep K140 (ninS (Ne.symm ne_b113_b128) nin0))
      obtain ⟨_, _, ⟨T189, L189, kk189, nn189⟩, -, X189, ⟨Lc189, hQ189, l189, y189, z189⟩, st189⟩ := Jvm.LawKit.callS X179 hx (y := (⟨"com/example/pathsieve/pathsieve/engine/MessagesSizePinLaw", "send", "(Lcom/example/pathsieve/pathsieve/engine/Messages;ZIJI)V"⟩ : MethodName)) hown (mvT hZ (hw _ (List.mem_of_getElem? (i := 70) rfl))) (mvT hZ (hw _ (List.mem_of_getElem? (i := 71) rfl))) (mvT hZ (hw _ (List.mem_of_getElem? (i := 72) rfl))) (mvT hZ (hw _ (List.mem_of_getElem? (i := 73) rfl))) (by decide) (backOf (W := 0) (rm10 l Z ar hw [] b113 tg p3 q4 p5 b101 ff b104 k104 b119 k119 [] b123 k123 [] b128 k128 [] T140.heap n0 (Nat.le_trans (Nat.le_trans (Nat.le_trans (Nat.le_trans (Nat.le_trans (Nat.le_trans (Nat.le_trans (Nat.le_trans (Nat.le_trans (Nat.le_trans (Nat.le_trans Z0 E101.1) K102.1) E104.1) (Keep.of_wr W107).1) (Keep.of_wr W110).1) E113.1) K115.1) E119.1) E123.1) E128.1) K140.1) P140_2 G182 G183 G184 G185 G180 P140_4 P140_5 P140_1 P140_0 P140_7 P140_8 P140_9 P140_6 P140_3 G186 G187 G188 (Ne.symm ne_b101_b113) ne_b113_b119 ne_b113_b123 ne_b113_b128 ne_b101_b119 ne_b101_b123 ne_b101_b128 ne_b119_b123 ne_b119_b128 ne_b123_b128 ge_b113 ge_b101 ge_b119 ge_b123 ge_b128 (own_ne (by omega)) (own_rng _ (by omega) (by omega)) (own_rng _ (by have q := c_isub ((ff <<< ((9 : Int32) &&& 31)) + (1 : Int32)) 1; have r := rng32 (((ff <<< ((9 : Int32) &&& 31)) + (1 : Int32)) - 1); omega) (by have q := c_isub ((ff <<< ((9 : Int32) &&& 31)) + (1 : Int32)) 1; have r := rng32 (((ff <<< ((9 : Int32) &&& 31)) + (1 : Int32)) - 1); omega))) hZ (hw _ (List.mem_of_getElem? (i := 73) rfl)) (hw _ (List.mem_of_getElem? (i := 72) rfl)) (by decide) (by decide)) (g := (mkF m 108 #[.val (.int p0), .val (.int p1), .val (.int p2), .val (.int p3), .val (.long q4), .second, .val (.int p5), .val (.ref b101), .val (.int ff), .val (.ref b113), .val (.int (3 : Int32)), .val (.int (1 : Int32))] [(.int p5), (.long q4), (.int p3), (.int tg), (.ref b113)])) rfl (by rw [hml]; rfl) (argsL := [(.ref b113), (.int tg), (.int p3), (.long q4), (.int p5)]) (rest := []) (lenOf pd_8 rfl) rfl (by show 2 * 0 + _ ≤ _; exact Nat.le_of_eq rfl) (hb hby at_108) (fun _ _ => ⟨rfl, e179, (by decide : 10 + 0 ≤ _), (by decide : 6166 + 0 ≤ _)⟩)
      dsimp only [Pt.U, Pt.locs, Pt.cells, Pt.slots] at X189 l189 y189 z189 st189 hQ189
      subst l189 y189 z189
      obtain ⟨x189_tq, rfl, Nq189, K189, P189_0, P189_1, P189_2, P189_3, P189_4, P189_5, P189_6, P189_7, P189_8, P189_9, P189_10⟩ := hQ189
      have N189 := Fr.app N179 Nq189
      refine OGo.st st189 ?_
      show OGo p.tables e below _ (T189.setTop (mkF m 111 #[.val (.int p0), .val (.int p1), .val (.int p2), .val (.int p3), .val (.long q4), .second, .val (.int p5), .val (.ref b101), .val (.int ff), .val (.ref b113), .val (.int (3 : Int32)), .val (.int (1 : Int32))] []))
      refine OGo.st (fun t k => XS.iload X189.here hx rfl (hb hby at_111) rfl k) ?_
      show OGo p.tables e below _ (T189.setTop (mkF m 113 #[.val (.int p0), .val (.int p1), .val (.int p2), .val (.int p3), .val (.long q4), .second, .val (.int p5), .val (.ref b101), .val (.int ff), .val (.ref b113), .val (.int (3 : Int32)), .val (.int (1 : Int32))] [(.int (3 : Int32))]))
      refine OGo.st (fun t k => XS.iconst X189.here hx rfl (hb hby at_113) k) ?_
      show OGo p.tables e below _ (T189.setTop (mkF m 114 #[.val (.int p0), .val (.int p1), .val (.int p2), .val (.int p3), .val (.long q4), .second, .val (.int p5), .val (.ref b101), .val (.int ff), .val (.ref b113), .val (.int (3 : Int32)), .val (.int (1 : Int32))] [(.int (1 : Int32)), (.int (3 : Int32))]))
      refine OGo.st (fun t k => XS.icmpNo X189.here hx rfl (hb hby at_114) rfl (tlt (by decide : (1 : Int32) < (3 : Int32))).2.2.2 k) ?_
      show OGo p.tables e below _ (T189.setTop (mkF m 117 #[.val (.int p0), .val (.int p1), .val (.int p2), .val (.int p3), .val (.long q4), .second, .val (.int p5), .val (.ref b101), .val (.int ff), .val (.ref b113), .val (.int (3 : Int32)), .val (.int (1 : Int32))] []))
      refine OGo.st (fun t k => XS.aload X189.here hx rfl (hb hby at_117) rfl rfl k) ?_
      show OGo p.tables e below _ (T189.setTop (mkF m 119 #[.val (.int p0), .val (.int p1), .val (.int p2), .val (.int p3), .val (.long q4), .second, .val (.int p5), .val (.ref b101), .val (.int ff), .val (.ref b113), .val (.int (3 : Int32)), .val (.int (1 : Int32))] [(.ref b113)]))
      refine OGo.st (fun t k => XS.iloadN X189.here hx rfl (hb hby at_119) rfl k) ?_
      show OGo p.tables e below _ (T189.setTop (mkF m 120 #[.val (.int p0), .val (.int p1), .val (.int p2), .val (.int p3), .val (.long q4), .second, .val (.int p5), .val (.ref b101), .val (.int ff), .val (.ref b113), .val (.int (3 : Int32)), .val (.int (1 : Int32))] [(.int p2), (.ref b113)]))
      refine OGo.st (fun t k => XS.iconst X189.here hx rfl (hb hby at_120) k) ?_
      show OGo p.tables e below _ (T189.setTop (mkF m 121 #[.val (.int p0), .val (.int p1), .val (.int p2), .val (.int p3), .val (.long q4), .second, .val (.int p5), .val (.ref b101), .val (.int ff), .val (.ref b113), .val (.int (3 : Int32)), .val (.int (1 : Int32))] [(.int (2 : Int32)), (.int p2), (.ref b113)]))
      refine OGo.st (fun t k => XS.iand X189.here hx rfl (hb hby at_121) rfl k) ?_
      show OGo p.tables e below _ (T189.setTop (mkF m 122 #[.val (.int p0), .val (.int p1), .val (.int p2), .val (.int p3), .val (.long q4), .second, .val (.int p5), .val (.ref b101), .val (.int ff), .val (.ref b113), .val (.int (3 : Int32)), .val (.int (1 : Int32))] [(.int (p2 &&& (2 : Int32))), (.ref b113)]))
      refine OGo.join (α := Int32) (fun tg => True) (fun tg => T189.setTop (mkF m 130 #[.val (.int p0), .val (.int p1), .val (.int p2), .val (.int p3), .val (.long q4), .second, .val (.int p5), .val (.ref b101), .val (.int ff), .val (.ref b113), .val (.int (3 : Int32)), .val (.int (1 : Int32))] [(.int tg), (.ref b113)])) ?_ (fun jn130_190 => ?_)
      ·
        intro tg hj130_190
        show OGo p.tables e below _ (T189.setTop (mkF m 130 #[.val (.int p0), .val (.int p1), .val (.int p2), .val (.int p3), .val (.long q4), .second, .val (.int p5), .val (.ref b101), .val (.int ff), .val (.ref b113), .val (.int (3 : Int32)), .val (.int (1 : Int32))] [(.int tg), (.ref b113)]))
        refine OGo.st (fun t k => XS.iloadN X189.here hx rfl (hb hby at_130) rfl k) ?_
        show OGo p.tables e below _ (T189.setTop (mkF m 131 #[.val (.int p0), .val (.int p1), .val (.int p2), .val (.int p3), .val (.long q4), .second, .val (.int p5), .val (.ref b101), .val (.int ff), .val (.ref b113), .val (.int (3 : Int32)), .val (.int (1 : Int32))] [(.int p3), (.int tg), (.ref b113)]))
        refine OGo.st (fun t k => XS.iconst X189.here hx rfl (hb hby at_131) k) ?_
        show OGo p.tables e below _ (T189.setTop (mkF m 132 #[.val (.int p0), .val (.int p1), .val (.int p2), .val (.int p3), .val (.long q4), .second, .val (.int p5), .val (.ref b101), .val (.int ff), .val (.ref b113), .val (.int (3 : Int32)), .val (.int (1 : Int32))] [(.int (1 : Int32)), (.int p3), (.int tg), (.ref b113)]))
        refine OGo.st (fun t k => XS.ixor X189.here hx rfl (hb hby at_132) rfl k) ?_
        show OGo p.tables e below _ (T189.setTop (mkF m 133 #[.val (.int p0), .val (.int p1), .val (.int p2), .val (.int p3), .val (.long q4), .second, .val (.int p5), .val (.ref b101), .val (.int ff), .val (.ref b113), .val (.int (3 : Int32)), .val (.int (1 : Int32))] [(.int (p3 ^^^ (1 : Int32))), (.int tg), (.ref b113)]))
        refine OGo.st (fun t k => XS.lload X189.here hx rfl (hb hby at_133) rfl k) ?_
        show OGo p.tables e below _ (T189.setTop (mkF m 135 #[.val (.int p0), .val (.int p1), .val (.int p2), .val (.int p3), .val (.long q4), .second, .val (.int p5), .val (.ref b101), .val (.int ff), .val (.ref b113), .val (.int (3 : Int32)), .val (.int (1 : Int32))] [(.long q4), (.int (p3 ^^^ (1 : Int32))), (.int tg), (.ref b113)]))
        refine OGo.st (fun t k => XS.lconst X189.here hx rfl (hb hby at_135) k) ?_
        show OGo p.tables e below _ (T189.setTop (mkF m 136 #[.val (.int p0), .val (.int p1), .val (.int p2), .val (.int p3), .val (.long q4), .second, .val (.int p5), .val (.ref b101), .val (.int ff), .val (.ref b113), .val (.int (3 : Int32)), .val (.int (1 : Int32))] [(.long (1 : Int64)), (.long q4), (.int (p3 ^^^ (1 : Int32))), (.int tg), (.ref b113)]))
        refine OGo.st (fun t k => XS.ladd X189.here hx rfl (hb hby at_136) rfl k) ?_
        show OGo p.tables e below _ (T189.setTop (mkF m 137 #[.val (.int p0), .val (.int p1), .val (.int p2), .val (.int p3), .val (.long q4), .second, .val (.int p5), .val (.ref b101), .val (.int ff), .val (.ref b113), .val (.int (3 : Int32)), .val (.int (1 : Int32))] [(.long (q4 + (1 : Int64))), (.int (p3 ^^^ (1 : Int32))), (.int tg), (.ref b113)]))
        refine OGo.st (fun t k => XS.iload X189.here hx rfl (hb hby at_137) rfl k) ?_
        show OGo p.tables e below _ (T189.setTop (mkF m 139 #[.val (.int p0), .val (.int p1), .val (.int p2), .val (.int p3), .val (.long q4), .second, .val (.int p5), .val (.ref b101), .val (.int ff), .val (.ref b113), .val (.int (3 : Int32)), .val (.int (1 : Int32))] [(.int p5), (.long (q4 + (1 : Int64))), (.int (p3 ^^^ (1 : Int32))), (.int tg), (.ref b113)]))
        refine OGo.st (fun t k => XS.iconst X189.here hx rfl (hb hby at_139) k) ?_
        show OGo p.tables e below _ (T189.setTop (mkF m 140 #[.val (.int p0), .val (.int p1), .val (.int p2), .val (.int p3), .val (.long q4), .second, .val (.int p5), .val (.ref b101), .val (.int ff), .val (.ref b113), .val (.int (3 : Int32)), .val (.int (1 : Int32))] [(.int (1 : Int32)), (.int p5), (.long (q4 + (1 : Int64))), (.int (p3 ^^^ (1 : Int32))), (.int tg), (.ref b113)]))
        refine OGo.st (fun t k => XS.ixor X189.here hx rfl (hb hby at_140) rfl k) ?_
        show OGo p.tables e below _ (T189.setTop (mkF m 141 #[.val (.int p0), .val (.int p1), .val (.int p2), .val (.int p3), .val (.long q4), .second, .val (.int p5), .val (.ref b101), .val (.int ff), .val (.ref b113), .val (.int (3 : Int32)), .val (.int (1 : Int32))] [(.int (p5 ^^^ (1 : Int32))), (.long (q4 + (1 : Int64))), (.int (p3 ^^^ (1 : Int32))), (.int tg), (.ref b113)]))
        have G191 : Exa Z T189.heap b113 "com/example/pathsieve/pathsieve/engine/Messages" := (G180.keep K189)
        obtain ⟨_, _, ⟨T192, L192, kk192, nn192⟩, -, X192, ⟨Lc192, hQ192, l192, y192, z192⟩, st192⟩ := Jvm.LawKit.callS X189 hx (y := (⟨"com/example/pathsieve/pathsieve/engine/MessagesSizePinLaw", "send", "(Lcom/example/pathsieve/pathsieve/engine/Messages;ZIJI)V"⟩ : MethodName)) hown (mvT hZ (hw _ (List.mem_of_getElem? (i := 70) rfl))) (mvT hZ (hw _ (List.mem_of_getElem? (i := 71) rfl))) (mvT hZ (hw _ (List.mem_of_getElem? (i := 72) rfl))) (mvT hZ (hw _ (List.mem_of_getElem? (i := 73) rfl))) (by decide) (backOf (W := 0) (rm13 l Z ar hw [] b113 tg (p3 ^^^ (1 : Int32)) (q4 + (1 : Int64)) (p5 ^^^ (1 : Int32)) ((ff <<< ((9 : Int32) &&& 31)) + (1 : Int32)) ((ff <<< ((9 : Int32) &&& 31)) + ((1 : Int32) <<< ((9 : Int32) &&& 31))) ff b119 k119 (((ff <<< ((9 : Int32) &&& 31)), (.int p3)) :: []) b123 k123 (((ff <<< ((9 : Int32) &&& 31)), (.long q4)) :: []) b128 k128 x189_tq T189.heap n0 (Nat.le_trans (Nat.le_trans (Nat.le_trans (Nat.le_trans (Nat.le_trans (Nat.le_trans (Nat.le_trans (Nat.le_trans (Nat.le_trans (Nat.le_trans (Nat.le_trans (Nat.le_trans Z0 E101.1) K102.1) E104.1) (Keep.of_wr W107).1) (Keep.of_wr W110).1) E113.1) K115.1) E119.1) E123.1) E128.1) K140.1) K189.1) G191 P189_5 P189_6 P189_7 P189_0 P189_1 P189_2 P189_3 P189_4 P189_8 P189_9 P189_10 ne_b113_b119 ne_b113_b123 ne_b113_b128 ne_b119_b123 ne_b119_b128 ne_b123_b128 ge_b113 ge_b119 ge_b123 ge_b128 (own_ne (by omega)) (own_rng _ (by omega) (by omega)) (own_rng _ (by have q1 := c_iadd ((ff <<< ((9 : Int32) &&& 31)) + (1 : Int32)) 1; have r1 := rng32 (((ff <<< ((9 : Int32) &&& 31)) + (1 : Int32)) + (1 : Int32)); have q := c_isub (((ff <<< ((9 : Int32) &&& 31)) + (1 : Int32)) + (1 : Int32)) 1; have r := rng32 ((((ff <<< ((9 : Int32) &&& 31)) + (1 : Int32)) + (1 : Int32)) - 1); omega) (by have q1 := c_iadd ((ff <<< ((9 : Int32) &&& 31)) + (1 : Int32)) 1; have r1 := rng32 (((ff <<< ((9 : Int32) &&& 31)) + (1 : Int32)) + (1 : Int32)); have q := c_isub (((ff <<< ((9 : Int32) &&& 31)) + (1 : Int32)) + (1 : Int32)) 1; have r := rng32 ((((ff <<< ((9 : Int32) &&& 31)) + (1 : Int32)) + (1 : Int32)) - 1); omega))) hZ (hw _ (List.mem_of_getElem? (i := 73) rfl)) (hw _ (List.mem_of_getElem? (i := 72) rfl)) (by decide) (by decide)) (g := (mkF m 141 #[.val (.int p0), .val (.int p1), .val (.int p2), .val (.int p3), .val (.long q4), .second, .val (.int p5), .val (.ref b101), .val (.int ff), .val (.ref b113), .val (.int (3 : Int32)), .val (.int (1 : Int32))] [(.int (p5 ^^^ (1 : Int32))), (.long (q4 + (1 : Int64))), (.int (p3 ^^^ (1 : Int32))), (.int tg), (.ref b113)])) rfl (by rw [hml]; rfl) (argsL := [(.ref b113), (.int tg), (.int (p3 ^^^ (1 : Int32))), (.long (q4 + (1 : Int64))), (.int (p5 ^^^ (1 : Int32)))]) (rest := []) (lenOf pd_8 rfl) rfl (by show 2 * 0 + _ ≤ _; exact Nat.le_of_eq rfl) (hb hby at_141) (fun _ _ => ⟨rfl, rfl, (by decide : 10 + 0 ≤ _), (by decide : 6166 + 0 ≤ _)⟩)
        dsimp only [Pt.U, Pt.locs, Pt.cells, Pt.slots] at X192 l192 y192 z192 st192 hQ192
        subst l192 y192 z192
        obtain ⟨x192_tq, rfl, Nq192, K192, P192_0, P192_1, P192_2, P192_3, P192_4, P192_5, P192_6, P192_7, P192_8, P192_9, P192_10⟩ := hQ192
        have N192 := Fr.app N189 Nq192
        refine OGo.st st192 ?_
        show OGo p.tables e below _ (T192.setTop (mkF m 144 #[.val (.int p0), .val (.int p1), .val (.int p2), .val (.int p3), .val (.long q4), .second, .val (.int p5), .val (.ref b101), .val (.int ff), .val (.ref b113), .val (.int (3 : Int32)), .val (.int (1 : Int32))] []))
        refine OGo.st (fun t k => XS.iload X192.here hx rfl (hb hby at_144) rfl k) ?_
        show OGo p.tables e below _ (T192.setTop (mkF m 146 #[.val (.int p0), .val (.int p1), .val (.int p2), .val (.int p3), .val (.long q4), .second, .val (.int p5), .val (.ref b101), .val (.int ff), .val (.ref b113), .val (.int (3 : Int32)), .val (.int (1 : Int32))] [(.int (3 : Int32))]))
        refine OGo.st (fun t k => XS.iconst X192.here hx rfl (hb hby at_146) k) ?_
        show OGo p.tables e below _ (T192.setTop (mkF m 147 #[.val (.int p0), .val (.int p1), .val (.int p2), .val (.int p3), .val (.long q4), .second, .val (.int p5), .val (.ref b101), .val (.int ff), .val (.ref b113), .val (.int (3 : Int32)), .val (.int (1 : Int32))] [(.int (2 : Int32)), (.int (3 : Int32))]))
        refine OGo.st (fun t k => XS.icmpNo X192.here hx rfl (hb hby at_147) rfl (tlt (by decide : (2 : Int32) < (3 : Int32))).2.2.2 k) ?_
        show OGo p.tables e below _ (T192.setTop (mkF m 150 #[.val (.int p0), .val (.int p1), .val (.int p2), .val (.int p3), .val (.long q4), .second, .val (.int p5), .val (.ref b101), .val (.int ff), .val (.ref b113), .val (.int (3 : Int32)), .val (.int (1 : Int32))] []))
        refine OGo.st (fun t k => XS.aload X192.here hx rfl (hb hby at_150) rfl rfl k) ?_
        show OGo p.tables e below _ (T192.setTop (mkF m 152 #[.val (.int p0), .val (.int p1), .val (.int p2), .val (.int p3), .val (.long q4), .second, .val (.int p5), .val (.ref b101), .val (.int ff), .val (.ref b113), .val (.int (3 : Int32)), .val (.int (1 : Int32))] [(.ref b113)]))
        refine OGo.st (fun t k => XS.iloadN X192.here hx rfl (hb hby at_152) rfl k) ?_
        show OGo p.tables e below _ (T192.setTop (mkF m 153 #[.val (.int p0), .val (.int p1), .val (.int p2), .val (.int p3), .val (.long q4), .second, .val (.int p5), .val (.ref b101), .val (.int ff), .val (.ref b113), .val (.int (3 : Int32)), .val (.int (1 : Int32))] [(.int p2), (.ref b113)]))
        refine OGo.st (fun t k => XS.iconst X192.here hx rfl (hb hby at_153) k) ?_
        show OGo p.tables e below _ (T192.setTop (mkF m 154 #[.val (.int p0), .val (.int p1), .val (.int p2), .val (.int p3), .val (.long q4), .second, .val (.int p5), .val (.ref b101), .val (.int ff), .val (.ref b113), .val (.int (3 : Int32)), .val (.int (1 : Int32))] [(.int (4 : Int32)), (.int p2), (.ref b113)]))
        refine OGo.st (fun t k => XS.iand X192.here hx rfl (hb hby at_154) rfl k) ?_
        show OGo p.tables e below _ (T192.setTop (mkF m 155 #[.val (.int p0), .val (.int p1), .val (.int p2), .val (.int p3), .val (.long q4), .second, .val (.int p5), .val (.ref b101), .val (.int ff), .val (.ref b113), .val (.int (3 : Int32)), .val (.int (1 : Int32))] [(.int (p2 &&& (4 : Int32))), (.ref b113)]))
        refine OGo.join (α := Int32) (fun tg => True) (fun tg => T192.setTop (mkF m 163 #[.val (.int p0), .val (.int p1), .val (.int p2), .val (.int p3), .val (.long q4), .second, .val (.int p5), .val (.ref b101), .val (.int ff), .val (.ref b113), .val (.int (3 : Int32)), .val (.int (1 : Int32))] [(.int tg), (.ref b113)])) ?_ (fun jn163_193 => ?_)
        ·
          intro tg hj163_193
          show OGo p.tables e below _ (T192.setTop (mkF m 163 #[.val (.int p0), .val (.int p1), .val (.int p2), .val (.int p3), .val (.long q4), .second, .val (.int p5), .val (.ref b101), .val (.int ff), .val (.ref b113), .val (.int (3 : Int32)), .val (.int (1 : Int32))] [(.int tg), (.ref b113)]))
          refine OGo.st (fun t k => XS.iloadN X192.here hx rfl (hb hby at_163) rfl k) ?_
          show OGo p.tables e below _ (T192.setTop (mkF m 164 #[.val (.int p0), .val (.int p1), .val (.int p2), .val (.int p3), .val (.long q4), .second, .val (.int p5), .val (.ref b101), .val (.int ff), .val (.ref b113), .val (.int (3 : Int32)), .val (.int (1 : Int32))] [(.int p3), (.int tg), (.ref b113)]))
          refine OGo.st (fun t k => XS.iconst X192.here hx rfl (hb hby at_164) k) ?_
          show OGo p.tables e below _ (T192.setTop (mkF m 165 #[.val (.int p0), .val (.int p1), .val (.int p2), .val (.int p3), .val (.long q4), .second, .val (.int p5), .val (.ref b101), .val (.int ff), .val (.ref b113), .val (.int (3 : Int32)), .val (.int (1 : Int32))] [(.int (2 : Int32)), (.int p3), (.int tg), (.ref b113)]))
          refine OGo.st (fun t k => XS.ixor X192.here hx rfl (hb hby at_165) rfl k) ?_
          show OGo p.tables e below _ (T192.setTop (mkF m 166 #[.val (.int p0), .val (.int p1), .val (.int p2), .val (.int p3), .val (.long q4), .second, .val (.int p5), .val (.ref b101), .val (.int ff), .val (.ref b113), .val (.int (3 : Int32)), .val (.int (1 : Int32))] [(.int (p3 ^^^ (2 : Int32))), (.int tg), (.ref b113)]))
          refine OGo.st (fun t k => XS.lload X192.here hx rfl (hb hby at_166) rfl k) ?_
          show OGo p.tables e below _ (T192.setTop (mkF m 168 #[.val (.int p0), .val (.int p1), .val (.int p2), .val (.int p3), .val (.long q4), .second, .val (.int p5), .val (.ref b101), .val (.int ff), .val (.ref b113), .val (.int (3 : Int32)), .val (.int (1 : Int32))] [(.long q4), (.int (p3 ^^^ (2 : Int32))), (.int tg), (.ref b113)]))
          refine OGo.st (fun t k => XS.lconst X192.here hx rfl (hb hby at_168) k) ?_
          show OGo p.tables e below _ (T192.setTop (mkF m 169 #[.val (.int p0), .val (.int p1), .val (.int p2), .val (.int p3), .val (.long q4), .second, .val (.int p5), .val (.ref b101), .val (.int ff), .val (.ref b113), .val (.int (3 : Int32)), .val (.int (1 : Int32))] [(.long (1 : Int64)), (.long q4), (.int (p3 ^^^ (2 : Int32))), (.int tg), (.ref b113)]))
          refine OGo.st (fun t k => XS.lsub X192.here hx rfl (hb hby at_169) rfl k) ?_
          show OGo p.tables e below _ (T192.setTop (mkF m 170 #[.val (.int p0), .val (.int p1), .val (.int p2), .val (.int p3), .val (.long q4), .second, .val (.int p5), .val (.ref b101), .val (.int ff), .val (.ref b113), .val (.int (3 : Int32)), .val (.int (1 : Int32))] [(.long (q4 - (1 : Int64))), (.int (p3 ^^^ (2 : Int32))), (.int tg), (.ref b113)]))
          refine OGo.st (fun t k => XS.iload X192.here hx rfl (hb hby at_170) rfl k) ?_
          show OGo p.tables e below _ (T192.setTop (mkF m 172 #[.val (.int p0), .val (.int p1), .val (.int p2), .val (.int p3), .val (.long q4), .second, .val (.int p5), .val (.ref b101), .val (.int ff), .val (.ref b113), .val (.int (3 : Int32)), .val (.int (1 : Int32))] [(.int p5), (.long (q4 - (1 : Int64))), (.int (p3 ^^^ (2 : Int32))), (.int tg), (.ref b113)]))
          refine OGo.st (fun t k => XS.iconst X192.here hx rfl (hb hby at_172) k) ?_
          show OGo p.tables e below _ (T192.setTop (mkF m 173 #[.val (.int p0), .val (.int p1), .val (.int p2), .val (.int p3), .val (.long q4), .second, .val (.int p5), .val (.ref b101), .val (.int ff), .val (.ref b113), .val (.int (3 : Int32)), .val (.int (1 : Int32))] [(.int (2 : Int32)), (.int p5), (.long (q4 - (1 : Int64))), (.int (p3 ^^^ (2 : Int32))), (.int tg), (.ref b113)]))
          refine OGo.st (fun t k => XS.ixor X192.here hx rfl (hb hby at_173) rfl k) ?_
          show OGo p.tables e below _ (T192.setTop (mkF m 174 #[.val (.int p0), .val (.int p1), .val (.int p2), .val (.int p3), .val (.long q4), .second, .val (.int p5), .val (.ref b101), .val (.int ff), .val (.ref b113), .val (.int (3 : Int32)), .val (.int (1 : Int32))] [(.int (p5 ^^^ (2 : Int32))), (.long (q4 - (1 : Int64))), (.int (p3 ^^^ (2 : Int32))), (.int tg), (.ref b113)]))
          have G194 : Exa Z T192.heap b113 "com/example/pathsieve/pathsieve/engine/Messages" := (G191.keep K192)
          obtain ⟨_, _, ⟨T195, L195, kk195, nn195⟩, -, X195, ⟨Lc195, hQ195, l195, y195, z195⟩, st195⟩ := Jvm.LawKit.callS X192 hx (y := (⟨"com/example/pathsieve/pathsieve/engine/MessagesSizePinLaw", "send", "(Lcom/example/pathsieve/pathsieve/engine/Messages;ZIJI)V"⟩ : MethodName)) hown (mvT hZ (hw _ (List.mem_of_getElem? (i := 70) rfl))) (mvT hZ (hw _ (List.mem_of_getElem? (i := 71) rfl))) (mvT hZ (hw _ (List.mem_of_getElem? (i := 72) rfl))) (mvT hZ (hw _ (List.mem_of_getElem? (i := 73) rfl))) (by decide) (backOf (W := 0) (rm13 l Z ar hw [] b113 tg (p3 ^^^ (2 : Int32)) (q4 - (1 : Int64)) (p5 ^^^ (2 : Int32)) (((ff <<< ((9 : Int32) &&& 31)) + (1 : Int32)) + (1 : Int32)) ((ff <<< ((9 : Int32) &&& 31)) + ((1 : Int32) <<< ((9 : Int32) &&& 31))) ff b119 k119 ((((ff <<< ((9 : Int32) &&& 31)) + (1 : Int32)), (.int (p3 ^^^ (1 : Int32)))) :: (((ff <<< ((9 : Int32) &&& 31)), (.int p3)) :: [])) b123 k123 ((((ff <<< ((9 : Int32) &&& 31)) + (1 : Int32)), (.long (q4 + (1 : Int64)))) :: (((ff <<< ((9 : Int32) &&& 31)), (.long q4)) :: [])) b128 k128 x192_tq T192.heap n0 (Nat.le_trans (Nat.le_trans (Nat.le_trans (Nat.le_trans (Nat.le_trans (Nat.le_trans (Nat.le_trans (Nat.le_trans (Nat.le_trans (Nat.le_trans (Nat.le_trans (Nat.le_trans (Nat.le_trans Z0 E101.1) K102.1) E104.1) (Keep.of_wr W107).1) (Keep.of_wr W110).1) E113.1) K115.1) E119.1) E123.1) E128.1) K140.1) K189.1) K192.1) G194 P192_5 P192_6 P192_7 P192_0 P192_1 P192_2 P192_3 P192_4 P192_8 P192_9 P192_10 ne_b113_b119 ne_b113_b123 ne_b113_b128 ne_b119_b123 ne_b119_b128 ne_b123_b128 ge_b113 ge_b119 ge_b123 ge_b128 (own_ne (by omega)) (own_rng _ (by omega) (by omega)) (own_rng _ (by have q1 := c_iadd (((ff <<< ((9 : Int32) &&& 31)) + (1 : Int32)) + (1 : Int32)) 1; have r1 := rng32 ((((ff <<< ((9 : Int32) &&& 31)) + (1 : Int32)) + (1 : Int32)) + (1 : Int32)); have q := c_isub ((((ff <<< ((9 : Int32) &&& 31)) + (1 : Int32)) + (1 : Int32)) + (1 : Int32)) 1; have r := rng32 (((((ff <<< ((9 : Int32) &&& 31)) + (1 : Int32)) + (1 : Int32)) + (1 : Int32)) - 1); omega) (by have q1 := c_iadd (((ff <<< ((9 : Int32) &&& 31)) + (1 : Int32)) + (1 : Int32)) 1; have r1 := rng32 ((((ff <<< ((9 : Int32) &&& 31)) + (1 : Int32)) + (1 : Int32)) + (1 : Int32)); have q := c_isub ((((ff <<< ((9 : Int32) &&& 31)) + (1 : Int32)) + (1 : Int32)) + (1 : Int32)) 1; have r := rng32 (((((ff <<< ((9 : Int32) &&& 31)) + (1 : Int32)) + (1 : Int32)) + (1 : Int32)) - 1); omega))) hZ (hw _ (List.mem_of_getElem? (i := 73) rfl)) (hw _ (List.mem_of_getElem? (i := 72) rfl)) (by decide) (by decide)) (g := (mkF m 174 #[.val (.int p0), .val (.int p1), .val (.int p2), .val (.int p3), .val (.long q4), .second, .val (.int p5), .val (.ref b101), .val (.int ff), .val (.ref b113), .val (.int (3 : Int32)), .val (.int (1 : Int32))] [(.int (p5 ^^^ (2 : Int32))), (.long (q4 - (1 : Int64))), (.int (p3 ^^^ (2 : Int32))), (.int tg), (.ref b113)])) rfl (by rw [hml]; rfl) (argsL := [(.ref b113), (.int tg), (.int (p3 ^^^ (2 : Int32))), (.long (q4 - (1 : Int64))), (.int (p5 ^^^ (2 : Int32)))]) (rest := []) (lenOf pd_8 rfl) rfl (by show 2 * 0 + _ ≤ _; exact Nat.le_of_eq rfl) (hb hby at_174) (fun _ _ => ⟨rfl, rfl, (by decide : 10 + 0 ≤ _), (by decide : 6166 + 0 ≤ _)⟩)
          dsimp only [Pt.U, Pt.locs, Pt.cells, Pt.slots] at X195 l195 y195 z195 st195 hQ195
          subst l195 y195 z195
          obtain ⟨x195_tq, rfl, Nq195, K195, P195_0, P195_1, P195_2, P195_3, P195_4, P195_5, P195_6, P195_7, P195_8, P195_9, P195_10⟩ := hQ195
          have N195 := Fr.app N192 Nq195
          refine OGo.st st195 ?_
          show OGo p.tables e below _ (T195.setTop (mkF m 177 #[.val (.int p0), .val (.int p1), .val (.int p2), .val (.int p3), .val (.long q4), .second, .val (.int p5), .val (.ref b101), .val (.int ff), .val (.ref b113), .val (.int (3 : Int32)), .val (.int (1 : Int32))] []))
          refine OGo.st (fun t k => XS.iload X195.here hx rfl (hb hby at_177) rfl k) ?_
          show OGo p.tables e below _ (T195.setTop (mkF m 179 #[.val (.int p0), .val (.int p1), .val (.int p2), .val (.int p3), .val (.long q4), .second, .val (.int p5), .val (.ref b101), .val (.int ff), .val (.ref b113), .val (.int (3 : Int32)), .val (.int (1 : Int32))] [(.int (3 : Int32))]))
          refine OGo.st (fun t k => XS.iconst X195.here hx rfl (hb hby at_179) k) ?_
          show OGo p.tables e below _ (T195.setTop (mkF m 180 #[.val (.int p0), .val (.int p1), .val (.int p2), .val (.int p3), .val (.long q4), .second, .val (.int p5), .val (.ref b101), .val (.int ff), .val (.ref b113), .val (.int (3 : Int32)), .val (.int (1 : Int32))] [(.int (3 : Int32)), (.int (3 : Int32))]))
          refine OGo.st (fun t k => XS.icmpYes X195.here hx rfl (pc0 := 180) (pc' := 213) rfl (hb hby at_180) rfl (flt (by decide : ¬ ((3 : Int32) < (3 : Int32)))).2.2.2 (by decide) (by decide) k) ?_
          show OGo p.tables e below _ (T195.setTop (mkF m 213 #[.val (.int p0), .val (.int p1), .val (.int p2), .val (.int p3), .val (.long q4), .second, .val (.int p5), .val (.ref b101), .val (.int ff), .val (.ref b113), .val (.int (3 : Int32)), .val (.int (1 : Int32))] []))
          refine OGo.st (fun t k => XS.iload X195.here hx rfl (hb hby at_213) rfl k) ?_
          show OGo p.tables e below _ (T195.setTop (mkF m 215 #[.val (.int p0), .val (.int p1), .val (.int p2), .val (.int p3), .val (.long q4), .second, .val (.int p5), .val (.ref b101), .val (.int ff), .val (.ref b113), .val (.int (3 : Int32)), .val (.int (1 : Int32))] [(.int (1 : Int32))]))
          refine OGo.st (fun t k => XS.ifNo X195.here hx rfl (hb hby at_215) rfl ((if0 _ _).trans (feq (by decide : ¬ ((1 : Int32) = (0 : Int32)))).1) k) ?_
          show OGo p.tables e below _ (T195.setTop (mkF m 218 #[.val (.int p0), .val (.int p1), .val (.int p2), .val (.int p3), .val (.long q4), .second, .val (.int p5), .val (.ref b101), .val (.int ff), .val (.ref b113), .val (.int (3 : Int32)), .val (.int (1 : Int32))] []))
          refine OGo.st (fun t k => XS.aload X195.here hx rfl (hb hby at_218) rfl rfl k) ?_
          show OGo p.tables e below _ (T195.setTop (mkF m 220 #[.val (.int p0), .val (.int p1), .val (.int p2), .val (.int p3), .val (.long q4), .second, .val (.int p5), .val (.ref b101), .val (.int ff), .val (.ref b113), .val (.int (3 : Int32)), .val (.int (1 : Int32))] [(.ref b113)]))
          have G197 : Exa Z T195.heap b113 "com/example/pathsieve/pathsieve/engine/Messages" := (G194.keep K195)
          obtain ⟨cq196, kq196, q196a, q196b, q196c⟩ := isOf hZ rfl G197
          obtain ⟨_, _, ⟨T196, L196, kk196, nn196⟩, -, X196, ⟨Lc196, hQ196, l196, y196, z196⟩, st196⟩ := X195.virtualBack hx (y := (⟨"com/example/pathsieve/pathsieve/engine/Messages", "size", "()I"⟩ : MethodName)) (z := (⟨"com/example/pathsieve/pathsieve/engine/Messages", "size", "()I"⟩ : MethodName)) hown (mvT hZ (hw _ (List.mem_of_getElem? (i := 65) rfl))) (mvT hZ (hw _ (List.mem_of_getElem? (i := 66) rfl))) (notFace_of_selects (args := #[]) (mvT hZ (hw _ (List.mem_of_getElem? (i := 68) rfl)))) (mvT hZ (hw _ (List.mem_of_getElem? (i := 68) rfl))) (mvT hZ (hw _ (List.mem_of_getElem? (i := 67) rfl))) (by decide) (backOf (W := 0) (rm7 l Z ar hw [] b113 ((((ff <<< ((9 : Int32) &&& 31)) + (1 : Int32)) + (1 : Int32)) + (1 : Int32)) ff T195.heap n0 (Nat.le_trans (Nat.le_trans (Nat.le_trans (Nat.le_trans (Nat.le_trans (Nat.le_trans (Nat.le_trans (Nat.le_trans (Nat.le_trans (Nat.le_trans (Nat.le_trans (Nat.le_trans (Nat.le_trans (Nat.le_trans Z0 E101.1) K102.1) E104.1) (Keep.of_wr W107).1) (Keep.of_wr W110).1) E113.1) K115.1) E119.1) E123.1) E128.1) K140.1) K189.1) K192.1) K195.1) P195_7 P195_5 P195_3 P195_4 (own_rng ff (by omega) (by omega)).1) hZ (hw _ (List.mem_of_getElem? (i := 69) rfl)) (hw _ (List.mem_of_getElem? (i := 39) rfl)) (by decide) (by decide)) q196a q196c (g := (mkF m 220 #[.val (.int p0), .val (.int p1), .val (.int p2), .val (.int p3), .val (.long q4), .second, .val (.int p5), .val (.ref b101), .val (.int ff), .val (.ref b113), .val (.int (3 : Int32)), .val (.int (1 : Int32))] [(.ref b113)])) rfl (by rw [hml]; rfl) (Steps.refl _) (argsL := []) (rest := []) (lenOf pd_7 rfl) rfl (by show 2 * 0 + _ ≤ _; exact Nat.le_of_eq rfl) (hb hby at_220) (fun _ _ => ⟨rfl, rfl, (by decide : 10 + 0 ≤ _), (by decide : 6166 + 0 ≤ _)⟩)
          dsimp only [Pt.U, Pt.locs, Pt.cells, Pt.slots] at X196 l196 y196 z196 st196 hQ196
          subst l196 y196 z196
          obtain ⟨rfl, Nq196, hh196⟩ := hQ196
          have N196 := Fr.app N195 Nq196
          refine OGo.st (fun t k => st196.trans k) ?_
          have e196 : T196.heap = T195.heap := hh196
          show OGo p.tables e below _ (T196.setTop (mkF m 223 #[.val (.int p0), .val (.int p1), .val (.int p2), .val (.int p3), .val (.long q4), .second, .val (.int p5), .val (.ref b101), .val (.int ff), .val (.ref b113), .val (.int (3 : Int32)), .val (.int (1 : Int32))] [(.int (((0 : Int32) + ((((ff <<< ((9 : Int32) &&& 31)) + (1 : Int32)) + (1 : Int32)) + (1 : Int32))) - (ff <<< ((9 : Int32) &&& 31))))]))
          refine OGo.st (fun t k => XS.iload X196.here hx rfl (hb hby at_223) rfl k) ?_
          show OGo p.tables e below _ (T196.setTop (mkF m 225 #[.val (.int p0), .val (.int p1), .val (.int p2), .val (.int p3), .val (.long q4), .second, .val (.int p5), .val (.ref b101), .val (.int ff), .val (.ref b113), .val (.int (3 : Int32)), .val (.int (1 : Int32))] [(.int (3 : Int32)), (.int (((0 : Int32) + ((((ff <<< ((9 : Int32) &&& 31)) + (1 : Int32)) + (1 : Int32)) + (1 : Int32))) - (ff <<< ((9 : Int32) &&& 31))))]))
          refine OGo.st (fun t k => XS.icmpNo X196.here hx rfl (hb hby at_225) rfl (teq ((own_sz _ _ _ (own_add3 _)) : (((0 : Int32) + ((((ff <<< ((9 : Int32) &&& 31)) + (1 : Int32)) + (1 : Int32)) + (1 : Int32))) - (ff <<< ((9 : Int32) &&& 31))) = (3 : Int32))).2 k) ?_
          show OGo p.tables e below _ (T196.setTop (mkF m 228 #[.val (.int p0), .val (.int p1), .val (.int p2), .val (.int p3), .val (.long q4), .second, .val (.int p5), .val (.ref b101), .val (.int ff), .val (.ref b113), .val (.int (3 : Int32)), .val (.int (1 : Int32))] []))
          refine OGo.st (fun t k => XS.iconst X196.here hx rfl (hb hby at_228) k) ?_
          show OGo p.tables e below _ (T196.setTop (mkF m 229 #[.val (.int p0), .val (.int p1), .val (.int p2), .val (.int p3), .val (.long q4), .second, .val (.int p5), .val (.ref b101), .val (.int ff), .val (.ref b113), .val (.int (3 : Int32)), .val (.int (1 : Int32))] [(.int (1 : Int32))]))
          refine OGo.st (fun t k => XS.goto X196.here hx rfl (pc0 := 229) (pc' := 233) rfl (hb hby at_229) (by decide) (by decide) k) ?_
          show OGo p.tables e below _ (T196.setTop (mkF m 233 #[.val (.int p0), .val (.int p1), .val (.int p2), .val (.int p3), .val (.long q4), .second, .val (.int p5), .val (.ref b101), .val (.int ff), .val (.ref b113), .val (.int (3 : Int32)), .val (.int (1 : Int32))] [(.int (1 : Int32))]))
          obtain ⟨fs, hr, hrun, hended, hW, hsame⟩ := X196.leave (v := some (.int (1 : Int32))) (fun h => by rw [Bd.returns] at h; cases h)
          refine OGo.done (retN X196 hx (t := .boolean) Bd.returns (by simp) (hb hby at_233) hr) ⟨hrun, hended, _, _, rfl, ?_, ⟨_, rfl⟩, hW, hsame.mono (by decide) (by decide)⟩
          show Q14 Z p0 p1 p2 p3 q4 p5 h0 n0 _ T196.heap _
          rw [e196]
          exact ⟨rfl, N196⟩
        by_cases hc155_199 : (p2 &&& (4 : Int32)) = (0 : Int32)
        ·
          refine OGo.st (fun t k => XS.ifYes X192.here hx rfl (pc0 := 155) (pc' := 162) rfl (hb hby at_155) rfl ((if0 _ _).trans (teq hc155_199).1) (by decide) (by decide) k) ?_
          show OGo p.tables e below _ (T192.setTop (mkF m 162 #[.val (.int p0), .val (.int p1), .val (.int p2), .val (.int p3), .val (.long q4), .second, .val (.int p5), .val (.ref b101), .val (.int ff), .val (.ref b113), .val (.int (3 : Int32)), .val (.int (1 : Int32))] [(.ref b113)]))
          refine OGo.st (fun t k => XS.iconst X192.here hx rfl (hb hby at_162) k) ?_
          show OGo p.tables e below _ (T192.setTop (mkF m 163 #[.val (.int p0), .val (.int p1), .val (.int p2), .val (.int p3), .val (.long q4), .second, .val (.int p5), .val (.ref b101), .val (.int ff), .val (.ref b113), .val (.int (3 : Int32)), .val (.int (1 : Int32))] [(.int (0 : Int32)), (.ref b113)]))
          exact jn163_193 (0 : Int32) trivial
        ·
          refine OGo.st (fun t k => XS.ifNo X192.here hx rfl (hb hby at_155) rfl ((if0 _ _).trans (feq hc155_199).1) k) ?_
          show OGo p.tables e below _ (T192.setTop (mkF m 158 #[.val (.int p0), .val (.int p1), .val (.int p2), .val (.int p3), .val (.long q4), .second, .val (.int p5), .val (.ref b101), .val (.int ff), .val (.ref b113), .val (.int (3 : Int32)), .val (.int (1 : Int32))] [(.ref b113)]))
          refine OGo.st (fun t k => XS.iconst X192.here hx rfl (hb hby at_158) k) ?_
          show OGo p.tables e below _ (T192.setTop (mkF m 159 #[.val (.int p0), .val (.int p1), .val (.int p2), .val (.int p3), .val (.long q4), .second, .val (.int p5), .val (.ref b101), .val (.int ff), .val (.ref b113), .val (.int (3 : Int32)), .val (.int (1 : Int32))] [(.int (1 : Int32)), (.ref b113)]))
          refine OGo.st (fun t k => XS.goto X192.here hx rfl (pc0 := 159) (pc' := 163) rfl (hb hby at_159) (by decide) (by decide) k) ?_
          show OGo p.tables e below _ (T192.setTop (mkF m 163 #[.val (.int p0), .val (.int p1), .val (.int p2), .val (.int p3), .val (.long q4), .second, .val (.int p5), .val (.ref b101), .val (.int ff), .val (.ref b113), .val (.int (3 : Int32)), .val (.int (1 : Int32))] [(.int (1 : Int32)), (.ref b113)]))
          exact jn163_193 (1 : Int32) trivial
      by_cases hc122_200 : (p2 &&& (2 : Int32)) = (0 : Int32)
      ·
        refine OGo.st (fun t k => XS.ifYes X189.here hx rfl (pc0 := 122) (pc' := 129) rfl (hb hby at_122) rfl ((if0 _ _).trans (teq hc122_200).1) (by decide) (by decide) k) ?_
        show OGo p.tables e below _ (T189.setTop (mkF m 129 #[.val (.int p0), .val (.int p1), .val (.int p2), .val (.int p3), .val (.long q4), .second, .val (.int p5), .val (.ref b101), .val (.int ff), .val (.ref b113), .val (.int (3 : Int32)), .val (.int (1 : Int32))] [(.ref b113)]))
        refine OGo.st (fun t k => XS.iconst X189.here hx rfl (hb hby at_129) k) ?_
        show OGo p.tables e below _ (T189.setTop (mkF m 130 #[.val (.int p0), .val (.int p1), .val (.int p2), .val (.int p3), .val (.long q4), .second, .val (.int p5), .val (.ref b101), .val (.int ff), .val (.ref b113), .val (.int (3 : Int32)), .val (.int (1 : Int32))] [(.int (0 : Int32)), (.ref b113)]))
        exact jn130_190 (0 : Int32) trivial
      ·
        refine OGo.st (fun t k => XS.ifNo X189.here hx rfl (hb hby at_122) rfl ((if0 _ _).trans (feq hc122_200).1) k) ?_
        show OGo p.tables e below _ (T189.setTop (mkF m 125 #[.val (.int p0), .val (.int p1), .val (.int p2), .val (.int p3), .val (.long q4), .second, .val (.int p5), .val (.ref b101), .val (.int ff), .val (.ref b113), .val (.int (3 : Int32)), .val (.int (1 : Int32))] [(.ref b113)]))
        refine OGo.st (fun t k => XS.iconst X189.here hx rfl (hb hby at_125) k) ?_
        show OGo p.tables e below _ (T189.setTop (mkF m 126 #[.val (.int p0), .val (.int p1), .val (.int p2), .val (.int p3), .val (.long q4), .second, .val (.int p5), .val (.ref b101), .val (.int ff), .val (.ref b113), .val (.int (3 : Int32)), .val (.int (1 : Int32))] [(.int (1 : Int32)), (.ref b113)]))
        refine OGo.st (fun t k => XS.goto X189.here hx rfl (pc0 := 126) (pc' := 130) rfl (hb hby at_126) (by decide) (by decide) k) ?_
        show OGo p.tables e below _ (T189.setTop (mkF m 130 #[.val (.int p0), .val (.int p1), .val (.int p2), .val (.int p3), .val (.long q4), .second, .val (.int p5), .val (.ref b101), .val (.int ff), .val (.ref b113), .val (.int (3 : Int32)), .val (.int (1 : Int32))] [(.int (1 : Int32)), (.ref b113)]))
        exact jn130_190 (1 : Int32) trivial
    by_cases hc95_201 : (p2 &&& (1 : Int32)) = (0 : Int32)
    ·
      refine OGo.st (fun t k => XS.ifYes X179.here hx rfl (pc0 := 95) (pc' := 102) rfl (hb hby at_95) rfl ((if0 _ _).trans (teq hc95_201).1) (by decide) (by decide) k) ?_
      show OGo p.tables e below _ (T179.setTop (mkF m 102 #[.val (.int p0), .val (.int p1), .val (.int p2), .val (.int p3), .val (.long q4), .second, .val (.int p5), .val (.ref b101), .val (.int ff), .val (.ref b113), .val (.int (3 : Int32)), .val (.int (1 : Int32))] [(.ref b113)]))
      refine OGo.st (fun t k => XS.iconst X179.here hx rfl (hb hby at_102) k) ?_
      show OGo p.tables e below _ (T179.setTop (mkF m 103 #[.val (.int p0), .val (.int p1), .val (.int p2), .val (.int p3), .val (.long q4), .second, .val (.int p5), .val (.ref b101), .val (.int ff), .val (.ref b113), .val (.int (3 : Int32)), .val (.int (1 : Int32))] [(.int (0 : Int32)), (.ref b113)]))
      exact jn103_181 (0 : Int32) trivial
    ·
      refine OGo.st (fun t k => XS.ifNo X179.here hx rfl (hb hby at_95) rfl ((if0 _ _).trans (feq hc95_201).1) k) ?_
      show OGo p.tables e below _ (T179.setTop (mkF m 98 #[.val (.int p0), .val (.int p1), .val (.int p2), .val (.int p3), .val (.long q4), .second, .val (.int p5), .val (.ref b101), .val (.int ff), .val (.ref b113), .val (.int (3 : Int32)), .val (.int (1 : Int32))] [(.ref b113)]))
      refine OGo.st (fun t k => XS.iconst X179.here hx rfl (hb hby at_98) k) ?_
      show OGo p.tables e below _ (T179.setTop (mkF m 99 #[.val (.int p0), .val (.int p1), .val (.int p2), .val (.int p3), .val (.long q4), .second, .val (.int p5), .val (.ref b101), .val (.int ff), .val (.ref b113), .val (.int (3 : Int32)), .val (.int (1 : Int32))] [(.int (1 : Int32)), (.ref b113)]))
      refine OGo.st (fun t k => XS.goto X179.here hx rfl (pc0 := 99) (pc' := 103) rfl (hb hby at_99) (by decide) (by decide) k) ?_
      show OGo p.tables e below _ (T179.setTop (mkF m 103 #[.val (.int p0), .val (.int p1), .val (.int p2), .val (.int p3), .val (.long q4), .second, .val (.int p5), .val (.ref b101), .val (.int ff), .val (.ref b113), .val (.int (3 : Int32)), .val (.int (1 : Int32))] [(.int (1 : Int32)), (.ref b113)]))
      exact jn103_181 (1 : Int32) trivial
  ·
    rw [hn]
    show OGo p.tables e below _ (T140.setTop (mkF m 70 #[.val (.int p0), .val (.int p1), .val (.int p2), .val (.int p3), .val (.long q4), .second, .val (.int p5), .val (.ref b101), .val (.int ff), .val (.ref b113), .val (.int (4 : Int32)), .unset] []))
    refine OGo.st (fun t k => XS.aload X140.here hx rfl (hb hby at_70) rfl rfl k) ?_
    show OGo p.tables e below _ (T140.setTop (mkF m 72 #[.val (.int p0), .val (.int p1), .val (.int p2), .val (.int p3), .val (.long q4), .second, .val (.int p5), .val (.ref b101), .val (.int ff), .val (.ref b113), .val (.int (4 : Int32)), .unset] [(.ref b113)]))
    have G203 : Exa Z T140.heap b113 "com/example/pathsieve/pathsieve/engine/Messages" := (G129.keep K140)
    obtain ⟨cq202, kq202, q202a, q202b, q202c⟩ := isOf hZ rfl G203
    obtain ⟨_, _, ⟨T202, L202, kk202, nn202⟩, -, X202, ⟨Lc202, hQ202, l202, y202, z202⟩, st202⟩ := X140.virtualBack hx (y := (⟨"com/example/pathsieve/pathsieve/engine/Messages", "size", "()I"⟩ : MethodName)) (z := (⟨"com/example/pathsieve/pathsieve/engine/Messages", "size", "()I"⟩ : MethodName)) hown (mvT hZ (hw _ (List.mem_of_getElem? (i := 65) rfl))) (mvT hZ (hw _ (List.mem_of_getElem? (i := 66) rfl))) (notFace_of_selects (args := #[]) (mvT hZ (hw _ (List.mem_of_getElem? (i := 68) rfl)))) (mvT hZ (hw _ (List.mem_of_getElem? (i := 68) rfl))) (mvT hZ (hw _ (List.mem_of_getElem? (i := 67) rfl))) (by decide) (backOf (W := 0) (rm6 l Z ar hw [] b113 T140.heap n0 (Nat.le_trans (Nat.le_trans (Nat.le_trans (Nat.le_trans (Nat.le_trans (Nat.le_trans (Nat.le_trans (Nat.le_trans (Nat.le_trans (Nat.le_trans (Nat.le_trans Z0 E101.1) K102.1) E104.1) (Keep.of_wr W107).1) (Keep.of_wr W110).1) E113.1) K115.1) E119.1) E123.1) E128.1) K140.1) P140_1) hZ (hw _ (List.mem_of_getElem? (i := 69) rfl)) (hw _ (List.mem_of_getElem? (i := 39) rfl)) (by decide) (by decide)) q202a q202c (g := (mkF m 72 #[.val (.int p0), .val (.int p1), .val (.int p2), .val (.int p3), .val (.long q4), .second, .val (.int p5), .val (.ref b101), .val (.int ff), .val (.ref b113), .val (.int (4 : Int32)), .unset] [(.ref b113)])) rfl (by rw [hml]; rfl) (Steps.refl _) (argsL := []) (rest := []) (lenOf pd_7 rfl) rfl (by show 2 * 0 + _ ≤ _; exact Nat.le_of_eq rfl) (hb hby at_72) (fun _ _ => ⟨rfl, rfl, (by decide : 10 + 0 ≤ _), (by decide : 6166 + 0 ≤ _)⟩)
    dsimp only [Pt.U, Pt.locs, Pt.cells, Pt.slots] at X202 l202 y202 z202 st202 hQ202
    subst l202 y202 z202
    obtain ⟨rfl, Nq202, hh202⟩ := hQ202
    have N202 := Fr.app N140 Nq202
    refine OGo.st (fun t k => st202.trans k) ?_
    have e202 : T202.heap = T140.heap := hh202
    show OGo p.tables e below _ (T202.setTop (mkF m 75 #[.val (.int p0), .val (.int p1), .val (.int p2), .val (.int p3), .val (.long q4), .second, .val (.int p5), .val (.ref b101), .val (.int ff), .val (.ref b113), .val (.int (4 : Int32)), .unset] [(.int (0 : Int32))]))
    refine OGo.st (fun t k => XS.ifNo X202.here hx rfl (hb hby at_75) rfl ((if0 _ _).trans (teq (by decide : (0 : Int32) = (0 : Int32))).2) k) ?_
    show OGo p.tables e below _ (T202.setTop (mkF m 78 #[.val (.int p0), .val (.int p1), .val (.int p2), .val (.int p3), .val (.long q4), .second, .val (.int p5), .val (.ref b101), .val (.int ff), .val (.ref b113), .val (.int (4 : Int32)), .unset] []))
    refine OGo.st (fun t k => XS.iconst X202.here hx rfl (hb hby at_78) k) ?_
    show OGo p.tables e below _ (T202.setTop (mkF m 79 #[.val (.int p0), .val (.int p1), .val (.int p2), .val (.int p3), .val (.long q4), .second, .val (.int p5), .val (.ref b101), .val (.int ff), .val (.ref b113), .val (.int (4 : Int32)), .unset] [(.int (1 : Int32))]))
    refine OGo.st (fun t k => XS.goto X202.here hx rfl (pc0 := 79) (pc' := 83) rfl (hb hby at_79) (by decide) (by decide) k) ?_
    show OGo p.tables e below _ (T202.setTop (mkF m 83 #[.val (.int p0), .val (.int p1), .val (.int p2), .val (.int p3), .val (.long q4), .second, .val (.int p5), .val (.ref b101), .val (.int ff), .val (.ref b113), .val (.int (4 : Int32)), .unset] [(.int (1 : Int32))]))
    refine OGo.st (fun t k => XS.istore X202.here hx rfl (hb hby at_83) rfl (l' := #[.val (.int p0), .val (.int p1), .val (.int p2), .val (.int p3), .val (.long q4), .second, .val (.int p5), .val (.ref b101), .val (.int ff), .val (.ref b113), .val (.int (4 : Int32)), .val (.int (1 : Int32))]) rfl k) ?_
    show OGo p.tables e below _ (T202.setTop (mkF m 85 #[.val (.int p0), .val (.int p1), .val (.int p2), .val (.int p3), .val (.long q4), .second, .val (.int p5), .val (.ref b101), .val (.int ff), .val (.ref b113), .val (.int (4 : Int32)), .val (.int (1 : Int32))] []))
    refine OGo.st (fun t k => XS.iload X202.here hx rfl (hb hby at_85) rfl k) ?_
    show OGo p.tables e below _ (T202.setTop (mkF m 87 #[.val (.int p0), .val (.int p1), .val (.int p2), .val (.int p3), .val (.long q4), .second, .val (.int p5), .val (.ref b101), .val (.int ff), .val (.ref b113), .val (.int (4 : Int32)), .val (.int (1 : Int32))] [(.int (4 : Int32))]))
    refine OGo.st (fun t k => XS.ifNo X202.here hx rfl (hb hby at_87) rfl ((if0 _ _).trans (tlt (by decide : (0 : Int32) < (4 : Int32))).2.2.2) k) ?_
    show OGo p.tables e below _ (T202.setTop (mkF m 90 #[.val (.int p0), .val (.int p1), .val (.int p2), .val (.int p3), .val (.long q4), .second, .val (.int p5), .val (.ref b101), .val (.int ff), .val (.ref b113), .val (.int (4 : Int32)), .val (.int (1 : Int32))] []))
    refine OGo.st (fun t k => XS.aload X202.here hx rfl (hb hby at_90) rfl rfl k) ?_
    show OGo p.tables e below _ (T202.setTop (mkF m 92 #[.val (.int p0), .val (.int p1), .val (.int p2), .val (.int p3), .val (.long q4), .second, .val (.int p5), .val (.ref b101), .val (.int ff), .val (.ref b113), .val (.int (4 : Int32)), .val (.int (1 : Int32))] [(.ref b113)]))
    refine OGo.st (fun t k => XS.iloadN X202.here hx rfl (hb hby at_92) rfl k) ?_
    show OGo p.tables e below _ (T202.setTop (mkF m 93 #[.val (.int p0), .val (.int p1), .val (.int p2), .val (.int p3), .val (.long q4), .second, .val (.int p5), .val (.ref b101), .val (.int ff), .val (.ref b113), .val (.int (4 : Int32)), .val (.int (1 : Int32))] [(.int p2), (.ref b113)]))
    refine OGo.st (fun t k => XS.iconst X202.here hx rfl (hb hby at_93) k) ?_
    show OGo p.tables e below _ (T202.setTop (mkF m 94 #[.val (.int p0), .val (.int p1), .val (.int p2), .val (.int p3), .val (.long q4), .second, .val (.int p5), .val (.ref b101), .val (.int ff), .val (.ref b113), .val (.int (4 : Int32)), .val (.int (1 : Int32))] [(.int (1 : Int32)), (.int p2), (.ref b113)]))
    refine OGo.st (fun t k => XS.iand X202.here hx rfl (hb hby at_94) rfl k) ?_
    show OGo p.tables e below _ (T202.setTop (mkF m 95 #[.val (.int p0), .val (.int p1), .val (.int p2), .val (.int p3), .val (.long q4), .second, .val (.int p5), .val (.ref b101), .val (.int ff), .val (.ref b113), .val (.int (4 : Int32)), .val (.int (1 : Int32))] [(.int (p2 &&& (1 : Int32))), (.ref b113)]))
    refine OGo.join (α := Int32) (fun tg => True) (fun tg => T202.setTop (mkF m 103 #[.val (.int p0), .val (.int p1), .val (.int p2), .val (.int p3), .val (.long q4), .second, .val (.int p5), .val (.ref b101), .val (.int ff), .val (.ref b113), .val (.int (4 : Int32)), .val (.int (1 : Int32))] [(.int tg), (.ref b113)])) ?_ (fun jn103_204 => ?_)
    ·
      intro tg hj103_204
      show OGo p.tables e below _ (T202.setTop (mkF m 103 #[.val (.int p0), .val (.int p1), .val (.int p2), .val (.int p3), .val (.long q4), .second, .val (.int p5), .val (.ref b101), .val (.int ff), .val (.ref b113), .val (.int (4 : Int32)), .val (.int (1 : Int32))] [(.int tg), (.ref b113)]))
      refine OGo.st (fun t k => XS.iloadN X202.here hx rfl (hb hby at_103) rfl k) ?_
      show OGo p.tables e below _ (T202.setTop (mkF m 104 #[.val (.int p0), .val (.int p1), .val (.int p2), .val (.int p3), .val (.long q4), .second, .val (.int p5), .val (.ref b101), .val (.int ff), .val (.ref b113), .val (.int (4 : Int32)), .val (.int (1 : Int32))] [(.int p3), (.int tg), (.ref b113)]))
      refine OGo.st (fun t k => XS.lload X202.here hx rfl (hb hby at_104) rfl k) ?_
      show OGo p.tables e below _ (T202.setTop (mkF m 106 #[.val (.int p0), .val (.int p1), .val (.int p2), .val (.int p3), .val (.long q4), .second, .val (.int p5), .val (.ref b101), .val (.int ff), .val (.ref b113), .val (.int (4 : Int32)), .val (.int (1 : Int32))] [(.long q4), (.int p3), (.int tg), (.ref b113)]))
      refine OGo.st (fun t k => XS.iload X202.here hx rfl (hb hby at_106) rfl k) ?_
      show OGo p.tables e below _ (T202.setTop (mkF m 108 #[.val (.int p0), .val (.int p1), .val (.int p2), .val (.int p3), .val (.long q4), .second, .val (.int p5), .val (.ref b101), .val (.int ff), .val (.ref b113), .val (.int (4 : Int32)), .val (.int (1 : Int32))] [(.int p5), (.long q4), (.int p3), (.int tg), (.ref b113)]))
      have G205 : Fld Z T140.heap b101 "com/example/pathsieve/pathsieve/engine/Outbox" "taken" "I" (.int ff) := ((Fld.ext E128 (Fld.ext E123 (Fld.ext E119 ((Fld.ext E113 Fw110).keep K115 (ninS ne_b101_b113 nin0))))).keep K140 (ninS ne_b101_b113 nin0))
      have G206 : Fld Z T140.heap b101 "com/example/pathsieve/pathsieve/engine/Outbox" "nextBlocks" "[I" (.ref b104) := ((Fld.ext E128 (Fld.ext E123 (Fld.ext E119 ((Fld.ext E113 (Fld.other W110 Fw107 (Or.inr (slot_ne (Or.inl (hw _ (List.mem_of_getElem? (i := 16) rfl))) (Or.inl (hw _ (List.mem_of_getElem? (i := 36) rfl))) (by decide) (t := (.array .int)) (t' := .int) (by decide) (by decide))))).keep K115 (ninS ne_b101_b113 nin0))))).keep K140 (ninS ne_b101_b113 nin0))
      have G207 : Arv Z T140.heap b104 k104 .int (4 : Int32) [(.int (0 : Int32)), (.int (0 : Int32)), (.int (0 : Int32)), (.int (0 : Int32))] (.int (0 : Int32)) := ((G125.ext E128).keep K140 (ninS ne_b104_b113 nin0))
      have G208 : Exa Z T140.heap b101 "com/example/pathsieve/pathsieve/engine/Outbox" := ((Exa.ext E128 G124).keep K140)
      have G209 : Arh Z T140.heap b119 k119 .int (2048 : Int32) [] [] (.int (0 : Int32)) := ((G127.ext E128).keep K140 (ninS (Ne.symm ne_b113_b119) nin0))
      have G210 : Arh Z T140.heap b123 k123 .long (2048 : Int32) [] [] (.long (0 : Int64)) := ((V123.arh.ext E128).keep K140 (ninS (Ne.symm ne_b113_b123) nin0))
      have G211 : Arh Z T140.heap b128 k128 .int (2048 : Int32) [] [] (.int (0 : Int32)) := (V128.arh.keep K140 (ninS (Ne.symm ne_b113_b128) nin0))
      obtain ⟨_, _, ⟨T212, L212, kk212, nn212⟩, -, X212, ⟨Lc212, hQ212, l212, y212, z212⟩, st212⟩ := Jvm.LawKit.callS X202 hx (y := (⟨"com/example/pathsieve/pathsieve/engine/MessagesSizePinLaw", "send", "(Lcom/example/pathsieve/pathsieve/engine/Messages;ZIJI)V"⟩ : MethodName)) hown (mvT hZ (hw _ (List.mem_of_getElem? (i := 70) rfl))) (mvT hZ (hw _ (List.mem_of_getElem? (i := 71) rfl))) (mvT hZ (hw _ (List.mem_of_getElem? (i := 72) rfl))) (mvT hZ (hw _ (List.mem_of_getElem? (i := 73) rfl))) (by decide) (backOf (W := 0) (rm10 l Z ar hw [] b113 tg p3 q4 p5 b101 ff b104 k104 b119 k119 [] b123 k123 [] b128 k128 [] T140.heap n0 (Nat.le_trans (Nat.le_trans (Nat.le_trans (Nat.le_trans (Nat.le_trans (Nat.le_trans (Nat.le_trans (Nat.le_trans (Nat.le_trans (Nat.le_trans (Nat.le_trans Z0 E101.1) K102.1) E104.1) (Keep.of_wr W107).1) (Keep.of_wr W110).1) E113.1) K115.1) E119.1) E123.1) E128.1) K140.1) P140_2 G205 G206 G207 G208 G203 P140_4 P140_5 P140_1 P140_0 P140_7 P140_8 P140_9 P140_6 P140_3 G209 G210 G211 (Ne.symm ne_b101_b113) ne_b113_b119 ne_b113_b123 ne_b113_b128 ne_b101_b119 ne_b101_b123 ne_b101_b128 ne_b119_b123 ne_b119_b128 ne_b123_b128 ge_b113 ge_b101 ge_b119 ge_b123 ge_b128 (own_ne (by omega)) (own_rng _ (by omega) (by omega)) (own_rng _ (by have q := c_isub ((ff <<< ((9 : Int32) &&& 31)) + (1 : Int32)) 1; have r := rng32 (((ff <<< ((9 : Int32) &&& 31)) + (1 : Int32)) - 1); omega) (by have q := c_isub ((ff <<< ((9 : Int32) &&& 31)) + (1 : Int32)) 1; have r := rng32 (((ff <<< ((9 : Int32) &&& 31)) + (1 : Int32)) - 1); omega))) hZ (hw _ (List.mem_of_getElem? (i := 73) rfl)) (hw _ (List.mem_of_getElem? (i := 72) rfl)) (by decide) (by decide)) (g := (mkF m 108 #[.val (.int p0), .val (.int p1), .val (.int p2), .val (.int p3), .val (.long q4), .second, .val (.int p5), .val (.ref b101), .val (.int ff), .val (.ref b113), .val (.int (4 : Int32)), .val (.int (1 : Int32))] [(.int p5), (.long q4), (.int p3), (.int tg), (.ref b113)])) rfl (by rw [hml]; rfl) (argsL := [(.ref b113), (.int tg), (.int p3), (.long q4), (.int p5)]) (rest := []) (lenOf pd_8 rfl) rfl (by show 2 * 0 + _ ≤ _; exact Nat.le_of_eq rfl) (hb hby at_108) (fun _ _ => ⟨rfl, e202, (by decide : 10 + 0 ≤ _), (by decide : 6166 + 0 ≤ _)⟩)
      dsimp only [Pt.U, Pt.locs, Pt.cells, Pt.slots] at X212 l212 y212 z212 st212 hQ212
      subst l212 y212 z212
      obtain ⟨x212_tq, rfl, Nq212, K212, P212_0, P212_1, P212_2, P212_3, P212_4, P212_5, P212_6, P212_7, P212_8, P212_9, P212_10⟩ := hQ212
      have N212 := Fr.app N202 Nq212
      refine OGo.st st212 ?_
      show OGo p.tables e below _ (T212.setTop (mkF m 111 #[.val (.int p0), .val (.int p1), .val (.int p2), .val (.int p3), .val (.long q4), .second, .val (.int p5), .val (.ref b101), .val (.int ff), .val (.ref b113), .val (.int (4 : Int32)), .val (.int (1 : Int32))] []))
      refine OGo.st (fun t k => XS.iload X212.here hx rfl (hb hby at_111) rfl k) ?_
      show OGo p.tables e below _ (T212.setTop (mkF m 113 #[.val (.int p0), .val (.int p1), .val (.int p2), .val (.int p3), .val (.long q4), .second, .val (.int p5), .val (.ref b101), .val (.int ff), .val (.ref b113), .val (.int (4 : Int32)), .val (.int (1 : Int32))] [(.int (4 : Int32))]))
      refine OGo.st (fun t k => XS.iconst X212.here hx rfl (hb hby at_113) k) ?_
      show OGo p.tables e below _ (T212.setTop (mkF m 114 #[.val (.int p0), .val (.int p1), .val (.int p2), .val (.int p3), .val (.long q4), .second, .val (.int p5), .val (.ref b101), .val (.int ff), .val (.ref b113), .val (.int (4 : Int32)), .val (.int (1 : Int32))] [(.int (1 : Int32)), (.int (4 : Int32))]))
      refine OGo.st (fun t k => XS.icmpNo X212.here hx rfl (hb hby at_114) rfl (tlt (by decide : (1 : Int32) < (4 : Int32))).2.2.2 k) ?_
      show OGo p.tables e below _ (T212.setTop (mkF m 117 #[.val (.int p0), .val (.int p1), .val (.int p2), .val (.int p3), .val (.long q4), .second, .val (.int p5), .val (.ref b101), .val (.int ff), .val (.ref b113), .val (.int (4 : Int32)), .val (.int (1 : Int32))] []))
      refine OGo.st (fun t k => XS.aload X212.here hx rfl (hb hby at_117) rfl rfl k) ?_
      show OGo p.tables e below _ (T212.setTop (mkF m 119 #[.val (.int p0), .val (.int p1), .val (.int p2), .val (.int p3), .val (.long q4), .second, .val (.int p5), .val (.ref b101), .val (.int ff), .val (.ref b113), .val (.int (4 : Int32)), .val (.int (1 : Int32))] [(.ref b113)]))
      refine OGo.st (fun t k => XS.iloadN X212.here hx rfl (hb hby at_119) rfl k) ?_
      show OGo p.tables e below _ (T212.setTop (mkF m 120 #[.val (.int p0), .val (.int p1), .val (.int p2), .val (.int p3), .val (.long q4), .second, .val (.int p5), .val (.ref b101), .val (.int ff), .val (.ref b113), .val (.int (4 : Int32)), .val (.int (1 : Int32))] [(.int p2), (.ref b113)]))
      refine OGo.st (fun t k => XS.iconst X212.here hx rfl (hb hby at_120) k) ?_
      show OGo p.tables e below _ (T212.setTop (mkF m 121 #[.val (.int p0), .val (.int p1), .val (.int p2), .val (.int p3), .val (.long q4), .second, .val (.int p5), .val (.ref b101), .val (.int ff), .val (.ref b113), .val (.int (4 : Int32)), .val (.int (1 : Int32))] [(.int (2 : Int32)), (.int p2), (.ref b113)]))
      refine OGo.st (fun t k => XS.iand X212.here hx rfl (hb hby at_121) rfl k) ?_
      show OGo p.tables e below _ (T212.setTop (mkF m 122 #[.val (.int p0), .val (.int p1), .val (.int p2), .val (.int p3), .val (.long q4), .second, .val (.int p5), .val (.ref b101), .val (.int ff), .val (.ref b113), .val (.int (4 : Int32)), .val (.int (1 : Int32))] [(.int (p2 &&& (2 : Int32))), (.ref b113)]))
      refine OGo.join (α := Int32) (fun tg => True) (fun tg => T212.setTop (mkF m 130 #[.val (.int p0), .val (.int p1), .val (.int p2), .val (.int p3), .val (.long q4), .second, .val (.int p5), .val (.ref b101), .val (.int ff), .val (.ref b113), .val (.int (4 : Int32)), .val (.int (1 : Int32))] [(.int tg), (.ref b113)])) ?_ (fun jn130_213 => ?_)
      ·
        intro tg hj130_213
        show OGo p.tables e below _ (T212.setTop (mkF m 130 #[.val (.int p0), .val (.int p1), .val (.int p2), .val (.int p3), .val (.long q4), .second, .val (.int p5), .val (.ref b101), .val (.int ff), .val (.ref b113), .val (.int (4 : Int32)), .val (.int (1 : Int32))] [(.int tg), (.ref b113)]))
        refine OGo.st (fun t k => XS.iloadN X212.here hx rfl (hb hby at_130) rfl k) ?_
        show OGo p.tables e below _ (T212.setTop (mkF m 131 #[.val (.int p0), .val (.int p1), .val (.int p2), .val (.int p3), .val (.long q4), .second, .val (.int p5), .val (.ref b101), .val (.int ff), .val (.ref b113), .val (.int (4 : Int32)), .val (.int (1 : Int32))] [(.int p3), (.int tg), (.ref b113)]))
        refine OGo.st (fun t k => XS.iconst X212.here hx rfl (hb hby at_131) k) ?_
        show OGo p.tables e below _ (T212.setTop (mkF m 132 #[.val (.int p0), .val (.int p1), .val (.int p2), .val (.int p3), .val (.long q4), .second, .val (.int p5), .val (.ref b101), .val (.int ff), .val (.ref b113), .val (.int (4 : Int32)), .val (.int (1 : Int32))] [(.int (1 : Int32)), (.int p3), (.int tg), (.ref b113)]))
        refine OGo.st (fun t k => XS.ixor X212.here hx rfl (hb hby at_132) rfl k) ?_
        show OGo p.tables e below _ (T212.setTop (mkF m 133 #[.val (.int p0), .val (.int p1), .val (.int p2), .val (.int p3), .val (.long q4), .second, .val (.int p5), .val (.ref b101), .val (.int ff), .val (.ref b113), .val (.int (4 : Int32)), .val (.int (1 : Int32))] [(.int (p3 ^^^ (1 : Int32))), (.int tg), (.ref b113)]))
        refine OGo.st (fun t k => XS.lload X212.here hx rfl (hb hby at_133) rfl k) ?_
        show OGo p.tables e below _ (T212.setTop (mkF m 135 #[.val (.int p0), .val (.int p1), .val (.int p2), .val (.int p3), .val (.long q4), .second, .val (.int p5), .val (.ref b101), .val (.int ff), .val (.ref b113), .val (.int (4 : Int32)), .val (.int (1 : Int32))] [(.long q4), (.int (p3 ^^^ (1 : Int32))), (.int tg), (.ref b113)]))
        refine OGo.st (fun t k => XS.lconst X212.here hx rfl (hb hby at_135) k) ?_
        show OGo p.tables e below _ (T212.setTop (mkF m 136 #[.val (.int p0), .val (.int p1), .val (.int p2), .val (.int p3), .val (.long q4), .second, .val (.int p5), .val (.ref b101), .val (.int ff), .val (.ref b113), .val (.int (4 : Int32)), .val (.int (1 : Int32))] [(.long (1 : Int64)), (.long q4), (.int (p3 ^^^ (1 : Int32))), (.int tg), (.ref b113)]))
        refine OGo.st (fun t k => XS.ladd X212.here hx rfl (hb hby at_136) rfl k) ?_
        show OGo p.tables e below _ (T212.setTop (mkF m 137 #[.val (.int p0), .val (.int p1), .val (.int p2), .val (.int p3), .val (.long q4), .second, .val (.int p5), .val (.ref b101), .val (.int ff), .val (.ref b113), .val (.int (4 : Int32)), .val (.int (1 : Int32))] [(.long (q4 + (1 : Int64))), (.int (p3 ^^^ (1 : Int32))), (.int tg), (.ref b113)]))
        refine OGo.st (fun t k => XS.iload X212.here hx rfl (hb hby at_137) rfl k) ?_
        show OGo p.tables e below _ (T212.setTop (mkF m 139 #[.val (.int p0), .val (.int p1), .val (.int p2), .val (.int p3), .val (.long q4), .second, .val (.int p5), .val (.ref b101), .val (.int ff), .val (.ref b113), .val (.int (4 : Int32)), .val (.int (1 : Int32))] [(.int p5), (.long (q4 + (1 : Int64))), (.int (p3 ^^^ (1 : Int32))), (.int tg), (.ref b113)]))
        refine OGo.st (fun t k => XS.iconst X212.here hx rfl (hb hby at_139) k) ?_
        show OGo p.tables e below _ (T212.setTop (mkF m 140 #[.val (.int p0), .val (.int p1), .val (.int p2), .val (.int p3), .val (.long q4), .second, .val (.int p5), .val (.ref b101), .val (.int ff), .val (.ref b113), .val (.int (4 : Int32)), .val (.int (1 : Int32))] [(.int (1 : Int32)), (.int p5), (.long (q4 + (1 : Int64))), (.int (p3 ^^^ (1 : Int32))), (.int tg), (.ref b113)]))
        refine OGo.st (fun t k => XS.ixor X212.here hx rfl (hb hby at_140) rfl k) ?_
        show OGo p.tables e below _ (T212.setTop (mkF m 141 #[.val (.int p0), .val (.int p1), .val (.int p2), .val (.int p3), .val (.long q4), .second, .val (.int p5), .val (.ref b101), .val (.int ff), .val (.ref b113), .val (.int (4 : Int32)), .val (.int (1 : Int32))] [(.int (p5 ^^^ (1 : Int32))), (.long (q4 + (1 : Int64))), (.int (p3 ^^^ (1 : Int32))), (.int tg), (.ref b113)]))
        have G214 : Exa Z T212.heap b113 "com/example/pathsieve/pathsieve/engine/Messages" := (G203.keep K212)
        obtain ⟨_, _, ⟨T215, L215, kk215, nn215⟩, -, X215, ⟨Lc215, hQ215, l215, y215, z215⟩, st215⟩ := Jvm.LawKit.callS X212 hx (y := (⟨"com/example/pathsieve/pathsieve/engine/MessagesSizePinLaw", "send", "(Lcom/example/pathsieve/pathsieve/engine/Messages;ZIJI)V"⟩ : MethodName)) hown (mvT hZ (hw _ (List.mem_of_getElem? (i := 70) rfl))) (mvT hZ (hw _ (List.mem_of_getElem? (i := 71) rfl))) (mvT hZ (hw _ (List.mem_of_getElem? (i := 72) rfl))) (mvT hZ (hw _ (List.mem_of_getElem? (i := 73) rfl))) (by decide) (backOf (W := 0) (rm13 l Z ar hw [] b113 tg (p3 ^^^ (1 : Int32)) (q4 + (1 : Int64)) (p5 ^^^ (1 : Int32)) ((ff <<< ((9 : Int32) &&& 31)) + (1 : Int32)) ((ff <<< ((9 : Int32) &&& 31)) + ((1 : Int32) <<< ((9 : Int32) &&& 31))) ff b119 k119 (((ff <<< ((9 : Int32) &&& 31)), (.int p3)) :: []) b123 k123 (((ff <<< ((9 : Int32) &&& 31)), (.long q4)) :: []) b128 k128 x212_tq T212.heap n0 (Nat.le_trans (Nat.le_trans (Nat.le_trans (Nat.le_trans (Nat.le_trans (Nat.le_trans (Nat.le_trans (Nat.le_trans (Nat.le_trans (Nat.le_trans (Nat.le_trans (Nat.le_trans Z0 E101.1) K102.1) E104.1) (Keep.of_wr W107).1) (Keep.of_wr W110).1) E113.1) K115.1) E119.1) E123.1) E128.1) K140.1) K212.1) G214 P212_5 P212_6 P212_7 P212_0 P212_1 P212_2 P212_3 P212_4 P212_8 P212_9 P212_10 ne_b113_b119 ne_b113_b123 ne_b113_b128 ne_b119_b123 ne_b119_b128 ne_b123_b128 ge_b113 ge_b119 ge_b123 ge_b128 (own_ne (by omega)) (own_rng _ (by omega) (by omega)) (own_rng _ (by have q1 := c_iadd ((ff <<< ((9 : Int32) &&& 31)) + (1 : Int32)) 1; have r1 := rng32 (((ff <<< ((9 : Int32) &&& 31)) + (1 : Int32)) + (1 : Int32)); have q := c_isub (((ff <<< ((9 : Int32) &&& 31)) + (1 : Int32)) + (1 : Int32)) 1; have r := rng32 ((((ff <<< ((9 : Int32) &&& 31)) + (1 : Int32)) + (1 : Int32)) - 1); omega) (by have q1 := c_iadd ((ff <<< ((9 : Int32) &&& 31)) + (1 : Int32)) 1; have r1 := rng32 (((ff <<< ((9 : Int32) &&& 31)) + (1 : Int32)) + (1 : Int32)); have q := c_isub (((ff <<< ((9 : Int32) &&& 31)) + (1 : Int32)) + (1 : Int32)) 1; have r := rng32 ((((ff <<< ((9 : Int32) &&& 31)) + (1 : Int32)) + (1 : Int32)) - 1); omega))) hZ (hw _ (List.mem_of_getElem? (i := 73) rfl)) (hw _ (List.mem_of_getElem? (i := 72) rfl)) (by decide) (by decide)) (g := (mkF m 141 #[.val (.int p0), .val (.int p1), .val (.int p2), .val (.int p3), .val (.long q4), .second, .val (.int p5), .val (.ref b101), .val (.int ff), .val (.ref b113), .val (.int (4 : Int32)), .val (.int (1 : Int32))] [(.int (p5 ^^^ (1 : Int32))), (.long (q4 + (1 : Int64))), (.int (p3 ^^^ (1 : Int32))), (.int tg), (.ref b113)])) rfl (by rw [hml]; rfl) (argsL := [(.ref b113), (.int tg), (.int (p3 ^^^ (1 : Int32))), (.long (q4 + (1 : Int64))), (.int (p5 ^^^ (1 : Int32)))]) (rest := []) (lenOf pd_8 rfl) rfl (by show 2 * 0 + _ ≤ _; exact Nat.le_of_eq rfl) (hb hby at_141) (fun _ _ => ⟨rfl, rfl, (by decide : 10 + 0 ≤ _), (by decide : 6166 + 0 ≤ _)⟩)
        dsimp only [Pt.U, Pt.locs, Pt.cells, Pt.slots] at X215 l215 y215 z215 st215 hQ215
        subst l215 y215 z215
        obtain ⟨x215_tq, rfl, Nq215, K215, P215_0, P215_1, P215_2, P215_3, P215_4, P215_5, P215_6, P215_7, P215_8, P215_9, P215_10⟩ := hQ215
        have N215 := Fr.app N212 Nq215
        refine OGo.st st215 ?_
        show OGo p.tables e below _ (T215.setTop (mkF m 144 #[.val (.int p0), .val (.int p1), .val (.int p2), .val (.int p3), .val (.long q4), .second, .val (.int p5), .val (.ref b101), .val (.int ff), .val (.ref b113), .val (.int (4 : Int32)), .val (.int (1 : Int32))] []))
        refine OGo.st (fun t k => XS.iload X215.here hx rfl (hb hby at_144) rfl k) ?_
        show OGo p.tables e below _ (T215.setTop (mkF m 146 #[.val (.int p0), .val (.int p1), .val (.int p2), .val (.int p3), .val (.long q4), .second, .val (.int p5), .val (.ref b101), .val (.int ff), .val (.ref b113), .val (.int (4 : Int32)), .val (.int (1 : Int32))] [(.int (4 : Int32))]))
        refine OGo.st (fun t k => XS.iconst X215.here hx rfl (hb hby at_146) k) ?_
        show OGo p.tables e below _ (T215.setTop (mkF m 147 #[.val (.int p0), .val (.int p1), .val (.int p2), .val (.int p3), .val (.long q4), .second, .val (.int p5), .val (.ref b101), .val (.int ff), .val (.ref b113), .val (.int (4 : Int32)), .val (.int (1 : Int32))] [(.int (2 : Int32)), (.int (4 : Int32))]))
        refine OGo.st (fun t k => XS.icmpNo X215.here hx rfl (hb hby at_147) rfl (tlt (by decide : (2 : Int32) < (4 : Int32))).2.2.2 k) ?_
        show OGo p.tables e below _ (T215.setTop (mkF m 150 #[.val (.int p0), .val (.int p1), .val (.int p2), .val (.int p3), .val (.long q4), .second, .val (.int p5), .val (.ref b101), .val (.int ff), .val (.ref b113), .val (.int (4 : Int32)), .val (.int (1 : Int32))] []))
        refine OGo.st (fun t k => XS.aload X215.here hx rfl (hb hby at_150) rfl rfl k) ?_
        show OGo p.tables e below _ (T215.setTop (mkF m 152 #[.val (.int p0), .val (.int p1), .val (.int p2), .val (.int p3), .val (.long q4), .second, .val (.int p5), .val (.ref b101), .val (.int ff), .val (.ref b113), .val (.int (4 : Int32)), .val (.int (1 : Int32))] [(.ref b113)]))
        refine OGo.st (fun t k => XS.iloadN X215.here hx rfl (hb hby at_152) rfl k) ?_
        show OGo p.tables e below _ (T215.setTop (mkF m 153 #[.val (.int p0), .val (.int p1), .val (.int p2), .val (.int p3), .val (.long q4), .second, .val (.int p5), .val (.ref b101), .val (.int ff), .val (.ref b113), .val (.int (4 : Int32)), .val (.int (1 : Int32))] [(.int p2), (.ref b113)]))
        refine OGo.st (fun t k => XS.iconst X215.here hx rfl (hb hby at_153) k) ?_
        show OGo p.tables e below _ (T215.setTop (mkF m 154 #[.val (.int p0), .val (.int p1), .val (.int p2), .val (.int p3), .val (.long q4), .second, .val (.int p5), .val (.ref b101), .val (.int ff), .val (.ref b113), .val (.int (4 : Int32)), .val (.int (1 : Int32))] [(.int (4 : Int32)), (.int p2), (.ref b113)]))
        refine OGo.st (fun t k => XS.iand X215.here hx rfl (hb hby at_154) rfl k) ?_
        show OGo p.tables e below _ (T215.setTop (mkF m 155 #[.val (.int p0), .val (.int p1), .val (.int p2), .val (.int p3), .val (.long q4), .second, .val (.int p5), .val (.ref b101), .val (.int ff), .val (.ref b113), .val (.int (4 : Int32)), .val (.int (1 : Int32))] [(.int (p2 &&& (4 : Int32))), (.ref b113)]))
        refine OGo.join (α := Int32) (fun tg => True) (fun tg => T215.setTop (mkF m 163 #[.val (.int p0), .val (.int p1), .val (.int p2), .val (.int p3), .val (.long q4), .second, .val (.int p5), .val (.ref b101), .val (.int ff), .val (.ref b113), .val (.int (4 : Int32)), .val (.int (1 : Int32))] [(.int tg), (.ref b113)])) ?_ (fun jn163_216 => ?_)
        ·
          intro tg hj163_216
          show OGo p.tables e below _ (T215.setTop (mkF m 163 #[.val (.int p0), .val (.int p1), .val (.int p2), .val (.int p3), .val (.long q4), .second, .val (.int p5), .val (.ref b101), .val (.int ff), .val (.ref b113), .val (.int (4 : Int32)), .val (.int (1 : Int32))] [(.int tg), (.ref b113)]))
          refine OGo.st (fun t k => XS.iloadN X215.here hx rfl (hb hby at_163) rfl k) ?_
          show OGo p.tables e below _ (T215.setTop (mkF m 164 #[.val (.int p0), .val (.int p1), .val (.int p2), .val (.int p3), .val (.long q4), .second, .val (.int p5), .val (.ref b101), .val (.int ff), .val (.ref b113), .val (.int (4 : Int32)), .val (.int (1 : Int32))] [(.int p3), (.int tg), (.ref b113)]))
          refine OGo.st (fun t k => XS.iconst X215.here hx rfl (hb hby at_164) k) ?_
          show OGo p.tables e below _ (T215.setTop (mkF m 165 #[.val (.int p0), .val (.int p1), .val (.int p2), .val (.int p3), .val (.long q4), .second, .val (.int p5), .val (.ref b101), .val (.int ff), .val (.ref b113), .val (.int (4 : Int32)), .val (.int (1 : Int32))] [(.int (2 : Int32)), (.int p3), (.int tg), (.ref b113)]))
          refine OGo.st (fun t k => XS.ixor X215.here hx rfl (hb hby at_165) rfl k) ?_
          show OGo p.tables e below _ (T215.setTop (mkF m 166 #[.val (.int p0), .val (.int p1), .val (.int p2), .val (.int p3), .val (.long q4), .second, .val (.int p5), .val (.ref b101), .val (.int ff), .val (.ref b113), .val (.int (4 : Int32)), .val (.int (1 : Int32))] [(.int (p3 ^^^ (2 : Int32))), (.int tg), (.ref b113)]))
          refine OGo.st (fun t k => XS.lload X215.here hx rfl (hb hby at_166) rfl k) ?_
          show OGo p.tables e below _ (T215.setTop (mkF m 168 #[.val (.int p0), .val (.int p1), .val (.int p2), .val (.int p3), .val (.long q4), .second, .val (.int p5), .val (.ref b101), .val (.int ff), .val (.ref b113), .val (.int (4 : Int32)), .val (.int (1 : Int32))] [(.long q4), (.int (p3 ^^^ (2 : Int32))), (.int tg), (.ref b113)]))
          refine OGo.st (fun t k => XS.lconst X215.here hx rfl (hb hby at_168) k) ?_
          show OGo p.tables e below _ (T215.setTop (mkF m 169 #[.val (.int p0), .val (.int p1), .val (.int p2), .val (.int p3), .val (.long q4), .second, .val (.int p5), .val (.ref b101), .val (.int ff), .val (.ref b113), .val (.int (4 : Int32)), .val (.int (1 : Int32))] [(.long (1 : Int64)), (.long q4), (.int (p3 ^^^ (2 : Int32))), (.int tg), (.ref b113)]))
          refine OGo.st (fun t k => XS.lsub X215.here hx rfl (hb hby at_169) rfl k) ?_
          show OGo p.tables e below _ (T215.setTop (mkF m 170 #[.val (.int p0), .val (.int p1), .val (.int p2), .val (.int p3), .val (.long q4), .second, .val (.int p5), .val (.ref b101), .val (.int ff), .val (.ref b113), .val (.int (4 : Int32)), .val (.int (1 : Int32))] [(.long (q4 - (1 : Int64))), (.int (p3 ^^^ (2 : Int32))), (.int tg), (.ref b113)]))
          refine OGo.st (fun t k => XS.iload X215.here hx rfl (hb hby at_170) rfl k) ?_
          show OGo p.tables e below _ (T215.setTop (mkF m 172 #[.val (.int p0), .val (.int p1), .val (.int p2), .val (.int p3), .val (.long q4), .second, .val (.int p5), .val (.ref b101), .val (.int ff), .val (.ref b113), .val (.int (4 : Int32)), .val (.int (1 : Int32))] [(.int p5), (.long (q4 - (1 : Int64))), (.int (p3 ^^^ (2 : Int32))), (.int tg), (.ref b113)]))
          refine OGo.st (fun t k => XS.iconst X215.here hx rfl (hb hby at_172) k) ?_
          show OGo p.tables e below _ (T215.setTop (mkF m 173 #[.val (.int p0), .val (.int p1), .val (.int p2), .val (.int p3), .val (.long q4), .second, .val (.int p5), .val (.ref b101), .val (.int ff), .val (.ref b113), .val (.int (4 : Int32)), .val (.int (1 : Int32))] [(.int (2 : Int32)), (.int p5), (.long (q4 - (1 : Int64))), (.int (p3 ^^^ (2 : Int32))), (.int tg), (.ref b113)]))
          refine OGo.st (fun t k => XS.ixor X215.here hx rfl (hb hby at_173) rfl k) ?_
          show OGo p.tables e below _ (T215.setTop (mkF m 174 #[.val (.int p0), .val (.int p1), .val (.int p2), .val (.int p3), .val (.long q4), .second, .val (.int p5), .val (.ref b101), .val (.int ff), .val (.ref b113), .val (.int (4 : Int32)), .val (.int (1 : Int32))] [(.int (p5 ^^^ (2 : Int32))), (.long (q4 - (1 : Int64))), (.int (p3 ^^^ (2 : Int32))), (.int tg), (.ref b113)]))
          have G217 : Exa Z T215.heap b113 "com/example/pathsieve/pathsieve/engine/Messages" := (G214.keep K215)
          obtain ⟨_, _, ⟨T218, L218, kk218, nn218⟩, -, X218, ⟨Lc218, hQ218, l218, y218, z218⟩, st218⟩ := Jvm.LawKit.callS X215 hx (y := (⟨"com/example/pathsieve/pathsieve/engine/MessagesSizePinLaw", "send", "(Lcom/example/pathsieve/pathsieve/engine/Messages;ZIJI)V"⟩ : MethodName)) hown (mvT hZ (hw _ (List.mem_of_getElem? (i := 70) rfl))) (mvT hZ (hw _ (List.mem_of_getElem? (i := 71) rfl))) (mvT hZ (hw _ (List.mem_of_getElem? (i := 72) rfl))) (mvT hZ (hw _ (List.mem_of_getElem? (i := 73) rfl))) (by decide) (backOf (W := 0) (rm13 l Z ar hw [] b113 tg (p3 ^^^ (2 : Int32)) (q4 - (1 : Int64)) (p5 ^^^ (2 : Int32)) (((ff <<< ((9 : Int32) &&& 31)) + (1 : Int32)) + (1 : Int32)) ((ff <<< ((9 : Int32) &&& 31)) + ((1 : Int32) <<< ((9 : Int32) &&& 31))) ff b119 k119 ((((ff <<< ((9 : Int32) &&& 31)) + (1 : Int32)), (.int (p3 ^^^ (1 : Int32)))) :: (((ff <<< ((9 : Int32) &&& 31)), (.int p3)) :: [])) b123 k123 ((((ff <<< ((9 : Int32) &&& 31)) + (1 : Int32)), (.long (q4 + (1 : Int64)))) :: (((ff <<< ((9 : Int32) &&& 31)), (.long q4)) :: [])) b128 k128 x215_tq T215.heap n0 (Nat.le_trans (Nat.le_trans (Nat.le_trans (Nat.le_trans (Nat.le_trans (Nat.le_trans (Nat.le_trans (Nat.le_trans (Nat.le_trans (Nat.le_trans (Nat.le_trans (Nat.le_trans (Nat.le_trans Z0 E101.1) K102.1) E104.1) (Keep.of_wr W107).1) (Keep.of_wr W110).1) E113.1) K115.1) E119.1) E123.1) E128.1) K140.1) K212.1) K215.1) G217 P215_5 P215_6 P215_7 P215_0 P215_1 P215_2 P215_3 P215_4 P215_8 P215_9 P215_10 ne_b113_b119 ne_b113_b123 ne_b113_b128 ne_b119_b123 ne_b119_b128 ne_b123_b128 ge_b113 ge_b119 ge_b123 ge_b128 (own_ne (by omega)) (own_rng _ (by omega) (by omega)) (own_rng _ (by have q1 := c_iadd (((ff <<< ((9 : Int32) &&& 31)) + (1 : Int32)) + (1 : Int32)) 1; have r1 := rng32 ((((ff <<< ((9 : Int32) &&& 31)) + (1 : Int32)) + (1 : Int32)) + (1 : Int32)); have q := c_isub ((((ff <<< ((9 : Int32) &&& 31)) + (1 : Int32)) + (1 : Int32)) + (1 : Int32)) 1; have r := rng32 (((((ff <<< ((9 : Int32) &&& 31)) + (1 : Int32)) + (1 : Int32)) + (1 : Int32)) - 1); omega) (by have q1 := c_iadd (((ff <<< ((9 : Int32) &&& 31)) + (1 : Int32)) + (1 : Int32)) 1; have r1 := rng32 ((((ff <<< ((9 : Int32) &&& 31)) + (1 : Int32)) + (1 : Int32)) + (1 : Int32)); have q := c_isub ((((ff <<< ((9 : Int32) &&& 31)) + (1 : Int32)) + (1 : Int32)) + (1 : Int32)) 1; have r := rng32 (((((ff <<< ((9 : Int32) &&& 31)) + (1 : Int32)) + (1 : Int32)) + (1 : Int32)) - 1); omega))) hZ (hw _ (List.mem_of_getElem? (i := 73) rfl)) (hw _ (List.mem_of_getElem? (i := 72) rfl)) (by decide) (by decide)) (g := (mkF m 174 #[.val (.int p0), .val (.int p1), .val (.int p2), .val (.int p3), .val (.long q4), .second, .val (.int p5), .val (.ref b101), .val (.int ff), .val (.ref b113), .val (.int (4 : Int32)), .val (.int (1 : Int32))] [(.int (p5 ^^^ (2 : Int32))), (.long (q4 - (1 : Int64))), (.int (p3 ^^^ (2 : Int32))), (.int tg), (.ref b113)])) rfl (by rw [hml]; rfl) (argsL := [(.ref b113), (.int tg), (.int (p3 ^^^ (2 : Int32))), (.long (q4 - (1 : Int64))), (.int (p5 ^^^ (2 : Int32)))]) (rest := []) (lenOf pd_8 rfl) rfl (by show 2 * 0 + _ ≤ _; exact Nat.le_of_eq rfl) (hb hby at_174) (fun _ _ => ⟨rfl, rfl, (by decide : 10 + 0 ≤ _), (by decide : 6166 + 0 ≤ _)⟩)
          dsimp only [Pt.U, Pt.locs, Pt.cells, Pt.slots] at X218 l218 y218 z218 st218 hQ218
          subst l218 y218 z218
          obtain ⟨x218_tq, rfl, Nq218, K218, P218_0, P218_1, P218_2, P218_3, P218_4, P218_5, P218_6, P218_7, P218_8, P218_9, P218_10⟩ := hQ218
          have N218 := Fr.app N215 Nq218
          refine OGo.st st218 ?_
          show OGo p.tables e below _ (T218.setTop (mkF m 177 #[.val (.int p0), .val (.int p1), .val (.int p2), .val (.int p3), .val (.long q4), .second, .val (.int p5), .val (.ref b101), .val (.int ff), .val (.ref b113), .val (.int (4 : Int32)), .val (.int (1 : Int32))] []))
          refine OGo.st (fun t k => XS.iload X218.here hx rfl (hb hby at_177) rfl k) ?_
          show OGo p.tables e below _ (T218.setTop (mkF m 179 #[.val (.int p0), .val (.int p1), .val (.int p2), .val (.int p3), .val (.long q4), .second, .val (.int p5), .val (.ref b101), .val (.int ff), .val (.ref b113), .val (.int (4 : Int32)), .val (.int (1 : Int32))] [(.int (4 : Int32))]))
          refine OGo.st (fun t k => XS.iconst X218.here hx rfl (hb hby at_179) k) ?_
          show OGo p.tables e below _ (T218.setTop (mkF m 180 #[.val (.int p0), .val (.int p1), .val (.int p2), .val (.int p3), .val (.long q4), .second, .val (.int p5), .val (.ref b101), .val (.int ff), .val (.ref b113), .val (.int (4 : Int32)), .val (.int (1 : Int32))] [(.int (3 : Int32)), (.int (4 : Int32))]))
          refine OGo.st (fun t k => XS.icmpNo X218.here hx rfl (hb hby at_180) rfl (tlt (by decide : (3 : Int32) < (4 : Int32))).2.2.2 k) ?_
          show OGo p.tables e below _ (T218.setTop (mkF m 183 #[.val (.int p0), .val (.int p1), .val (.int p2), .val (.int p3), .val (.long q4), .second, .val (.int p5), .val (.ref b101), .val (.int ff), .val (.ref b113), .val (.int (4 : Int32)), .val (.int (1 : Int32))] []))
          refine OGo.st (fun t k => XS.aload X218.here hx rfl (hb hby at_183) rfl rfl k) ?_
          show OGo p.tables e below _ (T218.setTop (mkF m 185 #[.val (.int p0), .val (.int p1), .val (.int p2), .val (.int p3), .val (.long q4), .second, .val (.int p5), .val (.ref b101), .val (.int ff), .val (.ref b113), .val (.int (4 : Int32)), .val (.int (1 : Int32))] [(.ref b113)]))
          refine OGo.st (fun t k => XS.iloadN X218.here hx rfl (hb hby at_185) rfl k) ?_
          show OGo p.tables e below _ (T218.setTop (mkF m 186 #[.val (.int p0), .val (.int p1), .val (.int p2), .val (.int p3), .val (.long q4), .second, .val (.int p5), .val (.ref b101), .val (.int ff), .val (.ref b113), .val (.int (4 : Int32)), .val (.int (1 : Int32))] [(.int p2), (.ref b113)]))
          refine OGo.st (fun t k => XS.bipush X218.here hx rfl (hb hby at_186) k) ?_
          show OGo p.tables e below _ (T218.setTop (mkF m 188 #[.val (.int p0), .val (.int p1), .val (.int p2), .val (.int p3), .val (.long q4), .second, .val (.int p5), .val (.ref b101), .val (.int ff), .val (.ref b113), .val (.int (4 : Int32)), .val (.int (1 : Int32))] [(.int (8 : Int32)), (.int p2), (.ref b113)]))
          refine OGo.st (fun t k => XS.iand X218.here hx rfl (hb hby at_188) rfl k) ?_
          show OGo p.tables e below _ (T218.setTop (mkF m 189 #[.val (.int p0), .val (.int p1), .val (.int p2), .val (.int p3), .val (.long q4), .second, .val (.int p5), .val (.ref b101), .val (.int ff), .val (.ref b113), .val (.int (4 : Int32)), .val (.int (1 : Int32))] [(.int (p2 &&& (8 : Int32))), (.ref b113)]))
          refine OGo.join (α := Int32) (fun tg => True) (fun tg => T218.setTop (mkF m 197 #[.val (.int p0), .val (.int p1), .val (.int p2), .val (.int p3), .val (.long q4), .second, .val (.int p5), .val (.ref b101), .val (.int ff), .val (.ref b113), .val (.int (4 : Int32)), .val (.int (1 : Int32))] [(.int tg), (.ref b113)])) ?_ (fun jn197_219 => ?_)
          ·
            intro tg hj197_219
            show OGo p.tables e below _ (T218.setTop (mkF m 197 #[.val (.int p0), .val (.int p1), .val (.int p2), .val (.int p3), .val (.long q4), .second, .val (.int p5), .val (.ref b101), .val (.int ff), .val (.ref b113), .val (.int (4 : Int32)), .val (.int (1 : Int32))] [(.int tg), (.ref b113)]))
            refine OGo.st (fun t k => XS.iloadN X218.here hx rfl (hb hby at_197) rfl k) ?_
            show OGo p.tables e below _ (T218.setTop (mkF m 198 #[.val (.int p0), .val (.int p1), .val (.int p2), .val (.int p3), .val (.long q4), .second, .val (.int p5), .val (.ref b101), .val (.int ff), .val (.ref b113), .val (.int (4 : Int32)), .val (.int (1 : Int32))] [(.int p3), (.int tg), (.ref b113)]))
            refine OGo.st (fun t k => XS.iconst X218.here hx rfl (hb hby at_198) k) ?_
            show OGo p.tables e below _ (T218.setTop (mkF m 199 #[.val (.int p0), .val (.int p1), .val (.int p2), .val (.int p3), .val (.long q4), .second, .val (.int p5), .val (.ref b101), .val (.int ff), .val (.ref b113), .val (.int (4 : Int32)), .val (.int (1 : Int32))] [(.int (-1 : Int32)), (.int p3), (.int tg), (.ref b113)]))
            refine OGo.st (fun t k => XS.ixor X218.here hx rfl (hb hby at_199) rfl k) ?_
            show OGo p.tables e below _ (T218.setTop (mkF m 200 #[.val (.int p0), .val (.int p1), .val (.int p2), .val (.int p3), .val (.long q4), .second, .val (.int p5), .val (.ref b101), .val (.int ff), .val (.ref b113), .val (.int (4 : Int32)), .val (.int (1 : Int32))] [(.int (p3 ^^^ (-1 : Int32))), (.int tg), (.ref b113)]))
            refine OGo.st (fun t k => XS.lload X218.here hx rfl (hb hby at_200) rfl k) ?_
            show OGo p.tables e below _ (T218.setTop (mkF m 202 #[.val (.int p0), .val (.int p1), .val (.int p2), .val (.int p3), .val (.long q4), .second, .val (.int p5), .val (.ref b101), .val (.int ff), .val (.ref b113), .val (.int (4 : Int32)), .val (.int (1 : Int32))] [(.long q4), (.int (p3 ^^^ (-1 : Int32))), (.int tg), (.ref b113)]))
            refine OGo.st (fun t k => X218.ldc2Long hx hown (mvT hZ (hw _ (List.mem_of_getElem? (i := 93) rfl))) (g := (mkF m 202 #[.val (.int p0), .val (.int p1), .val (.int p2), .val (.int p3), .val (.long q4), .second, .val (.int p5), .val (.ref b101), .val (.int ff), .val (.ref b113), .val (.int (4 : Int32)), .val (.int (1 : Int32))] [(.long q4), (.int (p3 ^^^ (-1 : Int32))), (.int tg), (.ref b113)])) rfl (hb hby at_202) _ k) ?_
            show OGo p.tables e below _ (T218.setTop (mkF m 205 #[.val (.int p0), .val (.int p1), .val (.int p2), .val (.int p3), .val (.long q4), .second, .val (.int p5), .val (.ref b101), .val (.int ff), .val (.ref b113), .val (.int (4 : Int32)), .val (.int (1 : Int32))] [(.long (-1 : Int64)), (.long q4), (.int (p3 ^^^ (-1 : Int32))), (.int tg), (.ref b113)]))
            refine OGo.st (fun t k => XS.lxor X218.here hx rfl (hb hby at_205) rfl k) ?_
            show OGo p.tables e below _ (T218.setTop (mkF m 206 #[.val (.int p0), .val (.int p1), .val (.int p2), .val (.int p3), .val (.long q4), .second, .val (.int p5), .val (.ref b101), .val (.int ff), .val (.ref b113), .val (.int (4 : Int32)), .val (.int (1 : Int32))] [(.long (q4 ^^^ (-1 : Int64))), (.int (p3 ^^^ (-1 : Int32))), (.int tg), (.ref b113)]))
            refine OGo.st (fun t k => XS.iload X218.here hx rfl (hb hby at_206) rfl k) ?_
            show OGo p.tables e below _ (T218.setTop (mkF m 208 #[.val (.int p0), .val (.int p1), .val (.int p2), .val (.int p3), .val (.long q4), .second, .val (.int p5), .val (.ref b101), .val (.int ff), .val (.ref b113), .val (.int (4 : Int32)), .val (.int (1 : Int32))] [(.int p5), (.long (q4 ^^^ (-1 : Int64))), (.int (p3 ^^^ (-1 : Int32))), (.int tg), (.ref b113)]))
            refine OGo.st (fun t k => XS.iconst X218.here hx rfl (hb hby at_208) k) ?_
            show OGo p.tables e below _ (T218.setTop (mkF m 209 #[.val (.int p0), .val (.int p1), .val (.int p2), .val (.int p3), .val (.long q4), .second, .val (.int p5), .val (.ref b101), .val (.int ff), .val (.ref b113), .val (.int (4 : Int32)), .val (.int (1 : Int32))] [(.int (-1 : Int32)), (.int p5), (.long (q4 ^^^ (-1 : Int64))), (.int (p3 ^^^ (-1 : Int32))), (.int tg), (.ref b113)]))
            refine OGo.st (fun t k => XS.ixor X218.here hx rfl (hb hby at_209) rfl k) ?_
            show OGo p.tables e below _ (T218.setTop (mkF m 210 #[.val (.int p0), .val (.int p1), .val (.int p2), .val (.int p3), .val (.long q4), .second, .val (.int p5), .val (.ref b101), .val (.int ff), .val (.ref b113), .val (.int (4 : Int32)), .val (.int (1 : Int32))] [(.int (p5 ^^^ (-1 : Int32))), (.long (q4 ^^^ (-1 : Int64))), (.int (p3 ^^^ (-1 : Int32))), (.int tg), (.ref b113)]))
            have G220 : Exa Z T218.heap b113 "com/example/pathsieve/pathsieve/engine/Messages" := (G217.keep K218)
            obtain ⟨_, _, ⟨T221, L221, kk221, nn221⟩, -, X221, ⟨Lc221, hQ221, l221, y221, z221⟩, st221⟩ := Jvm.LawKit.callS X218 hx (y := (⟨"com/example/pathsieve/pathsieve/engine/MessagesSizePinLaw", "send", "(Lcom/example/pathsieve/pathsieve/engine/Messages;ZIJI)V"⟩ : MethodName)) hown (mvT hZ (hw _ (List.mem_of_getElem? (i := 70) rfl))) (mvT hZ (hw _ (List.mem_of_getElem? (i := 71) rfl))) (mvT hZ (hw _ (List.mem_of_getElem? (i := 72) rfl))) (mvT hZ (hw _ (List.mem_of_getElem? (i := 73) rfl))) (by decide) (backOf (W := 0) (rm13 l Z ar hw [] b113 tg (p3 ^^^ (-1 : Int32)) (q4 ^^^ (-1 : Int64)) (p5 ^^^ (-1 : Int32)) ((((ff <<< ((9 : Int32) &&& 31)) + (1 : Int32)) + (1 : Int32)) + (1 : Int32)) ((ff <<< ((9 : Int32) &&& 31)) + ((1 : Int32) <<< ((9 : Int32) &&& 31))) ff b119 k119 (((((ff <<< ((9 : Int32) &&& 31)) + (1 : Int32)) + (1 : Int32)), (.int (p3 ^^^ (2 : Int32)))) :: ((((ff <<< ((9 : Int32) &&& 31)) + (1 : Int32)), (.int (p3 ^^^ (1 : Int32)))) :: (((ff <<< ((9 : Int32) &&& 31)), (.int p3)) :: []))) b123 k123 (((((ff <<< ((9 : Int32) &&& 31)) + (1 : Int32)) + (1 : Int32)), (.long (q4 - (1 : Int64)))) :: ((((ff <<< ((9 : Int32) &&& 31)) + (1 : Int32)), (.long (q4 + (1 : Int64)))) :: (((ff <<< ((9 : Int32) &&& 31)), (.long q4)) :: []))) b128 k128 x218_tq T218.heap n0 (Nat.le_trans (Nat.le_trans (Nat.le_trans (Nat.le_trans (Nat.le_trans (Nat.le_trans (Nat.le_trans (Nat.le_trans (Nat.le_trans (Nat.le_trans (Nat.le_trans (Nat.le_trans (Nat.le_trans (Nat.le_trans Z0 E101.1) K102.1) E104.1) (Keep.of_wr W107).1) (Keep.of_wr W110).1) E113.1) K115.1) E119.1) E123.1) E128.1) K140.1) K212.1) K215.1) K218.1) G220 P218_5 P218_6 P218_7 P218_0 P218_1 P218_2 P218_3 P218_4 P218_8 P218_9 P218_10 ne_b113_b119 ne_b113_b123 ne_b113_b128 ne_b119_b123 ne_b119_b128 ne_b123_b128 ge_b113 ge_b119 ge_b123 ge_b128 (own_ne (by omega)) (own_rng _ (by omega) (by omega)) (own_rng _ (by have q1 := c_iadd ((((ff <<< ((9 : Int32) &&& 31)) + (1 : Int32)) + (1 : Int32)) + (1 : Int32)) 1; have r1 := rng32 (((((ff <<< ((9 : Int32) &&& 31)) + (1 : Int32)) + (1 : Int32)) + (1 : Int32)) + (1 : Int32)); have q := c_isub (((((ff <<< ((9 : Int32) &&& 31)) + (1 : Int32)) + (1 : Int32)) + (1 : Int32)) + (1 : Int32)) 1; have r := rng32 ((((((ff <<< ((9 : Int32) &&& 31)) + (1 : Int32)) + (1 : Int32)) + (1 : Int32)) + (1 : Int32)) - 1); omega) (by have q1 := c_iadd ((((ff <<< ((9 : Int32) &&& 31)) + (1 : Int32)) + (1 : Int32)) + (1 : Int32)) 1; have r1 := rng32 (((((ff <<< ((9 : Int32) &&& 31)) + (1 : Int32)) + (1 : Int32)) + (1 : Int32)) + (1 : Int32)); have q := c_isub (((((ff <<< ((9 : Int32) &&& 31)) + (1 : Int32)) + (1 : Int32)) + (1 : Int32)) + (1 : Int32)) 1; have r := rng32 ((((((ff <<< ((9 : Int32) &&& 31)) + (1 : Int32)) + (1 : Int32)) + (1 : Int32)) + (1 : Int32)) - 1); omega))) hZ (hw _ (List.mem_of_getElem? (i := 73) rfl)) (hw _ (List.mem_of_getElem? (i := 72) rfl)) (by decide) (by decide)) (g := (mkF m 210 #[.val (.int p0), .val (.int p1), .val (.int p2), .val (.int p3), .val (.long q4), .second, .val (.int p5), .val (.ref b101), .val (.int ff), .val (.ref b113), .val (.int (4 : Int32)), .val (.int (1 : Int32))] [(.int (p5 ^^^ (-1 : Int32))), (.long (q4 ^^^ (-1 : Int64))), (.int (p3 ^^^ (-1 : Int32))), (.int tg), (.ref b113)])) rfl (by rw [hml]; rfl) (argsL := [(.ref b113), (.int tg), (.int (p3 ^^^ (-1 : Int32))), (.long (q4 ^^^ (-1 : Int64))), (.int (p5 ^^^ (-1 : Int32)))]) (rest := []) (lenOf pd_8 rfl) rfl (by show 2 * 0 + _ ≤ _; exact Nat.le_of_eq rfl) (hb hby at_210) (fun _ _ => ⟨rfl, rfl, (by decide : 10 + 0 ≤ _), (by decide : 6166 + 0 ≤ _)⟩)
            dsimp only [Pt.U, Pt.locs, Pt.cells, Pt.slots] at X221 l221 y221 z221 st221 hQ221
            subst l221 y221 z221
            obtain ⟨x221_tq, rfl, Nq221, K221, P221_0, P221_1, P221_2, P221_3, P221_4, P221_5, P221_6, P221_7, P221_8, P221_9, P221_10⟩ := hQ221
            have N221 := Fr.app N218 Nq221
            refine OGo.st st221 ?_
            show OGo p.tables e below _ (T221.setTop (mkF m 213 #[.val (.int p0), .val (.int p1), .val (.int p2), .val (.int p3), .val (.long q4), .second, .val (.int p5), .val (.ref b101), .val (.int ff), .val (.ref b113), .val (.int (4 : Int32)), .val (.int (1 : Int32))] []))
            refine OGo.st (fun t k => XS.iload X221.here hx rfl (hb hby at_213) rfl k) ?_
            show OGo p.tables e below _ (T221.setTop (mkF m 215 #[.val (.int p0), .val (.int p1), .val (.int p2), .val (.int p3), .val (.long q4), .second, .val (.int p5), .val (.ref b101), .val (.int ff), .val (.ref b113), .val (.int (4 : Int32)), .val (.int (1 : Int32))] [(.int (1 : Int32))]))
            refine OGo.st (fun t k => XS.ifNo X221.here hx rfl (hb hby at_215) rfl ((if0 _ _).trans (feq (by decide : ¬ ((1 : Int32) = (0 : Int32)))).1) k) ?_
            show OGo p.tables e below _ (T221.setTop (mkF m 218 #[.val (.int p0), .val (.int p1), .val (.int p2), .val (.int p3), .val (.long q4), .second, .val (.int p5), .val (.ref b101), .val (.int ff), .val (.ref b113), .val (.int (4 : Int32)), .val (.int (1 : Int32))] []))
            refine OGo.st (fun t k => XS.aload X221.here hx rfl (hb hby at_218) rfl rfl k) ?_
            show OGo p.tables e below _ (T221.setTop (mkF m 220 #[.val (.int p0), .val (.int p1), .val (.int p2), .val (.int p3), .val (.long q4), .second, .val (.int p5), .val (.ref b101), .val (.int ff), .val (.ref b113), .val (.int (4 : Int32)), .val (.int (1 : Int32))] [(.ref b113)]))
            have G223 : Exa Z T221.heap b113 "com/example/pathsieve/pathsieve/engine/Messages" := (G220.keep K221)
            obtain ⟨cq222, kq222, q222a, q222b, q222c⟩ := isOf hZ rfl G223
            obtain ⟨_, _, ⟨T222, L222, kk222, nn222⟩, -, X222, ⟨Lc222, hQ222, l222, y222, z222⟩, st222⟩ := X221.virtualBack hx (y := (⟨"com/example/pathsieve/pathsieve/engine/Messages", "size", "()I"⟩ : MethodName)) (z := (⟨"com/example/pathsieve/pathsieve/engine/Messages", "size", "()I"⟩ : MethodName)) hown (mvT hZ (hw _ (List.mem_of_getElem? (i := 65) rfl))) (mvT hZ (hw _ (List.mem_of_getElem? (i := 66) rfl))) (notFace_of_selects (args := #[]) (mvT hZ (hw _ (List.mem_of_getElem? (i := 68) rfl)))) (mvT hZ (hw _ (List.mem_of_getElem? (i := 68) rfl))) (mvT hZ (hw _ (List.mem_of_getElem? (i := 67) rfl))) (by decide) (backOf (W := 0) (rm7 l Z ar hw [] b113 (((((ff <<< ((9 : Int32) &&& 31)) + (1 : Int32)) + (1 : Int32)) + (1 : Int32)) + (1 : Int32)) ff T221.heap n0 (Nat.le_trans (Nat.le_trans (Nat.le_trans (Nat.le_trans (Nat.le_trans (Nat.le_trans (Nat.le_trans (Nat.le_trans (Nat.le_trans (Nat.le_trans (Nat.le_trans (Nat.le_trans (Nat.le_trans (Nat.le_trans (Nat.le_trans Z0 E101.1) K102.1) E104.1) (Keep.of_wr W107).1) (Keep.of_wr W110).1) E113.1) K115.1) E119.1) E123.1) E128.1) K140.1) K212.1) K215.1) K218.1) K221.1) P221_7 P221_5 P221_3 P221_4 (own_rng ff (by omega) (by omega)).1) hZ (hw _ (List.mem_of_getElem? (i := 69) rfl)) (hw _ (List.mem_of_getElem? (i := 39) rfl)) (by decide) (by decide)) q222a q222c (g := (mkF m 220 #[.val (.int p0), .val (.int p1), .val (.int p2), .val (.int p3), .val (.long q4), .second, .val (.int p5), .val (.ref b101), .val (.int ff), .val (.ref b113), .val (.int (4 : Int32)), .val (.int (1 : Int32))] [(.ref b113)])) rfl (by rw [hml]; rfl) (Steps.refl _) (argsL := []) (rest := []) (lenOf pd_7 rfl) rfl (by show 2 * 0 + _ ≤ _; exact Nat.le_of_eq rfl) (hb hby at_220) (fun _ _ => ⟨rfl, rfl, (by decide : 10 + 0 ≤ _), (by decide : 6166 + 0 ≤ _)⟩)
            dsimp only [Pt.U, Pt.locs, Pt.cells, Pt.slots] at X222 l222 y222 z222 st222 hQ222
            subst l222 y222 z222
            obtain ⟨rfl, Nq222, hh222⟩ := hQ222
            have N222 := Fr.app N221 Nq222
            refine OGo.st (fun t k => st222.trans k) ?_
            have e222 : T222.heap = T221.heap := hh222
            show OGo p.tables e below _ (T222.setTop (mkF m 223 #[.val (.int p0), .val (.int p1), .val (.int p2), .val (.int p3), .val (.long q4), .second, .val (.int p5), .val (.ref b101), .val (.int ff), .val (.ref b113), .val (.int (4 : Int32)), .val (.int (1 : Int32))] [(.int (((0 : Int32) + (((((ff <<< ((9 : Int32) &&& 31)) + (1 : Int32)) + (1 : Int32)) + (1 : Int32)) + (1 : Int32))) - (ff <<< ((9 : Int32) &&& 31))))]))
            refine OGo.st (fun t k => XS.iload X222.here hx rfl (hb hby at_223) rfl k) ?_
            show OGo p.tables e below _ (T222.setTop (mkF m 225 #[.val (.int p0), .val (.int p1), .val (.int p2), .val (.int p3), .val (.long q4), .second, .val (.int p5), .val (.ref b101), .val (.int ff), .val (.ref b113), .val (.int (4 : Int32)), .val (.int (1 : Int32))] [(.int (4 : Int32)), (.int (((0 : Int32) + (((((ff <<< ((9 : Int32) &&& 31)) + (1 : Int32)) + (1 : Int32)) + (1 : Int32)) + (1 : Int32))) - (ff <<< ((9 : Int32) &&& 31))))]))
            refine OGo.st (fun t k => XS.icmpNo X222.here hx rfl (hb hby at_225) rfl (teq ((own_sz _ _ _ (own_add4 _)) : (((0 : Int32) + (((((ff <<< ((9 : Int32) &&& 31)) + (1 : Int32)) + (1 : Int32)) + (1 : Int32)) + (1 : Int32))) - (ff <<< ((9 : Int32) &&& 31))) = (4 : Int32))).2 k) ?_
            show OGo p.tables e below _ (T222.setTop (mkF m 228 #[.val (.int p0), .val (.int p1), .val (.int p2), .val (.int p3), .val (.long q4), .second, .val (.int p5), .val (.ref b101), .val (.int ff), .val (.ref b113), .val (.int (4 : Int32)), .val (.int (1 : Int32))] []))
            refine OGo.st (fun t k => XS.iconst X222.here hx rfl (hb hby at_228) k) ?_
            show OGo p.tables e below _ (T222.setTop (mkF m 229 #[.val (.int p0), .val (.int p1), .val (.int p2), .val (.int p3), .val (.long q4), .second, .val (.int p5), .val (.ref b101), .val (.int ff), .val (.ref b113), .val (.int (4 : Int32)), .val (.int (1 : Int32))] [(.int (1 : Int32))]))
            refine OGo.st (fun t k => XS.goto X222.here hx rfl (pc0 := 229) (pc' := 233) rfl (hb hby at_229) (by decide) (by decide) k) ?_
            show OGo p.tables e below _ (T222.setTop (mkF m 233 #[.val (.int p0), .val (.int p1), .val (.int p2), .val (.int p3), .val (.long q4), .second, .val (.int p5), .val (.ref b101), .val (.int ff), .val (.ref b113), .val (.int (4 : Int32)), .val (.int (1 : Int32))] [(.int (1 : Int32))]))
            obtain ⟨fs, hr, hrun, hended, hW, hsame⟩ := X222.leave (v := some (.int (1 : Int32))) (fun h => by rw [Bd.returns] at h; cases h)
            refine OGo.done (retN X222 hx (t := .boolean) Bd.returns (by simp) (hb hby at_233) hr) ⟨hrun, hended, _, _, rfl, ?_, ⟨_, rfl⟩, hW, hsame.mono (by decide) (by decide)⟩
            show Q14 Z p0 p1 p2 p3 q4 p5 h0 n0 _ T222.heap _
            rw [e222]
            exact ⟨rfl, N222⟩
          by_cases hc189_225 : (p2 &&& (8 : Int32)) = (0 : Int32)
          ·
            refine OGo.st (fun t k => XS.ifYes X218.here hx rfl (pc0 := 189) (pc' := 196) rfl (hb hby at_189) rfl ((if0 _ _).trans (teq hc189_225).1) (by decide) (by decide) k) ?_
            show OGo p.tables e below _ (T218.setTop (mkF m 196 #[.val (.int p0), .val (.int p1), .val (.int p2), .val (.int p3), .val (.long q4), .second, .val (.int p5), .val (.ref b101), .val (.int ff), .val (.ref b113), .val (.int (4 : Int32)), .val (.int (1 : Int32))] [(.ref b113)]))
            refine OGo.st (fun t k => XS.iconst X218.here hx rfl (hb hby at_196) k) ?_
            show OGo p.tables e below _ (T218.setTop (mkF m 197 #[.val (.int p0), .val (.int p1), .val (.int p2), .val (.int p3), .val (.long q4), .second, .val (.int p5), .val (.ref b101), .val (.int ff), .val (.ref b113), .val (.int (4 : Int32)), .val (.int (1 : Int32))] [(.int (0 : Int32)), (.ref b113)]))
            exact jn197_219 (0 : Int32) trivial
          ·
            refine OGo.st (fun t k => XS.ifNo X218.here hx rfl (hb hby at_189) rfl ((if0 _ _).trans (feq hc189_225).1) k) ?_
            show OGo p.tables e below _ (T218.setTop (mkF m 192 #[.val (.int p0), .val (.int p1), .val (.int p2), .val (.int p3), .val (.long q4), .second, .val (.int p5), .val (.ref b101), .val (.int ff), .val (.ref b113), .val (.int (4 : Int32)), .val (.int (1 : Int32))] [(.ref b113)]))
            refine OGo.st (fun t k => XS.iconst X218.here hx rfl (hb hby at_192) k) ?_
            show OGo p.tables e below _ (T218.setTop (mkF m 193 #[.val (.int p0), .val (.int p1), .val (.int p2), .val (.int p3), .val (.long q4), .second, .val (.int p5), .val (.ref b101), .val (.int ff), .val (.ref b113), .val (.int (4 : Int32)), .val (.int (1 : Int32))] [(.int (1 : Int32)), (.ref b113)]))
            refine OGo.st (fun t k => XS.goto X218.here hx rfl (pc0 := 193) (pc' := 197) rfl (hb hby at_193) (by decide) (by decide) k) ?_
            show OGo p.tables e below _ (T218.setTop (mkF m 197 #[.val (.int p0), .val (.int p1), .val (.int p2), .val (.int p3), .val (.long q4), .second, .val (.int p5), .val (.ref b101), .val (.int ff), .val (.ref b113), .val (.int (4 : Int32)), .val (.int (1 : Int32))] [(.int (1 : Int32)), (.ref b113)]))
            exact jn197_219 (1 : Int32) trivial
        by_cases hc155_226 : (p2 &&& (4 : Int32)) = (0 : Int32)
        ·
          refine OGo.st (fun t k => XS.ifYes X215.here hx rfl (pc0 := 155) (pc' := 162) rfl (hb hby at_155) rfl ((if0 _ _).trans (teq hc155_226).1) (by decide) (by decide) k) ?_
          show OGo p.tables e below _ (T215.setTop (mkF m 162 #[.val (.int p0), .val (.int p1), .val (.int p2), .val (.int p3), .val (.long q4), .second, .val (.int p5), .val (.ref b101), .val (.int ff), .val (.ref b113), .val (.int (4 : Int32)), .val (.int (1 : Int32))] [(.ref b113)]))
          refine OGo.st (fun t k => XS.iconst X215.here hx rfl (hb hby at_162) k) ?_
          show OGo p.tables e below _ (T215.setTop (mkF m 163 #[.val (.int p0), .val (.int p1), .val (.int p2), .val (.int p3), .val (.long q4), .second, .val (.int p5), .val (.ref b101), .val (.int ff), .val (.ref b113), .val (.int (4 : Int32)), .val (.int (1 : Int32))] [(.int (0 : Int32)), (.ref b113)]))
          exact jn163_216 (0 : Int32) trivial
        ·
          refine OGo.st (fun t k => XS.ifNo X215.here hx rfl (hb hby at_155) rfl ((if0 _ _).trans (feq hc155_226).1) k) ?_
          show OGo p.tables e below _ (T215.setTop (mkF m 158 #[.val (.int p0), .val (.int p1), .val (.int p2), .val (.int p3), .val (.long q4), .second, .val (.int p5), .val (.ref b101), .val (.int ff), .val (.ref b113), .val (.int (4 : Int32)), .val (.int (1 : Int32))] [(.ref b113)]))
          refine OGo.st (fun t k => XS.iconst X215.here hx rfl (hb hby at_158) k) ?_
          show OGo p.tables e below _ (T215.setTop (mkF m 159 #[.val (.int p0), .val (.int p1), .val (.int p2), .val (.int p3), .val (.long q4), .second, .val (.int p5), .val (.ref b101), .val (.int ff), .val (.ref b113), .val (.int (4 : Int32)), .val (.int (1 : Int32))] [(.int (1 : Int32)), (.ref b113)]))
          refine OGo.st (fun t k => XS.goto X215.here hx rfl (pc0 := 159) (pc' := 163) rfl (hb hby at_159) (by decide) (by decide) k) ?_
          show OGo p.tables e below _ (T215.setTop (mkF m 163 #[.val (.int p0), .val (.int p1), .val (.int p2), .val (.int p3), .val (.long q4), .second, .val (.int p5), .val (.ref b101), .val (.int ff), .val (.ref b113), .val (.int (4 : Int32)), .val (.int (1 : Int32))] [(.int (1 : Int32)), (.ref b113)]))
          exact jn163_216 (1 : Int32) trivial
      by_cases hc122_227 : (p2 &&& (2 : Int32)) = (0 : Int32)
      ·
        refine OGo.st (fun t k => XS.ifYes X212.here hx rfl (pc0 := 122) (pc' := 129) rfl (hb hby at_122) rfl ((if0 _ _).trans (teq hc122_227).1) (by decide) (by decide) k) ?_
        show OGo p.tables e below _ (T212.setTop (mkF m 129 #[.val (.int p0), .val (.int p1), .val (.int p2), .val (.int p3), .val (.long q4), .second, .val (.int p5), .val (.ref b101), .val (.int ff), .val (.ref b113), .val (.int (4 : Int32)), .val (.int (1 : Int32))] [(.ref b113)]))
        refine OGo.st (fun t k => XS.iconst X212.here hx rfl (hb hby at_129) k) ?_
        show OGo p.tables e below _ (T212.setTop (mkF m 130 #[.val (.int p0), .val (.int p1), .val (.int p2), .val (.int p3), .val (.long q4), .second, .val (.int p5), .val (.ref b101), .val (.int ff), .val (.ref b113), .val (.int (4 : Int32)), .val (.int (1 : Int32))] [(.int (0 : Int32)), (.ref b113)]))
        exact jn130_213 (0 : Int32) trivial
      ·
        refine OGo.st (fun t k => XS.ifNo X212.here hx rfl (hb hby at_122) rfl ((if0 _ _).trans (feq hc122_227).1) k) ?_
        show OGo p.tables e below _ (T212.setTop (mkF m 125 #[.val (.int p0), .val (.int p1), .val (.int p2), .val (.int p3), .val (.long q4), .second, .val (.int p5), .val (.ref b101), .val (.int ff), .val (.ref b113), .val (.int (4 : Int32)), .val (.int (1 : Int32))] [(.ref b113)]))
        refine OGo.st (fun t k => XS.iconst X212.here hx rfl (hb hby at_125) k) ?_
        show OGo p.tables e below _ (T212.setTop (mkF m 126 #[.val (.int p0), .val (.int p1), .val (.int p2), .val (.int p3), .val (.long q4), .second, .val (.int p5), .val (.ref b101), .val (.int ff), .val (.ref b113), .val (.int (4 : Int32)), .val (.int (1 : Int32))] [(.int (1 : Int32)), (.ref b113)]))
        refine OGo.st (fun t k => XS.goto X212.here hx rfl (pc0 := 126) (pc' := 130) rfl (hb hby at_126) (by decide) (by decide) k) ?_
        show OGo p.tables e below _ (T212.setTop (mkF m 130 #[.val (.int p0), .val (.int p1), .val (.int p2), .val (.int p3), .val (.long q4), .second, .val (.int p5), .val (.ref b101), .val (.int ff), .val (.ref b113), .val (.int (4 : Int32)), .val (.int (1 : Int32))] [(.int (1 : Int32)), (.ref b113)]))
        exact jn130_213 (1 : Int32) trivial
    by_cases hc95_228 : (p2 &&& (1 : Int32)) = (0 : Int32)
    ·
      refine OGo.st (fun t k => XS.ifYes X202.here hx rfl (pc0 := 95) (pc' := 102) rfl (hb hby at_95) rfl ((if0 _ _).trans (teq hc95_228).1) (by decide) (by decide) k) ?_
      show OGo p.tables e below _ (T202.setTop (mkF m 102 #[.val (.int p0), .val (.int p1), .val (.int p2), .val (.int p3), .val (.long q4), .second, .val (.int p5), .val (.ref b101), .val (.int ff), .val (.ref b113), .val (.int (4 : Int32)), .val (.int (1 : Int32))] [(.ref b113)]))
      refine OGo.st (fun t k => XS.iconst X202.here hx rfl (hb hby at_102) k) ?_
      show OGo p.tables e below _ (T202.setTop (mkF m 103 #[.val (.int p0), .val (.int p1), .val (.int p2), .val (.int p3), .val (.long q4), .second, .val (.int p5), .val (.ref b101), .val (.int ff), .val (.ref b113), .val (.int (4 : Int32)), .val (.int (1 : Int32))] [(.int (0 : Int32)), (.ref b113)]))
      exact jn103_204 (0 : Int32) trivial
    ·
      refine OGo.st (fun t k => XS.ifNo X202.here hx rfl (hb hby at_95) rfl ((if0 _ _).trans (feq hc95_228).1) k) ?_
      show OGo p.tables e below _ (T202.setTop (mkF m 98 #[.val (.int p0), .val (.int p1), .val (.int p2), .val (.int p3), .val (.long q4), .second, .val (.int p5), .val (.ref b101), .val (.int ff), .val (.ref b113), .val (.int (4 : Int32)), .val (.int (1 : Int32))] [(.ref b113)]))
      refine OGo.st (fun t k => XS.iconst X202.here hx rfl (hb hby at_98) k) ?_
      show OGo p.tables e below _ (T202.setTop (mkF m 99 #[.val (.int p0), .val (.int p1), .val (.int p2), .val (.int p3), .val (.long q4), .second, .val (.int p5), .val (.ref b101), .val (.int ff), .val (.ref b113), .val (.int (4 : Int32)), .val (.int (1 : Int32))] [(.int (1 : Int32)), (.ref b113)]))
      refine OGo.st (fun t k => XS.goto X202.here hx rfl (pc0 := 99) (pc' := 103) rfl (hb hby at_99) (by decide) (by decide) k) ?_
      show OGo p.tables e below _ (T202.setTop (mkF m 103 #[.val (.int p0), .val (.int p1), .val (.int p2), .val (.int p3), .val (.long q4), .second, .val (.int p5), .val (.ref b101), .val (.int ff), .val (.ref b113), .val (.int (4 : Int32)), .val (.int (1 : Int32))] [(.int (1 : Int32)), (.ref b113)]))
      exact jn103_204 (1 : Int32) trivial
set_option maxRecDepth 65536 in
set_option maxHeartbeats 40000000 in
theorem comes_1 {Post : Tables → Env → Array Value → State → Outcome → State → Prop} (hpost : ∀ tb e args s v u, (limb_1_1.after args s (.returned v) u = true ∧ limb_1_2.after args s (.returned v) u = true ∧ True) → FrameEnd s (.returned v) u (Jvm.fieldLocs frame_1_writes args s ++ Jvm.arrayLocs frame_1_arrays args s ++ Jvm.staticLocs frame_1_statics s) 32 12416 → Post tb e args s (.returned v) u) :
    ArmFor flags0 classFile x code maxLocals ret World_1 tables_1 room_1 Calls_1 rest_1 Pre_1 Post := by
  intro l hfl _ _ p e ha hc hk s m args below hf hA hF happ hP
  obtain ⟨hcalls, hrest, hpre⟩ := hP
  obtain ⟨-, -, -, hnamed, -, -, -, hat⟩ := (Spec.applies_iff hf).mp happ
  obtain ⟨hg, hn⟩ := and_e (Cond.before_iff.mp (show (Jvm.Cond.and given_1 narrow_1).before args s = true from hpre))
  obtain ⟨gc, gr0⟩ := and_e hg
  obtain ⟨g_0, gr1⟩ := and_e gr0
  obtain ⟨g_1, gr2⟩ := and_e gr1
  obtain ⟨g_2, gr3⟩ := and_e gr2
  obtain ⟨g_3, gr4⟩ := and_e gr3
  obtain ⟨g_4, gr5⟩ := and_e gr4
  have g_5 := gr5
  obtain ⟨w0, w1, w2, w3, w4, w5, rfl⟩ : ∃ w0 w1 w2 w3 w4 w5 : Value, args = #[w0, w1, w2, w3, w4, w5] := by
    have hs : args.size = 6 := by simpa [Cond.value, given_1] using gc
    obtain ⟨L⟩ := args
    match L, hs with
    | [w0, w1, w2, w3, w4, w5], _ => exact ⟨w0, w1, w2, w3, w4, w5, rfl⟩
  have hw := fun d (hd : d ∈ tables_1) => atoms_spec (ws := Jvm.Cond.code x code maxLocals ret :: tables_1) hat d (List.mem_cons_of_mem _ hd)
  have hfit : Fit s := fun {y c} hc i hi => by
    obtain ⟨ha, rfl⟩ := Array.getElem?_eq_some_iff.mp hc
    have q := List.all_eq_true.mp ((Array.all_eq_true_iff_forall_mem.mp hF) _ (Array.getElem_mem ha)) i (List.mem_range.mpr hi)
    simpa [Array.getElem?_eq_getElem hi] using q
  obtain ⟨i0, ei0⟩ := is_v g_0
  obtain rfl : w0 = (.int i0) := Option.some.inj ei0
  obtain ⟨i1, ei1⟩ := is_v g_1
  obtain rfl : w1 = (.int i1) := Option.some.inj ei1
  obtain ⟨i2, ei2⟩ := is_v g_2
  obtain rfl : w2 = (.int i2) := Option.some.inj ei2
  obtain ⟨i3, ei3⟩ := is_v g_3
  obtain rfl : w3 = (.int i3) := Option.some.inj ei3
  obtain ⟨i4, ei4⟩ := isL_v g_4
  obtain rfl : w4 = (.long i4) := Option.some.inj ei4
  obtain ⟨i5, ei5⟩ := is_v g_5
  obtain rfl : w5 = (.int i5) := Option.some.inj ei5
  obtain ⟨n, o, h1, h2, h3, _, L, rfl, ⟨rfl, N⟩, hq⟩ := rm14 l s _ hw tables_1 i0 i1 i2 i3 i4 i5 s.heap s.heap.size (Nat.le_refl _)  p e ha hc hk s m _ below hf ((Spec.applies_iff_loose hf).mp happ).1 ⟨rfl, State.Warmed39.refl s, rfl⟩ trivial
  refine ⟨n, _, h1, h2, h3, hpost _ _ _ _ _ _ ⟨Cond.after_iff.mpr rfl, Cond.after_iff.mpr (eq_i res_at (Term.int_eval (1)) rfl), trivial⟩ ⟨hq.1, hq.2.1, (hq.2.2.sift fun y hy => Or.inr (N y hy)).mono (by decide) (by decide)⟩⟩
theorem main_1_1 : Claimed_1_1 := comes_1 fun _ _ _ _ _ _ h hF => ⟨h.1, hF⟩
theorem main_1_2 : Claimed_1_2 := comes_1 fun _ _ _ _ _ _ h hF => ⟨h.2.1, hF⟩
end Jvm.Pilot.@@N@@
namespace Jvm.Pilot.@@N@@
open Jvm Jvm.ClassFile Sem Op Lib Jvm.Free Jvm.Stand Jvm.Pilot.@@N@@.Jvm.D
/-! MADE BY PROGRAM (witnessworld.py) out of the Statement's table words and the real class files: 19 classes; the members and pool entries that the words name. The judged class is class 1, her method 1. -/
namespace start1
open Jvm.ClassFile
def u (s : String) : CpInfo := .utf8 (stringToUtf16 s)
/-- a pool by its gaps: so many unusable entries, then the entry; so many at the end -/
def gap : Nat → List CpInfo → List CpInfo
  | 0, r => r
  | n + 1, r => .unusable :: gap n r
def poolList (es : List (Nat × CpInfo)) (last : Nat) : List CpInfo := es.foldr (fun e r => gap e.1 (e.2 :: r)) (gap last [])
def pool (es : List (Nat × CpInfo)) (last : Nat) : Array CpInfo := ⟨poolList es last⟩
def fileOf (pool : Array CpInfo) (this : Nat) (attrs : Array Attribute := #[]) (ms : Array MethodInfo := #[]) (fl : Nat := 33) (sup : Nat := 0) (ifs : Array Nat := #[]) (fds : Array FieldInfo := #[]) : ClassFile where
  minorVersion := 0
  majorVersion := 65
  constantPool := pool
  accessFlags := fl
  thisClass := this
  superClass := sup
  interfaces := ifs
  fields := fds
  methods := ms
  attributes := attrs
def plain (name : String) (sup : Option ClassId) : Class where
  name := name
  kind := .ordinary
  loader := none
  accessFlags := 33
  super := sup
  interfaces := #[]
  cf := none
  fields := #[]
  methods := #[]
  instanceTypes := #[]
  staticTypes := #[]
  resolved := #[]
  callSites := []
  init := .initialized
  statics := none
  mirror := none

def pool0 : Array CpInfo := pool [(5, u "<init>"), (0, u "()V"), (1, .class_ 10), (1, u "java/lang/Object")] 113

def k0c0 : Code := { maxStack := 0, maxLocals := 1, code := object_method_1_code, exceptionTable := #[], attributes := #[] }
def k0m0 : Method := { name := "<init>", desc := "()V", sig := { parameters := [], returnType := none }, accessFlags := 1, code := some k0c0 }
/-- java/lang/Object -/
def k0 : Class := { plain "java/lang/Object" none with
  accessFlags := 33
  interfaces := #[]
  cf := some (fileOf pool0 8 #[] #[{ accessFlags := 1, nameIndex := 5, descriptorIndex := 6, attributes := #[] }] 33 0 #[] #[])
  fields := #[]
  methods := #[k0m0]
  instanceTypes := #[]
  staticTypes := #[]
  resolved := Array.replicate 124 none
  statics := none }

def pool1 : Array CpInfo := pool [(2, .class_ 4), (1, u "java/lang/Object"), (0, u "<init>"), (0, u "()V"), (0, .class_ 8), (0, u "com/example/pathsieve/pathsieve/engine/Outbox"), (0, .methodref 7 10), (0, .nameAndType 5 11), (0, u "(II)V"), (0, .fieldref 7 13), (0, .nameAndType 14 15), (0, u "nextBlocks"), (0, u "[I"), (0, .fieldref 7 17), (0, .nameAndType 18 19), (0, u "taken"), (0, u "I"), (0, .class_ 21), (0, u "com/example/pathsieve/pathsieve/engine/Messages"), (0, .methodref 20 23), (0, .nameAndType 5 24), (0, u "(Lcom/example/pathsieve/pathsieve/engine/Outbox;)V"), (0, .methodref 20 26), (0, .nameAndType 27 28), (0, u "store"), (0, u "([I[J[I)V"), (0, .integer 2147483647), (0, .methodref 20 31), (0, .nameAndType 32 33), (0, u "size"), (0, u "()I"), (0, .methodref 35 36), (0, .class_ 37), (0, .nameAndType 38 39), (0, u "com/example/pathsieve/pathsieve/engine/MessagesSizePinLaw"), (0, u "send"), (0, u "(Lcom/example/pathsieve/pathsieve/engine/Messages;ZIJI)V"), (0, .long 18446744073709551615), (1, .methodref 20 43), (0, .nameAndType 44 45), (0, u "add"), (0, u "(IJI)V"), (0, .methodref 20 47), (0, .nameAndType 44 48), (0, u "(IJ)V"), (2, u "law"), (0, u "(IIIIJI)Z")] 3

def k1m0 : Method := { name := "<init>", desc := "()V", sig := { parameters := [], returnType := none }, accessFlags := 1, code := none }
def k1c1 : Code := { maxStack := 7, maxLocals := 12, code := code, exceptionTable := #[], attributes := #[] }
def k1m1 : Method := { name := "law", desc := "(IIIIJI)Z", sig := { parameters := [.int, .int, .int, .int, .long, .int], returnType := some .boolean }, accessFlags := 9, code := some k1c1 }
def k1c2 : Code := { maxStack := 5, maxLocals := 6, code := method_3_code, exceptionTable := #[], attributes := #[] }
def k1m2 : Method := { name := "send", desc := "(Lcom/example/pathsieve/pathsieve/engine/Messages;ZIJI)V", sig := { parameters := [(.object "com/example/pathsieve/pathsieve/engine/Messages"), .boolean, .int, .long, .int], returnType := none }, accessFlags := 10, code := some k1c2 }
/-- com/example/pathsieve/pathsieve/engine/MessagesSizePinLaw -/
def k1 : Class := { plain "com/example/pathsieve/pathsieve/engine/MessagesSizePinLaw" (some 0) with
  accessFlags := 49
  interfaces := #[]
  cf := some (fileOf pool1 35 #[] #[{ accessFlags := 1, nameIndex := 5, descriptorIndex := 6, attributes := #[] }, { accessFlags := 9, nameIndex := 51, descriptorIndex := 52, attributes := #[] }, { accessFlags := 10, nameIndex := 38, descriptorIndex := 39, attributes := #[] }] 49 2 #[] #[])
  fields := #[]
  methods := #[k1m0, k1m1, k1m2]
  instanceTypes := #[]
  staticTypes := #[]
  resolved := Array.replicate 56 none
  statics := none }

def pool2 : Array CpInfo := pool [(1, .class_ 2), (0, u "java/lang/Integer"), (0, .methodref 4 5), (0, .class_ 6), (0, .nameAndType 7 8), (0, u "java/lang/Object"), (0, u "<init>"), (0, u "()V"), (0, .fieldref 10 11), (0, .class_ 12), (0, .nameAndType 13 14), (0, u "com/example/pathsieve/pathsieve/engine/Outbox"), (0, u "heads"), (0, u "[I"), (0, .fieldref 10 16), (0, .nameAndType 17 18), (0, u "distances"), (0, u "[J"), (0, .fieldref 10 20), (0, .nameAndType 21 14), (0, u "nextBlocks"), (0, .methodref 1 23), (0, .nameAndType 24 25), (0, u "numberOfLeadingZeros"), (0, u "(I)I"), (0, .methodref 27 28), (0, .class_ 29), (0, .nameAndType 30 31), (0, u "java/lang/Math"), (0, u "min"), (0, u "(II)I"), (0, .methodref 27 33), (0, .nameAndType 34 31), (0, u "max"), (0, .fieldref 10 36), (0, .nameAndType 37 38), (0, u "blockBits"), (0, u "I"), (0, .class_ 40), (0, u "com/example/pathsieve/pathsieve/engine/Messages"), (0, .fieldref 10 42), (0, .nameAndType 43 44), (0, u "to"), (0, u "[Lcom/example/pathsieve/pathsieve/engine/Messages;"), (0, .methodref 39 46), (0, .nameAndType 7 47), (0, u "(Lcom/example/pathsieve/pathsieve/engine/Outbox;)V"), (0, .fieldref 10 49), (0, .nameAndType 50 14), (0, u "tags"), (0, .methodref 39 52), (0, .nameAndType 53 54), (0, u "store"), (0, u "([I[J[I)V"), (2, u "taken"), (11, u "MOST_PLACES"), (1, u "(II)V")] 10

def k2c0 : Code := { maxStack := 5, maxLocals := 5, code := prog_18_method_1_code, exceptionTable := #[], attributes := #[] }
def k2m0 : Method := { name := "<init>", desc := "(II)V", sig := { parameters := [.int, .int], returnType := none }, accessFlags := 0, code := some k2c0 }
/-- com/example/pathsieve/pathsieve/engine/Outbox -/
def k2 : Class := { plain "com/example/pathsieve/pathsieve/engine/Outbox" (some 0) with
  accessFlags := 48
  interfaces := #[]
  cf := some (fileOf pool2 10 #[] #[{ accessFlags := 0, nameIndex := 7, descriptorIndex := 71, attributes := #[] }] 48 4 #[] #[{ accessFlags := 26, nameIndex := 69, descriptorIndex := 38, attributes := #[] }, { accessFlags := 18, nameIndex := 43, descriptorIndex := 44, attributes := #[] }, { accessFlags := 16, nameIndex := 37, descriptorIndex := 38, attributes := #[] }, { accessFlags := 2, nameIndex := 13, descriptorIndex := 14, attributes := #[] }, { accessFlags := 2, nameIndex := 17, descriptorIndex := 18, attributes := #[] }, { accessFlags := 2, nameIndex := 50, descriptorIndex := 14, attributes := #[] }, { accessFlags := 0, nameIndex := 21, descriptorIndex := 14, attributes := #[] }, { accessFlags := 0, nameIndex := 57, descriptorIndex := 38, attributes := #[] }])
  fields := #[{ name := "MOST_PLACES", type := .int, accessFlags := 26, slot := 0, constantValue := 0 }, { name := "to", type := (.array (.object "com/example/pathsieve/pathsieve/engine/Messages")), accessFlags := 18, slot := 0, constantValue := 0 }, { name := "blockBits", type := .int, accessFlags := 16, slot := 1, constantValue := 0 }, { name := "heads", type := (.array .int), accessFlags := 2, slot := 2, constantValue := 0 }, { name := "distances", type := (.array .long), accessFlags := 2, slot := 3, constantValue := 0 }, { name := "tags", type := (.array .int), accessFlags := 2, slot := 4, constantValue := 0 }, { name := "nextBlocks", type := (.array .int), accessFlags := 0, slot := 5, constantValue := 0 }, { name := "taken", type := .int, accessFlags := 0, slot := 6, constantValue := 0 }]
  methods := #[k2m0]
  instanceTypes := #[(.array (.object "com/example/pathsieve/pathsieve/engine/Messages")), .int, (.array .int), (.array .long), (.array .int), (.array .int), .int]
  staticTypes := #[.int]
  resolved := Array.replicate 82 none
  statics := none }

def pool3 : Array CpInfo := pool [(1, .class_ 2), (0, u "java/io/Serializable"), (0, .class_ 4), (0, u "java/lang/Object")] 2

/-- java/io/Serializable -/
def k3 : Class := { plain "java/io/Serializable" (some 0) with
  accessFlags := 1537
  interfaces := #[]
  cf := some (fileOf pool3 1 #[] #[] 1537 3 #[] #[])
  fields := #[]
  methods := #[]
  instanceTypes := #[]
  staticTypes := #[]
  resolved := Array.replicate 7 none
  statics := none }

def pool4 : Array CpInfo := pool [(2, .class_ 4), (1, u "java/lang/Object"), (0, u "<init>"), (0, u "()V"), (1, .class_ 10), (1, u "java/lang/Number"), (2, .class_ 14), (0, u "java/io/Serializable"), (0, u "serialVersionUID"), (0, u "J")] 20

def k4m0 : Method := { name := "<init>", desc := "()V", sig := { parameters := [], returnType := none }, accessFlags := 1, code := none }
/-- java/lang/Number -/
def k4 : Class := { plain "java/lang/Number" (some 0) with
  accessFlags := 1057
  interfaces := #[3]
  cf := some (fileOf pool4 8 #[] #[{ accessFlags := 1, nameIndex := 5, descriptorIndex := 6, attributes := #[] }] 1057 2 #[13] #[{ accessFlags := 26, nameIndex := 15, descriptorIndex := 16, attributes := #[] }])
  fields := #[{ name := "serialVersionUID", type := .long, accessFlags := 26, slot := 0, constantValue := 0 }]
  methods := #[k4m0]
  instanceTypes := #[]
  staticTypes := #[.long]
  resolved := Array.replicate 37 none
  statics := none }

def pool5 : Array CpInfo := pool [(1, .class_ 2), (0, u "java/lang/Comparable"), (0, .class_ 4), (0, u "java/lang/Object")] 7

/-- java/lang/Comparable -/
def k5 : Class := { plain "java/lang/Comparable" (some 0) with
  accessFlags := 1537
  interfaces := #[]
  cf := some (fileOf pool5 1 #[] #[] 1537 3 #[] #[])
  fields := #[]
  methods := #[]
  instanceTypes := #[]
  staticTypes := #[]
  resolved := Array.replicate 12 none
  statics := none }

def pool6 : Array CpInfo := pool [(1, .class_ 2), (0, u "java/lang/constant/Constable"), (0, .class_ 4), (0, u "java/lang/Object")] 6

/-- java/lang/constant/Constable -/
def k6 : Class := { plain "java/lang/constant/Constable" (some 0) with
  accessFlags := 1537
  interfaces := #[]
  cf := some (fileOf pool6 1 #[] #[] 1537 3 #[] #[])
  fields := #[]
  methods := #[]
  instanceTypes := #[]
  staticTypes := #[]
  resolved := Array.replicate 11 none
  statics := none }

def pool7 : Array CpInfo := pool [(1, .class_ 2), (0, u "java/lang/constant/ConstantDesc"), (0, .class_ 4), (0, u "java/lang/Object")] 32

/-- java/lang/constant/ConstantDesc -/
def k7 : Class := { plain "java/lang/constant/ConstantDesc" (some 0) with
  accessFlags := 1537
  interfaces := #[]
  cf := some (fileOf pool7 1 #[] #[] 1537 3 #[] #[])
  fields := #[]
  methods := #[]
  instanceTypes := #[]
  staticTypes := #[]
  resolved := Array.replicate 37 none
  statics := none }

def pool8 : Array CpInfo := pool [(1, .class_ 2), (0, u "java/lang/Integer"), (16, u "digits"), (0, u "[C"), (32, u "numberOfLeadingZeros"), (0, u "(I)I"), (30, u "DigitOnes"), (0, u "[B"), (2, u "DigitTens"), (99, .class_ 190), (0, u "java/lang/Integer$IntegerCache"), (3, u "I"), (8, .class_ 204), (0, u "java/lang/Number"), (2, u "value"), (94, u "TYPE"), (0, u "Ljava/lang/Class;"), (0, .class_ 305), (0, u "java/lang/Comparable"), (0, .class_ 307), (0, u "java/lang/constant/Constable"), (0, .class_ 309), (0, u "java/lang/constant/ConstantDesc"), (0, u "MIN_VALUE"), (1, u "MAX_VALUE"), (3, u "SIZE"), (1, u "BYTES"), (1, u "serialVersionUID"), (0, u "J")] 131

def k8c0 : Code := { maxStack := 3, maxLocals := 2, code := jdk_33_method_47_code, exceptionTable := #[], attributes := #[] }
def k8m0 : Method := { name := "numberOfLeadingZeros", desc := "(I)I", sig := { parameters := [.int], returnType := some .int }, accessFlags := 9, code := some k8c0 }
/-- java/lang/Integer -/
def k8 : Class := { plain "java/lang/Integer" (some 4) with
  accessFlags := 49
  interfaces := #[5, 6, 7]
  cf := some (fileOf pool8 1 #[.nestMembers #[189]] #[{ accessFlags := 9, nameIndex := 53, descriptorIndex := 54, attributes := #[] }] 49 203 #[304, 306, 308] #[{ accessFlags := 25, nameIndex := 310, descriptorIndex := 194, attributes := #[] }, { accessFlags := 25, nameIndex := 312, descriptorIndex := 194, attributes := #[] }, { accessFlags := 25, nameIndex := 302, descriptorIndex := 303, attributes := #[] }, { accessFlags := 24, nameIndex := 19, descriptorIndex := 20, attributes := #[] }, { accessFlags := 24, nameIndex := 89, descriptorIndex := 86, attributes := #[] }, { accessFlags := 24, nameIndex := 85, descriptorIndex := 86, attributes := #[] }, { accessFlags := 18, nameIndex := 207, descriptorIndex := 194, attributes := #[] }, { accessFlags := 25, nameIndex := 316, descriptorIndex := 194, attributes := #[] }, { accessFlags := 25, nameIndex := 318, descriptorIndex := 194, attributes := #[] }, { accessFlags := 26, nameIndex := 320, descriptorIndex := 321, attributes := #[] }])
  fields := #[{ name := "MIN_VALUE", type := .int, accessFlags := 25, slot := 0, constantValue := 0 }, { name := "MAX_VALUE", type := .int, accessFlags := 25, slot := 1, constantValue := 0 }, { name := "TYPE", type := (.object "java/lang/Class"), accessFlags := 25, slot := 2, constantValue := 0 }, { name := "digits", type := (.array .char), accessFlags := 24, slot := 3, constantValue := 0 }, { name := "DigitTens", type := (.array .byte), accessFlags := 24, slot := 4, constantValue := 0 }, { name := "DigitOnes", type := (.array .byte), accessFlags := 24, slot := 5, constantValue := 0 }, { name := "value", type := .int, accessFlags := 18, slot := 0, constantValue := 0 }, { name := "SIZE", type := .int, accessFlags := 25, slot := 6, constantValue := 0 }, { name := "BYTES", type := .int, accessFlags := 25, slot := 7, constantValue := 0 }, { name := "serialVersionUID", type := .long, accessFlags := 26, slot := 8, constantValue := 0 }]
  methods := #[k8m0]
  instanceTypes := #[.int]
  staticTypes := #[.int, .int, (.object "java/lang/Class"), (.array .char), (.array .byte), (.array .byte), .int, .int, .long]
  resolved := Array.replicate 453 none
  statics := none }

def pool9 : Array CpInfo := pool [(1, .class_ 2), (0, u "java/lang/Math"), (1, .class_ 6), (1, u "java/lang/Object"), (0, u "<init>"), (0, u "()V"), (89, .class_ 100), (1, u "java/lang/Math$RandomNumberGeneratorHolder"), (71, u "negativeZeroFloatBits"), (0, u "J"), (2, u "negativeZeroDoubleBits"), (21, u "max"), (2, u "min"), (43, u "$assertionsDisabled"), (0, u "Z"), (88, u "(II)I"), (2, u "twoToTheDoubleScaleDown"), (0, u "D"), (4, u "twoToTheDoubleScaleUp"), (9, u "E"), (3, u "PI"), (2, u "TAU"), (2, u "DEGREES_TO_RADIANS"), (0, u "RADIANS_TO_DEGREES")] 94

def k9m0 : Method := { name := "<init>", desc := "()V", sig := { parameters := [], returnType := none }, accessFlags := 2, code := none }
def k9c1 : Code := { maxStack := 2, maxLocals := 2, code := jdk_29_method_65_code, exceptionTable := #[], attributes := #[] }
def k9m1 : Method := { name := "max", desc := "(II)I", sig := { parameters := [.int, .int], returnType := some .int }, accessFlags := 9, code := some k9c1 }
def k9c2 : Code := { maxStack := 2, maxLocals := 2, code := jdk_29_method_69_code, exceptionTable := #[], attributes := #[] }
def k9m2 : Method := { name := "min", desc := "(II)I", sig := { parameters := [.int, .int], returnType := some .int }, accessFlags := 9, code := some k9c2 }
/-- java/lang/Math -/
def k9 : Class := { plain "java/lang/Math" (some 0) with
  accessFlags := 49
  interfaces := #[]
  cf := some (fileOf pool9 1 #[.nestMembers #[98]] #[{ accessFlags := 2, nameIndex := 7, descriptorIndex := 8, attributes := #[] }, { accessFlags := 9, nameIndex := 198, descriptorIndex := 335, attributes := #[] }, { accessFlags := 9, nameIndex := 201, descriptorIndex := 335, attributes := #[] }] 49 4 #[] #[{ accessFlags := 25, nameIndex := 354, descriptorIndex := 339, attributes := #[] }, { accessFlags := 25, nameIndex := 358, descriptorIndex := 339, attributes := #[] }, { accessFlags := 25, nameIndex := 361, descriptorIndex := 339, attributes := #[] }, { accessFlags := 26, nameIndex := 364, descriptorIndex := 339, attributes := #[] }, { accessFlags := 26, nameIndex := 365, descriptorIndex := 339, attributes := #[] }, { accessFlags := 26, nameIndex := 172, descriptorIndex := 173, attributes := #[] }, { accessFlags := 26, nameIndex := 176, descriptorIndex := 173, attributes := #[] }, { accessFlags := 8, nameIndex := 344, descriptorIndex := 339, attributes := #[] }, { accessFlags := 8, nameIndex := 338, descriptorIndex := 339, attributes := #[] }, { accessFlags := 4120, nameIndex := 245, descriptorIndex := 246, attributes := #[] }])
  fields := #[{ name := "E", type := .double, accessFlags := 25, slot := 0, constantValue := 0 }, { name := "PI", type := .double, accessFlags := 25, slot := 1, constantValue := 0 }, { name := "TAU", type := .double, accessFlags := 25, slot := 2, constantValue := 0 }, { name := "DEGREES_TO_RADIANS", type := .double, accessFlags := 26, slot := 3, constantValue := 0 }, { name := "RADIANS_TO_DEGREES", type := .double, accessFlags := 26, slot := 4, constantValue := 0 }, { name := "negativeZeroFloatBits", type := .long, accessFlags := 26, slot := 5, constantValue := 0 }, { name := "negativeZeroDoubleBits", type := .long, accessFlags := 26, slot := 6, constantValue := 0 }, { name := "twoToTheDoubleScaleUp", type := .double, accessFlags := 8, slot := 7, constantValue := 0 }, { name := "twoToTheDoubleScaleDown", type := .double, accessFlags := 8, slot := 8, constantValue := 0 }, { name := "$assertionsDisabled", type := .boolean, accessFlags := 4120, slot := 9, constantValue := 0 }]
  methods := #[k9m0, k9m1, k9m2]
  instanceTypes := #[]
  staticTypes := #[.double, .double, .double, .double, .double, .long, .long, .double, .double, .boolean]
  resolved := Array.replicate 460 none
  statics := none }

def pool10 : Array CpInfo := pool [(1, .methodref 2 3), (0, .class_ 4), (0, .nameAndType 5 6), (0, u "java/lang/Object"), (0, u "<init>"), (0, u "()V"), (0, .fieldref 8 9), (0, .class_ 10), (0, .nameAndType 11 12), (0, u "com/example/pathsieve/pathsieve/engine/Messages"), (0, u "first"), (0, u "I"), (0, .fieldref 8 14), (0, .nameAndType 15 12), (0, u "last"), (0, .fieldref 8 17), (0, .nameAndType 18 19), (0, u "outbox"), (0, u "Lcom/example/pathsieve/pathsieve/engine/Outbox;"), (0, .fieldref 21 22), (0, .class_ 23), (0, .nameAndType 24 12), (0, u "com/example/pathsieve/pathsieve/engine/Outbox"), (0, u "blockBits"), (0, .fieldref 8 22), (0, .fieldref 8 27), (0, .nameAndType 28 12), (0, u "place"), (0, .fieldref 8 30), (0, .nameAndType 31 12), (0, u "end"), (0, .fieldref 21 33), (0, .nameAndType 34 12), (0, u "taken"), (0, .fieldref 21 36), (0, .nameAndType 37 38), (0, u "nextBlocks"), (0, u "[I"), (7, .fieldref 8 47), (0, .nameAndType 48 12), (0, u "before"), (0, .fieldref 8 50), (0, .nameAndType 51 38), (0, u "heads"), (0, .fieldref 8 53), (0, .nameAndType 54 55), (0, u "distances"), (0, u "[J"), (0, .methodref 8 57), (0, .nameAndType 58 59), (0, u "add"), (0, u "(IJ)V"), (0, .fieldref 8 61), (0, .nameAndType 62 38), (0, u "tags"), (0, u "(Lcom/example/pathsieve/pathsieve/engine/Outbox;)V"), (3, u "(IJI)V"), (0, u "size"), (0, u "()I"), (8, u "store"), (0, u "([I[J[I)V")] 2

def k10c0 : Code := { maxStack := 2, maxLocals := 2, code := prog_16_method_1_code, exceptionTable := #[], attributes := #[] }
def k10m0 : Method := { name := "<init>", desc := "(Lcom/example/pathsieve/pathsieve/engine/Outbox;)V", sig := { parameters := [(.object "com/example/pathsieve/pathsieve/engine/Outbox")], returnType := none }, accessFlags := 0, code := some k10c0 }
def k10c1 : Code := { maxStack := 4, maxLocals := 5, code := prog_16_method_2_code, exceptionTable := #[], attributes := #[] }
def k10m1 : Method := { name := "add", desc := "(IJ)V", sig := { parameters := [.int, .long], returnType := none }, accessFlags := 1, code := some k10c1 }
def k10c2 : Code := { maxStack := 4, maxLocals := 5, code := prog_16_method_3_code, exceptionTable := #[], attributes := #[] }
def k10m2 : Method := { name := "add", desc := "(IJI)V", sig := { parameters := [.int, .long, .int], returnType := none }, accessFlags := 1, code := some k10c2 }
def k10c3 : Code := { maxStack := 3, maxLocals := 1, code := prog_16_method_4_code, exceptionTable := #[], attributes := #[] }
def k10m3 : Method := { name := "size", desc := "()I", sig := { parameters := [], returnType := some .int }, accessFlags := 1, code := some k10c3 }
def k10c4 : Code := { maxStack := 2, maxLocals := 4, code := prog_16_method_13_code, exceptionTable := #[], attributes := #[] }
def k10m4 : Method := { name := "store", desc := "([I[J[I)V", sig := { parameters := [(.array .int), (.array .long), (.array .int)], returnType := none }, accessFlags := 0, code := some k10c4 }
/-- com/example/pathsieve/pathsieve/engine/Messages -/
def k10 : Class := { plain "com/example/pathsieve/pathsieve/engine/Messages" (some 0) with
  accessFlags := 49
  interfaces := #[]
  cf := some (fileOf pool10 8 #[] #[{ accessFlags := 0, nameIndex := 5, descriptorIndex := 63, attributes := #[] }, { accessFlags := 1, nameIndex := 58, descriptorIndex := 59, attributes := #[] }, { accessFlags := 1, nameIndex := 58, descriptorIndex := 67, attributes := #[] }, { accessFlags := 1, nameIndex := 68, descriptorIndex := 69, attributes := #[] }, { accessFlags := 0, nameIndex := 78, descriptorIndex := 79, attributes := #[] }] 49 2 #[] #[{ accessFlags := 18, nameIndex := 18, descriptorIndex := 19, attributes := #[] }, { accessFlags := 18, nameIndex := 24, descriptorIndex := 12, attributes := #[] }, { accessFlags := 2, nameIndex := 51, descriptorIndex := 38, attributes := #[] }, { accessFlags := 2, nameIndex := 54, descriptorIndex := 55, attributes := #[] }, { accessFlags := 2, nameIndex := 62, descriptorIndex := 38, attributes := #[] }, { accessFlags := 2, nameIndex := 11, descriptorIndex := 12, attributes := #[] }, { accessFlags := 2, nameIndex := 15, descriptorIndex := 12, attributes := #[] }, { accessFlags := 2, nameIndex := 28, descriptorIndex := 12, attributes := #[] }, { accessFlags := 2, nameIndex := 31, descriptorIndex := 12, attributes := #[] }, { accessFlags := 2, nameIndex := 48, descriptorIndex := 12, attributes := #[] }])
  fields := #[{ name := "outbox", type := (.object "com/example/pathsieve/pathsieve/engine/Outbox"), accessFlags := 18, slot := 0, constantValue := 0 }, { name := "blockBits", type := .int, accessFlags := 18, slot := 1, constantValue := 0 }, { name := "heads", type := (.array .int), accessFlags := 2, slot := 2, constantValue := 0 }, { name := "distances", type := (.array .long), accessFlags := 2, slot := 3, constantValue := 0 }, { name := "tags", type := (.array .int), accessFlags := 2, slot := 4, constantValue := 0 }, { name := "first", type := .int, accessFlags := 2, slot := 5, constantValue := 0 }, { name := "last", type := .int, accessFlags := 2, slot := 6, constantValue := 0 }, { name := "place", type := .int, accessFlags := 2, slot := 7, constantValue := 0 }, { name := "end", type := .int, accessFlags := 2, slot := 8, constantValue := 0 }, { name := "before", type := .int, accessFlags := 2, slot := 9, constantValue := 0 }]
  methods := #[k10m0, k10m1, k10m2, k10m3, k10m4]
  instanceTypes := #[(.object "com/example/pathsieve/pathsieve/engine/Outbox"), .int, (.array .int), (.array .long), (.array .int), .int, .int, .int, .int, .int]
  staticTypes := #[]
  resolved := Array.replicate 82 none
  statics := none }

def pool11 : Array CpInfo := pool [(1, u "java/lang/Cloneable"), (0, .class_ 1), (0, u "java/lang/Object"), (0, .class_ 3)] 3

/-- java/lang/Cloneable -/
def k11 : Class := { plain "java/lang/Cloneable" (some 0) with
  accessFlags := 1537
  interfaces := #[]
  cf := some (fileOf pool11 2 #[] #[] 1537 4 #[] #[])
  fields := #[]
  methods := #[]
  instanceTypes := #[]
  staticTypes := #[]
  resolved := Array.replicate 8 none
  statics := none }

/-- the primitive byte -/
def k12 : Class := { plain "byte" none with kind := .primitive 'B', accessFlags := 0x411 }
/-- [B -/
def k13 : Class := { plain "[B" (some 0) with kind := .array 12 .byte, interfaces := #[11, 3], accessFlags := 1041 }

/-- the primitive int -/
def k14 : Class := { plain "int" none with kind := .primitive 'I', accessFlags := 0x411 }
/-- [I -/
def k15 : Class := { plain "[I" (some 0) with kind := .array 14 .int, interfaces := #[11, 3], accessFlags := 1041 }

/-- the primitive long -/
def k16 : Class := { plain "long" none with kind := .primitive 'J', accessFlags := 0x411 }
/-- [J -/
def k17 : Class := { plain "[J" (some 0) with kind := .array 16 .long, interfaces := #[11, 3], accessFlags := 1041 }

/-- [Lcom/example/pathsieve/pathsieve/engine/Messages; -/
def k18 : Class := { plain "[Lcom/example/pathsieve/pathsieve/engine/Messages;" (some 0) with kind := .array 10 (.object "com/example/pathsieve/pathsieve/engine/Messages"), interfaces := #[11, 3], accessFlags := 1041 }

def heap : Heap := #[]
def classes : Array Class := #[k0, k1, k2, k3, k4, k5, k6, k7, k8, k9, k10, k11, k12, k13, k14, k15, k16, k17, k18]
def interned : List (Array UInt16 × Addr) := []
def slotsUsed : Nat := 0
def theMethod : MethodId := ⟨1, 1⟩
def args0 : Array Value := #[.int 1, .int 2, .int 3, .int 4, .long 5, .int 6]
def aboutOver (below : List Frame) : State where
  vm := { classes := classes, interned := interned.toArray }
  heap := heap
  slotsUsed := slotsUsed
  threads := #[{ frames := .invoking theMethod args0 :: below }]
def below0 : List Frame := [.native { method := ⟨0, 0⟩, args := #[] }]
def about1 : State := aboutOver below0
def p0 : Program := .bare "" "" ""
def e0 : Env := launch0.env 0 0 0
theorem w_frames : about1.frames = Frame.invoking theMethod args0 :: below0 := rfl
set_option maxRecDepth 65536 in
theorem w_args : argsFit about1.vm theMethod args0 = true := by decide +kernel
set_option maxRecDepth 65536 in
theorem w_heap : heapFits about1 = true := by decide +kernel
set_option maxRecDepth 65536 in
theorem w_runnable : about1.curStatus? = some .runnable := by decide +kernel
set_option maxRecDepth 65536 in
theorem w_alone : about1.alone = true := by decide +kernel
set_option maxRecDepth 65536 in
theorem w_named : about1.methodNamed? x = some theMethod := by decide +kernel
set_option maxRecDepth 65536 in
theorem w_hears : about1.hears theMethod below0 = true := by decide +kernel
set_option maxRecDepth 65536 in
theorem w_ripe : about1.ripe theMethod args0 below0 = true := by decide +kernel
theorem w_running : about1.status = .running := rfl
set_option maxRecDepth 65536 in
theorem w_room : about1.hasRoom e0.platform room_1 = true :=
  launch0.hasRoom_least _ room_1 (by decide +kernel) (by decide +kernel) (by decide +kernel) (by decide +kernel) (by decide +kernel) (by decide +kernel)
theorem allAtoms_all (ts : List Jvm.Cond) (a : Array Jvm.Value) (st : Jvm.State) : (allAtoms ts).before a st = ts.all (fun c => c.before a st) := by
  induction ts with
  | nil => rfl
  | cons c t ih =>
    show (Jvm.Cond.and c (allAtoms t)).before a st = _
    rw [Jvm.Cond.before_and, ih, List.all_cons]
def words1 : List Jvm.Cond := Jvm.Cond.code x code maxLocals ret :: tables_1
/-- a 'code' word, met by the world's own term for the bytes: nothing is compared byte by byte -/
theorem code_word {y : MethodName} {bytes : ByteArray} {mx : Nat} {rt : Option FieldType} {a : Array Value} {s : State} {m : MethodId} {meth : Method} {c : Code} (h1 : s.methodNamed? y = some m) (h2 : s.vm.method? m = some meth) (h3 : meth.code = some c) (h4 : c.code = bytes)
    (h5 : (c.maxLocals == mx && c.exceptionTable.isEmpty && decide (c.maxStack ≤ mostOperands) && decide (meth.sig.returnType = rt) && !meth.locks && decide (parseMethodDescriptor y.desc = some meth.sig)) = true) : (Jvm.Cond.code y bytes mx rt).before a s = true := by
  simp only [Bool.and_eq_true, beq_iff_eq, Bool.not_eq_true', decide_eq_true_eq] at h5
  obtain ⟨⟨⟨⟨⟨g1, g2⟩, g3⟩, g4⟩, g5⟩, g6⟩ := h5
  simp [Cond.before, Cond.holds, Cond.value, h1, h2, h3, h4, g1, g2, g3, g4, g5, g6]
def isCode : Jvm.Cond → Bool
  | .code _ _ _ _ => true
  | _ => false
theorem all_split {L : List Jvm.Cond} {P : Jvm.Cond → Bool} (h1 : L.all (fun c => isCode c || P c) = true) (h2 : ∀ c ∈ L.filter isCode, P c = true) : L.all P = true := by
  refine List.all_eq_true.mpr fun c hc => ?_
  have h := List.all_eq_true.mp h1 c hc
  rcases Bool.eq_false_or_eq_true (isCode c) with hi | hi
  · exact h2 c (List.mem_filter.mpr ⟨hc, hi⟩)
  · simpa [hi] using h
set_option maxRecDepth 65536 in
theorem w_c0 : (Jvm.Cond.code x code maxLocals ret).before args0 about1 = true := code_word (m := ⟨1, 1⟩) (meth := k1m1) (c := k1c1) (by decide +kernel) rfl rfl rfl (by decide +kernel)
set_option maxRecDepth 65536 in
theorem w_c1 : (Jvm.Cond.code ({ cls := "com/example/pathsieve/pathsieve/engine/Outbox", name := "<init>", desc := "(II)V" } : Jvm.MethodName) prog_18_method_1_code (5 : Nat) (Option.none : Option Jvm.ClassFile.FieldType)).before args0 about1 = true := code_word (m := ⟨2, 0⟩) (meth := k2m0) (c := k2c0) (by decide +kernel) rfl rfl rfl (by decide +kernel)
set_option maxRecDepth 65536 in
theorem w_c2 : (Jvm.Cond.code ({ cls := "java/lang/Object", name := "<init>", desc := "()V" } : Jvm.MethodName) object_method_1_code (1 : Nat) (Option.none : Option Jvm.ClassFile.FieldType)).before args0 about1 = true := code_word (m := ⟨0, 0⟩) (meth := k0m0) (c := k0c0) (by decide +kernel) rfl rfl rfl (by decide +kernel)
set_option maxRecDepth 65536 in
theorem w_c3 : (Jvm.Cond.code ({ cls := "java/lang/Integer", name := "numberOfLeadingZeros", desc := "(I)I" } : Jvm.MethodName) jdk_33_method_47_code (2 : Nat) (Option.some Jvm.ClassFile.FieldType.int)).before args0 about1 = true := code_word (m := ⟨8, 0⟩) (meth := k8m0) (c := k8c0) (by decide +kernel) rfl rfl rfl (by decide +kernel)
set_option maxRecDepth 65536 in
theorem w_c4 : (Jvm.Cond.code ({ cls := "java/lang/Math", name := "min", desc := "(II)I" } : Jvm.MethodName) jdk_29_method_69_code (2 : Nat) (Option.some Jvm.ClassFile.FieldType.int)).before args0 about1 = true := code_word (m := ⟨9, 2⟩) (meth := k9m2) (c := k9c2) (by decide +kernel) rfl rfl rfl (by decide +kernel)
set_option maxRecDepth 65536 in
theorem w_c5 : (Jvm.Cond.code ({ cls := "java/lang/Math", name := "max", desc := "(II)I" } : Jvm.MethodName) jdk_29_method_65_code (2 : Nat) (Option.some Jvm.ClassFile.FieldType.int)).before args0 about1 = true := code_word (m := ⟨9, 1⟩) (meth := k9m1) (c := k9c1) (by decide +kernel) rfl rfl rfl (by decide +kernel)
set_option maxRecDepth 65536 in
theorem w_c6 : (Jvm.Cond.code ({ cls := "com/example/pathsieve/pathsieve/engine/Messages", name := "<init>", desc := "(Lcom/example/pathsieve/pathsieve/engine/Outbox;)V" } : Jvm.MethodName) prog_16_method_1_code (2 : Nat) (Option.none : Option Jvm.ClassFile.FieldType)).before args0 about1 = true := code_word (m := ⟨10, 0⟩) (meth := k10m0) (c := k10c0) (by decide +kernel) rfl rfl rfl (by decide +kernel)
set_option maxRecDepth 65536 in
theorem w_c7 : (Jvm.Cond.code ({ cls := "com/example/pathsieve/pathsieve/engine/Messages", name := "store", desc := "([I[J[I)V" } : Jvm.MethodName) prog_16_method_13_code (4 : Nat) (Option.none : Option Jvm.ClassFile.FieldType)).before args0 about1 = true := code_word (m := ⟨10, 4⟩) (meth := k10m4) (c := k10c4) (by decide +kernel) rfl rfl rfl (by decide +kernel)
set_option maxRecDepth 65536 in
theorem w_c8 : (Jvm.Cond.code ({ cls := "com/example/pathsieve/pathsieve/engine/Messages", name := "size", desc := "()I" } : Jvm.MethodName) prog_16_method_4_code (1 : Nat) (Option.some Jvm.ClassFile.FieldType.int)).before args0 about1 = true := code_word (m := ⟨10, 3⟩) (meth := k10m3) (c := k10c3) (by decide +kernel) rfl rfl rfl (by decide +kernel)
set_option maxRecDepth 65536 in
theorem w_c9 : (Jvm.Cond.code ({ cls := "com/example/pathsieve/pathsieve/engine/MessagesSizePinLaw", name := "send", desc := "(Lcom/example/pathsieve/pathsieve/engine/Messages;ZIJI)V" } : Jvm.MethodName) method_3_code (6 : Nat) (Option.none : Option Jvm.ClassFile.FieldType)).before args0 about1 = true := code_word (m := ⟨1, 2⟩) (meth := k1m2) (c := k1c2) (by decide +kernel) rfl rfl rfl (by decide +kernel)
set_option maxRecDepth 65536 in
theorem w_c10 : (Jvm.Cond.code ({ cls := "com/example/pathsieve/pathsieve/engine/Messages", name := "add", desc := "(IJ)V" } : Jvm.MethodName) prog_16_method_2_code (5 : Nat) (Option.none : Option Jvm.ClassFile.FieldType)).before args0 about1 = true := code_word (m := ⟨10, 1⟩) (meth := k10m1) (c := k10c1) (by decide +kernel) rfl rfl rfl (by decide +kernel)
set_option maxRecDepth 65536 in
theorem w_c11 : (Jvm.Cond.code ({ cls := "com/example/pathsieve/pathsieve/engine/Messages", name := "add", desc := "(IJI)V" } : Jvm.MethodName) prog_16_method_3_code (5 : Nat) (Option.none : Option Jvm.ClassFile.FieldType)).before args0 about1 = true := code_word (m := ⟨10, 2⟩) (meth := k10m2) (c := k10c2) (by decide +kernel) rfl rfl rfl (by decide +kernel)
def codes1 : List Jvm.Cond := [Jvm.Cond.code x code maxLocals ret, Jvm.Cond.code ({ cls := "com/example/pathsieve/pathsieve/engine/Outbox", name := "<init>", desc := "(II)V" } : Jvm.MethodName) prog_18_method_1_code (5 : Nat) (Option.none : Option Jvm.ClassFile.FieldType), Jvm.Cond.code ({ cls := "java/lang/Object", name := "<init>", desc := "()V" } : Jvm.MethodName) object_method_1_code (1 : Nat) (Option.none : Option Jvm.ClassFile.FieldType), Jvm.Cond.code ({ cls := "java/lang/Integer", name := "numberOfLeadingZeros", desc := "(I)I" } : Jvm.MethodName) jdk_33_method_47_code (2 : Nat) (Option.some Jvm.ClassFile.FieldType.int), Jvm.Cond.code ({ cls := "java/lang/Math", name := "min", desc := "(II)I" } : Jvm.MethodName) jdk_29_method_69_code (2 : Nat) (Option.some Jvm.ClassFile.FieldType.int), Jvm.Cond.code ({ cls := "java/lang/Math", name := "max", desc := "(II)I" } : Jvm.MethodName) jdk_29_method_65_code (2 : Nat) (Option.some Jvm.ClassFile.FieldType.int), Jvm.Cond.code ({ cls := "com/example/pathsieve/pathsieve/engine/Messages", name := "<init>", desc := "(Lcom/example/pathsieve/pathsieve/engine/Outbox;)V" } : Jvm.MethodName) prog_16_method_1_code (2 : Nat) (Option.none : Option Jvm.ClassFile.FieldType), Jvm.Cond.code ({ cls := "com/example/pathsieve/pathsieve/engine/Messages", name := "store", desc := "([I[J[I)V" } : Jvm.MethodName) prog_16_method_13_code (4 : Nat) (Option.none : Option Jvm.ClassFile.FieldType), Jvm.Cond.code ({ cls := "com/example/pathsieve/pathsieve/engine/Messages", name := "size", desc := "()I" } : Jvm.MethodName) prog_16_method_4_code (1 : Nat) (Option.some Jvm.ClassFile.FieldType.int), Jvm.Cond.code ({ cls := "com/example/pathsieve/pathsieve/engine/MessagesSizePinLaw", name := "send", desc := "(Lcom/example/pathsieve/pathsieve/engine/Messages;ZIJI)V" } : Jvm.MethodName) method_3_code (6 : Nat) (Option.none : Option Jvm.ClassFile.FieldType), Jvm.Cond.code ({ cls := "com/example/pathsieve/pathsieve/engine/Messages", name := "add", desc := "(IJ)V" } : Jvm.MethodName) prog_16_method_2_code (5 : Nat) (Option.none : Option Jvm.ClassFile.FieldType), Jvm.Cond.code ({ cls := "com/example/pathsieve/pathsieve/engine/Messages", name := "add", desc := "(IJI)V" } : Jvm.MethodName) prog_16_method_3_code (5 : Nat) (Option.none : Option Jvm.ClassFile.FieldType)]
set_option maxRecDepth 65536 in
theorem codes_eq : words1.filter isCode = codes1 := rfl
theorem w_codes : ∀ c ∈ words1.filter isCode, c.before args0 about1 = true := by
  rw [codes_eq]
  intro c hc
  simp only [codes1, List.mem_cons, List.not_mem_nil, or_false] at hc
  rcases hc with rfl | rfl | rfl | rfl | rfl | rfl | rfl | rfl | rfl | rfl | rfl | rfl
  · exact w_c0
  · exact w_c1
  · exact w_c2
  · exact w_c3
  · exact w_c4
  · exact w_c5
  · exact w_c6
  · exact w_c7
  · exact w_c8
  · exact w_c9
  · exact w_c10
  · exact w_c11
set_option maxRecDepth 65536 in
theorem w_t1 : (words1.take 24).all (fun c => isCode c || c.before args0 about1) = true := by decide +kernel
set_option maxRecDepth 65536 in
theorem w_t2 : ((words1.drop 24).take 24).all (fun c => isCode c || c.before args0 about1) = true := by decide +kernel
set_option maxRecDepth 65536 in
theorem w_t3 : (((words1.drop 24).drop 24).take 24).all (fun c => isCode c || c.before args0 about1) = true := by decide +kernel
set_option maxRecDepth 65536 in
theorem w_t4 : ((((words1.drop 24).drop 24).drop 24).take 24).all (fun c => isCode c || c.before args0 about1) = true := by decide +kernel
set_option maxRecDepth 65536 in
theorem w_t5 : ((((words1.drop 24).drop 24).drop 24).drop 24).all (fun c => isCode c || c.before args0 about1) = true := by decide +kernel
theorem w_tables : (allAtoms (Jvm.Cond.code x code maxLocals ret :: tables_1)).before args0 about1 = true := by
  rw [allAtoms_all]
  show words1.all (fun c => c.before args0 about1) = true
  refine all_split ?_ w_codes
  rw [← List.take_append_drop 24 words1, List.all_append, w_t1, ← List.take_append_drop 24 (words1.drop 24), List.all_append, w_t2, ← List.take_append_drop 24 ((words1.drop 24).drop 24), List.all_append, w_t3, ← List.take_append_drop 24 (((words1.drop 24).drop 24).drop 24), List.all_append, w_t4, w_t5]
  rfl
set_option maxRecDepth 65536 in
theorem w_case : (Jvm.Cond.and given_1 narrow_1).before args0 about1 = true := by decide +kernel
theorem w_applies : (headSpec (Jvm.Cond.code x code maxLocals ret :: tables_1) room_1).applies x e0.platform about1 = true :=
  (Spec.applies_iff w_frames).mpr ⟨w_running, w_runnable, w_alone, w_named, w_hears, w_ripe, w_room, w_tables⟩
theorem atStart : AtStart classFile x code maxLocals ret World_1 tables_1 room_1 Calls_1 rest_1 Pre_1 launch0 p0 e0 about1 theMethod args0 below0 :=
  ⟨lists_1, trivial, launch0.admits_env _ _ _, launch0.least_env, fairChoices_fair.cas, fairChoices_fair.clock, w_frames, w_args, w_heap, w_applies, trivial, trivial, w_case⟩
end start1
theorem witness_1 : WitnessClaimed_1 := ⟨start1.p0, start1.e0, start1.about1, start1.theMethod, start1.args0, start1.below0, start1.atStart⟩
end Jvm.Pilot.@@N@@
