import JvmDerived
import JvmDerived.Pilot.@@N@@Statement
import JvmDerived.Pilot.@@N@@Code
set_option linter.unusedVariables false
set_option linter.unusedSimpArgs false
namespace Jvm.RoadKit
open Sem ClassFile Op Lib Jvm.Stand Jvm.Free Jvm.LawKit
section New
variable {p : Program} {l : Launch} {e : Env} {R : Room} {s : State} {m : MethodId} {args : Array Value} {below : List Frame} {meth : Method} {c : Code} {T : State} {locs : List Loc} {cells slots : Nat}
theorem retI (X : Stand p l e R s m args below meth c T locs cells slots) (hx : p.tables.exec = Jvm.exec) {pc : Nat} {Ls : Array Slot} {z : Int32} {rest : List Value} (hret : meth.sig.returnType = some .int) (hd : decode c.code pc = .ok (.ireturn, 1)) {fs : List Frame}
    (hl : ∀ (f : JFrame) (acts : List Action), f.method = m → f.locked = none → f.entered = [] → (doReturn e (T.setTop f) acts (some (.int z))).1 = T.setFrames fs) : Steps p.tables e below (T.setTop (mkF m pc Ls (.int z :: rest))) (T.setFrames fs) := by
  have hm' : T.vm.method? m = some meth := X.method'
  have hn : narrow .int (.int z) = .int z := rfl
  show Steps p.tables e below (T.setTop { method := m, pc := pc, locals := Ls, stack := _ :: rest, locked := none }) _
  jvm_step X.here [X.here.top, hx, hd, hm', hret, hn]
  first | (intro acts; rw [hl _ acts rfl rfl rfl]) | rw [hl _ _ rfl rfl rfl]
  exact Steps.refl _
theorem own_retL (X : Stand p l e R s m args below meth c T locs cells slots) (hx : p.tables.exec = Jvm.exec) {pc : Nat} {Ls : Array Slot} {z : Int64} {rest : List Value} (hret : meth.sig.returnType = some .long) (hd : decode c.code pc = .ok (.lreturn, 1)) {fs : List Frame}
    (hl : ∀ (f : JFrame) (acts : List Action), f.method = m → f.locked = none → f.entered = [] → (doReturn e (T.setTop f) acts (some (.long z))).1 = T.setFrames fs) : Steps p.tables e below (T.setTop (mkF m pc Ls (.long z :: rest))) (T.setFrames fs) := by
  have hm' : T.vm.method? m = some meth := X.method'
  have hn : narrow .long (.long z) = .long z := rfl
  show Steps p.tables e below (T.setTop { method := m, pc := pc, locals := Ls, stack := _ :: rest, locked := none }) _
  jvm_step X.here [X.here.top, hx, hd, hm', hret, hn]
  first | (intro acts; rw [hl _ acts rfl rfl rfl]) | rw [hl _ _ rfl rfl rfl]
  exact Steps.refl _
theorem own_retR (X : Stand p l e R s m args below meth c T locs cells slots) (hx : p.tables.exec = Jvm.exec) {pc : Nat} {Ls : Array Slot} {v : Value} {t : FieldType} {rest : List Value} (hret : meth.sig.returnType = some t) (ht : t.isReference = true) (hv : v.isRef = true) (hd : decode c.code pc = .ok (.areturn, 1)) {fs : List Frame}
    (hl : ∀ (f : JFrame) (acts : List Action), f.method = m → f.locked = none → f.entered = [] → (doReturn e (T.setTop f) acts (some v)).1 = T.setFrames fs) : Steps p.tables e below (T.setTop (mkF m pc Ls (v :: rest))) (T.setFrames fs) := by
  have hm' : T.vm.method? m = some meth := X.method'
  show Steps p.tables e below (T.setTop { method := m, pc := pc, locals := Ls, stack := _ :: rest, locked := none }) _
  rcases ref_cases hv with rfl | ⟨a, rfl⟩
  · jvm_step X.here [X.here.top, hx, hd, hm', hret, ht, Value.isRef]
    first | (intro acts; rw [hl _ acts rfl rfl rfl]) | rw [hl _ _ rfl rfl rfl]
    exact Steps.refl _
  · jvm_step X.here [X.here.top, hx, hd, hm', hret, ht, Value.isRef]
    first | (intro acts; rw [hl _ acts rfl rfl rfl]) | rw [hl _ _ rfl rfl rfl]
    exact Steps.refl _
end New
/-- an end that the run comes to from S, with what is said of it -/
def OGo (tb : Tables) (e : Env) (below : List Frame) (Φ : State → Outcome → Prop) (S : State) : Prop := ∃ t o, Steps tb e below S t ∧ Φ t o
section Own
variable {tb : Tables} {e : Env} {below : List Frame} {Φ : State → Outcome → Prop} {S S' t : State} {o : Outcome}
theorem OGo.start (pre : ∀ t, Steps tb e below S' t → Steps tb e below S t) (k : OGo tb e below Φ S') : ∃ t o, Steps tb e below S t ∧ Φ t o := by
  obtain ⟨t, o, h1, h2⟩ := k
  exact ⟨t, o, pre t h1, h2⟩
theorem OGo.st (h : ∀ t, Steps tb e below S' t → Steps tb e below S t) (k : OGo tb e below Φ S') : OGo tb e below Φ S := OGo.start h k
theorem OGo.tr (h : Steps tb e below S S') (k : OGo tb e below Φ S') : OGo tb e below Φ S := OGo.start (fun _ q => h.trans q) k
theorem OGo.done (h : Steps tb e below S t) (q : Φ t o) : OGo tb e below Φ S := ⟨t, o, h, q⟩
theorem OGo.join {α : Type} (P : α → Prop) (F : α → State) (h : ∀ v, P v → OGo tb e below Φ (F v)) (k : (∀ v, P v → OGo tb e below Φ (F v)) → OGo tb e below Φ S) : OGo tb e below Φ S := k h
theorem own_fld {Z : State} {h : Heap} {a : Addr} {C n d : String} {v w : Value} (F : Fld Z h a C n d v) (q : v = w) : Fld Z h a C n d w := q ▸ F
end Own
end Jvm.RoadKit
namespace Jvm.Pilot.@@N@@
open Jvm Jvm.ClassFile Sem Op Lib Jvm.Free Jvm.Stand Jvm.LawKit Jvm.RoadKit Bundle Jvm.Pilot.@@N@@.Jvm.D
theorem d0_0 : decode prog_59_method_1_code 0 = .ok (.aload_n 0, 1) := by decide +kernel
theorem d0_1 : decode prog_59_method_1_code 1 = .ok (.invokespecial 1, 3) := by decide +kernel
theorem d0_4 : decode prog_59_method_1_code 4 = .ok (.aload_n 0, 1) := by decide +kernel
theorem d0_5 : decode prog_59_method_1_code 5 = .ok (.bipush 16, 2) := by decide +kernel
theorem d0_7 : decode prog_59_method_1_code 7 = .ok (.newarray .int, 2) := by decide +kernel
theorem d0_9 : decode prog_59_method_1_code 9 = .ok (.putfield 7, 3) := by decide +kernel
theorem d0_12 : decode prog_59_method_1_code 12 = .ok (.return_, 1) := by decide +kernel
theorem pn_0 : plainName "com/example/portcullis/portcullis/policy/Ints" = true := by first | (simp [plainName, overriddenIn]; done) | decide +kernel
theorem ef_0 (m : MethodId) (x0 : Addr) : entryFrame m #[(.ref x0)] 1 = mkF m 0 #[.val (.ref x0)] [] := by first | (simp [entryFrame, mkF, argsToLocals, Value.category]; done) | rfl
def Q0 (Z : State) (a0 : Addr) (h0 : Heap) (n0 : Nat) (v : Option Value) (h : Heap) (L : List Loc) : Prop := ∃ b : Addr, ∃ k : ClassId, v = none ∧ Fr n0 L ∧ Keep h0 h [a0] ∧ h0.size ≤ b ∧ (Fld Z h a0 "com/example/portcullis/portcullis/policy/Ints" "values" "[I" (.ref b)) ∧ (Fld Z h a0 "com/example/portcullis/portcullis/policy/Ints" "size" "I" (.int (0 : Int32))) ∧ (Arv Z h b k .int (16 : Int32) [(.int (0 : Int32)), (.int (0 : Int32)), (.int (0 : Int32)), (.int (0 : Int32))] (.int (0 : Int32)))
set_option maxRecDepth 65536 in
set_option maxHeartbeats 40000000 in
theorem rm0 (l : Launch) (Z : State) (ar : Array Value) (hw : ∀ d ∈ tables_1, d.before ar Z = true) (ws : List Jvm.Cond) (a0 : Addr) (h0 : Heap) (n0 : Nat) (Z0 : n0 ≤ h0.size) (E0 : Exa Z h0 a0 "com/example/portcullis/portcullis/policy/Ints") (g0 : n0 ≤ a0) (F1 : Fld Z h0 a0 "com/example/portcullis/portcullis/policy/Ints" "values" "[I" .null) (F2 : Fld Z h0 a0 "com/example/portcullis/portcullis/policy/Ints" "size" "I" (.int (0 : Int32))) :
    MetFree l (⟨"com/example/portcullis/portcullis/policy/Ints", "<init>", "()V"⟩ : MethodName) (head1 (Jvm.Cond.code (⟨"com/example/portcullis/portcullis/policy/Ints", "<init>", "()V"⟩ : MethodName) prog_59_method_1_code 1 none :: ws) ({ frames := 1, cells := 1, slots := 16, locals := 12 } : Room)) (fun a U => a = #[(.ref a0)] ∧ Z.Warmed39 U.vm ∧ U.heap = h0) (fun _ _ _ _ _ => True) (fun _ U o U' => ∃ v L, o = .returned v ∧ Q0 Z a0 h0 n0 v U'.heap L ∧ FrameEnd U o U' L ({ frames := 1, cells := 1, slots := 16, locals := 12 } : Room).cells ({ frames := 1, cells := 1, slots := 16, locals := 12 } : Room).slots) := by
  refine MetFree.of_bodySF (plainFor_of_name pn_0) hisR ?_
  intro p e s m args below meth c s₁ Bd hml0 hP hK
  obtain ⟨rfl, hZ, hh⟩ := hP
  have hx := Bd.exec
  have hby := Bd.bytes
  have hml : c.maxLocals = 1 := hml0
  have hown : s.vm.findClass "com/example/portcullis/portcullis/policy/Ints" = some m.cls := findClass_of_methodNamed Bd.named
  have hnm := (name_of_methodNamed Bd.named Bd.method).1
  have X0 : Stand p l e ({ frames := 1, cells := 1, slots := 16, locals := 12 } : Room) s m #[(.ref a0)] below meth c s₁ [] 0 0 := Stand.of_body Bd
  have e0 : s₁.heap = h0 := by rw [← hh, Bd.state]; rfl
  have N0 := Fr.nil n0
  have pre0 : ∀ t, Steps p.tables e below (s₁.setTop (mkF m 0 #[.val (.ref a0)] [])) t → Steps p.tables e below (s₁.setTop (entryFrame m #[(.ref a0)] 1)) t := fun t k => castTop (ef_0 m a0) k
  refine OGo.start pre0 ?_
  show OGo p.tables e below _ (s₁.setTop (mkF m 0 #[.val (.ref a0)] []))
  refine OGo.st (fun t k => XS.aloadN X0.here hx rfl (hb hby d0_0) rfl rfl k) ?_
  show OGo p.tables e below _ (s₁.setTop (mkF m 1 #[.val (.ref a0)] [(.ref a0)]))
  obtain ⟨T101, X101, e101, st101⟩ := initO X0 hx hZ hown (hw _ (List.mem_of_getElem? (i := 6) rfl)) (hw _ (List.mem_of_getElem? (i := 7) rfl)) (hw _ (List.mem_of_getElem? (i := 8) rfl)) e0 (g := (mkF m 1 #[.val (.ref a0)] [(.ref a0)])) rfl (by rw [hml]; rfl) rfl (hb hby d0_1) (by decide) (W := 0) (by show 2 * 0 + _ ≤ _; exact Nat.le_of_eq rfl) (by decide)
  refine OGo.st st101 ?_
  show OGo p.tables e below _ (T101.setTop (mkF m 4 #[.val (.ref a0)] []))
  refine OGo.st (fun t k => XS.aloadN X101.here hx rfl (hb hby d0_4) rfl rfl k) ?_
  show OGo p.tables e below _ (T101.setTop (mkF m 5 #[.val (.ref a0)] [(.ref a0)]))
  refine OGo.st (fun t k => XS.bipush X101.here hx rfl (hb hby d0_5) k) ?_
  show OGo p.tables e below _ (T101.setTop (mkF m 7 #[.val (.ref a0)] [(.int (16 : Int32)), (.ref a0)]))
  obtain ⟨T102, h102, k102, X102, e102, E102, A102, st102⟩ := newP X101 hx hZ (hw _ (List.mem_of_getElem? (i := 9) rfl)) e101 (g := (mkF m 7 #[.val (.ref a0)] [(.int (16 : Int32)), (.ref a0)])) rfl (hb hby d0_7) rfl (by decide) (cap := 16) (by decide) (by decide) (by decide) (by decide)
  obtain ⟨b102, g102⟩ : ∃ z, z = h0.size := ⟨_, rfl⟩
  rw [← g102] at A102 st102
  have ge_b102 : n0 ≤ b102 := Nat.le_trans Z0 (Nat.le_of_eq g102.symm)
  have sz_b102 : h0.size ≤ b102 := Nat.le_trans (Nat.le_refl h0.size) (Nat.le_of_eq g102.symm)
  have ne_a0_b102 : a0 ≠ b102 := Nat.ne_of_lt (Nat.lt_of_lt_of_le E0.lt (Nat.le_of_eq g102.symm))
  have V102 : Arv Z h102 b102 k102 .int (16 : Int32) [(.int (0 : Int32)), (.int (0 : Int32)), (.int (0 : Int32)), (.int (0 : Int32))] (.int (0 : Int32)) := (Arv.new A102 (by decide)).pad (pad_rep [] (.int (0 : Int32)) 4)
  refine OGo.st st102 ?_
  show OGo p.tables e below _ (T102.setTop (mkF m 9 #[.val (.ref a0)] [(.ref b102), (.ref a0)]))
  have G103 : Exa Z h102 a0 "com/example/portcullis/portcullis/policy/Ints" := (Exa.ext E102 E0)
  have G104 : Fld Z h102 a0 "com/example/portcullis/portcullis/policy/Ints" "values" "[I" .null := (Fld.ext E102 F1)
  obtain ⟨T105, h105, X105, e105, W105, st105⟩ := putF X102 hx hZ hown (host := "") (Or.inl (hw _ (List.mem_of_getElem? (i := 10) rfl))) Via.refl e102 G104 G103 (Or.inl (hw _ (List.mem_of_getElem? (i := 11) rfl))) (hw _ (List.mem_of_getElem? (i := 1) rfl)) (ty := (.array .int)) (by decide) rfl rfl (g := (mkF m 9 #[.val (.ref a0)] [(.ref b102), (.ref a0)])) rfl rfl (hb hby d0_9)
  refine OGo.st st105 ?_
  have Fw105 : Fld Z h105 a0 "com/example/portcullis/portcullis/policy/Ints" "values" "[I" (.ref b102) := Fld.same W105 G104
  have N105 := Fr.snoc X105 N0 g0
  show OGo p.tables e below _ (T105.setTop (mkF m 12 #[.val (.ref a0)] []))
  obtain ⟨fs, hr, hrun, hended, hW, hsame⟩ := X105.leave (v := none) (fun _ => rfl)
  have G107 : Fld Z h105 a0 "com/example/portcullis/portcullis/policy/Ints" "size" "I" (.int (0 : Int32)) := (Fld.other W105 (Fld.ext E102 F2) (Or.inr (slot_ne (Or.inl (hw _ (List.mem_of_getElem? (i := 18) rfl))) (Or.inl (hw _ (List.mem_of_getElem? (i := 11) rfl))) (by decide) (t := .int) (t' := (.array .int)) (by decide) (by decide))))
  have G108 : Arv Z h105 b102 k102 .int (16 : Int32) [(.int (0 : Int32)), (.int (0 : Int32)), (.int (0 : Int32)), (.int (0 : Int32))] (.int (0 : Int32)) := (V102.other W105 (Ne.symm ne_a0_b102))
  refine OGo.done (X105.returnOut hx Bd.returns (hb hby d0_12) hr) ⟨hrun, hended, _, _, rfl, ?_, ⟨_, rfl⟩, hW, hsame.mono (by decide) (by decide)⟩
  show Q0 Z a0 h0 n0 _ T105.heap _
  rw [e105]
  exact ⟨b102, k102, rfl, N105, (((Keep.refl h0 [a0]).ext E102).wr W105 (Or.inl (List.mem_of_getElem? (i := 0) rfl))), sz_b102, Fw105, G107, G108⟩
theorem d1_0 : decode prog_59_method_2_code 0 = .ok (.aload_n 0, 1) := by decide +kernel
theorem d1_1 : decode prog_59_method_2_code 1 = .ok (.getfield 13, 3) := by decide +kernel
theorem d1_4 : decode prog_59_method_2_code 4 = .ok (.aload_n 0, 1) := by decide +kernel
theorem d1_5 : decode prog_59_method_2_code 5 = .ok (.getfield 7, 3) := by decide +kernel
theorem d1_8 : decode prog_59_method_2_code 8 = .ok (.arraylength, 1) := by decide +kernel
theorem d1_9 : decode prog_59_method_2_code 9 = .ok (.if_icmp .ne 20, 3) := by decide +kernel
theorem d1_29 : decode prog_59_method_2_code 29 = .ok (.aload_n 0, 1) := by decide +kernel
theorem d1_30 : decode prog_59_method_2_code 30 = .ok (.getfield 7, 3) := by decide +kernel
theorem d1_33 : decode prog_59_method_2_code 33 = .ok (.aload_n 0, 1) := by decide +kernel
theorem d1_34 : decode prog_59_method_2_code 34 = .ok (.getfield 13, 3) := by decide +kernel
theorem d1_37 : decode prog_59_method_2_code 37 = .ok (.iload_n 1, 1) := by decide +kernel
theorem d1_38 : decode prog_59_method_2_code 38 = .ok (.iastore, 1) := by decide +kernel
theorem d1_39 : decode prog_59_method_2_code 39 = .ok (.aload_n 0, 1) := by decide +kernel
theorem d1_40 : decode prog_59_method_2_code 40 = .ok (.dup, 1) := by decide +kernel
theorem d1_41 : decode prog_59_method_2_code 41 = .ok (.getfield 13, 3) := by decide +kernel
theorem d1_44 : decode prog_59_method_2_code 44 = .ok (.iconst 1, 1) := by decide +kernel
theorem d1_45 : decode prog_59_method_2_code 45 = .ok (.iadd, 1) := by decide +kernel
theorem d1_46 : decode prog_59_method_2_code 46 = .ok (.putfield 13, 3) := by decide +kernel
theorem d1_49 : decode prog_59_method_2_code 49 = .ok (.return_, 1) := by decide +kernel
theorem ef_1 (m : MethodId) (x0 : Addr) (x1 : Int32) : entryFrame m #[(.ref x0), (.int x1)] 2 = mkF m 0 #[.val (.ref x0), .val (.int x1)] [] := by first | (simp [entryFrame, mkF, argsToLocals, Value.category]; done) | rfl
def Q1 (Z : State) (a0 : Addr) (p1 : Int32) (b : Addr) (k : ClassId) (v0 : Int32) (v1 : Int32) (v2 : Int32) (v3 : Int32) (h0 : Heap) (n0 : Nat) (v : Option Value) (h : Heap) (L : List Loc) : Prop := v = none ∧ Fr n0 L ∧ Keep h0 h [a0, b] ∧ (Fld Z h a0 "com/example/portcullis/portcullis/policy/Ints" "values" "[I" (.ref b)) ∧ (Fld Z h a0 "com/example/portcullis/portcullis/policy/Ints" "size" "I" (.int (1 : Int32))) ∧ (Arv Z h b k .int (16 : Int32) [(.int p1), (.int v1), (.int v2), (.int v3)] (.int (0 : Int32)))
set_option maxRecDepth 65536 in
set_option maxHeartbeats 40000000 in
theorem rm1 (l : Launch) (Z : State) (ar : Array Value) (hw : ∀ d ∈ tables_1, d.before ar Z = true) (ws : List Jvm.Cond) (a0 : Addr) (p1 : Int32) (b : Addr) (k : ClassId) (v0 : Int32) (v1 : Int32) (v2 : Int32) (v3 : Int32) (h0 : Heap) (n0 : Nat) (Z0 : n0 ≤ h0.size) (F1 : Fld Z h0 a0 "com/example/portcullis/portcullis/policy/Ints" "values" "[I" (.ref b)) (V0 : Arv Z h0 b k .int (16 : Int32) [(.int v0), (.int v1), (.int v2), (.int v3)] (.int (0 : Int32))) (E0 : Exa Z h0 a0 "com/example/portcullis/portcullis/policy/Ints") (g0 : n0 ≤ a0) (gb : n0 ≤ b) (nab : a0 ≠ b) (F2 : Fld Z h0 a0 "com/example/portcullis/portcullis/policy/Ints" "size" "I" (.int (0 : Int32))) :
    MetFree l (⟨"com/example/portcullis/portcullis/policy/Ints", "add", "(I)V"⟩ : MethodName) (head1 (Jvm.Cond.code (⟨"com/example/portcullis/portcullis/policy/Ints", "add", "(I)V"⟩ : MethodName) prog_59_method_2_code 2 none :: ws) ({ frames := 0, cells := 0, slots := 0, locals := 0 } : Room)) (fun a U => a = #[(.ref a0), (.int p1)] ∧ Z.Warmed39 U.vm ∧ U.heap = h0) (fun _ _ _ _ _ => True) (fun _ U o U' => ∃ v L, o = .returned v ∧ Q1 Z a0 p1 b k v0 v1 v2 v3 h0 n0 v U'.heap L ∧ FrameEnd U o U' L ({ frames := 0, cells := 0, slots := 0, locals := 0 } : Room).cells ({ frames := 0, cells := 0, slots := 0, locals := 0 } : Room).slots) := by
  refine MetFree.of_bodySF (plainFor_of_name pn_0) hisR ?_
  intro p e s m args below meth c s₁ Bd hml0 hP hK
  obtain ⟨rfl, hZ, hh⟩ := hP
  have hx := Bd.exec
  have hby := Bd.bytes
  have hml : c.maxLocals = 2 := hml0
  have hown : s.vm.findClass "com/example/portcullis/portcullis/policy/Ints" = some m.cls := findClass_of_methodNamed Bd.named
  have hnm := (name_of_methodNamed Bd.named Bd.method).1
  have X0 : Stand p l e ({ frames := 0, cells := 0, slots := 0, locals := 0 } : Room) s m #[(.ref a0), (.int p1)] below meth c s₁ [] 0 0 := Stand.of_body Bd
  have e0 : s₁.heap = h0 := by rw [← hh, Bd.state]; rfl
  have N0 := Fr.nil n0
  have pre0 : ∀ t, Steps p.tables e below (s₁.setTop (mkF m 0 #[.val (.ref a0), .val (.int p1)] [])) t → Steps p.tables e below (s₁.setTop (entryFrame m #[(.ref a0), (.int p1)] 2)) t := fun t k => castTop (ef_1 m a0 p1) k
  refine OGo.start pre0 ?_
  show OGo p.tables e below _ (s₁.setTop (mkF m 0 #[.val (.ref a0), .val (.int p1)] []))
  refine OGo.st (fun t k => XS.aloadN X0.here hx rfl (hb hby d1_0) rfl rfl k) ?_
  show OGo p.tables e below _ (s₁.setTop (mkF m 1 #[.val (.ref a0), .val (.int p1)] [(.ref a0)]))
  obtain ⟨T101, X101, e101, st101⟩ := getF X0 hx hZ hown (host := "") (Or.inl (hw _ (List.mem_of_getElem? (i := 17) rfl))) Via.refl e0 F2 (g := (mkF m 1 #[.val (.ref a0), .val (.int p1)] [(.ref a0)])) rfl rfl (hb hby d1_1)
  refine OGo.st st101 ?_
  show OGo p.tables e below _ (T101.setTop (mkF m 4 #[.val (.ref a0), .val (.int p1)] [(.int (0 : Int32))]))
  refine OGo.st (fun t k => XS.aloadN X101.here hx rfl (hb hby d1_4) rfl rfl k) ?_
  show OGo p.tables e below _ (T101.setTop (mkF m 5 #[.val (.ref a0), .val (.int p1)] [(.ref a0), (.int (0 : Int32))]))
  obtain ⟨T102, X102, e102, st102⟩ := getF X101 hx hZ hown (host := "") (Or.inl (hw _ (List.mem_of_getElem? (i := 10) rfl))) Via.refl e101 F1 (g := (mkF m 5 #[.val (.ref a0), .val (.int p1)] [(.ref a0), (.int (0 : Int32))])) rfl rfl (hb hby d1_5)
  refine OGo.st st102 ?_
  show OGo p.tables e below _ (T102.setTop (mkF m 8 #[.val (.ref a0), .val (.int p1)] [(.ref b), (.int (0 : Int32))]))
  obtain ⟨cl103, Ar103, qc103, Sz103, Nz103, Hs103, Gs103⟩ := id V0
  refine OGo.st (fun t k => X102.arraylength hx (by rw [e102]; exact Ar103.1) (State.isArrayOf_alike hZ.alike Ar103.2.1) (g := (mkF m 8 #[.val (.ref a0), .val (.int p1)] [(.ref b), (.int (0 : Int32))])) rfl rfl (hb hby d1_8) _ k) ?_
  rw [len_of Sz103 Nz103]
  show OGo p.tables e below _ (T102.setTop (mkF m 9 #[.val (.ref a0), .val (.int p1)] [(.int (16 : Int32)), (.int (0 : Int32))]))
  refine OGo.st (fun t k => XS.icmpYes X102.here hx rfl (pc0 := 9) (pc' := 29) rfl (hb hby d1_9) rfl (feq (by decide : ¬ ((0 : Int32) = (16 : Int32)))).2 (by decide) (by decide) k) ?_
  show OGo p.tables e below _ (T102.setTop (mkF m 29 #[.val (.ref a0), .val (.int p1)] []))
  refine OGo.st (fun t k => XS.aloadN X102.here hx rfl (hb hby d1_29) rfl rfl k) ?_
  show OGo p.tables e below _ (T102.setTop (mkF m 30 #[.val (.ref a0), .val (.int p1)] [(.ref a0)]))
  obtain ⟨T104, X104, e104, st104⟩ := getF X102 hx hZ hown (host := "") (Or.inl (hw _ (List.mem_of_getElem? (i := 10) rfl))) Via.refl e102 F1 (g := (mkF m 30 #[.val (.ref a0), .val (.int p1)] [(.ref a0)])) rfl rfl (hb hby d1_30)
  refine OGo.st st104 ?_
  show OGo p.tables e below _ (T104.setTop (mkF m 33 #[.val (.ref a0), .val (.int p1)] [(.ref b)]))
  refine OGo.st (fun t k => XS.aloadN X104.here hx rfl (hb hby d1_33) rfl rfl k) ?_
  show OGo p.tables e below _ (T104.setTop (mkF m 34 #[.val (.ref a0), .val (.int p1)] [(.ref a0), (.ref b)]))
  obtain ⟨T105, X105, e105, st105⟩ := getF X104 hx hZ hown (host := "") (Or.inl (hw _ (List.mem_of_getElem? (i := 17) rfl))) Via.refl e104 F2 (g := (mkF m 34 #[.val (.ref a0), .val (.int p1)] [(.ref a0), (.ref b)])) rfl rfl (hb hby d1_34)
  refine OGo.st st105 ?_
  show OGo p.tables e below _ (T105.setTop (mkF m 37 #[.val (.ref a0), .val (.int p1)] [(.int (0 : Int32)), (.ref b)]))
  refine OGo.st (fun t k => XS.iloadN X105.here hx rfl (hb hby d1_37) rfl k) ?_
  show OGo p.tables e below _ (T105.setTop (mkF m 38 #[.val (.ref a0), .val (.int p1)] [(.int p1), (.int (0 : Int32)), (.ref b)]))
  obtain ⟨cl106, Ar106, qc106, Sz106, Nz106, Hs106, Gs106⟩ := id V0
  have hin106 : ¬ ((0 : Int32) < 0 ∨ cl106.slots.size ≤ ((0 : Int32)).toNatClampNeg) := inb_of Sz106 ⟨by decide, by decide⟩
  obtain ⟨T107, h107, X107, e107, W107, st107⟩ := stI X105 hx hZ e105 Ar106 (j := (0 : Int32)) hin106 (g := (mkF m 38 #[.val (.ref a0), .val (.int p1)] [(.int p1), (.int (0 : Int32)), (.ref b)])) rfl rfl (hb hby d1_38)
  refine OGo.st st107 ?_
  have N107 := Fr.snoc X107 N0 gb
  have V107 : Arv Z h107 b k .int (16 : Int32) [(.int p1), (.int v1), (.int v2), (.int v3)] (.int (0 : Int32)) := Arv.set Ar106 qc106 Sz106 Nz106 Hs106 Gs106 rfl W107 0 rfl (Nat.le_of_ble_eq_true rfl)
  show OGo p.tables e below _ (T107.setTop (mkF m 39 #[.val (.ref a0), .val (.int p1)] []))
  refine OGo.st (fun t k => XS.aloadN X107.here hx rfl (hb hby d1_39) rfl rfl k) ?_
  show OGo p.tables e below _ (T107.setTop (mkF m 40 #[.val (.ref a0), .val (.int p1)] [(.ref a0)]))
  refine OGo.st (fun t k => XS.dup X107.here hx rfl (hb hby d1_40) rfl rfl k) ?_
  show OGo p.tables e below _ (T107.setTop (mkF m 41 #[.val (.ref a0), .val (.int p1)] [(.ref a0), (.ref a0)]))
  have G108 : Fld Z h107 a0 "com/example/portcullis/portcullis/policy/Ints" "size" "I" (.int (0 : Int32)) := (Fld.other W107 F2 (Or.inl nab))
  obtain ⟨T109, X109, e109, st109⟩ := getF X107 hx hZ hown (host := "") (Or.inl (hw _ (List.mem_of_getElem? (i := 17) rfl))) Via.refl e107 G108 (g := (mkF m 41 #[.val (.ref a0), .val (.int p1)] [(.ref a0), (.ref a0)])) rfl rfl (hb hby d1_41)
  refine OGo.st st109 ?_
  show OGo p.tables e below _ (T109.setTop (mkF m 44 #[.val (.ref a0), .val (.int p1)] [(.int (0 : Int32)), (.ref a0)]))
  refine OGo.st (fun t k => XS.iconst X109.here hx rfl (hb hby d1_44) k) ?_
  show OGo p.tables e below _ (T109.setTop (mkF m 45 #[.val (.ref a0), .val (.int p1)] [(.int (1 : Int32)), (.int (0 : Int32)), (.ref a0)]))
  refine OGo.st (fun t k => XS.iadd X109.here hx rfl (hb hby d1_45) rfl k) ?_
  show OGo p.tables e below _ (T109.setTop (mkF m 46 #[.val (.ref a0), .val (.int p1)] [(.int (1 : Int32)), (.ref a0)]))
  have G110 : Exa Z h107 a0 "com/example/portcullis/portcullis/policy/Ints" := (Exa.wr W107 E0)
  obtain ⟨T111, h111, X111, e111, W111, st111⟩ := putF X109 hx hZ hown (host := "") (Or.inl (hw _ (List.mem_of_getElem? (i := 17) rfl))) Via.refl e109 G108 G110 (Or.inl (hw _ (List.mem_of_getElem? (i := 18) rfl))) (hw _ (List.mem_of_getElem? (i := 1) rfl)) (ty := .int) (by decide) rfl rfl (g := (mkF m 46 #[.val (.ref a0), .val (.int p1)] [(.int (1 : Int32)), (.ref a0)])) rfl rfl (hb hby d1_46)
  refine OGo.st st111 ?_
  have Fw111 : Fld Z h111 a0 "com/example/portcullis/portcullis/policy/Ints" "size" "I" (.int (1 : Int32)) := Fld.same W111 G108
  have N111 := Fr.snoc X111 N107 g0
  show OGo p.tables e below _ (T111.setTop (mkF m 49 #[.val (.ref a0), .val (.int p1)] []))
  obtain ⟨fs, hr, hrun, hended, hW, hsame⟩ := X111.leave (v := none) (fun _ => rfl)
  have G113 : Fld Z h111 a0 "com/example/portcullis/portcullis/policy/Ints" "values" "[I" (.ref b) := (Fld.other W111 (Fld.other W107 F1 (Or.inl nab)) (Or.inr (slot_ne (Or.inl (hw _ (List.mem_of_getElem? (i := 11) rfl))) (Or.inl (hw _ (List.mem_of_getElem? (i := 18) rfl))) (by decide) (t := (.array .int)) (t' := .int) (by decide) (by decide))))
  have G114 : Arv Z h111 b k .int (16 : Int32) [(.int p1), (.int v1), (.int v2), (.int v3)] (.int (0 : Int32)) := (V107.other W111 (Ne.symm nab))
  refine OGo.done (X111.returnOut hx Bd.returns (hb hby d1_49) hr) ⟨hrun, hended, _, _, rfl, ?_, ⟨_, rfl⟩, hW, hsame.mono (by decide) (by decide)⟩
  show Q1 Z a0 p1 b k v0 v1 v2 v3 h0 n0 _ T111.heap _
  rw [e111]
  exact ⟨rfl, N111, (((Keep.refl h0 [a0, b]).wr W107 (Or.inl (List.mem_of_getElem? (i := 1) rfl))).wr W111 (Or.inl (List.mem_of_getElem? (i := 0) rfl))), G113, Fw111, G114⟩
theorem d2_0 : decode prog_59_method_2_code 0 = .ok (.aload_n 0, 1) := by decide +kernel
theorem d2_1 : decode prog_59_method_2_code 1 = .ok (.getfield 13, 3) := by decide +kernel
theorem d2_4 : decode prog_59_method_2_code 4 = .ok (.aload_n 0, 1) := by decide +kernel
theorem d2_5 : decode prog_59_method_2_code 5 = .ok (.getfield 7, 3) := by decide +kernel
theorem d2_8 : decode prog_59_method_2_code 8 = .ok (.arraylength, 1) := by decide +kernel
theorem d2_9 : decode prog_59_method_2_code 9 = .ok (.if_icmp .ne 20, 3) := by decide +kernel
theorem d2_29 : decode prog_59_method_2_code 29 = .ok (.aload_n 0, 1) := by decide +kernel
theorem d2_30 : decode prog_59_method_2_code 30 = .ok (.getfield 7, 3) := by decide +kernel
theorem d2_33 : decode prog_59_method_2_code 33 = .ok (.aload_n 0, 1) := by decide +kernel
theorem d2_34 : decode prog_59_method_2_code 34 = .ok (.getfield 13, 3) := by decide +kernel
theorem d2_37 : decode prog_59_method_2_code 37 = .ok (.iload_n 1, 1) := by decide +kernel
theorem d2_38 : decode prog_59_method_2_code 38 = .ok (.iastore, 1) := by decide +kernel
theorem d2_39 : decode prog_59_method_2_code 39 = .ok (.aload_n 0, 1) := by decide +kernel
theorem d2_40 : decode prog_59_method_2_code 40 = .ok (.dup, 1) := by decide +kernel
theorem d2_41 : decode prog_59_method_2_code 41 = .ok (.getfield 13, 3) := by decide +kernel
theorem d2_44 : decode prog_59_method_2_code 44 = .ok (.iconst 1, 1) := by decide +kernel
theorem d2_45 : decode prog_59_method_2_code 45 = .ok (.iadd, 1) := by decide +kernel
theorem d2_46 : decode prog_59_method_2_code 46 = .ok (.putfield 13, 3) := by decide +kernel
theorem d2_49 : decode prog_59_method_2_code 49 = .ok (.return_, 1) := by decide +kernel
theorem ef_2 (m : MethodId) (x0 : Addr) (x1 : Int32) : entryFrame m #[(.ref x0), (.int x1)] 2 = mkF m 0 #[.val (.ref x0), .val (.int x1)] [] := by first | (simp [entryFrame, mkF, argsToLocals, Value.category]; done) | rfl
def Q2 (Z : State) (a0 : Addr) (p1 : Int32) (b : Addr) (k : ClassId) (v0 : Int32) (v1 : Int32) (v2 : Int32) (v3 : Int32) (h0 : Heap) (n0 : Nat) (v : Option Value) (h : Heap) (L : List Loc) : Prop := v = none ∧ Fr n0 L ∧ Keep h0 h [a0, b] ∧ (Fld Z h a0 "com/example/portcullis/portcullis/policy/Ints" "values" "[I" (.ref b)) ∧ (Fld Z h a0 "com/example/portcullis/portcullis/policy/Ints" "size" "I" (.int (2 : Int32))) ∧ (Arv Z h b k .int (16 : Int32) [(.int v0), (.int p1), (.int v2), (.int v3)] (.int (0 : Int32)))
set_option maxRecDepth 65536 in
set_option maxHeartbeats 40000000 in
theorem rm2 (l : Launch) (Z : State) (ar : Array Value) (hw : ∀ d ∈ tables_1, d.before ar Z = true) (ws : List Jvm.Cond) (a0 : Addr) (p1 : Int32) (b : Addr) (k : ClassId) (v0 : Int32) (v1 : Int32) (v2 : Int32) (v3 : Int32) (h0 : Heap) (n0 : Nat) (Z0 : n0 ≤ h0.size) (F1 : Fld Z h0 a0 "com/example/portcullis/portcullis/policy/Ints" "values" "[I" (.ref b)) (V0 : Arv Z h0 b k .int (16 : Int32) [(.int v0), (.int v1), (.int v2), (.int v3)] (.int (0 : Int32))) (E0 : Exa Z h0 a0 "com/example/portcullis/portcullis/policy/Ints") (g0 : n0 ≤ a0) (gb : n0 ≤ b) (nab : a0 ≠ b) (F2 : Fld Z h0 a0 "com/example/portcullis/portcullis/policy/Ints" "size" "I" (.int (1 : Int32))) :
    MetFree l (⟨"com/example/portcullis/portcullis/policy/Ints", "add", "(I)V"⟩ : MethodName) (head1 (Jvm.Cond.code (⟨"com/example/portcullis/portcullis/policy/Ints", "add", "(I)V"⟩ : MethodName) prog_59_method_2_code 2 none :: ws) ({ frames := 0, cells := 0, slots := 0, locals := 0 } : Room)) (fun a U => a = #[(.ref a0), (.int p1)] ∧ Z.Warmed39 U.vm ∧ U.heap = h0) (fun _ _ _ _ _ => True) (fun _ U o U' => ∃ v L, o = .returned v ∧ Q2 Z a0 p1 b k v0 v1 v2 v3 h0 n0 v U'.heap L ∧ FrameEnd U o U' L ({ frames := 0, cells := 0, slots := 0, locals := 0 } : Room).cells ({ frames := 0, cells := 0, slots := 0, locals := 0 } : Room).slots) := by
  refine MetFree.of_bodySF (plainFor_of_name pn_0) hisR ?_
  intro p e s m args below meth c s₁ Bd hml0 hP hK
  obtain ⟨rfl, hZ, hh⟩ := hP
  have hx := Bd.exec
  have hby := Bd.bytes
  have hml : c.maxLocals = 2 := hml0
  have hown : s.vm.findClass "com/example/portcullis/portcullis/policy/Ints" = some m.cls := findClass_of_methodNamed Bd.named
  have hnm := (name_of_methodNamed Bd.named Bd.method).1
  have X0 : Stand p l e ({ frames := 0, cells := 0, slots := 0, locals := 0 } : Room) s m #[(.ref a0), (.int p1)] below meth c s₁ [] 0 0 := Stand.of_body Bd
  have e0 : s₁.heap = h0 := by rw [← hh, Bd.state]; rfl
  have N0 := Fr.nil n0
  have pre0 : ∀ t, Steps p.tables e below (s₁.setTop (mkF m 0 #[.val (.ref a0), .val (.int p1)] [])) t → Steps p.tables e below (s₁.setTop (entryFrame m #[(.ref a0), (.int p1)] 2)) t := fun t k => castTop (ef_2 m a0 p1) k
  refine OGo.start pre0 ?_
  show OGo p.tables e below _ (s₁.setTop (mkF m 0 #[.val (.ref a0), .val (.int p1)] []))
  refine OGo.st (fun t k => XS.aloadN X0.here hx rfl (hb hby d2_0) rfl rfl k) ?_
  show OGo p.tables e below _ (s₁.setTop (mkF m 1 #[.val (.ref a0), .val (.int p1)] [(.ref a0)]))
  obtain ⟨T101, X101, e101, st101⟩ := getF X0 hx hZ hown (host := "") (Or.inl (hw _ (List.mem_of_getElem? (i := 17) rfl))) Via.refl e0 F2 (g := (mkF m 1 #[.val (.ref a0), .val (.int p1)] [(.ref a0)])) rfl rfl (hb hby d2_1)
  refine OGo.st st101 ?_
  show OGo p.tables e below _ (T101.setTop (mkF m 4 #[.val (.ref a0), .val (.int p1)] [(.int (1 : Int32))]))
  refine OGo.st (fun t k => XS.aloadN X101.here hx rfl (hb hby d2_4) rfl rfl k) ?_
  show OGo p.tables e below _ (T101.setTop (mkF m 5 #[.val (.ref a0), .val (.int p1)] [(.ref a0), (.int (1 : Int32))]))
  obtain ⟨T102, X102, e102, st102⟩ := getF X101 hx hZ hown (host := "") (Or.inl (hw _ (List.mem_of_getElem? (i := 10) rfl))) Via.refl e101 F1 (g := (mkF m 5 #[.val (.ref a0), .val (.int p1)] [(.ref a0), (.int (1 : Int32))])) rfl rfl (hb hby d2_5)
  refine OGo.st st102 ?_
  show OGo p.tables e below _ (T102.setTop (mkF m 8 #[.val (.ref a0), .val (.int p1)] [(.ref b), (.int (1 : Int32))]))
  obtain ⟨cl103, Ar103, qc103, Sz103, Nz103, Hs103, Gs103⟩ := id V0
  refine OGo.st (fun t k => X102.arraylength hx (by rw [e102]; exact Ar103.1) (State.isArrayOf_alike hZ.alike Ar103.2.1) (g := (mkF m 8 #[.val (.ref a0), .val (.int p1)] [(.ref b), (.int (1 : Int32))])) rfl rfl (hb hby d2_8) _ k) ?_
  rw [len_of Sz103 Nz103]
  show OGo p.tables e below _ (T102.setTop (mkF m 9 #[.val (.ref a0), .val (.int p1)] [(.int (16 : Int32)), (.int (1 : Int32))]))
  refine OGo.st (fun t k => XS.icmpYes X102.here hx rfl (pc0 := 9) (pc' := 29) rfl (hb hby d2_9) rfl (feq (by decide : ¬ ((1 : Int32) = (16 : Int32)))).2 (by decide) (by decide) k) ?_
  show OGo p.tables e below _ (T102.setTop (mkF m 29 #[.val (.ref a0), .val (.int p1)] []))
  refine OGo.st (fun t k => XS.aloadN X102.here hx rfl (hb hby d2_29) rfl rfl k) ?_
  show OGo p.tables e below _ (T102.setTop (mkF m 30 #[.val (.ref a0), .val (.int p1)] [(.ref a0)]))
  obtain ⟨T104, X104, e104, st104⟩ := getF X102 hx hZ hown (host := "") (Or.inl (hw _ (List.mem_of_getElem? (i := 10) rfl))) Via.refl e102 F1 (g := (mkF m 30 #[.val (.ref a0), .val (.int p1)] [(.ref a0)])) rfl rfl (hb hby d2_30)
  refine OGo.st st104 ?_
  show OGo p.tables e below _ (T104.setTop (mkF m 33 #[.val (.ref a0), .val (.int p1)] [(.ref b)]))
  refine OGo.st (fun t k => XS.aloadN X104.here hx rfl (hb hby d2_33) rfl rfl k) ?_
  show OGo p.tables e below _ (T104.setTop (mkF m 34 #[.val (.ref a0), .val (.int p1)] [(.ref a0), (.ref b)]))
  obtain ⟨T105, X105, e105, st105⟩ := getF X104 hx hZ hown (host := "") (Or.inl (hw _ (List.mem_of_getElem? (i := 17) rfl))) Via.refl e104 F2 (g := (mkF m 34 #[.val (.ref a0), .val (.int p1)] [(.ref a0), (.ref b)])) rfl rfl (hb hby d2_34)
  refine OGo.st st105 ?_
  show OGo p.tables e below _ (T105.setTop (mkF m 37 #[.val (.ref a0), .val (.int p1)] [(.int (1 : Int32)), (.ref b)]))
  refine OGo.st (fun t k => XS.iloadN X105.here hx rfl (hb hby d2_37) rfl k) ?_
  show OGo p.tables e below _ (T105.setTop (mkF m 38 #[.val (.ref a0), .val (.int p1)] [(.int p1), (.int (1 : Int32)), (.ref b)]))
  obtain ⟨cl106, Ar106, qc106, Sz106, Nz106, Hs106, Gs106⟩ := id V0
  have hin106 : ¬ ((1 : Int32) < 0 ∨ cl106.slots.size ≤ ((1 : Int32)).toNatClampNeg) := inb_of Sz106 ⟨by decide, by decide⟩
  obtain ⟨T107, h107, X107, e107, W107, st107⟩ := stI X105 hx hZ e105 Ar106 (j := (1 : Int32)) hin106 (g := (mkF m 38 #[.val (.ref a0), .val (.int p1)] [(.int p1), (.int (1 : Int32)), (.ref b)])) rfl rfl (hb hby d2_38)
  refine OGo.st st107 ?_
  have N107 := Fr.snoc X107 N0 gb
  have V107 : Arv Z h107 b k .int (16 : Int32) [(.int v0), (.int p1), (.int v2), (.int v3)] (.int (0 : Int32)) := Arv.set Ar106 qc106 Sz106 Nz106 Hs106 Gs106 rfl W107 1 rfl (Nat.le_of_ble_eq_true rfl)
  show OGo p.tables e below _ (T107.setTop (mkF m 39 #[.val (.ref a0), .val (.int p1)] []))
  refine OGo.st (fun t k => XS.aloadN X107.here hx rfl (hb hby d2_39) rfl rfl k) ?_
  show OGo p.tables e below _ (T107.setTop (mkF m 40 #[.val (.ref a0), .val (.int p1)] [(.ref a0)]))
  refine OGo.st (fun t k => XS.dup X107.here hx rfl (hb hby d2_40) rfl rfl k) ?_
  show OGo p.tables e below _ (T107.setTop (mkF m 41 #[.val (.ref a0), .val (.int p1)] [(.ref a0), (.ref a0)]))
  have G108 : Fld Z h107 a0 "com/example/portcullis/portcullis/policy/Ints" "size" "I" (.int (1 : Int32)) := (Fld.other W107 F2 (Or.inl nab))
  obtain ⟨T109, X109, e109, st109⟩ := getF X107 hx hZ hown (host := "") (Or.inl (hw _ (List.mem_of_getElem? (i := 17) rfl))) Via.refl e107 G108 (g := (mkF m 41 #[.val (.ref a0), .val (.int p1)] [(.ref a0), (.ref a0)])) rfl rfl (hb hby d2_41)
  refine OGo.st st109 ?_
  show OGo p.tables e below _ (T109.setTop (mkF m 44 #[.val (.ref a0), .val (.int p1)] [(.int (1 : Int32)), (.ref a0)]))
  refine OGo.st (fun t k => XS.iconst X109.here hx rfl (hb hby d2_44) k) ?_
  show OGo p.tables e below _ (T109.setTop (mkF m 45 #[.val (.ref a0), .val (.int p1)] [(.int (1 : Int32)), (.int (1 : Int32)), (.ref a0)]))
  refine OGo.st (fun t k => XS.iadd X109.here hx rfl (hb hby d2_45) rfl k) ?_
  show OGo p.tables e below _ (T109.setTop (mkF m 46 #[.val (.ref a0), .val (.int p1)] [(.int (2 : Int32)), (.ref a0)]))
  have G110 : Exa Z h107 a0 "com/example/portcullis/portcullis/policy/Ints" := (Exa.wr W107 E0)
  obtain ⟨T111, h111, X111, e111, W111, st111⟩ := putF X109 hx hZ hown (host := "") (Or.inl (hw _ (List.mem_of_getElem? (i := 17) rfl))) Via.refl e109 G108 G110 (Or.inl (hw _ (List.mem_of_getElem? (i := 18) rfl))) (hw _ (List.mem_of_getElem? (i := 1) rfl)) (ty := .int) (by decide) rfl rfl (g := (mkF m 46 #[.val (.ref a0), .val (.int p1)] [(.int (2 : Int32)), (.ref a0)])) rfl rfl (hb hby d2_46)
  refine OGo.st st111 ?_
  have Fw111 : Fld Z h111 a0 "com/example/portcullis/portcullis/policy/Ints" "size" "I" (.int (2 : Int32)) := Fld.same W111 G108
  have N111 := Fr.snoc X111 N107 g0
  show OGo p.tables e below _ (T111.setTop (mkF m 49 #[.val (.ref a0), .val (.int p1)] []))
  obtain ⟨fs, hr, hrun, hended, hW, hsame⟩ := X111.leave (v := none) (fun _ => rfl)
  have G113 : Fld Z h111 a0 "com/example/portcullis/portcullis/policy/Ints" "values" "[I" (.ref b) := (Fld.other W111 (Fld.other W107 F1 (Or.inl nab)) (Or.inr (slot_ne (Or.inl (hw _ (List.mem_of_getElem? (i := 11) rfl))) (Or.inl (hw _ (List.mem_of_getElem? (i := 18) rfl))) (by decide) (t := (.array .int)) (t' := .int) (by decide) (by decide))))
  have G114 : Arv Z h111 b k .int (16 : Int32) [(.int v0), (.int p1), (.int v2), (.int v3)] (.int (0 : Int32)) := (V107.other W111 (Ne.symm nab))
  refine OGo.done (X111.returnOut hx Bd.returns (hb hby d2_49) hr) ⟨hrun, hended, _, _, rfl, ?_, ⟨_, rfl⟩, hW, hsame.mono (by decide) (by decide)⟩
  show Q2 Z a0 p1 b k v0 v1 v2 v3 h0 n0 _ T111.heap _
  rw [e111]
  exact ⟨rfl, N111, (((Keep.refl h0 [a0, b]).wr W107 (Or.inl (List.mem_of_getElem? (i := 1) rfl))).wr W111 (Or.inl (List.mem_of_getElem? (i := 0) rfl))), G113, Fw111, G114⟩
theorem d3_0 : decode prog_59_method_2_code 0 = .ok (.aload_n 0, 1) := by decide +kernel
theorem d3_1 : decode prog_59_method_2_code 1 = .ok (.getfield 13, 3) := by decide +kernel
theorem d3_4 : decode prog_59_method_2_code 4 = .ok (.aload_n 0, 1) := by decide +kernel
theorem d3_5 : decode prog_59_method_2_code 5 = .ok (.getfield 7, 3) := by decide +kernel
theorem d3_8 : decode prog_59_method_2_code 8 = .ok (.arraylength, 1) := by decide +kernel
theorem d3_9 : decode prog_59_method_2_code 9 = .ok (.if_icmp .ne 20, 3) := by decide +kernel
theorem d3_29 : decode prog_59_method_2_code 29 = .ok (.aload_n 0, 1) := by decide +kernel
theorem d3_30 : decode prog_59_method_2_code 30 = .ok (.getfield 7, 3) := by decide +kernel
theorem d3_33 : decode prog_59_method_2_code 33 = .ok (.aload_n 0, 1) := by decide +kernel
theorem d3_34 : decode prog_59_method_2_code 34 = .ok (.getfield 13, 3) := by decide +kernel
theorem d3_37 : decode prog_59_method_2_code 37 = .ok (.iload_n 1, 1) := by decide +kernel
theorem d3_38 : decode prog_59_method_2_code 38 = .ok (.iastore, 1) := by decide +kernel
theorem d3_39 : decode prog_59_method_2_code 39 = .ok (.aload_n 0, 1) := by decide +kernel
theorem d3_40 : decode prog_59_method_2_code 40 = .ok (.dup, 1) := by decide +kernel
theorem d3_41 : decode prog_59_method_2_code 41 = .ok (.getfield 13, 3) := by decide +kernel
theorem d3_44 : decode prog_59_method_2_code 44 = .ok (.iconst 1, 1) := by decide +kernel
theorem d3_45 : decode prog_59_method_2_code 45 = .ok (.iadd, 1) := by decide +kernel
theorem d3_46 : decode prog_59_method_2_code 46 = .ok (.putfield 13, 3) := by decide +kernel
theorem d3_49 : decode prog_59_method_2_code 49 = .ok (.return_, 1) := by decide +kernel
theorem ef_3 (m : MethodId) (x0 : Addr) (x1 : Int32) : entryFrame m #[(.ref x0), (.int x1)] 2 = mkF m 0 #[.val (.ref x0), .val (.int x1)] [] := by first | (simp [entryFrame, mkF, argsToLocals, Value.category]; done) | rfl
def Q3 (Z : State) (a0 : Addr) (p1 : Int32) (b : Addr) (k : ClassId) (v0 : Int32) (v1 : Int32) (v2 : Int32) (v3 : Int32) (h0 : Heap) (n0 : Nat) (v : Option Value) (h : Heap) (L : List Loc) : Prop := v = none ∧ Fr n0 L ∧ Keep h0 h [a0, b] ∧ (Fld Z h a0 "com/example/portcullis/portcullis/policy/Ints" "values" "[I" (.ref b)) ∧ (Fld Z h a0 "com/example/portcullis/portcullis/policy/Ints" "size" "I" (.int (3 : Int32))) ∧ (Arv Z h b k .int (16 : Int32) [(.int v0), (.int v1), (.int p1), (.int v3)] (.int (0 : Int32)))
set_option maxRecDepth 65536 in
set_option maxHeartbeats 40000000 in
theorem rm3 (l : Launch) (Z : State) (ar : Array Value) (hw : ∀ d ∈ tables_1, d.before ar Z = true) (ws : List Jvm.Cond) (a0 : Addr) (p1 : Int32) (b : Addr) (k : ClassId) (v0 : Int32) (v1 : Int32) (v2 : Int32) (v3 : Int32) (h0 : Heap) (n0 : Nat) (Z0 : n0 ≤ h0.size) (F1 : Fld Z h0 a0 "com/example/portcullis/portcullis/policy/Ints" "values" "[I" (.ref b)) (V0 : Arv Z h0 b k .int (16 : Int32) [(.int v0), (.int v1), (.int v2), (.int v3)] (.int (0 : Int32))) (E0 : Exa Z h0 a0 "com/example/portcullis/portcullis/policy/Ints") (g0 : n0 ≤ a0) (gb : n0 ≤ b) (nab : a0 ≠ b) (F2 : Fld Z h0 a0 "com/example/portcullis/portcullis/policy/Ints" "size" "I" (.int (2 : Int32))) :
    MetFree l (⟨"com/example/portcullis/portcullis/policy/Ints", "add", "(I)V"⟩ : MethodName) (head1 (Jvm.Cond.code (⟨"com/example/portcullis/portcullis/policy/Ints", "add", "(I)V"⟩ : MethodName) prog_59_method_2_code 2 none :: ws) ({ frames := 0, cells := 0, slots := 0, locals := 0 } : Room)) (fun a U => a = #[(.ref a0), (.int p1)] ∧ Z.Warmed39 U.vm ∧ U.heap = h0) (fun _ _ _ _ _ => True) (fun _ U o U' => ∃ v L, o = .returned v ∧ Q3 Z a0 p1 b k v0 v1 v2 v3 h0 n0 v U'.heap L ∧ FrameEnd U o U' L ({ frames := 0, cells := 0, slots := 0, locals := 0 } : Room).cells ({ frames := 0, cells := 0, slots := 0, locals := 0 } : Room).slots) := by
  refine MetFree.of_bodySF (plainFor_of_name pn_0) hisR ?_
  intro p e s m args below meth c s₁ Bd hml0 hP hK
  obtain ⟨rfl, hZ, hh⟩ := hP
  have hx := Bd.exec
  have hby := Bd.bytes
  have hml : c.maxLocals = 2 := hml0
  have hown : s.vm.findClass "com/example/portcullis/portcullis/policy/Ints" = some m.cls := findClass_of_methodNamed Bd.named
  have hnm := (name_of_methodNamed Bd.named Bd.method).1
  have X0 : Stand p l e ({ frames := 0, cells := 0, slots := 0, locals := 0 } : Room) s m #[(.ref a0), (.int p1)] below meth c s₁ [] 0 0 := Stand.of_body Bd
  have e0 : s₁.heap = h0 := by rw [← hh, Bd.state]; rfl
  have N0 := Fr.nil n0
  have pre0 : ∀ t, Steps p.tables e below (s₁.setTop (mkF m 0 #[.val (.ref a0), .val (.int p1)] [])) t → Steps p.tables e below (s₁.setTop (entryFrame m #[(.ref a0), (.int p1)] 2)) t := fun t k => castTop (ef_3 m a0 p1) k
  refine OGo.start pre0 ?_
  show OGo p.tables e below _ (s₁.setTop (mkF m 0 #[.val (.ref a0), .val (.int p1)] []))
  refine OGo.st (fun t k => XS.aloadN X0.here hx rfl (hb hby d3_0) rfl rfl k) ?_
  show OGo p.tables e below _ (s₁.setTop (mkF m 1 #[.val (.ref a0), .val (.int p1)] [(.ref a0)]))
  obtain ⟨T101, X101, e101, st101⟩ := getF X0 hx hZ hown (host := "") (Or.inl (hw _ (List.mem_of_getElem? (i := 17) rfl))) Via.refl e0 F2 (g := (mkF m 1 #[.val (.ref a0), .val (.int p1)] [(.ref a0)])) rfl rfl (hb hby d3_1)
  refine OGo.st st101 ?_
  show OGo p.tables e below _ (T101.setTop (mkF m 4 #[.val (.ref a0), .val (.int p1)] [(.int (2 : Int32))]))
  refine OGo.st (fun t k => XS.aloadN X101.here hx rfl (hb hby d3_4) rfl rfl k) ?_
  show OGo p.tables e below _ (T101.setTop (mkF m 5 #[.val (.ref a0), .val (.int p1)] [(.ref a0), (.int (2 : Int32))]))
  obtain ⟨T102, X102, e102, st102⟩ := getF X101 hx hZ hown (host := "") (Or.inl (hw _ (List.mem_of_getElem? (i := 10) rfl))) Via.refl e101 F1 (g := (mkF m 5 #[.val (.ref a0), .val (.int p1)] [(.ref a0), (.int (2 : Int32))])) rfl rfl (hb hby d3_5)
  refine OGo.st st102 ?_
  show OGo p.tables e below _ (T102.setTop (mkF m 8 #[.val (.ref a0), .val (.int p1)] [(.ref b), (.int (2 : Int32))]))
  obtain ⟨cl103, Ar103, qc103, Sz103, Nz103, Hs103, Gs103⟩ := id V0
  refine OGo.st (fun t k => X102.arraylength hx (by rw [e102]; exact Ar103.1) (State.isArrayOf_alike hZ.alike Ar103.2.1) (g := (mkF m 8 #[.val (.ref a0), .val (.int p1)] [(.ref b), (.int (2 : Int32))])) rfl rfl (hb hby d3_8) _ k) ?_
  rw [len_of Sz103 Nz103]
  show OGo p.tables e below _ (T102.setTop (mkF m 9 #[.val (.ref a0), .val (.int p1)] [(.int (16 : Int32)), (.int (2 : Int32))]))
  refine OGo.st (fun t k => XS.icmpYes X102.here hx rfl (pc0 := 9) (pc' := 29) rfl (hb hby d3_9) rfl (feq (by decide : ¬ ((2 : Int32) = (16 : Int32)))).2 (by decide) (by decide) k) ?_
  show OGo p.tables e below _ (T102.setTop (mkF m 29 #[.val (.ref a0), .val (.int p1)] []))
  refine OGo.st (fun t k => XS.aloadN X102.here hx rfl (hb hby d3_29) rfl rfl k) ?_
  show OGo p.tables e below _ (T102.setTop (mkF m 30 #[.val (.ref a0), .val (.int p1)] [(.ref a0)]))
  obtain ⟨T104, X104, e104, st104⟩ := getF X102 hx hZ hown (host := "") (Or.inl (hw _ (List.mem_of_getElem? (i := 10) rfl))) Via.refl e102 F1 (g := (mkF m 30 #[.val (.ref a0), .val (.int p1)] [(.ref a0)])) rfl rfl (hb hby d3_30)
  refine OGo.st st104 ?_
  show OGo p.tables e below _ (T104.setTop (mkF m 33 #[.val (.ref a0), .val (.int p1)] [(.ref b)]))
  refine OGo.st (fun t k => XS.aloadN X104.here hx rfl (hb hby d3_33) rfl rfl k) ?_
  show OGo p.tables e below _ (T104.setTop (mkF m 34 #[.val (.ref a0), .val (.int p1)] [(.ref a0), (.ref b)]))
  obtain ⟨T105, X105, e105, st105⟩ := getF X104 hx hZ hown (host := "") (Or.inl (hw _ (List.mem_of_getElem? (i := 17) rfl))) Via.refl e104 F2 (g := (mkF m 34 #[.val (.ref a0), .val (.int p1)] [(.ref a0), (.ref b)])) rfl rfl (hb hby d3_34)
  refine OGo.st st105 ?_
  show OGo p.tables e below _ (T105.setTop (mkF m 37 #[.val (.ref a0), .val (.int p1)] [(.int (2 : Int32)), (.ref b)]))
  refine OGo.st (fun t k => XS.iloadN X105.here hx rfl (hb hby d3_37) rfl k) ?_
  show OGo p.tables e below _ (T105.setTop (mkF m 38 #[.val (.ref a0), .val (.int p1)] [(.int p1), (.int (2 : Int32)), (.ref b)]))
  obtain ⟨cl106, Ar106, qc106, Sz106, Nz106, Hs106, Gs106⟩ := id V0
  have hin106 : ¬ ((2 : Int32) < 0 ∨ cl106.slots.size ≤ ((2 : Int32)).toNatClampNeg) := inb_of Sz106 ⟨by decide, by decide⟩
  obtain ⟨T107, h107, X107, e107, W107, st107⟩ := stI X105 hx hZ e105 Ar106 (j := (2 : Int32)) hin106 (g := (mkF m 38 #[.val (.ref a0), .val (.int p1)] [(.int p1), (.int (2 : Int32)), (.ref b)])) rfl rfl (hb hby d3_38)
  refine OGo.st st107 ?_
  have N107 := Fr.snoc X107 N0 gb
  have V107 : Arv Z h107 b k .int (16 : Int32) [(.int v0), (.int v1), (.int p1), (.int v3)] (.int (0 : Int32)) := Arv.set Ar106 qc106 Sz106 Nz106 Hs106 Gs106 rfl W107 2 rfl (Nat.le_of_ble_eq_true rfl)
  show OGo p.tables e below _ (T107.setTop (mkF m 39 #[.val (.ref a0), .val (.int p1)] []))
  refine OGo.st (fun t k => XS.aloadN X107.here hx rfl (hb hby d3_39) rfl rfl k) ?_
  show OGo p.tables e below _ (T107.setTop (mkF m 40 #[.val (.ref a0), .val (.int p1)] [(.ref a0)]))
  refine OGo.st (fun t k => XS.dup X107.here hx rfl (hb hby d3_40) rfl rfl k) ?_
  show OGo p.tables e below _ (T107.setTop (mkF m 41 #[.val (.ref a0), .val (.int p1)] [(.ref a0), (.ref a0)]))
  have G108 : Fld Z h107 a0 "com/example/portcullis/portcullis/policy/Ints" "size" "I" (.int (2 : Int32)) := (Fld.other W107 F2 (Or.inl nab))
  obtain ⟨T109, X109, e109, st109⟩ := getF X107 hx hZ hown (host := "") (Or.inl (hw _ (List.mem_of_getElem? (i := 17) rfl))) Via.refl e107 G108 (g := (mkF m 41 #[.val (.ref a0), .val (.int p1)] [(.ref a0), (.ref a0)])) rfl rfl (hb hby d3_41)
  refine OGo.st st109 ?_
  show OGo p.tables e below _ (T109.setTop (mkF m 44 #[.val (.ref a0), .val (.int p1)] [(.int (2 : Int32)), (.ref a0)]))
  refine OGo.st (fun t k => XS.iconst X109.here hx rfl (hb hby d3_44) k) ?_
  show OGo p.tables e below _ (T109.setTop (mkF m 45 #[.val (.ref a0), .val (.int p1)] [(.int (1 : Int32)), (.int (2 : Int32)), (.ref a0)]))
  refine OGo.st (fun t k => XS.iadd X109.here hx rfl (hb hby d3_45) rfl k) ?_
  show OGo p.tables e below _ (T109.setTop (mkF m 46 #[.val (.ref a0), .val (.int p1)] [(.int (3 : Int32)), (.ref a0)]))
  have G110 : Exa Z h107 a0 "com/example/portcullis/portcullis/policy/Ints" := (Exa.wr W107 E0)
  obtain ⟨T111, h111, X111, e111, W111, st111⟩ := putF X109 hx hZ hown (host := "") (Or.inl (hw _ (List.mem_of_getElem? (i := 17) rfl))) Via.refl e109 G108 G110 (Or.inl (hw _ (List.mem_of_getElem? (i := 18) rfl))) (hw _ (List.mem_of_getElem? (i := 1) rfl)) (ty := .int) (by decide) rfl rfl (g := (mkF m 46 #[.val (.ref a0), .val (.int p1)] [(.int (3 : Int32)), (.ref a0)])) rfl rfl (hb hby d3_46)
  refine OGo.st st111 ?_
  have Fw111 : Fld Z h111 a0 "com/example/portcullis/portcullis/policy/Ints" "size" "I" (.int (3 : Int32)) := Fld.same W111 G108
  have N111 := Fr.snoc X111 N107 g0
  show OGo p.tables e below _ (T111.setTop (mkF m 49 #[.val (.ref a0), .val (.int p1)] []))
  obtain ⟨fs, hr, hrun, hended, hW, hsame⟩ := X111.leave (v := none) (fun _ => rfl)
  have G113 : Fld Z h111 a0 "com/example/portcullis/portcullis/policy/Ints" "values" "[I" (.ref b) := (Fld.other W111 (Fld.other W107 F1 (Or.inl nab)) (Or.inr (slot_ne (Or.inl (hw _ (List.mem_of_getElem? (i := 11) rfl))) (Or.inl (hw _ (List.mem_of_getElem? (i := 18) rfl))) (by decide) (t := (.array .int)) (t' := .int) (by decide) (by decide))))
  have G114 : Arv Z h111 b k .int (16 : Int32) [(.int v0), (.int v1), (.int p1), (.int v3)] (.int (0 : Int32)) := (V107.other W111 (Ne.symm nab))
  refine OGo.done (X111.returnOut hx Bd.returns (hb hby d3_49) hr) ⟨hrun, hended, _, _, rfl, ?_, ⟨_, rfl⟩, hW, hsame.mono (by decide) (by decide)⟩
  show Q3 Z a0 p1 b k v0 v1 v2 v3 h0 n0 _ T111.heap _
  rw [e111]
  exact ⟨rfl, N111, (((Keep.refl h0 [a0, b]).wr W107 (Or.inl (List.mem_of_getElem? (i := 1) rfl))).wr W111 (Or.inl (List.mem_of_getElem? (i := 0) rfl))), G113, Fw111, G114⟩
theorem d4_0 : decode prog_59_method_4_code 0 = .ok (.aload_n 0, 1) := by decide +kernel
theorem d4_1 : decode prog_59_method_4_code 1 = .ok (.dup, 1) := by decide +kernel
theorem d4_2 : decode prog_59_method_4_code 2 = .ok (.getfield 13, 3) := by decide +kernel
theorem d4_5 : decode prog_59_method_4_code 5 = .ok (.iconst 1, 1) := by decide +kernel
theorem d4_6 : decode prog_59_method_4_code 6 = .ok (.isub, 1) := by decide +kernel
theorem d4_7 : decode prog_59_method_4_code 7 = .ok (.putfield 13, 3) := by decide +kernel
theorem d4_10 : decode prog_59_method_4_code 10 = .ok (.aload_n 0, 1) := by decide +kernel
theorem d4_11 : decode prog_59_method_4_code 11 = .ok (.getfield 7, 3) := by decide +kernel
theorem d4_14 : decode prog_59_method_4_code 14 = .ok (.aload_n 0, 1) := by decide +kernel
theorem d4_15 : decode prog_59_method_4_code 15 = .ok (.getfield 13, 3) := by decide +kernel
theorem d4_18 : decode prog_59_method_4_code 18 = .ok (.iaload, 1) := by decide +kernel
theorem d4_19 : decode prog_59_method_4_code 19 = .ok (.ireturn, 1) := by decide +kernel
theorem ef_4 (m : MethodId) (x0 : Addr) : entryFrame m #[(.ref x0)] 1 = mkF m 0 #[.val (.ref x0)] [] := by first | (simp [entryFrame, mkF, argsToLocals, Value.category]; done) | rfl
def Q4 (Z : State) (a0 : Addr) (b : Addr) (k : ClassId) (v0 : Int32) (v1 : Int32) (v2 : Int32) (v3 : Int32) (h0 : Heap) (n0 : Nat) (v : Option Value) (h : Heap) (L : List Loc) : Prop := v = some (.int v0) ∧ Fr n0 L ∧ Keep h0 h [a0] ∧ (Fld Z h a0 "com/example/portcullis/portcullis/policy/Ints" "values" "[I" (.ref b)) ∧ (Fld Z h a0 "com/example/portcullis/portcullis/policy/Ints" "size" "I" (.int (0 : Int32)))
set_option maxRecDepth 65536 in
set_option maxHeartbeats 40000000 in
theorem rm4 (l : Launch) (Z : State) (ar : Array Value) (hw : ∀ d ∈ tables_1, d.before ar Z = true) (ws : List Jvm.Cond) (a0 : Addr) (b : Addr) (k : ClassId) (v0 : Int32) (v1 : Int32) (v2 : Int32) (v3 : Int32) (h0 : Heap) (n0 : Nat) (Z0 : n0 ≤ h0.size) (F1 : Fld Z h0 a0 "com/example/portcullis/portcullis/policy/Ints" "values" "[I" (.ref b)) (V0 : Arv Z h0 b k .int (16 : Int32) [(.int v0), (.int v1), (.int v2), (.int v3)] (.int (0 : Int32))) (E0 : Exa Z h0 a0 "com/example/portcullis/portcullis/policy/Ints") (g0 : n0 ≤ a0) (gb : n0 ≤ b) (nab : a0 ≠ b) (F2 : Fld Z h0 a0 "com/example/portcullis/portcullis/policy/Ints" "size" "I" (.int (1 : Int32))) :
    MetFree l (⟨"com/example/portcullis/portcullis/policy/Ints", "removeLast", "()I"⟩ : MethodName) (head1 (Jvm.Cond.code (⟨"com/example/portcullis/portcullis/policy/Ints", "removeLast", "()I"⟩ : MethodName) prog_59_method_4_code 1 (some .int) :: ws) ({ frames := 0, cells := 0, slots := 0, locals := 0 } : Room)) (fun a U => a = #[(.ref a0)] ∧ Z.Warmed39 U.vm ∧ U.heap = h0) (fun _ _ _ _ _ => True) (fun _ U o U' => ∃ v L, o = .returned v ∧ Q4 Z a0 b k v0 v1 v2 v3 h0 n0 v U'.heap L ∧ FrameEnd U o U' L ({ frames := 0, cells := 0, slots := 0, locals := 0 } : Room).cells ({ frames := 0, cells := 0, slots := 0, locals := 0 } : Room).slots) := by
  refine MetFree.of_bodySF (plainFor_of_name pn_0) hisR ?_
  intro p e s m args below meth c s₁ Bd hml0 hP hK
  obtain ⟨rfl, hZ, hh⟩ := hP
  have hx := Bd.exec
  have hby := Bd.bytes
  have hml : c.maxLocals = 1 := hml0
  have hown : s.vm.findClass "com/example/portcullis/portcullis/policy/Ints" = some m.cls := findClass_of_methodNamed Bd.named
  have hnm := (name_of_methodNamed Bd.named Bd.method).1
  have X0 : Stand p l e ({ frames := 0, cells := 0, slots := 0, locals := 0 } : Room) s m #[(.ref a0)] below meth c s₁ [] 0 0 := Stand.of_body Bd
  have e0 : s₁.heap = h0 := by rw [← hh, Bd.state]; rfl
  have N0 := Fr.nil n0
  have pre0 : ∀ t, Steps p.tables e below (s₁.setTop (mkF m 0 #[.val (.ref a0)] [])) t → Steps p.tables e below (s₁.setTop (entryFrame m #[(.ref a0)] 1)) t := fun t k => castTop (ef_4 m a0) k
  refine OGo.start pre0 ?_
  show OGo p.tables e below _ (s₁.setTop (mkF m 0 #[.val (.ref a0)] []))
  refine OGo.st (fun t k => XS.aloadN X0.here hx rfl (hb hby d4_0) rfl rfl k) ?_
  show OGo p.tables e below _ (s₁.setTop (mkF m 1 #[.val (.ref a0)] [(.ref a0)]))
  refine OGo.st (fun t k => XS.dup X0.here hx rfl (hb hby d4_1) rfl rfl k) ?_
  show OGo p.tables e below _ (s₁.setTop (mkF m 2 #[.val (.ref a0)] [(.ref a0), (.ref a0)]))
  obtain ⟨T101, X101, e101, st101⟩ := getF X0 hx hZ hown (host := "") (Or.inl (hw _ (List.mem_of_getElem? (i := 17) rfl))) Via.refl e0 F2 (g := (mkF m 2 #[.val (.ref a0)] [(.ref a0), (.ref a0)])) rfl rfl (hb hby d4_2)
  refine OGo.st st101 ?_
  show OGo p.tables e below _ (T101.setTop (mkF m 5 #[.val (.ref a0)] [(.int (1 : Int32)), (.ref a0)]))
  refine OGo.st (fun t k => XS.iconst X101.here hx rfl (hb hby d4_5) k) ?_
  show OGo p.tables e below _ (T101.setTop (mkF m 6 #[.val (.ref a0)] [(.int (1 : Int32)), (.int (1 : Int32)), (.ref a0)]))
  refine OGo.st (fun t k => XS.isub X101.here hx rfl (hb hby d4_6) rfl k) ?_
  show OGo p.tables e below _ (T101.setTop (mkF m 7 #[.val (.ref a0)] [(.int (0 : Int32)), (.ref a0)]))
  obtain ⟨T102, h102, X102, e102, W102, st102⟩ := putF X101 hx hZ hown (host := "") (Or.inl (hw _ (List.mem_of_getElem? (i := 17) rfl))) Via.refl e101 F2 E0 (Or.inl (hw _ (List.mem_of_getElem? (i := 18) rfl))) (hw _ (List.mem_of_getElem? (i := 1) rfl)) (ty := .int) (by decide) rfl rfl (g := (mkF m 7 #[.val (.ref a0)] [(.int (0 : Int32)), (.ref a0)])) rfl rfl (hb hby d4_7)
  refine OGo.st st102 ?_
  have Fw102 : Fld Z h102 a0 "com/example/portcullis/portcullis/policy/Ints" "size" "I" (.int (0 : Int32)) := Fld.same W102 F2
  have N102 := Fr.snoc X102 N0 g0
  show OGo p.tables e below _ (T102.setTop (mkF m 10 #[.val (.ref a0)] []))
  refine OGo.st (fun t k => XS.aloadN X102.here hx rfl (hb hby d4_10) rfl rfl k) ?_
  show OGo p.tables e below _ (T102.setTop (mkF m 11 #[.val (.ref a0)] [(.ref a0)]))
  have G103 : Fld Z h102 a0 "com/example/portcullis/portcullis/policy/Ints" "values" "[I" (.ref b) := (Fld.other W102 F1 (Or.inr (slot_ne (Or.inl (hw _ (List.mem_of_getElem? (i := 11) rfl))) (Or.inl (hw _ (List.mem_of_getElem? (i := 18) rfl))) (by decide) (t := (.array .int)) (t' := .int) (by decide) (by decide))))
  obtain ⟨T104, X104, e104, st104⟩ := getF X102 hx hZ hown (host := "") (Or.inl (hw _ (List.mem_of_getElem? (i := 10) rfl))) Via.refl e102 G103 (g := (mkF m 11 #[.val (.ref a0)] [(.ref a0)])) rfl rfl (hb hby d4_11)
  refine OGo.st st104 ?_
  show OGo p.tables e below _ (T104.setTop (mkF m 14 #[.val (.ref a0)] [(.ref b)]))
  refine OGo.st (fun t k => XS.aloadN X104.here hx rfl (hb hby d4_14) rfl rfl k) ?_
  show OGo p.tables e below _ (T104.setTop (mkF m 15 #[.val (.ref a0)] [(.ref a0), (.ref b)]))
  obtain ⟨T105, X105, e105, st105⟩ := getF X104 hx hZ hown (host := "") (Or.inl (hw _ (List.mem_of_getElem? (i := 17) rfl))) Via.refl e104 Fw102 (g := (mkF m 15 #[.val (.ref a0)] [(.ref a0), (.ref b)])) rfl rfl (hb hby d4_15)
  refine OGo.st st105 ?_
  show OGo p.tables e below _ (T105.setTop (mkF m 18 #[.val (.ref a0)] [(.int (0 : Int32)), (.ref b)]))
  have G106 : Arv Z h102 b k .int (16 : Int32) [(.int v0), (.int v1), (.int v2), (.int v3)] (.int (0 : Int32)) := (V0.other W102 (Ne.symm nab))
  obtain ⟨cl107, Ar107, qc107, Sz107, Nz107, Hs107, Gs107⟩ := id G106
  have hin107 : ¬ ((0 : Int32) < 0 ∨ cl107.slots.size ≤ ((0 : Int32)).toNatClampNeg) := inb_of Sz107 ⟨by decide, by decide⟩
  have hat107 : cl107.slots[((0 : Int32)).toNatClampNeg]? = some (.int v0) := Has.at Hs107 hin107 rfl
  refine OGo.st (fun t k => X105.iaload hx (j := (0 : Int32)) (v := (.int v0)) (by rw [e105]; exact Ar107.1) (State.isArrayOf_alike hZ.alike Ar107.2.1) Ar107.2.2 hin107 hat107 (g := (mkF m 18 #[.val (.ref a0)] [(.int (0 : Int32)), (.ref b)])) rfl rfl (hb hby d4_18) _ k) ?_
  show OGo p.tables e below _ (T105.setTop (mkF m 19 #[.val (.ref a0)] [(.int v0)]))
  obtain ⟨fs, hr, hrun, hended, hW, hsame⟩ := X105.leave (v := some (.int v0)) (fun h => by rw [Bd.returns] at h; cases h)
  refine OGo.done (retI X105 hx Bd.returns (hb hby d4_19) hr) ⟨hrun, hended, _, _, rfl, ?_, ⟨_, rfl⟩, hW, hsame.mono (by decide) (by decide)⟩
  show Q4 Z a0 b k v0 v1 v2 v3 h0 n0 _ T105.heap _
  rw [e105]
  exact ⟨rfl, N102, ((Keep.refl h0 [a0]).wr W102 (Or.inl (List.mem_of_getElem? (i := 0) rfl))), G103, Fw102⟩
theorem d5_0 : decode prog_59_method_4_code 0 = .ok (.aload_n 0, 1) := by decide +kernel
theorem d5_1 : decode prog_59_method_4_code 1 = .ok (.dup, 1) := by decide +kernel
theorem d5_2 : decode prog_59_method_4_code 2 = .ok (.getfield 13, 3) := by decide +kernel
theorem d5_5 : decode prog_59_method_4_code 5 = .ok (.iconst 1, 1) := by decide +kernel
theorem d5_6 : decode prog_59_method_4_code 6 = .ok (.isub, 1) := by decide +kernel
theorem d5_7 : decode prog_59_method_4_code 7 = .ok (.putfield 13, 3) := by decide +kernel
theorem d5_10 : decode prog_59_method_4_code 10 = .ok (.aload_n 0, 1) := by decide +kernel
theorem d5_11 : decode prog_59_method_4_code 11 = .ok (.getfield 7, 3) := by decide +kernel
theorem d5_14 : decode prog_59_method_4_code 14 = .ok (.aload_n 0, 1) := by decide +kernel
theorem d5_15 : decode prog_59_method_4_code 15 = .ok (.getfield 13, 3) := by decide +kernel
theorem d5_18 : decode prog_59_method_4_code 18 = .ok (.iaload, 1) := by decide +kernel
theorem d5_19 : decode prog_59_method_4_code 19 = .ok (.ireturn, 1) := by decide +kernel
theorem ef_5 (m : MethodId) (x0 : Addr) : entryFrame m #[(.ref x0)] 1 = mkF m 0 #[.val (.ref x0)] [] := by first | (simp [entryFrame, mkF, argsToLocals, Value.category]; done) | rfl
def Q5 (Z : State) (a0 : Addr) (b : Addr) (k : ClassId) (v0 : Int32) (v1 : Int32) (v2 : Int32) (v3 : Int32) (h0 : Heap) (n0 : Nat) (v : Option Value) (h : Heap) (L : List Loc) : Prop := v = some (.int v1) ∧ Fr n0 L ∧ Keep h0 h [a0] ∧ (Fld Z h a0 "com/example/portcullis/portcullis/policy/Ints" "values" "[I" (.ref b)) ∧ (Fld Z h a0 "com/example/portcullis/portcullis/policy/Ints" "size" "I" (.int (1 : Int32)))
set_option maxRecDepth 65536 in
set_option maxHeartbeats 40000000 in
theorem rm5 (l : Launch) (Z : State) (ar : Array Value) (hw : ∀ d ∈ tables_1, d.before ar Z = true) (ws : List Jvm.Cond) (a0 : Addr) (b : Addr) (k : ClassId) (v0 : Int32) (v1 : Int32) (v2 : Int32) (v3 : Int32) (h0 : Heap) (n0 : Nat) (Z0 : n0 ≤ h0.size) (F1 : Fld Z h0 a0 "com/example/portcullis/portcullis/policy/Ints" "values" "[I" (.ref b)) (V0 : Arv Z h0 b k .int (16 : Int32) [(.int v0), (.int v1), (.int v2), (.int v3)] (.int (0 : Int32))) (E0 : Exa Z h0 a0 "com/example/portcullis/portcullis/policy/Ints") (g0 : n0 ≤ a0) (gb : n0 ≤ b) (nab : a0 ≠ b) (F2 : Fld Z h0 a0 "com/example/portcullis/portcullis/policy/Ints" "size" "I" (.int (2 : Int32))) :
    MetFree l (⟨"com/example/portcullis/portcullis/policy/Ints", "removeLast", "()I"⟩ : MethodName) (head1 (Jvm.Cond.code (⟨"com/example/portcullis/portcullis/policy/Ints", "removeLast", "()I"⟩ : MethodName) prog_59_method_4_code 1 (some .int) :: ws) ({ frames := 0, cells := 0, slots := 0, locals := 0 } : Room)) (fun a U => a = #[(.ref a0)] ∧ Z.Warmed39 U.vm ∧ U.heap = h0) (fun _ _ _ _ _ => True) (fun _ U o U' => ∃ v L, o = .returned v ∧ Q5 Z a0 b k v0 v1 v2 v3 h0 n0 v U'.heap L ∧ FrameEnd U o U' L ({ frames := 0, cells := 0, slots := 0, locals := 0 } : Room).cells ({ frames := 0, cells := 0, slots := 0, locals := 0 } : Room).slots) := by
  refine MetFree.of_bodySF (plainFor_of_name pn_0) hisR ?_
  intro p e s m args below meth c s₁ Bd hml0 hP hK
  obtain ⟨rfl, hZ, hh⟩ := hP
  have hx := Bd.exec
  have hby := Bd.bytes
  have hml : c.maxLocals = 1 := hml0
  have hown : s.vm.findClass "com/example/portcullis/portcullis/policy/Ints" = some m.cls := findClass_of_methodNamed Bd.named
  have hnm := (name_of_methodNamed Bd.named Bd.method).1
  have X0 : Stand p l e ({ frames := 0, cells := 0, slots := 0, locals := 0 } : Room) s m #[(.ref a0)] below meth c s₁ [] 0 0 := Stand.of_body Bd
  have e0 : s₁.heap = h0 := by rw [← hh, Bd.state]; rfl
  have N0 := Fr.nil n0
  have pre0 : ∀ t, Steps p.tables e below (s₁.setTop (mkF m 0 #[.val (.ref a0)] [])) t → Steps p.tables e below (s₁.setTop (entryFrame m #[(.ref a0)] 1)) t := fun t k => castTop (ef_5 m a0) k
  refine OGo.start pre0 ?_
  show OGo p.tables e below _ (s₁.setTop (mkF m 0 #[.val (.ref a0)] []))
  refine OGo.st (fun t k => XS.aloadN X0.here hx rfl (hb hby d5_0) rfl rfl k) ?_
  show OGo p.tables e below _ (s₁.setTop (mkF m 1 #[.val (.ref a0)] [(.ref a0)]))
  refine OGo.st (fun t k => XS.dup X0.here hx rfl (hb hby d5_1) rfl rfl k) ?_
  show OGo p.tables e below _ (s₁.setTop (mkF m 2 #[.val (.ref a0)] [(.ref a0), (.ref a0)]))
  obtain ⟨T101, X101, e101, st101⟩ := getF X0 hx hZ hown (host := "") (Or.inl (hw _ (List.mem_of_getElem? (i := 17) rfl))) Via.refl e0 F2 (g := (mkF m 2 #[.val (.ref a0)] [(.ref a0), (.ref a0)])) rfl rfl (hb hby d5_2)
  refine OGo.st st101 ?_
  show OGo p.tables e below _ (T101.setTop (mkF m 5 #[.val (.ref a0)] [(.int (2 : Int32)), (.ref a0)]))
  refine OGo.st (fun t k => XS.iconst X101.here hx rfl (hb hby d5_5) k) ?_
  show OGo p.tables e below _ (T101.setTop (mkF m 6 #[.val (.ref a0)] [(.int (1 : Int32)), (.int (2 : Int32)), (.ref a0)]))
  refine OGo.st (fun t k => XS.isub X101.here hx rfl (hb hby d5_6) rfl k) ?_
  show OGo p.tables e below _ (T101.setTop (mkF m 7 #[.val (.ref a0)] [(.int (1 : Int32)), (.ref a0)]))
  obtain ⟨T102, h102, X102, e102, W102, st102⟩ := putF X101 hx hZ hown (host := "") (Or.inl (hw _ (List.mem_of_getElem? (i := 17) rfl))) Via.refl e101 F2 E0 (Or.inl (hw _ (List.mem_of_getElem? (i := 18) rfl))) (hw _ (List.mem_of_getElem? (i := 1) rfl)) (ty := .int) (by decide) rfl rfl (g := (mkF m 7 #[.val (.ref a0)] [(.int (1 : Int32)), (.ref a0)])) rfl rfl (hb hby d5_7)
  refine OGo.st st102 ?_
  have Fw102 : Fld Z h102 a0 "com/example/portcullis/portcullis/policy/Ints" "size" "I" (.int (1 : Int32)) := Fld.same W102 F2
  have N102 := Fr.snoc X102 N0 g0
  show OGo p.tables e below _ (T102.setTop (mkF m 10 #[.val (.ref a0)] []))
  refine OGo.st (fun t k => XS.aloadN X102.here hx rfl (hb hby d5_10) rfl rfl k) ?_
  show OGo p.tables e below _ (T102.setTop (mkF m 11 #[.val (.ref a0)] [(.ref a0)]))
  have G103 : Fld Z h102 a0 "com/example/portcullis/portcullis/policy/Ints" "values" "[I" (.ref b) := (Fld.other W102 F1 (Or.inr (slot_ne (Or.inl (hw _ (List.mem_of_getElem? (i := 11) rfl))) (Or.inl (hw _ (List.mem_of_getElem? (i := 18) rfl))) (by decide) (t := (.array .int)) (t' := .int) (by decide) (by decide))))
  obtain ⟨T104, X104, e104, st104⟩ := getF X102 hx hZ hown (host := "") (Or.inl (hw _ (List.mem_of_getElem? (i := 10) rfl))) Via.refl e102 G103 (g := (mkF m 11 #[.val (.ref a0)] [(.ref a0)])) rfl rfl (hb hby d5_11)
  refine OGo.st st104 ?_
  show OGo p.tables e below _ (T104.setTop (mkF m 14 #[.val (.ref a0)] [(.ref b)]))
  refine OGo.st (fun t k => XS.aloadN X104.here hx rfl (hb hby d5_14) rfl rfl k) ?_
  show OGo p.tables e below _ (T104.setTop (mkF m 15 #[.val (.ref a0)] [(.ref a0), (.ref b)]))
  obtain ⟨T105, X105, e105, st105⟩ := getF X104 hx hZ hown (host := "") (Or.inl (hw _ (List.mem_of_getElem? (i := 17) rfl))) Via.refl e104 Fw102 (g := (mkF m 15 #[.val (.ref a0)] [(.ref a0), (.ref b)])) rfl rfl (hb hby d5_15)
  refine OGo.st st105 ?_
  show OGo p.tables e below _ (T105.setTop (mkF m 18 #[.val (.ref a0)] [(.int (1 : Int32)), (.ref b)]))
  have G106 : Arv Z h102 b k .int (16 : Int32) [(.int v0), (.int v1), (.int v2), (.int v3)] (.int (0 : Int32)) := (V0.other W102 (Ne.symm nab))
  obtain ⟨cl107, Ar107, qc107, Sz107, Nz107, Hs107, Gs107⟩ := id G106
  have hin107 : ¬ ((1 : Int32) < 0 ∨ cl107.slots.size ≤ ((1 : Int32)).toNatClampNeg) := inb_of Sz107 ⟨by decide, by decide⟩
  have hat107 : cl107.slots[((1 : Int32)).toNatClampNeg]? = some (.int v1) := Has.at Hs107 hin107 rfl
  refine OGo.st (fun t k => X105.iaload hx (j := (1 : Int32)) (v := (.int v1)) (by rw [e105]; exact Ar107.1) (State.isArrayOf_alike hZ.alike Ar107.2.1) Ar107.2.2 hin107 hat107 (g := (mkF m 18 #[.val (.ref a0)] [(.int (1 : Int32)), (.ref b)])) rfl rfl (hb hby d5_18) _ k) ?_
  show OGo p.tables e below _ (T105.setTop (mkF m 19 #[.val (.ref a0)] [(.int v1)]))
  obtain ⟨fs, hr, hrun, hended, hW, hsame⟩ := X105.leave (v := some (.int v1)) (fun h => by rw [Bd.returns] at h; cases h)
  refine OGo.done (retI X105 hx Bd.returns (hb hby d5_19) hr) ⟨hrun, hended, _, _, rfl, ?_, ⟨_, rfl⟩, hW, hsame.mono (by decide) (by decide)⟩
  show Q5 Z a0 b k v0 v1 v2 v3 h0 n0 _ T105.heap _
  rw [e105]
  exact ⟨rfl, N102, ((Keep.refl h0 [a0]).wr W102 (Or.inl (List.mem_of_getElem? (i := 0) rfl))), G103, Fw102⟩
theorem d6_0 : decode prog_59_method_4_code 0 = .ok (.aload_n 0, 1) := by decide +kernel
theorem d6_1 : decode prog_59_method_4_code 1 = .ok (.dup, 1) := by decide +kernel
theorem d6_2 : decode prog_59_method_4_code 2 = .ok (.getfield 13, 3) := by decide +kernel
theorem d6_5 : decode prog_59_method_4_code 5 = .ok (.iconst 1, 1) := by decide +kernel
theorem d6_6 : decode prog_59_method_4_code 6 = .ok (.isub, 1) := by decide +kernel
theorem d6_7 : decode prog_59_method_4_code 7 = .ok (.putfield 13, 3) := by decide +kernel
theorem d6_10 : decode prog_59_method_4_code 10 = .ok (.aload_n 0, 1) := by decide +kernel
theorem d6_11 : decode prog_59_method_4_code 11 = .ok (.getfield 7, 3) := by decide +kernel
theorem d6_14 : decode prog_59_method_4_code 14 = .ok (.aload_n 0, 1) := by decide +kernel
theorem d6_15 : decode prog_59_method_4_code 15 = .ok (.getfield 13, 3) := by decide +kernel
theorem d6_18 : decode prog_59_method_4_code 18 = .ok (.iaload, 1) := by decide +kernel
theorem d6_19 : decode prog_59_method_4_code 19 = .ok (.ireturn, 1) := by decide +kernel
theorem ef_6 (m : MethodId) (x0 : Addr) : entryFrame m #[(.ref x0)] 1 = mkF m 0 #[.val (.ref x0)] [] := by first | (simp [entryFrame, mkF, argsToLocals, Value.category]; done) | rfl
def Q6 (Z : State) (a0 : Addr) (b : Addr) (k : ClassId) (v0 : Int32) (v1 : Int32) (v2 : Int32) (v3 : Int32) (h0 : Heap) (n0 : Nat) (v : Option Value) (h : Heap) (L : List Loc) : Prop := v = some (.int v2) ∧ Fr n0 L ∧ Keep h0 h [a0] ∧ (Fld Z h a0 "com/example/portcullis/portcullis/policy/Ints" "values" "[I" (.ref b)) ∧ (Fld Z h a0 "com/example/portcullis/portcullis/policy/Ints" "size" "I" (.int (2 : Int32)))
set_option maxRecDepth 65536 in
set_option maxHeartbeats 40000000 in
theorem rm6 (l : Launch) (Z : State) (ar : Array Value) (hw : ∀ d ∈ tables_1, d.before ar Z = true) (ws : List Jvm.Cond) (a0 : Addr) (b : Addr) (k : ClassId) (v0 : Int32) (v1 : Int32) (v2 : Int32) (v3 : Int32) (h0 : Heap) (n0 : Nat) (Z0 : n0 ≤ h0.size) (F1 : Fld Z h0 a0 "com/example/portcullis/portcullis/policy/Ints" "values" "[I" (.ref b)) (V0 : Arv Z h0 b k .int (16 : Int32) [(.int v0), (.int v1), (.int v2), (.int v3)] (.int (0 : Int32))) (E0 : Exa Z h0 a0 "com/example/portcullis/portcullis/policy/Ints") (g0 : n0 ≤ a0) (gb : n0 ≤ b) (nab : a0 ≠ b) (F2 : Fld Z h0 a0 "com/example/portcullis/portcullis/policy/Ints" "size" "I" (.int (3 : Int32))) :
    MetFree l (⟨"com/example/portcullis/portcullis/policy/Ints", "removeLast", "()I"⟩ : MethodName) (head1 (Jvm.Cond.code (⟨"com/example/portcullis/portcullis/policy/Ints", "removeLast", "()I"⟩ : MethodName) prog_59_method_4_code 1 (some .int) :: ws) ({ frames := 0, cells := 0, slots := 0, locals := 0 } : Room)) (fun a U => a = #[(.ref a0)] ∧ Z.Warmed39 U.vm ∧ U.heap = h0) (fun _ _ _ _ _ => True) (fun _ U o U' => ∃ v L, o = .returned v ∧ Q6 Z a0 b k v0 v1 v2 v3 h0 n0 v U'.heap L ∧ FrameEnd U o U' L ({ frames := 0, cells := 0, slots := 0, locals := 0 } : Room).cells ({ frames := 0, cells := 0, slots := 0, locals := 0 } : Room).slots) := by
  refine MetFree.of_bodySF (plainFor_of_name pn_0) hisR ?_
  intro p e s m args below meth c s₁ Bd hml0 hP hK
  obtain ⟨rfl, hZ, hh⟩ := hP
  have hx := Bd.exec
  have hby := Bd.bytes
  have hml : c.maxLocals = 1 := hml0
  have hown : s.vm.findClass "com/example/portcullis/portcullis/policy/Ints" = some m.cls := findClass_of_methodNamed Bd.named
  have hnm := (name_of_methodNamed Bd.named Bd.method).1
  have X0 : Stand p l e ({ frames := 0, cells := 0, slots := 0, locals := 0 } : Room) s m #[(.ref a0)] below meth c s₁ [] 0 0 := Stand.of_body Bd
  have e0 : s₁.heap = h0 := by rw [← hh, Bd.state]; rfl
  have N0 := Fr.nil n0
  have pre0 : ∀ t, Steps p.tables e below (s₁.setTop (mkF m 0 #[.val (.ref a0)] [])) t → Steps p.tables e below (s₁.setTop (entryFrame m #[(.ref a0)] 1)) t := fun t k => castTop (ef_6 m a0) k
  refine OGo.start pre0 ?_
  show OGo p.tables e below _ (s₁.setTop (mkF m 0 #[.val (.ref a0)] []))
  refine OGo.st (fun t k => XS.aloadN X0.here hx rfl (hb hby d6_0) rfl rfl k) ?_
  show OGo p.tables e below _ (s₁.setTop (mkF m 1 #[.val (.ref a0)] [(.ref a0)]))
  refine OGo.st (fun t k => XS.dup X0.here hx rfl (hb hby d6_1) rfl rfl k) ?_
  show OGo p.tables e below _ (s₁.setTop (mkF m 2 #[.val (.ref a0)] [(.ref a0), (.ref a0)]))
  obtain ⟨T101, X101, e101, st101⟩ := getF X0 hx hZ hown (host := "") (Or.inl (hw _ (List.mem_of_getElem? (i := 17) rfl))) Via.refl e0 F2 (g := (mkF m 2 #[.val (.ref a0)] [(.ref a0), (.ref a0)])) rfl rfl (hb hby d6_2)
  refine OGo.st st101 ?_
  show OGo p.tables e below _ (T101.setTop (mkF m 5 #[.val (.ref a0)] [(.int (3 : Int32)), (.ref a0)]))
  refine OGo.st (fun t k => XS.iconst X101.here hx rfl (hb hby d6_5) k) ?_
  show OGo p.tables e below _ (T101.setTop (mkF m 6 #[.val (.ref a0)] [(.int (1 : Int32)), (.int (3 : Int32)), (.ref a0)]))
  refine OGo.st (fun t k => XS.isub X101.here hx rfl (hb hby d6_6) rfl k) ?_
  show OGo p.tables e below _ (T101.setTop (mkF m 7 #[.val (.ref a0)] [(.int (2 : Int32)), (.ref a0)]))
  obtain ⟨T102, h102, X102, e102, W102, st102⟩ := putF X101 hx hZ hown (host := "") (Or.inl (hw _ (List.mem_of_getElem? (i := 17) rfl))) Via.refl e101 F2 E0 (Or.inl (hw _ (List.mem_of_getElem? (i := 18) rfl))) (hw _ (List.mem_of_getElem? (i := 1) rfl)) (ty := .int) (by decide) rfl rfl (g := (mkF m 7 #[.val (.ref a0)] [(.int (2 : Int32)), (.ref a0)])) rfl rfl (hb hby d6_7)
  refine OGo.st st102 ?_
  have Fw102 : Fld Z h102 a0 "com/example/portcullis/portcullis/policy/Ints" "size" "I" (.int (2 : Int32)) := Fld.same W102 F2
  have N102 := Fr.snoc X102 N0 g0
  show OGo p.tables e below _ (T102.setTop (mkF m 10 #[.val (.ref a0)] []))
  refine OGo.st (fun t k => XS.aloadN X102.here hx rfl (hb hby d6_10) rfl rfl k) ?_
  show OGo p.tables e below _ (T102.setTop (mkF m 11 #[.val (.ref a0)] [(.ref a0)]))
  have G103 : Fld Z h102 a0 "com/example/portcullis/portcullis/policy/Ints" "values" "[I" (.ref b) := (Fld.other W102 F1 (Or.inr (slot_ne (Or.inl (hw _ (List.mem_of_getElem? (i := 11) rfl))) (Or.inl (hw _ (List.mem_of_getElem? (i := 18) rfl))) (by decide) (t := (.array .int)) (t' := .int) (by decide) (by decide))))
  obtain ⟨T104, X104, e104, st104⟩ := getF X102 hx hZ hown (host := "") (Or.inl (hw _ (List.mem_of_getElem? (i := 10) rfl))) Via.refl e102 G103 (g := (mkF m 11 #[.val (.ref a0)] [(.ref a0)])) rfl rfl (hb hby d6_11)
  refine OGo.st st104 ?_
  show OGo p.tables e below _ (T104.setTop (mkF m 14 #[.val (.ref a0)] [(.ref b)]))
  refine OGo.st (fun t k => XS.aloadN X104.here hx rfl (hb hby d6_14) rfl rfl k) ?_
  show OGo p.tables e below _ (T104.setTop (mkF m 15 #[.val (.ref a0)] [(.ref a0), (.ref b)]))
  obtain ⟨T105, X105, e105, st105⟩ := getF X104 hx hZ hown (host := "") (Or.inl (hw _ (List.mem_of_getElem? (i := 17) rfl))) Via.refl e104 Fw102 (g := (mkF m 15 #[.val (.ref a0)] [(.ref a0), (.ref b)])) rfl rfl (hb hby d6_15)
  refine OGo.st st105 ?_
  show OGo p.tables e below _ (T105.setTop (mkF m 18 #[.val (.ref a0)] [(.int (2 : Int32)), (.ref b)]))
  have G106 : Arv Z h102 b k .int (16 : Int32) [(.int v0), (.int v1), (.int v2), (.int v3)] (.int (0 : Int32)) := (V0.other W102 (Ne.symm nab))
  obtain ⟨cl107, Ar107, qc107, Sz107, Nz107, Hs107, Gs107⟩ := id G106
  have hin107 : ¬ ((2 : Int32) < 0 ∨ cl107.slots.size ≤ ((2 : Int32)).toNatClampNeg) := inb_of Sz107 ⟨by decide, by decide⟩
  have hat107 : cl107.slots[((2 : Int32)).toNatClampNeg]? = some (.int v2) := Has.at Hs107 hin107 rfl
  refine OGo.st (fun t k => X105.iaload hx (j := (2 : Int32)) (v := (.int v2)) (by rw [e105]; exact Ar107.1) (State.isArrayOf_alike hZ.alike Ar107.2.1) Ar107.2.2 hin107 hat107 (g := (mkF m 18 #[.val (.ref a0)] [(.int (2 : Int32)), (.ref b)])) rfl rfl (hb hby d6_18) _ k) ?_
  show OGo p.tables e below _ (T105.setTop (mkF m 19 #[.val (.ref a0)] [(.int v2)]))
  obtain ⟨fs, hr, hrun, hended, hW, hsame⟩ := X105.leave (v := some (.int v2)) (fun h => by rw [Bd.returns] at h; cases h)
  refine OGo.done (retI X105 hx Bd.returns (hb hby d6_19) hr) ⟨hrun, hended, _, _, rfl, ?_, ⟨_, rfl⟩, hW, hsame.mono (by decide) (by decide)⟩
  show Q6 Z a0 b k v0 v1 v2 v3 h0 n0 _ T105.heap _
  rw [e105]
  exact ⟨rfl, N102, ((Keep.refl h0 [a0]).wr W102 (Or.inl (List.mem_of_getElem? (i := 0) rfl))), G103, Fw102⟩
theorem d7_0 : decode prog_59_method_6_code 0 = .ok (.aload_n 0, 1) := by decide +kernel
theorem d7_1 : decode prog_59_method_6_code 1 = .ok (.getfield 13, 3) := by decide +kernel
theorem d7_4 : decode prog_59_method_6_code 4 = .ok (.ireturn, 1) := by decide +kernel
theorem ef_7 (m : MethodId) (x0 : Addr) : entryFrame m #[(.ref x0)] 1 = mkF m 0 #[.val (.ref x0)] [] := by first | (simp [entryFrame, mkF, argsToLocals, Value.category]; done) | rfl
def Q7 (Z : State) (a0 : Addr) (w : Int32) (h0 : Heap) (n0 : Nat) (v : Option Value) (h : Heap) (L : List Loc) : Prop := v = some (.int w) ∧ Fr n0 L ∧ h = h0
set_option maxRecDepth 65536 in
set_option maxHeartbeats 40000000 in
theorem rm7 (l : Launch) (Z : State) (ar : Array Value) (hw : ∀ d ∈ tables_1, d.before ar Z = true) (ws : List Jvm.Cond) (a0 : Addr) (w : Int32) (h0 : Heap) (n0 : Nat) (Z0 : n0 ≤ h0.size) (F : Fld Z h0 a0 "com/example/portcullis/portcullis/policy/Ints" "size" "I" (.int w)) :
    MetFree l (⟨"com/example/portcullis/portcullis/policy/Ints", "size", "()I"⟩ : MethodName) (head1 (Jvm.Cond.code (⟨"com/example/portcullis/portcullis/policy/Ints", "size", "()I"⟩ : MethodName) prog_59_method_6_code 1 (some .int) :: ws) ({ frames := 0, cells := 0, slots := 0, locals := 0 } : Room)) (fun a U => a = #[(.ref a0)] ∧ Z.Warmed39 U.vm ∧ U.heap = h0) (fun _ _ _ _ _ => True) (fun _ U o U' => ∃ v L, o = .returned v ∧ Q7 Z a0 w h0 n0 v U'.heap L ∧ FrameEnd U o U' L ({ frames := 0, cells := 0, slots := 0, locals := 0 } : Room).cells ({ frames := 0, cells := 0, slots := 0, locals := 0 } : Room).slots) := by
  refine MetFree.of_bodySF (plainFor_of_name pn_0) hisR ?_
  intro p e s m args below meth c s₁ Bd hml0 hP hK
  obtain ⟨rfl, hZ, hh⟩ := hP
  have hx := Bd.exec
  have hby := Bd.bytes
  have hml : c.maxLocals = 1 := hml0
  have hown : s.vm.findClass "com/example/portcullis/portcullis/policy/Ints" = some m.cls := findClass_of_methodNamed Bd.named
  have hnm := (name_of_methodNamed Bd.named Bd.method).1
  have X0 : Stand p l e ({ frames := 0, cells := 0, slots := 0, locals := 0 } : Room) s m #[(.ref a0)] below meth c s₁ [] 0 0 := Stand.of_body Bd
  have e0 : s₁.heap = h0 := by rw [← hh, Bd.state]; rfl
  have N0 := Fr.nil n0
  have pre0 : ∀ t, Steps p.tables e below (s₁.setTop (mkF m 0 #[.val (.ref a0)] [])) t → Steps p.tables e below (s₁.setTop (entryFrame m #[(.ref a0)] 1)) t := fun t k => castTop (ef_7 m a0) k
  refine OGo.start pre0 ?_
  show OGo p.tables e below _ (s₁.setTop (mkF m 0 #[.val (.ref a0)] []))
  refine OGo.st (fun t k => XS.aloadN X0.here hx rfl (hb hby d7_0) rfl rfl k) ?_
  show OGo p.tables e below _ (s₁.setTop (mkF m 1 #[.val (.ref a0)] [(.ref a0)]))
  obtain ⟨T101, X101, e101, st101⟩ := getF X0 hx hZ hown (host := "") (Or.inl (hw _ (List.mem_of_getElem? (i := 17) rfl))) Via.refl e0 F (g := (mkF m 1 #[.val (.ref a0)] [(.ref a0)])) rfl rfl (hb hby d7_1)
  refine OGo.st st101 ?_
  show OGo p.tables e below _ (T101.setTop (mkF m 4 #[.val (.ref a0)] [(.int w)]))
  obtain ⟨fs, hr, hrun, hended, hW, hsame⟩ := X101.leave (v := some (.int w)) (fun h => by rw [Bd.returns] at h; cases h)
  refine OGo.done (retI X101 hx Bd.returns (hb hby d7_4) hr) ⟨hrun, hended, _, _, rfl, ?_, ⟨_, rfl⟩, hW, hsame.mono (by decide) (by decide)⟩
  show Q7 Z a0 w h0 n0 _ T101.heap _
  rw [e101]
  exact ⟨rfl, N0, rfl⟩
theorem d8_0 : decode prog_59_method_3_code 0 = .ok (.aload_n 0, 1) := by decide +kernel
theorem d8_1 : decode prog_59_method_3_code 1 = .ok (.getfield 7, 3) := by decide +kernel
theorem d8_4 : decode prog_59_method_3_code 4 = .ok (.iload_n 1, 1) := by decide +kernel
theorem d8_5 : decode prog_59_method_3_code 5 = .ok (.iaload, 1) := by decide +kernel
theorem d8_6 : decode prog_59_method_3_code 6 = .ok (.ireturn, 1) := by decide +kernel
theorem ef_8 (m : MethodId) (x0 : Addr) : entryFrame m #[(.ref x0), (.int (0 : Int32))] 2 = mkF m 0 #[.val (.ref x0), .val (.int (0 : Int32))] [] := by first | (simp [entryFrame, mkF, argsToLocals, Value.category]; done) | rfl
def Q8 (Z : State) (a0 : Addr) (b : Addr) (k : ClassId) (v0 : Int32) (v1 : Int32) (v2 : Int32) (v3 : Int32) (h0 : Heap) (n0 : Nat) (v : Option Value) (h : Heap) (L : List Loc) : Prop := v = some (.int v0) ∧ Fr n0 L ∧ h = h0
set_option maxRecDepth 65536 in
set_option maxHeartbeats 40000000 in
theorem rm8 (l : Launch) (Z : State) (ar : Array Value) (hw : ∀ d ∈ tables_1, d.before ar Z = true) (ws : List Jvm.Cond) (a0 : Addr) (b : Addr) (k : ClassId) (v0 : Int32) (v1 : Int32) (v2 : Int32) (v3 : Int32) (h0 : Heap) (n0 : Nat) (Z0 : n0 ≤ h0.size) (F1 : Fld Z h0 a0 "com/example/portcullis/portcullis/policy/Ints" "values" "[I" (.ref b)) (V0 : Arv Z h0 b k .int (16 : Int32) [(.int v0), (.int v1), (.int v2), (.int v3)] (.int (0 : Int32))) :
    MetFree l (⟨"com/example/portcullis/portcullis/policy/Ints", "get", "(I)I"⟩ : MethodName) (head1 (Jvm.Cond.code (⟨"com/example/portcullis/portcullis/policy/Ints", "get", "(I)I"⟩ : MethodName) prog_59_method_3_code 2 (some .int) :: ws) ({ frames := 0, cells := 0, slots := 0, locals := 0 } : Room)) (fun a U => a = #[(.ref a0), (.int (0 : Int32))] ∧ Z.Warmed39 U.vm ∧ U.heap = h0) (fun _ _ _ _ _ => True) (fun _ U o U' => ∃ v L, o = .returned v ∧ Q8 Z a0 b k v0 v1 v2 v3 h0 n0 v U'.heap L ∧ FrameEnd U o U' L ({ frames := 0, cells := 0, slots := 0, locals := 0 } : Room).cells ({ frames := 0, cells := 0, slots := 0, locals := 0 } : Room).slots) := by
  refine MetFree.of_bodySF (plainFor_of_name pn_0) hisR ?_
  intro p e s m args below meth c s₁ Bd hml0 hP hK
  obtain ⟨rfl, hZ, hh⟩ := hP
  have hx := Bd.exec
  have hby := Bd.bytes
  have hml : c.maxLocals = 2 := hml0
  have hown : s.vm.findClass "com/example/portcullis/portcullis/policy/Ints" = some m.cls := findClass_of_methodNamed Bd.named
  have hnm := (name_of_methodNamed Bd.named Bd.method).1
  have X0 : Stand p l e ({ frames := 0, cells := 0, slots := 0, locals := 0 } : Room) s m #[(.ref a0), (.int (0 : Int32))] below meth c s₁ [] 0 0 := Stand.of_body Bd
  have e0 : s₁.heap = h0 := by rw [← hh, Bd.state]; rfl
  have N0 := Fr.nil n0
  have pre0 : ∀ t, Steps p.tables e below (s₁.setTop (mkF m 0 #[.val (.ref a0), .val (.int (0 : Int32))] [])) t → Steps p.tables e below (s₁.setTop (entryFrame m #[(.ref a0), (.int (0 : Int32))] 2)) t := fun t k => castTop (ef_8 m a0) k
  refine OGo.start pre0 ?_
  show OGo p.tables e below _ (s₁.setTop (mkF m 0 #[.val (.ref a0), .val (.int (0 : Int32))] []))
  refine OGo.st (fun t k => XS.aloadN X0.here hx rfl (hb hby d8_0) rfl rfl k) ?_
  show OGo p.tables e below _ (s₁.setTop (mkF m 1 #[.val (.ref a0), .val (.int (0 : Int32))] [(.ref a0)]))
  obtain ⟨T101, X101, e101, st101⟩ := getF X0 hx hZ hown (host := "") (Or.inl (hw _ (List.mem_of_getElem? (i := 10) rfl))) Via.refl e0 F1 (g := (mkF m 1 #[.val (.ref a0), .val (.int (0 : Int32))] [(.ref a0)])) rfl rfl (hb hby d8_1)
  refine OGo.st st101 ?_
  show OGo p.tables e below _ (T101.setTop (mkF m 4 #[.val (.ref a0), .val (.int (0 : Int32))] [(.ref b)]))
  refine OGo.st (fun t k => XS.iloadN X101.here hx rfl (hb hby d8_4) rfl k) ?_
  show OGo p.tables e below _ (T101.setTop (mkF m 5 #[.val (.ref a0), .val (.int (0 : Int32))] [(.int (0 : Int32)), (.ref b)]))
  obtain ⟨cl102, Ar102, qc102, Sz102, Nz102, Hs102, Gs102⟩ := id V0
  have hin102 : ¬ ((0 : Int32) < 0 ∨ cl102.slots.size ≤ ((0 : Int32)).toNatClampNeg) := inb_of Sz102 ⟨by decide, by decide⟩
  have hat102 : cl102.slots[((0 : Int32)).toNatClampNeg]? = some (.int v0) := Has.at Hs102 hin102 rfl
  refine OGo.st (fun t k => X101.iaload hx (j := (0 : Int32)) (v := (.int v0)) (by rw [e101]; exact Ar102.1) (State.isArrayOf_alike hZ.alike Ar102.2.1) Ar102.2.2 hin102 hat102 (g := (mkF m 5 #[.val (.ref a0), .val (.int (0 : Int32))] [(.int (0 : Int32)), (.ref b)])) rfl rfl (hb hby d8_5) _ k) ?_
  show OGo p.tables e below _ (T101.setTop (mkF m 6 #[.val (.ref a0), .val (.int (0 : Int32))] [(.int v0)]))
  obtain ⟨fs, hr, hrun, hended, hW, hsame⟩ := X101.leave (v := some (.int v0)) (fun h => by rw [Bd.returns] at h; cases h)
  refine OGo.done (retI X101 hx Bd.returns (hb hby d8_6) hr) ⟨hrun, hended, _, _, rfl, ?_, ⟨_, rfl⟩, hW, hsame.mono (by decide) (by decide)⟩
  show Q8 Z a0 b k v0 v1 v2 v3 h0 n0 _ T101.heap _
  rw [e101]
  exact ⟨rfl, N0, rfl⟩
theorem pd_0 : parseMethodDescriptor "()V" = some ⟨[], none⟩ := by decide +kernel
theorem pd_1 : parseMethodDescriptor "(I)V" = some ⟨[.int], none⟩ := by decide +kernel
theorem pd_2 : parseMethodDescriptor "()I" = some ⟨[], some .int⟩ := by decide +kernel
theorem pd_3 : parseMethodDescriptor "(I)I" = some ⟨[.int], some .int⟩ := by decide +kernel
theorem pn_1 : plainName "com/example/portcullis/portcullis/policy/IntsRemoveLastPinLaw" = true := by first | (simp [plainName, overriddenIn]; done) | decide +kernel
theorem ef_9 (m : MethodId) (x0 : Int32) (x1 : Int32) (x2 : Int32) (x3 : Int32) (x4 : Int32) : entryFrame m #[(.int x0), (.int x1), (.int x2), (.int x3), (.int x4)] maxLocals = mkF m 0 #[.val (.int x0), .val (.int x1), .val (.int x2), .val (.int x3), .val (.int x4), .unset, .unset, .unset, .unset, .unset, .unset, .unset] [] := by first | (simp [entryFrame, mkF, argsToLocals, Value.category, maxLocals]; done) | rfl
def Q9 (Z : State) (p0 : Int32) (p1 : Int32) (p2 : Int32) (p3 : Int32) (p4 : Int32) (h0 : Heap) (n0 : Nat) (v : Option Value) (h : Heap) (L : List Loc) : Prop := v = some (.int (1 : Int32)) ∧ Fr n0 L
set_option maxRecDepth 65536 in
set_option maxHeartbeats 40000000 in
theorem rm9 (l : Launch) (Z : State) (ar : Array Value) (hw : ∀ d ∈ tables_1, d.before ar Z = true) (ws : List Jvm.Cond) (p0 : Int32) (p1 : Int32) (p2 : Int32) (p3 : Int32) (p4 : Int32) (h0 : Heap) (n0 : Nat) (Z0 : n0 ≤ h0.size)  :
    MetFree l x (head1 (Jvm.Cond.code x code maxLocals ret :: ws) room_1) (fun a U => a = #[(.int p0), (.int p1), (.int p2), (.int p3), (.int p4)] ∧ Z.Warmed39 U.vm ∧ U.heap = h0) (fun _ _ _ _ _ => True) (fun _ U o U' => ∃ v L, o = .returned v ∧ Q9 Z p0 p1 p2 p3 p4 h0 n0 v U'.heap L ∧ FrameEnd U o U' L room_1.cells room_1.slots) := by
  refine MetFree.of_bodySF (plainFor_of_name pn_1) hisR ?_
  intro p e s m args below meth c s₁ Bd hml0 hP hK
  obtain ⟨rfl, hZ, hh⟩ := hP
  have hx := Bd.exec
  have hby := Bd.bytes
  have hml : c.maxLocals = 12 := hml0
  have hown : s.vm.findClass "com/example/portcullis/portcullis/policy/IntsRemoveLastPinLaw" = some m.cls := findClass_of_methodNamed Bd.named
  have hnm := (name_of_methodNamed Bd.named Bd.method).1
  have X0 : Stand p l e room_1 s m #[(.int p0), (.int p1), (.int p2), (.int p3), (.int p4)] below meth c s₁ [] 0 0 := Stand.of_body Bd
  have e0 : s₁.heap = h0 := by rw [← hh, Bd.state]; rfl
  have N0 := Fr.nil n0
  have pre0 : ∀ t, Steps p.tables e below (s₁.setTop (mkF m 0 #[.val (.int p0), .val (.int p1), .val (.int p2), .val (.int p3), .val (.int p4), .unset, .unset, .unset, .unset, .unset, .unset, .unset] [])) t → Steps p.tables e below (s₁.setTop (entryFrame m #[(.int p0), (.int p1), (.int p2), (.int p3), (.int p4)] maxLocals)) t := fun t k => castTop (ef_9 m p0 p1 p2 p3 p4) k
  refine OGo.start pre0 ?_
  show OGo p.tables e below _ (s₁.setTop (mkF m 0 #[.val (.int p0), .val (.int p1), .val (.int p2), .val (.int p3), .val (.int p4), .unset, .unset, .unset, .unset, .unset, .unset, .unset] []))
  refine OGo.st (fun t k => XS.iload X0.here hx rfl (hb hby at_0) rfl k) ?_
  show OGo p.tables e below _ (s₁.setTop (mkF m 2 #[.val (.int p0), .val (.int p1), .val (.int p2), .val (.int p3), .val (.int p4), .unset, .unset, .unset, .unset, .unset, .unset, .unset] [(.int p4)]))
  refine OGo.st (fun t k => XS.iconst X0.here hx rfl (hb hby at_2) k) ?_
  show OGo p.tables e below _ (s₁.setTop (mkF m 3 #[.val (.int p0), .val (.int p1), .val (.int p2), .val (.int p3), .val (.int p4), .unset, .unset, .unset, .unset, .unset, .unset, .unset] [(.int (1 : Int32)), (.int p4)]))
  refine OGo.st (fun t k => XS.iand X0.here hx rfl (hb hby at_3) rfl k) ?_
  show OGo p.tables e below _ (s₁.setTop (mkF m 4 #[.val (.int p0), .val (.int p1), .val (.int p2), .val (.int p3), .val (.int p4), .unset, .unset, .unset, .unset, .unset, .unset, .unset] [(.int (p4 &&& (1 : Int32)))]))
  by_cases hc4_101 : (p4 &&& (1 : Int32)) = (0 : Int32)
  ·
    refine OGo.st (fun t k => XS.ifYes X0.here hx rfl (pc0 := 4) (pc' := 11) rfl (hb hby at_4) rfl ((if0 _ _).trans (teq hc4_101).1) (by decide) (by decide) k) ?_
    show OGo p.tables e below _ (s₁.setTop (mkF m 11 #[.val (.int p0), .val (.int p1), .val (.int p2), .val (.int p3), .val (.int p4), .unset, .unset, .unset, .unset, .unset, .unset, .unset] []))
    refine OGo.st (fun t k => XS.iconst X0.here hx rfl (hb hby at_11) k) ?_
    show OGo p.tables e below _ (s₁.setTop (mkF m 12 #[.val (.int p0), .val (.int p1), .val (.int p2), .val (.int p3), .val (.int p4), .unset, .unset, .unset, .unset, .unset, .unset, .unset] [(.int (0 : Int32))]))
    refine OGo.st (fun t k => XS.istore X0.here hx rfl (hb hby at_12) rfl (l' := #[.val (.int p0), .val (.int p1), .val (.int p2), .val (.int p3), .val (.int p4), .val (.int (0 : Int32)), .unset, .unset, .unset, .unset, .unset, .unset]) rfl k) ?_
    show OGo p.tables e below _ (s₁.setTop (mkF m 14 #[.val (.int p0), .val (.int p1), .val (.int p2), .val (.int p3), .val (.int p4), .val (.int (0 : Int32)), .unset, .unset, .unset, .unset, .unset, .unset] []))
    obtain ⟨T102, h102, X102, e102, E102, A102, D102, -, st102⟩ := newO X0 hx hZ hown (hw _ (List.mem_of_getElem? (i := 0) rfl)) (hw _ (List.mem_of_getElem? (i := 1) rfl)) (hw _ (List.mem_of_getElem? (i := 2) rfl)) e0 (g := (mkF m 14 #[.val (.int p0), .val (.int p1), .val (.int p2), .val (.int p3), .val (.int p4), .val (.int (0 : Int32)), .unset, .unset, .unset, .unset, .unset, .unset] [])) rfl (hb hby at_14) (by decide) (by decide)
    obtain ⟨b102, g102⟩ : ∃ z, z = h0.size := ⟨_, rfl⟩
    rw [← g102] at A102 D102 st102
    have ge_b102 : n0 ≤ b102 := Nat.le_trans Z0 (Nat.le_of_eq g102.symm)
    have sz_b102 : h0.size ≤ b102 := Nat.le_trans (Nat.le_refl h0.size) (Nat.le_of_eq g102.symm)
    refine OGo.st st102 ?_
    have Fn102_values : Fld Z h102 b102 "com/example/portcullis/portcullis/policy/Ints" "values" "[I" .null := D102 (Or.inl (hw _ (List.mem_of_getElem? (i := 11) rfl))) (ty := (.array .int)) (by decide)
    have Fn102_size : Fld Z h102 b102 "com/example/portcullis/portcullis/policy/Ints" "size" "I" (.int (0 : Int32)) := D102 (Or.inl (hw _ (List.mem_of_getElem? (i := 18) rfl))) (ty := .int) (by decide)
    show OGo p.tables e below _ (T102.setTop (mkF m 17 #[.val (.int p0), .val (.int p1), .val (.int p2), .val (.int p3), .val (.int p4), .val (.int (0 : Int32)), .unset, .unset, .unset, .unset, .unset, .unset] [(.ref b102)]))
    refine OGo.st (fun t k => XS.dup X102.here hx rfl (hb hby at_17) rfl rfl k) ?_
    show OGo p.tables e below _ (T102.setTop (mkF m 18 #[.val (.int p0), .val (.int p1), .val (.int p2), .val (.int p3), .val (.int p4), .val (.int (0 : Int32)), .unset, .unset, .unset, .unset, .unset, .unset] [(.ref b102), (.ref b102)]))
    obtain ⟨_, _, ⟨T103, L103, kk103, nn103⟩, -, X103, ⟨Lc103, hQ103, l103, y103, z103⟩, st103⟩ := X102.specialBack hx (y := (⟨"com/example/portcullis/portcullis/policy/Ints", "<init>", "()V"⟩ : MethodName)) rfl hown (mvT hZ (hw _ (List.mem_of_getElem? (i := 3) rfl))) (mvT hZ (hw _ (List.mem_of_getElem? (i := 4) rfl))) (mvT hZ (hw _ (List.mem_of_getElem? (i := 5) rfl))) (by decide) (backOf (W := 1) (rm0 l Z ar hw [] b102 h102 n0 (Nat.le_trans Z0 E102.1) A102 ge_b102 Fn102_values Fn102_size) hZ (hw _ (List.mem_of_getElem? (i := 5) rfl)) (hw _ (List.mem_of_getElem? (i := 2) rfl)) (by decide) (by decide)) (g := (mkF m 18 #[.val (.int p0), .val (.int p1), .val (.int p2), .val (.int p3), .val (.int p4), .val (.int (0 : Int32)), .unset, .unset, .unset, .unset, .unset, .unset] [(.ref b102), (.ref b102)])) rfl (by rw [hml]; rfl) (Steps.refl _) (a := b102) (argsL := []) (rest := [(.ref b102)]) (lenOf pd_0 rfl) rfl (by show 2 * 0 + _ ≤ _; exact Nat.le_of_eq rfl) (hb hby at_18) (fun _ _ => ⟨rfl, e102, (by decide : 1 + 1 ≤ _), (by decide : 2 + 16 ≤ _)⟩)
    dsimp only [Pt.U, Pt.locs, Pt.cells, Pt.slots] at X103 l103 y103 z103 st103 hQ103
    subst l103 y103 z103
    obtain ⟨x103_b, x103_k, rfl, Nq103, K103, P103_0, P103_1, P103_2, P103_3⟩ := hQ103
    have N103 := Fr.app N0 Nq103
    refine OGo.st (fun t k => st103.trans k) ?_
    have ge_x103_b : n0 ≤ x103_b := Nat.le_trans (Nat.le_trans Z0 E102.1) P103_0
    have sz_x103_b : h0.size ≤ x103_b := Nat.le_trans (Nat.le_trans (Nat.le_refl h0.size) E102.1) P103_0
    have ne_b102_x103_b : b102 ≠ x103_b := Nat.ne_of_lt (Nat.lt_of_lt_of_le A102.lt P103_0)
    show OGo p.tables e below _ (T103.setTop (mkF m 21 #[.val (.int p0), .val (.int p1), .val (.int p2), .val (.int p3), .val (.int p4), .val (.int (0 : Int32)), .unset, .unset, .unset, .unset, .unset, .unset] [(.ref b102)]))
    refine OGo.st (fun t k => XS.astore X103.here hx rfl (hb hby at_21) rfl rfl (l' := #[.val (.int p0), .val (.int p1), .val (.int p2), .val (.int p3), .val (.int p4), .val (.int (0 : Int32)), .val (.ref b102), .unset, .unset, .unset, .unset, .unset]) rfl k) ?_
    show OGo p.tables e below _ (T103.setTop (mkF m 23 #[.val (.int p0), .val (.int p1), .val (.int p2), .val (.int p3), .val (.int p4), .val (.int (0 : Int32)), .val (.ref b102), .unset, .unset, .unset, .unset, .unset] []))
    refine OGo.st (fun t k => XS.aload X103.here hx rfl (hb hby at_23) rfl rfl k) ?_
    show OGo p.tables e below _ (T103.setTop (mkF m 25 #[.val (.int p0), .val (.int p1), .val (.int p2), .val (.int p3), .val (.int p4), .val (.int (0 : Int32)), .val (.ref b102), .unset, .unset, .unset, .unset, .unset] [(.ref b102)]))
    refine OGo.st (fun t k => XS.iloadN X103.here hx rfl (hb hby at_25) rfl k) ?_
    show OGo p.tables e below _ (T103.setTop (mkF m 26 #[.val (.int p0), .val (.int p1), .val (.int p2), .val (.int p3), .val (.int p4), .val (.int (0 : Int32)), .val (.ref b102), .unset, .unset, .unset, .unset, .unset] [(.int p0), (.ref b102)]))
    have G104 : Exa Z T103.heap b102 "com/example/portcullis/portcullis/policy/Ints" := (A102.keep K103)
    obtain ⟨cq105, kq105, q105a, q105b, q105c⟩ := isOf hZ rfl G104
    obtain ⟨_, _, ⟨T105, L105, kk105, nn105⟩, -, X105, ⟨Lc105, hQ105, l105, y105, z105⟩, st105⟩ := X103.virtualBack hx (y := (⟨"com/example/portcullis/portcullis/policy/Ints", "add", "(I)V"⟩ : MethodName)) (z := (⟨"com/example/portcullis/portcullis/policy/Ints", "add", "(I)V"⟩ : MethodName)) hown (mvT hZ (hw _ (List.mem_of_getElem? (i := 12) rfl))) (mvT hZ (hw _ (List.mem_of_getElem? (i := 13) rfl))) (notFace_of_selects (args := #[]) (mvT hZ (hw _ (List.mem_of_getElem? (i := 15) rfl)))) (mvT hZ (hw _ (List.mem_of_getElem? (i := 15) rfl))) (mvT hZ (hw _ (List.mem_of_getElem? (i := 14) rfl))) (by decide) (backOf (W := 0) (rm1 l Z ar hw [] b102 p0 x103_b x103_k (0 : Int32) (0 : Int32) (0 : Int32) (0 : Int32) T103.heap n0 (Nat.le_trans (Nat.le_trans Z0 E102.1) K103.1) P103_1 P103_3 G104 ge_b102 ge_x103_b ne_b102_x103_b P103_2) hZ (hw _ (List.mem_of_getElem? (i := 16) rfl)) (hw _ (List.mem_of_getElem? (i := 2) rfl)) (by decide) (by decide)) q105a q105c (g := (mkF m 26 #[.val (.int p0), .val (.int p1), .val (.int p2), .val (.int p3), .val (.int p4), .val (.int (0 : Int32)), .val (.ref b102), .unset, .unset, .unset, .unset, .unset] [(.int p0), (.ref b102)])) rfl (by rw [hml]; rfl) (Steps.refl _) (argsL := [(.int p0)]) (rest := []) (lenOf pd_1 rfl) rfl (by show 2 * 0 + _ ≤ _; exact Nat.le_of_eq rfl) (hb hby at_26) (fun _ _ => ⟨rfl, rfl, (by decide : 2 + 0 ≤ _), (by decide : 18 + 0 ≤ _)⟩)
    dsimp only [Pt.U, Pt.locs, Pt.cells, Pt.slots] at X105 l105 y105 z105 st105 hQ105
    subst l105 y105 z105
    obtain ⟨rfl, Nq105, K105, P105_0, P105_1, P105_2⟩ := hQ105
    have N105 := Fr.app N103 Nq105
    refine OGo.st (fun t k => st105.trans k) ?_
    show OGo p.tables e below _ (T105.setTop (mkF m 29 #[.val (.int p0), .val (.int p1), .val (.int p2), .val (.int p3), .val (.int p4), .val (.int (0 : Int32)), .val (.ref b102), .unset, .unset, .unset, .unset, .unset] []))
    refine OGo.st (fun t k => XS.aload X105.here hx rfl (hb hby at_29) rfl rfl k) ?_
    show OGo p.tables e below _ (T105.setTop (mkF m 31 #[.val (.int p0), .val (.int p1), .val (.int p2), .val (.int p3), .val (.int p4), .val (.int (0 : Int32)), .val (.ref b102), .unset, .unset, .unset, .unset, .unset] [(.ref b102)]))
    refine OGo.st (fun t k => XS.iloadN X105.here hx rfl (hb hby at_31) rfl k) ?_
    show OGo p.tables e below _ (T105.setTop (mkF m 32 #[.val (.int p0), .val (.int p1), .val (.int p2), .val (.int p3), .val (.int p4), .val (.int (0 : Int32)), .val (.ref b102), .unset, .unset, .unset, .unset, .unset] [(.int p1), (.ref b102)]))
    have G106 : Exa Z T105.heap b102 "com/example/portcullis/portcullis/policy/Ints" := (G104.keep K105)
    obtain ⟨cq107, kq107, q107a, q107b, q107c⟩ := isOf hZ rfl G106
    obtain ⟨_, _, ⟨T107, L107, kk107, nn107⟩, -, X107, ⟨Lc107, hQ107, l107, y107, z107⟩, st107⟩ := X105.virtualBack hx (y := (⟨"com/example/portcullis/portcullis/policy/Ints", "add", "(I)V"⟩ : MethodName)) (z := (⟨"com/example/portcullis/portcullis/policy/Ints", "add", "(I)V"⟩ : MethodName)) hown (mvT hZ (hw _ (List.mem_of_getElem? (i := 12) rfl))) (mvT hZ (hw _ (List.mem_of_getElem? (i := 13) rfl))) (notFace_of_selects (args := #[]) (mvT hZ (hw _ (List.mem_of_getElem? (i := 15) rfl)))) (mvT hZ (hw _ (List.mem_of_getElem? (i := 15) rfl))) (mvT hZ (hw _ (List.mem_of_getElem? (i := 14) rfl))) (by decide) (backOf (W := 0) (rm2 l Z ar hw [] b102 p1 x103_b x103_k p0 (0 : Int32) (0 : Int32) (0 : Int32) T105.heap n0 (Nat.le_trans (Nat.le_trans (Nat.le_trans Z0 E102.1) K103.1) K105.1) P105_0 P105_2 G106 ge_b102 ge_x103_b ne_b102_x103_b P105_1) hZ (hw _ (List.mem_of_getElem? (i := 16) rfl)) (hw _ (List.mem_of_getElem? (i := 2) rfl)) (by decide) (by decide)) q107a q107c (g := (mkF m 32 #[.val (.int p0), .val (.int p1), .val (.int p2), .val (.int p3), .val (.int p4), .val (.int (0 : Int32)), .val (.ref b102), .unset, .unset, .unset, .unset, .unset] [(.int p1), (.ref b102)])) rfl (by rw [hml]; rfl) (Steps.refl _) (argsL := [(.int p1)]) (rest := []) (lenOf pd_1 rfl) rfl (by show 2 * 0 + _ ≤ _; exact Nat.le_of_eq rfl) (hb hby at_32) (fun _ _ => ⟨rfl, rfl, (by decide : 2 + 0 ≤ _), (by decide : 18 + 0 ≤ _)⟩)
    dsimp only [Pt.U, Pt.locs, Pt.cells, Pt.slots] at X107 l107 y107 z107 st107 hQ107
    subst l107 y107 z107
    obtain ⟨rfl, Nq107, K107, P107_0, P107_1, P107_2⟩ := hQ107
    have N107 := Fr.app N105 Nq107
    refine OGo.st (fun t k => st107.trans k) ?_
    show OGo p.tables e below _ (T107.setTop (mkF m 35 #[.val (.int p0), .val (.int p1), .val (.int p2), .val (.int p3), .val (.int p4), .val (.int (0 : Int32)), .val (.ref b102), .unset, .unset, .unset, .unset, .unset] []))
    refine OGo.st (fun t k => XS.iload X107.here hx rfl (hb hby at_35) rfl k) ?_
    show OGo p.tables e below _ (T107.setTop (mkF m 37 #[.val (.int p0), .val (.int p1), .val (.int p2), .val (.int p3), .val (.int p4), .val (.int (0 : Int32)), .val (.ref b102), .unset, .unset, .unset, .unset, .unset] [(.int (0 : Int32))]))
    refine OGo.st (fun t k => XS.ifYes X107.here hx rfl (pc0 := 37) (pc' := 46) rfl (hb hby at_37) rfl ((if0 _ _).trans (teq (by decide : (0 : Int32) = (0 : Int32))).1) (by decide) (by decide) k) ?_
    show OGo p.tables e below _ (T107.setTop (mkF m 46 #[.val (.int p0), .val (.int p1), .val (.int p2), .val (.int p3), .val (.int p4), .val (.int (0 : Int32)), .val (.ref b102), .unset, .unset, .unset, .unset, .unset] []))
    refine OGo.st (fun t k => XS.aload X107.here hx rfl (hb hby at_46) rfl rfl k) ?_
    show OGo p.tables e below _ (T107.setTop (mkF m 48 #[.val (.int p0), .val (.int p1), .val (.int p2), .val (.int p3), .val (.int p4), .val (.int (0 : Int32)), .val (.ref b102), .unset, .unset, .unset, .unset, .unset] [(.ref b102)]))
    have G108 : Exa Z T107.heap b102 "com/example/portcullis/portcullis/policy/Ints" := (G106.keep K107)
    obtain ⟨cq109, kq109, q109a, q109b, q109c⟩ := isOf hZ rfl G108
    obtain ⟨_, _, ⟨T109, L109, kk109, nn109⟩, -, X109, ⟨Lc109, hQ109, l109, y109, z109⟩, st109⟩ := X107.virtualBack hx (y := (⟨"com/example/portcullis/portcullis/policy/Ints", "removeLast", "()I"⟩ : MethodName)) (z := (⟨"com/example/portcullis/portcullis/policy/Ints", "removeLast", "()I"⟩ : MethodName)) hown (mvT hZ (hw _ (List.mem_of_getElem? (i := 19) rfl))) (mvT hZ (hw _ (List.mem_of_getElem? (i := 20) rfl))) (notFace_of_selects (args := #[]) (mvT hZ (hw _ (List.mem_of_getElem? (i := 22) rfl)))) (mvT hZ (hw _ (List.mem_of_getElem? (i := 22) rfl))) (mvT hZ (hw _ (List.mem_of_getElem? (i := 21) rfl))) (by decide) (backOf (W := 0) (rm5 l Z ar hw [] b102 x103_b x103_k p0 p1 (0 : Int32) (0 : Int32) T107.heap n0 (Nat.le_trans (Nat.le_trans (Nat.le_trans (Nat.le_trans Z0 E102.1) K103.1) K105.1) K107.1) P107_0 P107_2 G108 ge_b102 ge_x103_b ne_b102_x103_b P107_1) hZ (hw _ (List.mem_of_getElem? (i := 23) rfl)) (hw _ (List.mem_of_getElem? (i := 2) rfl)) (by decide) (by decide)) q109a q109c (g := (mkF m 48 #[.val (.int p0), .val (.int p1), .val (.int p2), .val (.int p3), .val (.int p4), .val (.int (0 : Int32)), .val (.ref b102), .unset, .unset, .unset, .unset, .unset] [(.ref b102)])) rfl (by rw [hml]; rfl) (Steps.refl _) (argsL := []) (rest := []) (lenOf pd_2 rfl) rfl (by show 2 * 0 + _ ≤ _; exact Nat.le_of_eq rfl) (hb hby at_48) (fun _ _ => ⟨rfl, rfl, (by decide : 2 + 0 ≤ _), (by decide : 18 + 0 ≤ _)⟩)
    dsimp only [Pt.U, Pt.locs, Pt.cells, Pt.slots] at X109 l109 y109 z109 st109 hQ109
    subst l109 y109 z109
    obtain ⟨rfl, Nq109, K109, P109_0, P109_1⟩ := hQ109
    have N109 := Fr.app N107 Nq109
    refine OGo.st (fun t k => st109.trans k) ?_
    show OGo p.tables e below _ (T109.setTop (mkF m 51 #[.val (.int p0), .val (.int p1), .val (.int p2), .val (.int p3), .val (.int p4), .val (.int (0 : Int32)), .val (.ref b102), .unset, .unset, .unset, .unset, .unset] [(.int p1)]))
    refine OGo.st (fun t k => XS.istore X109.here hx rfl (hb hby at_51) rfl (l' := #[.val (.int p0), .val (.int p1), .val (.int p2), .val (.int p3), .val (.int p4), .val (.int (0 : Int32)), .val (.ref b102), .val (.int p1), .unset, .unset, .unset, .unset]) rfl k) ?_
    show OGo p.tables e below _ (T109.setTop (mkF m 53 #[.val (.int p0), .val (.int p1), .val (.int p2), .val (.int p3), .val (.int p4), .val (.int (0 : Int32)), .val (.ref b102), .val (.int p1), .unset, .unset, .unset, .unset] []))
    refine OGo.st (fun t k => XS.aload X109.here hx rfl (hb hby at_53) rfl rfl k) ?_
    show OGo p.tables e below _ (T109.setTop (mkF m 55 #[.val (.int p0), .val (.int p1), .val (.int p2), .val (.int p3), .val (.int p4), .val (.int (0 : Int32)), .val (.ref b102), .val (.int p1), .unset, .unset, .unset, .unset] [(.ref b102)]))
    refine OGo.st (fun t k => XS.iloadN X109.here hx rfl (hb hby at_55) rfl k) ?_
    show OGo p.tables e below _ (T109.setTop (mkF m 56 #[.val (.int p0), .val (.int p1), .val (.int p2), .val (.int p3), .val (.int p4), .val (.int (0 : Int32)), .val (.ref b102), .val (.int p1), .unset, .unset, .unset, .unset] [(.int p3), (.ref b102)]))
    have G110 : Arv Z T109.heap x103_b x103_k .int (16 : Int32) [(.int p0), (.int p1), (.int (0 : Int32)), (.int (0 : Int32))] (.int (0 : Int32)) := (P107_2.keep K109 (ninS (Ne.symm ne_b102_x103_b) nin0))
    have G111 : Exa Z T109.heap b102 "com/example/portcullis/portcullis/policy/Ints" := (G108.keep K109)
    obtain ⟨cq112, kq112, q112a, q112b, q112c⟩ := isOf hZ rfl G111
    obtain ⟨_, _, ⟨T112, L112, kk112, nn112⟩, -, X112, ⟨Lc112, hQ112, l112, y112, z112⟩, st112⟩ := X109.virtualBack hx (y := (⟨"com/example/portcullis/portcullis/policy/Ints", "add", "(I)V"⟩ : MethodName)) (z := (⟨"com/example/portcullis/portcullis/policy/Ints", "add", "(I)V"⟩ : MethodName)) hown (mvT hZ (hw _ (List.mem_of_getElem? (i := 12) rfl))) (mvT hZ (hw _ (List.mem_of_getElem? (i := 13) rfl))) (notFace_of_selects (args := #[]) (mvT hZ (hw _ (List.mem_of_getElem? (i := 15) rfl)))) (mvT hZ (hw _ (List.mem_of_getElem? (i := 15) rfl))) (mvT hZ (hw _ (List.mem_of_getElem? (i := 14) rfl))) (by decide) (backOf (W := 0) (rm2 l Z ar hw [] b102 p3 x103_b x103_k p0 p1 (0 : Int32) (0 : Int32) T109.heap n0 (Nat.le_trans (Nat.le_trans (Nat.le_trans (Nat.le_trans (Nat.le_trans Z0 E102.1) K103.1) K105.1) K107.1) K109.1) P109_0 G110 G111 ge_b102 ge_x103_b ne_b102_x103_b P109_1) hZ (hw _ (List.mem_of_getElem? (i := 16) rfl)) (hw _ (List.mem_of_getElem? (i := 2) rfl)) (by decide) (by decide)) q112a q112c (g := (mkF m 56 #[.val (.int p0), .val (.int p1), .val (.int p2), .val (.int p3), .val (.int p4), .val (.int (0 : Int32)), .val (.ref b102), .val (.int p1), .unset, .unset, .unset, .unset] [(.int p3), (.ref b102)])) rfl (by rw [hml]; rfl) (Steps.refl _) (argsL := [(.int p3)]) (rest := []) (lenOf pd_1 rfl) rfl (by show 2 * 0 + _ ≤ _; exact Nat.le_of_eq rfl) (hb hby at_56) (fun _ _ => ⟨rfl, rfl, (by decide : 2 + 0 ≤ _), (by decide : 18 + 0 ≤ _)⟩)
    dsimp only [Pt.U, Pt.locs, Pt.cells, Pt.slots] at X112 l112 y112 z112 st112 hQ112
    subst l112 y112 z112
    obtain ⟨rfl, Nq112, K112, P112_0, P112_1, P112_2⟩ := hQ112
    have N112 := Fr.app N109 Nq112
    refine OGo.st (fun t k => st112.trans k) ?_
    show OGo p.tables e below _ (T112.setTop (mkF m 59 #[.val (.int p0), .val (.int p1), .val (.int p2), .val (.int p3), .val (.int p4), .val (.int (0 : Int32)), .val (.ref b102), .val (.int p1), .unset, .unset, .unset, .unset] []))
    refine OGo.st (fun t k => XS.aload X112.here hx rfl (hb hby at_59) rfl rfl k) ?_
    show OGo p.tables e below _ (T112.setTop (mkF m 61 #[.val (.int p0), .val (.int p1), .val (.int p2), .val (.int p3), .val (.int p4), .val (.int (0 : Int32)), .val (.ref b102), .val (.int p1), .unset, .unset, .unset, .unset] [(.ref b102)]))
    have G113 : Exa Z T112.heap b102 "com/example/portcullis/portcullis/policy/Ints" := (G111.keep K112)
    obtain ⟨cq114, kq114, q114a, q114b, q114c⟩ := isOf hZ rfl G113
    obtain ⟨_, _, ⟨T114, L114, kk114, nn114⟩, -, X114, ⟨Lc114, hQ114, l114, y114, z114⟩, st114⟩ := X112.virtualBack hx (y := (⟨"com/example/portcullis/portcullis/policy/Ints", "removeLast", "()I"⟩ : MethodName)) (z := (⟨"com/example/portcullis/portcullis/policy/Ints", "removeLast", "()I"⟩ : MethodName)) hown (mvT hZ (hw _ (List.mem_of_getElem? (i := 19) rfl))) (mvT hZ (hw _ (List.mem_of_getElem? (i := 20) rfl))) (notFace_of_selects (args := #[]) (mvT hZ (hw _ (List.mem_of_getElem? (i := 22) rfl)))) (mvT hZ (hw _ (List.mem_of_getElem? (i := 22) rfl))) (mvT hZ (hw _ (List.mem_of_getElem? (i := 21) rfl))) (by decide) (backOf (W := 0) (rm5 l Z ar hw [] b102 x103_b x103_k p0 p3 (0 : Int32) (0 : Int32) T112.heap n0 (Nat.le_trans (Nat.le_trans (Nat.le_trans (Nat.le_trans (Nat.le_trans (Nat.le_trans Z0 E102.1) K103.1) K105.1) K107.1) K109.1) K112.1) P112_0 P112_2 G113 ge_b102 ge_x103_b ne_b102_x103_b P112_1) hZ (hw _ (List.mem_of_getElem? (i := 23) rfl)) (hw _ (List.mem_of_getElem? (i := 2) rfl)) (by decide) (by decide)) q114a q114c (g := (mkF m 61 #[.val (.int p0), .val (.int p1), .val (.int p2), .val (.int p3), .val (.int p4), .val (.int (0 : Int32)), .val (.ref b102), .val (.int p1), .unset, .unset, .unset, .unset] [(.ref b102)])) rfl (by rw [hml]; rfl) (Steps.refl _) (argsL := []) (rest := []) (lenOf pd_2 rfl) rfl (by show 2 * 0 + _ ≤ _; exact Nat.le_of_eq rfl) (hb hby at_61) (fun _ _ => ⟨rfl, rfl, (by decide : 2 + 0 ≤ _), (by decide : 18 + 0 ≤ _)⟩)
    dsimp only [Pt.U, Pt.locs, Pt.cells, Pt.slots] at X114 l114 y114 z114 st114 hQ114
    subst l114 y114 z114
    obtain ⟨rfl, Nq114, K114, P114_0, P114_1⟩ := hQ114
    have N114 := Fr.app N112 Nq114
    refine OGo.st (fun t k => st114.trans k) ?_
    show OGo p.tables e below _ (T114.setTop (mkF m 64 #[.val (.int p0), .val (.int p1), .val (.int p2), .val (.int p3), .val (.int p4), .val (.int (0 : Int32)), .val (.ref b102), .val (.int p1), .unset, .unset, .unset, .unset] [(.int p3)]))
    refine OGo.st (fun t k => XS.istore X114.here hx rfl (hb hby at_64) rfl (l' := #[.val (.int p0), .val (.int p1), .val (.int p2), .val (.int p3), .val (.int p4), .val (.int (0 : Int32)), .val (.ref b102), .val (.int p1), .val (.int p3), .unset, .unset, .unset]) rfl k) ?_
    show OGo p.tables e below _ (T114.setTop (mkF m 66 #[.val (.int p0), .val (.int p1), .val (.int p2), .val (.int p3), .val (.int p4), .val (.int (0 : Int32)), .val (.ref b102), .val (.int p1), .val (.int p3), .unset, .unset, .unset] []))
    refine OGo.st (fun t k => XS.aload X114.here hx rfl (hb hby at_66) rfl rfl k) ?_
    show OGo p.tables e below _ (T114.setTop (mkF m 68 #[.val (.int p0), .val (.int p1), .val (.int p2), .val (.int p3), .val (.int p4), .val (.int (0 : Int32)), .val (.ref b102), .val (.int p1), .val (.int p3), .unset, .unset, .unset] [(.ref b102)]))
    have G115 : Arv Z T114.heap x103_b x103_k .int (16 : Int32) [(.int p0), (.int p3), (.int (0 : Int32)), (.int (0 : Int32))] (.int (0 : Int32)) := (P112_2.keep K114 (ninS (Ne.symm ne_b102_x103_b) nin0))
    have G116 : Exa Z T114.heap b102 "com/example/portcullis/portcullis/policy/Ints" := (G113.keep K114)
    obtain ⟨cq117, kq117, q117a, q117b, q117c⟩ := isOf hZ rfl G116
    obtain ⟨_, _, ⟨T117, L117, kk117, nn117⟩, -, X117, ⟨Lc117, hQ117, l117, y117, z117⟩, st117⟩ := X114.virtualBack hx (y := (⟨"com/example/portcullis/portcullis/policy/Ints", "removeLast", "()I"⟩ : MethodName)) (z := (⟨"com/example/portcullis/portcullis/policy/Ints", "removeLast", "()I"⟩ : MethodName)) hown (mvT hZ (hw _ (List.mem_of_getElem? (i := 19) rfl))) (mvT hZ (hw _ (List.mem_of_getElem? (i := 20) rfl))) (notFace_of_selects (args := #[]) (mvT hZ (hw _ (List.mem_of_getElem? (i := 22) rfl)))) (mvT hZ (hw _ (List.mem_of_getElem? (i := 22) rfl))) (mvT hZ (hw _ (List.mem_of_getElem? (i := 21) rfl))) (by decide) (backOf (W := 0) (rm4 l Z ar hw [] b102 x103_b x103_k p0 p3 (0 : Int32) (0 : Int32) T114.heap n0 (Nat.le_trans (Nat.le_trans (Nat.le_trans (Nat.le_trans (Nat.le_trans (Nat.le_trans (Nat.le_trans Z0 E102.1) K103.1) K105.1) K107.1) K109.1) K112.1) K114.1) P114_0 G115 G116 ge_b102 ge_x103_b ne_b102_x103_b P114_1) hZ (hw _ (List.mem_of_getElem? (i := 23) rfl)) (hw _ (List.mem_of_getElem? (i := 2) rfl)) (by decide) (by decide)) q117a q117c (g := (mkF m 68 #[.val (.int p0), .val (.int p1), .val (.int p2), .val (.int p3), .val (.int p4), .val (.int (0 : Int32)), .val (.ref b102), .val (.int p1), .val (.int p3), .unset, .unset, .unset] [(.ref b102)])) rfl (by rw [hml]; rfl) (Steps.refl _) (argsL := []) (rest := []) (lenOf pd_2 rfl) rfl (by show 2 * 0 + _ ≤ _; exact Nat.le_of_eq rfl) (hb hby at_68) (fun _ _ => ⟨rfl, rfl, (by decide : 2 + 0 ≤ _), (by decide : 18 + 0 ≤ _)⟩)
    dsimp only [Pt.U, Pt.locs, Pt.cells, Pt.slots] at X117 l117 y117 z117 st117 hQ117
    subst l117 y117 z117
    obtain ⟨rfl, Nq117, K117, P117_0, P117_1⟩ := hQ117
    have N117 := Fr.app N114 Nq117
    refine OGo.st (fun t k => st117.trans k) ?_
    show OGo p.tables e below _ (T117.setTop (mkF m 71 #[.val (.int p0), .val (.int p1), .val (.int p2), .val (.int p3), .val (.int p4), .val (.int (0 : Int32)), .val (.ref b102), .val (.int p1), .val (.int p3), .unset, .unset, .unset] [(.int p0)]))
    refine OGo.st (fun t k => XS.istore X117.here hx rfl (hb hby at_71) rfl (l' := #[.val (.int p0), .val (.int p1), .val (.int p2), .val (.int p3), .val (.int p4), .val (.int (0 : Int32)), .val (.ref b102), .val (.int p1), .val (.int p3), .val (.int p0), .unset, .unset]) rfl k) ?_
    show OGo p.tables e below _ (T117.setTop (mkF m 73 #[.val (.int p0), .val (.int p1), .val (.int p2), .val (.int p3), .val (.int p4), .val (.int (0 : Int32)), .val (.ref b102), .val (.int p1), .val (.int p3), .val (.int p0), .unset, .unset] []))
    refine OGo.st (fun t k => XS.aload X117.here hx rfl (hb hby at_73) rfl rfl k) ?_
    show OGo p.tables e below _ (T117.setTop (mkF m 75 #[.val (.int p0), .val (.int p1), .val (.int p2), .val (.int p3), .val (.int p4), .val (.int (0 : Int32)), .val (.ref b102), .val (.int p1), .val (.int p3), .val (.int p0), .unset, .unset] [(.ref b102)]))
    have G119 : Exa Z T117.heap b102 "com/example/portcullis/portcullis/policy/Ints" := (G116.keep K117)
    obtain ⟨cq118, kq118, q118a, q118b, q118c⟩ := isOf hZ rfl G119
    obtain ⟨_, _, ⟨T118, L118, kk118, nn118⟩, -, X118, ⟨Lc118, hQ118, l118, y118, z118⟩, st118⟩ := X117.virtualBack hx (y := (⟨"com/example/portcullis/portcullis/policy/Ints", "size", "()I"⟩ : MethodName)) (z := (⟨"com/example/portcullis/portcullis/policy/Ints", "size", "()I"⟩ : MethodName)) hown (mvT hZ (hw _ (List.mem_of_getElem? (i := 24) rfl))) (mvT hZ (hw _ (List.mem_of_getElem? (i := 25) rfl))) (notFace_of_selects (args := #[]) (mvT hZ (hw _ (List.mem_of_getElem? (i := 27) rfl)))) (mvT hZ (hw _ (List.mem_of_getElem? (i := 27) rfl))) (mvT hZ (hw _ (List.mem_of_getElem? (i := 26) rfl))) (by decide) (backOf (W := 0) (rm7 l Z ar hw [] b102 (0 : Int32) T117.heap n0 (Nat.le_trans (Nat.le_trans (Nat.le_trans (Nat.le_trans (Nat.le_trans (Nat.le_trans (Nat.le_trans (Nat.le_trans Z0 E102.1) K103.1) K105.1) K107.1) K109.1) K112.1) K114.1) K117.1) P117_1) hZ (hw _ (List.mem_of_getElem? (i := 28) rfl)) (hw _ (List.mem_of_getElem? (i := 2) rfl)) (by decide) (by decide)) q118a q118c (g := (mkF m 75 #[.val (.int p0), .val (.int p1), .val (.int p2), .val (.int p3), .val (.int p4), .val (.int (0 : Int32)), .val (.ref b102), .val (.int p1), .val (.int p3), .val (.int p0), .unset, .unset] [(.ref b102)])) rfl (by rw [hml]; rfl) (Steps.refl _) (argsL := []) (rest := []) (lenOf pd_2 rfl) rfl (by show 2 * 0 + _ ≤ _; exact Nat.le_of_eq rfl) (hb hby at_75) (fun _ _ => ⟨rfl, rfl, (by decide : 2 + 0 ≤ _), (by decide : 18 + 0 ≤ _)⟩)
    dsimp only [Pt.U, Pt.locs, Pt.cells, Pt.slots] at X118 l118 y118 z118 st118 hQ118
    subst l118 y118 z118
    obtain ⟨rfl, Nq118, hh118⟩ := hQ118
    have N118 := Fr.app N117 Nq118
    refine OGo.st (fun t k => st118.trans k) ?_
    have e118 : T118.heap = T117.heap := hh118
    show OGo p.tables e below _ (T118.setTop (mkF m 78 #[.val (.int p0), .val (.int p1), .val (.int p2), .val (.int p3), .val (.int p4), .val (.int (0 : Int32)), .val (.ref b102), .val (.int p1), .val (.int p3), .val (.int p0), .unset, .unset] [(.int (0 : Int32))]))
    refine OGo.st (fun t k => XS.istore X118.here hx rfl (hb hby at_78) rfl (l' := #[.val (.int p0), .val (.int p1), .val (.int p2), .val (.int p3), .val (.int p4), .val (.int (0 : Int32)), .val (.ref b102), .val (.int p1), .val (.int p3), .val (.int p0), .val (.int (0 : Int32)), .unset]) rfl k) ?_
    show OGo p.tables e below _ (T118.setTop (mkF m 80 #[.val (.int p0), .val (.int p1), .val (.int p2), .val (.int p3), .val (.int p4), .val (.int (0 : Int32)), .val (.ref b102), .val (.int p1), .val (.int p3), .val (.int p0), .val (.int (0 : Int32)), .unset] []))
    refine OGo.st (fun t k => XS.iload X118.here hx rfl (hb hby at_80) rfl k) ?_
    show OGo p.tables e below _ (T118.setTop (mkF m 82 #[.val (.int p0), .val (.int p1), .val (.int p2), .val (.int p3), .val (.int p4), .val (.int (0 : Int32)), .val (.ref b102), .val (.int p1), .val (.int p3), .val (.int p0), .val (.int (0 : Int32)), .unset] [(.int (0 : Int32))]))
    refine OGo.st (fun t k => XS.ifYes X118.here hx rfl (pc0 := 82) (pc' := 129) rfl (hb hby at_82) rfl ((if0 _ _).trans (teq (by decide : (0 : Int32) = (0 : Int32))).1) (by decide) (by decide) k) ?_
    show OGo p.tables e below _ (T118.setTop (mkF m 129 #[.val (.int p0), .val (.int p1), .val (.int p2), .val (.int p3), .val (.int p4), .val (.int (0 : Int32)), .val (.ref b102), .val (.int p1), .val (.int p3), .val (.int p0), .val (.int (0 : Int32)), .unset] []))
    refine OGo.st (fun t k => XS.iload X118.here hx rfl (hb hby at_129) rfl k) ?_
    show OGo p.tables e below _ (T118.setTop (mkF m 131 #[.val (.int p0), .val (.int p1), .val (.int p2), .val (.int p3), .val (.int p4), .val (.int (0 : Int32)), .val (.ref b102), .val (.int p1), .val (.int p3), .val (.int p0), .val (.int (0 : Int32)), .unset] [(.int p1)]))
    refine OGo.st (fun t k => XS.iloadN X118.here hx rfl (hb hby at_131) rfl k) ?_
    show OGo p.tables e below _ (T118.setTop (mkF m 132 #[.val (.int p0), .val (.int p1), .val (.int p2), .val (.int p3), .val (.int p4), .val (.int (0 : Int32)), .val (.ref b102), .val (.int p1), .val (.int p3), .val (.int p0), .val (.int (0 : Int32)), .unset] [(.int p1), (.int p1)]))
    refine OGo.st (fun t k => XS.icmpNo X118.here hx rfl (hb hby at_132) rfl (teq (rfl : p1 = p1)).2 k) ?_
    show OGo p.tables e below _ (T118.setTop (mkF m 135 #[.val (.int p0), .val (.int p1), .val (.int p2), .val (.int p3), .val (.int p4), .val (.int (0 : Int32)), .val (.ref b102), .val (.int p1), .val (.int p3), .val (.int p0), .val (.int (0 : Int32)), .unset] []))
    refine OGo.st (fun t k => XS.iload X118.here hx rfl (hb hby at_135) rfl k) ?_
    show OGo p.tables e below _ (T118.setTop (mkF m 137 #[.val (.int p0), .val (.int p1), .val (.int p2), .val (.int p3), .val (.int p4), .val (.int (0 : Int32)), .val (.ref b102), .val (.int p1), .val (.int p3), .val (.int p0), .val (.int (0 : Int32)), .unset] [(.int p3)]))
    refine OGo.st (fun t k => XS.iloadN X118.here hx rfl (hb hby at_137) rfl k) ?_
    show OGo p.tables e below _ (T118.setTop (mkF m 138 #[.val (.int p0), .val (.int p1), .val (.int p2), .val (.int p3), .val (.int p4), .val (.int (0 : Int32)), .val (.ref b102), .val (.int p1), .val (.int p3), .val (.int p0), .val (.int (0 : Int32)), .unset] [(.int p3), (.int p3)]))
    refine OGo.st (fun t k => XS.icmpNo X118.here hx rfl (hb hby at_138) rfl (teq (rfl : p3 = p3)).2 k) ?_
    show OGo p.tables e below _ (T118.setTop (mkF m 141 #[.val (.int p0), .val (.int p1), .val (.int p2), .val (.int p3), .val (.int p4), .val (.int (0 : Int32)), .val (.ref b102), .val (.int p1), .val (.int p3), .val (.int p0), .val (.int (0 : Int32)), .unset] []))
    refine OGo.st (fun t k => XS.iload X118.here hx rfl (hb hby at_141) rfl k) ?_
    show OGo p.tables e below _ (T118.setTop (mkF m 143 #[.val (.int p0), .val (.int p1), .val (.int p2), .val (.int p3), .val (.int p4), .val (.int (0 : Int32)), .val (.ref b102), .val (.int p1), .val (.int p3), .val (.int p0), .val (.int (0 : Int32)), .unset] [(.int p0)]))
    refine OGo.st (fun t k => XS.iloadN X118.here hx rfl (hb hby at_143) rfl k) ?_
    show OGo p.tables e below _ (T118.setTop (mkF m 144 #[.val (.int p0), .val (.int p1), .val (.int p2), .val (.int p3), .val (.int p4), .val (.int (0 : Int32)), .val (.ref b102), .val (.int p1), .val (.int p3), .val (.int p0), .val (.int (0 : Int32)), .unset] [(.int p0), (.int p0)]))
    refine OGo.st (fun t k => XS.icmpNo X118.here hx rfl (hb hby at_144) rfl (teq (rfl : p0 = p0)).2 k) ?_
    show OGo p.tables e below _ (T118.setTop (mkF m 147 #[.val (.int p0), .val (.int p1), .val (.int p2), .val (.int p3), .val (.int p4), .val (.int (0 : Int32)), .val (.ref b102), .val (.int p1), .val (.int p3), .val (.int p0), .val (.int (0 : Int32)), .unset] []))
    refine OGo.st (fun t k => XS.iload X118.here hx rfl (hb hby at_147) rfl k) ?_
    show OGo p.tables e below _ (T118.setTop (mkF m 149 #[.val (.int p0), .val (.int p1), .val (.int p2), .val (.int p3), .val (.int p4), .val (.int (0 : Int32)), .val (.ref b102), .val (.int p1), .val (.int p3), .val (.int p0), .val (.int (0 : Int32)), .unset] [(.int (0 : Int32))]))
    refine OGo.st (fun t k => XS.ifNo X118.here hx rfl (hb hby at_149) rfl ((if0 _ _).trans (teq (by decide : (0 : Int32) = (0 : Int32))).2) k) ?_
    show OGo p.tables e below _ (T118.setTop (mkF m 152 #[.val (.int p0), .val (.int p1), .val (.int p2), .val (.int p3), .val (.int p4), .val (.int (0 : Int32)), .val (.ref b102), .val (.int p1), .val (.int p3), .val (.int p0), .val (.int (0 : Int32)), .unset] []))
    refine OGo.st (fun t k => XS.iconst X118.here hx rfl (hb hby at_152) k) ?_
    show OGo p.tables e below _ (T118.setTop (mkF m 153 #[.val (.int p0), .val (.int p1), .val (.int p2), .val (.int p3), .val (.int p4), .val (.int (0 : Int32)), .val (.ref b102), .val (.int p1), .val (.int p3), .val (.int p0), .val (.int (0 : Int32)), .unset] [(.int (1 : Int32))]))
    refine OGo.st (fun t k => XS.goto X118.here hx rfl (pc0 := 153) (pc' := 157) rfl (hb hby at_153) (by decide) (by decide) k) ?_
    show OGo p.tables e below _ (T118.setTop (mkF m 157 #[.val (.int p0), .val (.int p1), .val (.int p2), .val (.int p3), .val (.int p4), .val (.int (0 : Int32)), .val (.ref b102), .val (.int p1), .val (.int p3), .val (.int p0), .val (.int (0 : Int32)), .unset] [(.int (1 : Int32))]))
    obtain ⟨fs, hr, hrun, hended, hW, hsame⟩ := X118.leave (v := some (.int (1 : Int32))) (fun h => by rw [Bd.returns] at h; cases h)
    refine OGo.done (retN X118 hx (t := .boolean) Bd.returns (by simp) (hb hby at_157) hr) ⟨hrun, hended, _, _, rfl, ?_, ⟨_, rfl⟩, hW, hsame.mono (by decide) (by decide)⟩
    show Q9 Z p0 p1 p2 p3 p4 h0 n0 _ T118.heap _
    rw [e118]
    exact ⟨rfl, N118⟩
  ·
    refine OGo.st (fun t k => XS.ifNo X0.here hx rfl (hb hby at_4) rfl ((if0 _ _).trans (feq hc4_101).1) k) ?_
    show OGo p.tables e below _ (s₁.setTop (mkF m 7 #[.val (.int p0), .val (.int p1), .val (.int p2), .val (.int p3), .val (.int p4), .unset, .unset, .unset, .unset, .unset, .unset, .unset] []))
    refine OGo.st (fun t k => XS.iconst X0.here hx rfl (hb hby at_7) k) ?_
    show OGo p.tables e below _ (s₁.setTop (mkF m 8 #[.val (.int p0), .val (.int p1), .val (.int p2), .val (.int p3), .val (.int p4), .unset, .unset, .unset, .unset, .unset, .unset, .unset] [(.int (1 : Int32))]))
    refine OGo.st (fun t k => XS.goto X0.here hx rfl (pc0 := 8) (pc' := 12) rfl (hb hby at_8) (by decide) (by decide) k) ?_
    show OGo p.tables e below _ (s₁.setTop (mkF m 12 #[.val (.int p0), .val (.int p1), .val (.int p2), .val (.int p3), .val (.int p4), .unset, .unset, .unset, .unset, .unset, .unset, .unset] [(.int (1 : Int32))]))
    refine OGo.st (fun t k => XS.istore X0.here hx rfl (hb hby at_12) rfl (l' := #[.val (.int p0), .val (.int p1), .val (.int p2), .val (.int p3), .val (.int p4), .val (.int (1 : Int32)), .unset, .unset, .unset, .unset, .unset, .unset]) rfl k) ?_
    show OGo p.tables e below _ (s₁.setTop (mkF m 14 #[.val (.int p0), .val (.int p1), .val (.int p2), .val (.int p3), .val (.int p4), .val (.int (1 : Int32)), .unset, .unset, .unset, .unset, .unset, .unset] []))
    obtain ⟨T121, h121, X121, e121, E121, A121, D121, -, st121⟩ := newO X0 hx hZ hown (hw _ (List.mem_of_getElem? (i := 0) rfl)) (hw _ (List.mem_of_getElem? (i := 1) rfl)) (hw _ (List.mem_of_getElem? (i := 2) rfl)) e0 (g := (mkF m 14 #[.val (.int p0), .val (.int p1), .val (.int p2), .val (.int p3), .val (.int p4), .val (.int (1 : Int32)), .unset, .unset, .unset, .unset, .unset, .unset] [])) rfl (hb hby at_14) (by decide) (by decide)
    obtain ⟨b121, g121⟩ : ∃ z, z = h0.size := ⟨_, rfl⟩
    rw [← g121] at A121 D121 st121
    have ge_b121 : n0 ≤ b121 := Nat.le_trans Z0 (Nat.le_of_eq g121.symm)
    have sz_b121 : h0.size ≤ b121 := Nat.le_trans (Nat.le_refl h0.size) (Nat.le_of_eq g121.symm)
    refine OGo.st st121 ?_
    have Fn121_values : Fld Z h121 b121 "com/example/portcullis/portcullis/policy/Ints" "values" "[I" .null := D121 (Or.inl (hw _ (List.mem_of_getElem? (i := 11) rfl))) (ty := (.array .int)) (by decide)
    have Fn121_size : Fld Z h121 b121 "com/example/portcullis/portcullis/policy/Ints" "size" "I" (.int (0 : Int32)) := D121 (Or.inl (hw _ (List.mem_of_getElem? (i := 18) rfl))) (ty := .int) (by decide)
    show OGo p.tables e below _ (T121.setTop (mkF m 17 #[.val (.int p0), .val (.int p1), .val (.int p2), .val (.int p3), .val (.int p4), .val (.int (1 : Int32)), .unset, .unset, .unset, .unset, .unset, .unset] [(.ref b121)]))
    refine OGo.st (fun t k => XS.dup X121.here hx rfl (hb hby at_17) rfl rfl k) ?_
    show OGo p.tables e below _ (T121.setTop (mkF m 18 #[.val (.int p0), .val (.int p1), .val (.int p2), .val (.int p3), .val (.int p4), .val (.int (1 : Int32)), .unset, .unset, .unset, .unset, .unset, .unset] [(.ref b121), (.ref b121)]))
    obtain ⟨_, _, ⟨T122, L122, kk122, nn122⟩, -, X122, ⟨Lc122, hQ122, l122, y122, z122⟩, st122⟩ := X121.specialBack hx (y := (⟨"com/example/portcullis/portcullis/policy/Ints", "<init>", "()V"⟩ : MethodName)) rfl hown (mvT hZ (hw _ (List.mem_of_getElem? (i := 3) rfl))) (mvT hZ (hw _ (List.mem_of_getElem? (i := 4) rfl))) (mvT hZ (hw _ (List.mem_of_getElem? (i := 5) rfl))) (by decide) (backOf (W := 1) (rm0 l Z ar hw [] b121 h121 n0 (Nat.le_trans Z0 E121.1) A121 ge_b121 Fn121_values Fn121_size) hZ (hw _ (List.mem_of_getElem? (i := 5) rfl)) (hw _ (List.mem_of_getElem? (i := 2) rfl)) (by decide) (by decide)) (g := (mkF m 18 #[.val (.int p0), .val (.int p1), .val (.int p2), .val (.int p3), .val (.int p4), .val (.int (1 : Int32)), .unset, .unset, .unset, .unset, .unset, .unset] [(.ref b121), (.ref b121)])) rfl (by rw [hml]; rfl) (Steps.refl _) (a := b121) (argsL := []) (rest := [(.ref b121)]) (lenOf pd_0 rfl) rfl (by show 2 * 0 + _ ≤ _; exact Nat.le_of_eq rfl) (hb hby at_18) (fun _ _ => ⟨rfl, e121, (by decide : 1 + 1 ≤ _), (by decide : 2 + 16 ≤ _)⟩)
    dsimp only [Pt.U, Pt.locs, Pt.cells, Pt.slots] at X122 l122 y122 z122 st122 hQ122
    subst l122 y122 z122
    obtain ⟨x122_b, x122_k, rfl, Nq122, K122, P122_0, P122_1, P122_2, P122_3⟩ := hQ122
    have N122 := Fr.app N0 Nq122
    refine OGo.st (fun t k => st122.trans k) ?_
    have ge_x122_b : n0 ≤ x122_b := Nat.le_trans (Nat.le_trans Z0 E121.1) P122_0
    have sz_x122_b : h0.size ≤ x122_b := Nat.le_trans (Nat.le_trans (Nat.le_refl h0.size) E121.1) P122_0
    have ne_b121_x122_b : b121 ≠ x122_b := Nat.ne_of_lt (Nat.lt_of_lt_of_le A121.lt P122_0)
    show OGo p.tables e below _ (T122.setTop (mkF m 21 #[.val (.int p0), .val (.int p1), .val (.int p2), .val (.int p3), .val (.int p4), .val (.int (1 : Int32)), .unset, .unset, .unset, .unset, .unset, .unset] [(.ref b121)]))
    refine OGo.st (fun t k => XS.astore X122.here hx rfl (hb hby at_21) rfl rfl (l' := #[.val (.int p0), .val (.int p1), .val (.int p2), .val (.int p3), .val (.int p4), .val (.int (1 : Int32)), .val (.ref b121), .unset, .unset, .unset, .unset, .unset]) rfl k) ?_
    show OGo p.tables e below _ (T122.setTop (mkF m 23 #[.val (.int p0), .val (.int p1), .val (.int p2), .val (.int p3), .val (.int p4), .val (.int (1 : Int32)), .val (.ref b121), .unset, .unset, .unset, .unset, .unset] []))
    refine OGo.st (fun t k => XS.aload X122.here hx rfl (hb hby at_23) rfl rfl k) ?_
    show OGo p.tables e below _ (T122.setTop (mkF m 25 #[.val (.int p0), .val (.int p1), .val (.int p2), .val (.int p3), .val (.int p4), .val (.int (1 : Int32)), .val (.ref b121), .unset, .unset, .unset, .unset, .unset] [(.ref b121)]))
    refine OGo.st (fun t k => XS.iloadN X122.here hx rfl (hb hby at_25) rfl k) ?_
    show OGo p.tables e below _ (T122.setTop (mkF m 26 #[.val (.int p0), .val (.int p1), .val (.int p2), .val (.int p3), .val (.int p4), .val (.int (1 : Int32)), .val (.ref b121), .unset, .unset, .unset, .unset, .unset] [(.int p0), (.ref b121)]))
    have G123 : Exa Z T122.heap b121 "com/example/portcullis/portcullis/policy/Ints" := (A121.keep K122)
    obtain ⟨cq124, kq124, q124a, q124b, q124c⟩ := isOf hZ rfl G123
    obtain ⟨_, _, ⟨T124, L124, kk124, nn124⟩, -, X124, ⟨Lc124, hQ124, l124, y124, z124⟩, st124⟩ := X122.virtualBack hx (y := (⟨"com/example/portcullis/portcullis/policy/Ints", "add", "(I)V"⟩ : MethodName)) (z := (⟨"com/example/portcullis/portcullis/policy/Ints", "add", "(I)V"⟩ : MethodName)) hown (mvT hZ (hw _ (List.mem_of_getElem? (i := 12) rfl))) (mvT hZ (hw _ (List.mem_of_getElem? (i := 13) rfl))) (notFace_of_selects (args := #[]) (mvT hZ (hw _ (List.mem_of_getElem? (i := 15) rfl)))) (mvT hZ (hw _ (List.mem_of_getElem? (i := 15) rfl))) (mvT hZ (hw _ (List.mem_of_getElem? (i := 14) rfl))) (by decide) (backOf (W := 0) (rm1 l Z ar hw [] b121 p0 x122_b x122_k (0 : Int32) (0 : Int32) (0 : Int32) (0 : Int32) T122.heap n0 (Nat.le_trans (Nat.le_trans Z0 E121.1) K122.1) P122_1 P122_3 G123 ge_b121 ge_x122_b ne_b121_x122_b P122_2) hZ (hw _ (List.mem_of_getElem? (i := 16) rfl)) (hw _ (List.mem_of_getElem? (i := 2) rfl)) (by decide) (by decide)) q124a q124c (g := (mkF m 26 #[.val (.int p0), .val (.int p1), .val (.int p2), .val (.int p3), .val (.int p4), .val (.int (1 : Int32)), .val (.ref b121), .unset, .unset, .unset, .unset, .unset] [(.int p0), (.ref b121)])) rfl (by rw [hml]; rfl) (Steps.refl _) (argsL := [(.int p0)]) (rest := []) (lenOf pd_1 rfl) rfl (by show 2 * 0 + _ ≤ _; exact Nat.le_of_eq rfl) (hb hby at_26) (fun _ _ => ⟨rfl, rfl, (by decide : 2 + 0 ≤ _), (by decide : 18 + 0 ≤ _)⟩)
    dsimp only [Pt.U, Pt.locs, Pt.cells, Pt.slots] at X124 l124 y124 z124 st124 hQ124
    subst l124 y124 z124
    obtain ⟨rfl, Nq124, K124, P124_0, P124_1, P124_2⟩ := hQ124
    have N124 := Fr.app N122 Nq124
    refine OGo.st (fun t k => st124.trans k) ?_
    show OGo p.tables e below _ (T124.setTop (mkF m 29 #[.val (.int p0), .val (.int p1), .val (.int p2), .val (.int p3), .val (.int p4), .val (.int (1 : Int32)), .val (.ref b121), .unset, .unset, .unset, .unset, .unset] []))
    refine OGo.st (fun t k => XS.aload X124.here hx rfl (hb hby at_29) rfl rfl k) ?_
    show OGo p.tables e below _ (T124.setTop (mkF m 31 #[.val (.int p0), .val (.int p1), .val (.int p2), .val (.int p3), .val (.int p4), .val (.int (1 : Int32)), .val (.ref b121), .unset, .unset, .unset, .unset, .unset] [(.ref b121)]))
    refine OGo.st (fun t k => XS.iloadN X124.here hx rfl (hb hby at_31) rfl k) ?_
    show OGo p.tables e below _ (T124.setTop (mkF m 32 #[.val (.int p0), .val (.int p1), .val (.int p2), .val (.int p3), .val (.int p4), .val (.int (1 : Int32)), .val (.ref b121), .unset, .unset, .unset, .unset, .unset] [(.int p1), (.ref b121)]))
    have G125 : Exa Z T124.heap b121 "com/example/portcullis/portcullis/policy/Ints" := (G123.keep K124)
    obtain ⟨cq126, kq126, q126a, q126b, q126c⟩ := isOf hZ rfl G125
    obtain ⟨_, _, ⟨T126, L126, kk126, nn126⟩, -, X126, ⟨Lc126, hQ126, l126, y126, z126⟩, st126⟩ := X124.virtualBack hx (y := (⟨"com/example/portcullis/portcullis/policy/Ints", "add", "(I)V"⟩ : MethodName)) (z := (⟨"com/example/portcullis/portcullis/policy/Ints", "add", "(I)V"⟩ : MethodName)) hown (mvT hZ (hw _ (List.mem_of_getElem? (i := 12) rfl))) (mvT hZ (hw _ (List.mem_of_getElem? (i := 13) rfl))) (notFace_of_selects (args := #[]) (mvT hZ (hw _ (List.mem_of_getElem? (i := 15) rfl)))) (mvT hZ (hw _ (List.mem_of_getElem? (i := 15) rfl))) (mvT hZ (hw _ (List.mem_of_getElem? (i := 14) rfl))) (by decide) (backOf (W := 0) (rm2 l Z ar hw [] b121 p1 x122_b x122_k p0 (0 : Int32) (0 : Int32) (0 : Int32) T124.heap n0 (Nat.le_trans (Nat.le_trans (Nat.le_trans Z0 E121.1) K122.1) K124.1) P124_0 P124_2 G125 ge_b121 ge_x122_b ne_b121_x122_b P124_1) hZ (hw _ (List.mem_of_getElem? (i := 16) rfl)) (hw _ (List.mem_of_getElem? (i := 2) rfl)) (by decide) (by decide)) q126a q126c (g := (mkF m 32 #[.val (.int p0), .val (.int p1), .val (.int p2), .val (.int p3), .val (.int p4), .val (.int (1 : Int32)), .val (.ref b121), .unset, .unset, .unset, .unset, .unset] [(.int p1), (.ref b121)])) rfl (by rw [hml]; rfl) (Steps.refl _) (argsL := [(.int p1)]) (rest := []) (lenOf pd_1 rfl) rfl (by show 2 * 0 + _ ≤ _; exact Nat.le_of_eq rfl) (hb hby at_32) (fun _ _ => ⟨rfl, rfl, (by decide : 2 + 0 ≤ _), (by decide : 18 + 0 ≤ _)⟩)
    dsimp only [Pt.U, Pt.locs, Pt.cells, Pt.slots] at X126 l126 y126 z126 st126 hQ126
    subst l126 y126 z126
    obtain ⟨rfl, Nq126, K126, P126_0, P126_1, P126_2⟩ := hQ126
    have N126 := Fr.app N124 Nq126
    refine OGo.st (fun t k => st126.trans k) ?_
    show OGo p.tables e below _ (T126.setTop (mkF m 35 #[.val (.int p0), .val (.int p1), .val (.int p2), .val (.int p3), .val (.int p4), .val (.int (1 : Int32)), .val (.ref b121), .unset, .unset, .unset, .unset, .unset] []))
    refine OGo.st (fun t k => XS.iload X126.here hx rfl (hb hby at_35) rfl k) ?_
    show OGo p.tables e below _ (T126.setTop (mkF m 37 #[.val (.int p0), .val (.int p1), .val (.int p2), .val (.int p3), .val (.int p4), .val (.int (1 : Int32)), .val (.ref b121), .unset, .unset, .unset, .unset, .unset] [(.int (1 : Int32))]))
    refine OGo.st (fun t k => XS.ifNo X126.here hx rfl (hb hby at_37) rfl ((if0 _ _).trans (feq (by decide : ¬ ((1 : Int32) = (0 : Int32)))).1) k) ?_
    show OGo p.tables e below _ (T126.setTop (mkF m 40 #[.val (.int p0), .val (.int p1), .val (.int p2), .val (.int p3), .val (.int p4), .val (.int (1 : Int32)), .val (.ref b121), .unset, .unset, .unset, .unset, .unset] []))
    refine OGo.st (fun t k => XS.aload X126.here hx rfl (hb hby at_40) rfl rfl k) ?_
    show OGo p.tables e below _ (T126.setTop (mkF m 42 #[.val (.int p0), .val (.int p1), .val (.int p2), .val (.int p3), .val (.int p4), .val (.int (1 : Int32)), .val (.ref b121), .unset, .unset, .unset, .unset, .unset] [(.ref b121)]))
    refine OGo.st (fun t k => XS.iloadN X126.here hx rfl (hb hby at_42) rfl k) ?_
    show OGo p.tables e below _ (T126.setTop (mkF m 43 #[.val (.int p0), .val (.int p1), .val (.int p2), .val (.int p3), .val (.int p4), .val (.int (1 : Int32)), .val (.ref b121), .unset, .unset, .unset, .unset, .unset] [(.int p2), (.ref b121)]))
    have G127 : Exa Z T126.heap b121 "com/example/portcullis/portcullis/policy/Ints" := (G125.keep K126)
    obtain ⟨cq128, kq128, q128a, q128b, q128c⟩ := isOf hZ rfl G127
    obtain ⟨_, _, ⟨T128, L128, kk128, nn128⟩, -, X128, ⟨Lc128, hQ128, l128, y128, z128⟩, st128⟩ := X126.virtualBack hx (y := (⟨"com/example/portcullis/portcullis/policy/Ints", "add", "(I)V"⟩ : MethodName)) (z := (⟨"com/example/portcullis/portcullis/policy/Ints", "add", "(I)V"⟩ : MethodName)) hown (mvT hZ (hw _ (List.mem_of_getElem? (i := 12) rfl))) (mvT hZ (hw _ (List.mem_of_getElem? (i := 13) rfl))) (notFace_of_selects (args := #[]) (mvT hZ (hw _ (List.mem_of_getElem? (i := 15) rfl)))) (mvT hZ (hw _ (List.mem_of_getElem? (i := 15) rfl))) (mvT hZ (hw _ (List.mem_of_getElem? (i := 14) rfl))) (by decide) (backOf (W := 0) (rm3 l Z ar hw [] b121 p2 x122_b x122_k p0 p1 (0 : Int32) (0 : Int32) T126.heap n0 (Nat.le_trans (Nat.le_trans (Nat.le_trans (Nat.le_trans Z0 E121.1) K122.1) K124.1) K126.1) P126_0 P126_2 G127 ge_b121 ge_x122_b ne_b121_x122_b P126_1) hZ (hw _ (List.mem_of_getElem? (i := 16) rfl)) (hw _ (List.mem_of_getElem? (i := 2) rfl)) (by decide) (by decide)) q128a q128c (g := (mkF m 43 #[.val (.int p0), .val (.int p1), .val (.int p2), .val (.int p3), .val (.int p4), .val (.int (1 : Int32)), .val (.ref b121), .unset, .unset, .unset, .unset, .unset] [(.int p2), (.ref b121)])) rfl (by rw [hml]; rfl) (Steps.refl _) (argsL := [(.int p2)]) (rest := []) (lenOf pd_1 rfl) rfl (by show 2 * 0 + _ ≤ _; exact Nat.le_of_eq rfl) (hb hby at_43) (fun _ _ => ⟨rfl, rfl, (by decide : 2 + 0 ≤ _), (by decide : 18 + 0 ≤ _)⟩)
    dsimp only [Pt.U, Pt.locs, Pt.cells, Pt.slots] at X128 l128 y128 z128 st128 hQ128
    subst l128 y128 z128
    obtain ⟨rfl, Nq128, K128, P128_0, P128_1, P128_2⟩ := hQ128
    have N128 := Fr.app N126 Nq128
    refine OGo.st (fun t k => st128.trans k) ?_
    show OGo p.tables e below _ (T128.setTop (mkF m 46 #[.val (.int p0), .val (.int p1), .val (.int p2), .val (.int p3), .val (.int p4), .val (.int (1 : Int32)), .val (.ref b121), .unset, .unset, .unset, .unset, .unset] []))
    refine OGo.st (fun t k => XS.aload X128.here hx rfl (hb hby at_46) rfl rfl k) ?_
    show OGo p.tables e below _ (T128.setTop (mkF m 48 #[.val (.int p0), .val (.int p1), .val (.int p2), .val (.int p3), .val (.int p4), .val (.int (1 : Int32)), .val (.ref b121), .unset, .unset, .unset, .unset, .unset] [(.ref b121)]))
    have G129 : Exa Z T128.heap b121 "com/example/portcullis/portcullis/policy/Ints" := (G127.keep K128)
    obtain ⟨cq130, kq130, q130a, q130b, q130c⟩ := isOf hZ rfl G129
    obtain ⟨_, _, ⟨T130, L130, kk130, nn130⟩, -, X130, ⟨Lc130, hQ130, l130, y130, z130⟩, st130⟩ := X128.virtualBack hx (y := (⟨"com/example/portcullis/portcullis/policy/Ints", "removeLast", "()I"⟩ : MethodName)) (z := (⟨"com/example/portcullis/portcullis/policy/Ints", "removeLast", "()I"⟩ : MethodName)) hown (mvT hZ (hw _ (List.mem_of_getElem? (i := 19) rfl))) (mvT hZ (hw _ (List.mem_of_getElem? (i := 20) rfl))) (notFace_of_selects (args := #[]) (mvT hZ (hw _ (List.mem_of_getElem? (i := 22) rfl)))) (mvT hZ (hw _ (List.mem_of_getElem? (i := 22) rfl))) (mvT hZ (hw _ (List.mem_of_getElem? (i := 21) rfl))) (by decide) (backOf (W := 0) (rm6 l Z ar hw [] b121 x122_b x122_k p0 p1 p2 (0 : Int32) T128.heap n0 (Nat.le_trans (Nat.le_trans (Nat.le_trans (Nat.le_trans (Nat.le_trans Z0 E121.1) K122.1) K124.1) K126.1) K128.1) P128_0 P128_2 G129 ge_b121 ge_x122_b ne_b121_x122_b P128_1) hZ (hw _ (List.mem_of_getElem? (i := 23) rfl)) (hw _ (List.mem_of_getElem? (i := 2) rfl)) (by decide) (by decide)) q130a q130c (g := (mkF m 48 #[.val (.int p0), .val (.int p1), .val (.int p2), .val (.int p3), .val (.int p4), .val (.int (1 : Int32)), .val (.ref b121), .unset, .unset, .unset, .unset, .unset] [(.ref b121)])) rfl (by rw [hml]; rfl) (Steps.refl _) (argsL := []) (rest := []) (lenOf pd_2 rfl) rfl (by show 2 * 0 + _ ≤ _; exact Nat.le_of_eq rfl) (hb hby at_48) (fun _ _ => ⟨rfl, rfl, (by decide : 2 + 0 ≤ _), (by decide : 18 + 0 ≤ _)⟩)
    dsimp only [Pt.U, Pt.locs, Pt.cells, Pt.slots] at X130 l130 y130 z130 st130 hQ130
    subst l130 y130 z130
    obtain ⟨rfl, Nq130, K130, P130_0, P130_1⟩ := hQ130
    have N130 := Fr.app N128 Nq130
    refine OGo.st (fun t k => st130.trans k) ?_
    show OGo p.tables e below _ (T130.setTop (mkF m 51 #[.val (.int p0), .val (.int p1), .val (.int p2), .val (.int p3), .val (.int p4), .val (.int (1 : Int32)), .val (.ref b121), .unset, .unset, .unset, .unset, .unset] [(.int p2)]))
    refine OGo.st (fun t k => XS.istore X130.here hx rfl (hb hby at_51) rfl (l' := #[.val (.int p0), .val (.int p1), .val (.int p2), .val (.int p3), .val (.int p4), .val (.int (1 : Int32)), .val (.ref b121), .val (.int p2), .unset, .unset, .unset, .unset]) rfl k) ?_
    show OGo p.tables e below _ (T130.setTop (mkF m 53 #[.val (.int p0), .val (.int p1), .val (.int p2), .val (.int p3), .val (.int p4), .val (.int (1 : Int32)), .val (.ref b121), .val (.int p2), .unset, .unset, .unset, .unset] []))
    refine OGo.st (fun t k => XS.aload X130.here hx rfl (hb hby at_53) rfl rfl k) ?_
    show OGo p.tables e below _ (T130.setTop (mkF m 55 #[.val (.int p0), .val (.int p1), .val (.int p2), .val (.int p3), .val (.int p4), .val (.int (1 : Int32)), .val (.ref b121), .val (.int p2), .unset, .unset, .unset, .unset] [(.ref b121)]))
    refine OGo.st (fun t k => XS.iloadN X130.here hx rfl (hb hby at_55) rfl k) ?_
    show OGo p.tables e below _ (T130.setTop (mkF m 56 #[.val (.int p0), .val (.int p1), .val (.int p2), .val (.int p3), .val (.int p4), .val (.int (1 : Int32)), .val (.ref b121), .val (.int p2), .unset, .unset, .unset, .unset] [(.int p3), (.ref b121)]))
    have G131 : Arv Z T130.heap x122_b x122_k .int (16 : Int32) [(.int p0), (.int p1), (.int p2), (.int (0 : Int32))] (.int (0 : Int32)) := (P128_2.keep K130 (ninS (Ne.symm ne_b121_x122_b) nin0))
    have G132 : Exa Z T130.heap b121 "com/example/portcullis/portcullis/policy/Ints" := (G129.keep K130)
    obtain ⟨cq133, kq133, q133a, q133b, q133c⟩ := isOf hZ rfl G132
    obtain ⟨_, _, ⟨T133, L133, kk133, nn133⟩, -, X133, ⟨Lc133, hQ133, l133, y133, z133⟩, st133⟩ := X130.virtualBack hx (y := (⟨"com/example/portcullis/portcullis/policy/Ints", "add", "(I)V"⟩ : MethodName)) (z := (⟨"com/example/portcullis/portcullis/policy/Ints", "add", "(I)V"⟩ : MethodName)) hown (mvT hZ (hw _ (List.mem_of_getElem? (i := 12) rfl))) (mvT hZ (hw _ (List.mem_of_getElem? (i := 13) rfl))) (notFace_of_selects (args := #[]) (mvT hZ (hw _ (List.mem_of_getElem? (i := 15) rfl)))) (mvT hZ (hw _ (List.mem_of_getElem? (i := 15) rfl))) (mvT hZ (hw _ (List.mem_of_getElem? (i := 14) rfl))) (by decide) (backOf (W := 0) (rm3 l Z ar hw [] b121 p3 x122_b x122_k p0 p1 p2 (0 : Int32) T130.heap n0 (Nat.le_trans (Nat.le_trans (Nat.le_trans (Nat.le_trans (Nat.le_trans (Nat.le_trans Z0 E121.1) K122.1) K124.1) K126.1) K128.1) K130.1) P130_0 G131 G132 ge_b121 ge_x122_b ne_b121_x122_b P130_1) hZ (hw _ (List.mem_of_getElem? (i := 16) rfl)) (hw _ (List.mem_of_getElem? (i := 2) rfl)) (by decide) (by decide)) q133a q133c (g := (mkF m 56 #[.val (.int p0), .val (.int p1), .val (.int p2), .val (.int p3), .val (.int p4), .val (.int (1 : Int32)), .val (.ref b121), .val (.int p2), .unset, .unset, .unset, .unset] [(.int p3), (.ref b121)])) rfl (by rw [hml]; rfl) (Steps.refl _) (argsL := [(.int p3)]) (rest := []) (lenOf pd_1 rfl) rfl (by show 2 * 0 + _ ≤ _; exact Nat.le_of_eq rfl) (hb hby at_56) (fun _ _ => ⟨rfl, rfl, (by decide : 2 + 0 ≤ _), (by decide : 18 + 0 ≤ _)⟩)
    dsimp only [Pt.U, Pt.locs, Pt.cells, Pt.slots] at X133 l133 y133 z133 st133 hQ133
    subst l133 y133 z133
    obtain ⟨rfl, Nq133, K133, P133_0, P133_1, P133_2⟩ := hQ133
    have N133 := Fr.app N130 Nq133
    refine OGo.st (fun t k => st133.trans k) ?_
    show OGo p.tables e below _ (T133.setTop (mkF m 59 #[.val (.int p0), .val (.int p1), .val (.int p2), .val (.int p3), .val (.int p4), .val (.int (1 : Int32)), .val (.ref b121), .val (.int p2), .unset, .unset, .unset, .unset] []))
    refine OGo.st (fun t k => XS.aload X133.here hx rfl (hb hby at_59) rfl rfl k) ?_
    show OGo p.tables e below _ (T133.setTop (mkF m 61 #[.val (.int p0), .val (.int p1), .val (.int p2), .val (.int p3), .val (.int p4), .val (.int (1 : Int32)), .val (.ref b121), .val (.int p2), .unset, .unset, .unset, .unset] [(.ref b121)]))
    have G134 : Exa Z T133.heap b121 "com/example/portcullis/portcullis/policy/Ints" := (G132.keep K133)
    obtain ⟨cq135, kq135, q135a, q135b, q135c⟩ := isOf hZ rfl G134
    obtain ⟨_, _, ⟨T135, L135, kk135, nn135⟩, -, X135, ⟨Lc135, hQ135, l135, y135, z135⟩, st135⟩ := X133.virtualBack hx (y := (⟨"com/example/portcullis/portcullis/policy/Ints", "removeLast", "()I"⟩ : MethodName)) (z := (⟨"com/example/portcullis/portcullis/policy/Ints", "removeLast", "()I"⟩ : MethodName)) hown (mvT hZ (hw _ (List.mem_of_getElem? (i := 19) rfl))) (mvT hZ (hw _ (List.mem_of_getElem? (i := 20) rfl))) (notFace_of_selects (args := #[]) (mvT hZ (hw _ (List.mem_of_getElem? (i := 22) rfl)))) (mvT hZ (hw _ (List.mem_of_getElem? (i := 22) rfl))) (mvT hZ (hw _ (List.mem_of_getElem? (i := 21) rfl))) (by decide) (backOf (W := 0) (rm6 l Z ar hw [] b121 x122_b x122_k p0 p1 p3 (0 : Int32) T133.heap n0 (Nat.le_trans (Nat.le_trans (Nat.le_trans (Nat.le_trans (Nat.le_trans (Nat.le_trans (Nat.le_trans Z0 E121.1) K122.1) K124.1) K126.1) K128.1) K130.1) K133.1) P133_0 P133_2 G134 ge_b121 ge_x122_b ne_b121_x122_b P133_1) hZ (hw _ (List.mem_of_getElem? (i := 23) rfl)) (hw _ (List.mem_of_getElem? (i := 2) rfl)) (by decide) (by decide)) q135a q135c (g := (mkF m 61 #[.val (.int p0), .val (.int p1), .val (.int p2), .val (.int p3), .val (.int p4), .val (.int (1 : Int32)), .val (.ref b121), .val (.int p2), .unset, .unset, .unset, .unset] [(.ref b121)])) rfl (by rw [hml]; rfl) (Steps.refl _) (argsL := []) (rest := []) (lenOf pd_2 rfl) rfl (by show 2 * 0 + _ ≤ _; exact Nat.le_of_eq rfl) (hb hby at_61) (fun _ _ => ⟨rfl, rfl, (by decide : 2 + 0 ≤ _), (by decide : 18 + 0 ≤ _)⟩)
    dsimp only [Pt.U, Pt.locs, Pt.cells, Pt.slots] at X135 l135 y135 z135 st135 hQ135
    subst l135 y135 z135
    obtain ⟨rfl, Nq135, K135, P135_0, P135_1⟩ := hQ135
    have N135 := Fr.app N133 Nq135
    refine OGo.st (fun t k => st135.trans k) ?_
    show OGo p.tables e below _ (T135.setTop (mkF m 64 #[.val (.int p0), .val (.int p1), .val (.int p2), .val (.int p3), .val (.int p4), .val (.int (1 : Int32)), .val (.ref b121), .val (.int p2), .unset, .unset, .unset, .unset] [(.int p3)]))
    refine OGo.st (fun t k => XS.istore X135.here hx rfl (hb hby at_64) rfl (l' := #[.val (.int p0), .val (.int p1), .val (.int p2), .val (.int p3), .val (.int p4), .val (.int (1 : Int32)), .val (.ref b121), .val (.int p2), .val (.int p3), .unset, .unset, .unset]) rfl k) ?_
    show OGo p.tables e below _ (T135.setTop (mkF m 66 #[.val (.int p0), .val (.int p1), .val (.int p2), .val (.int p3), .val (.int p4), .val (.int (1 : Int32)), .val (.ref b121), .val (.int p2), .val (.int p3), .unset, .unset, .unset] []))
    refine OGo.st (fun t k => XS.aload X135.here hx rfl (hb hby at_66) rfl rfl k) ?_
    show OGo p.tables e below _ (T135.setTop (mkF m 68 #[.val (.int p0), .val (.int p1), .val (.int p2), .val (.int p3), .val (.int p4), .val (.int (1 : Int32)), .val (.ref b121), .val (.int p2), .val (.int p3), .unset, .unset, .unset] [(.ref b121)]))
    have G136 : Arv Z T135.heap x122_b x122_k .int (16 : Int32) [(.int p0), (.int p1), (.int p3), (.int (0 : Int32))] (.int (0 : Int32)) := (P133_2.keep K135 (ninS (Ne.symm ne_b121_x122_b) nin0))
    have G137 : Exa Z T135.heap b121 "com/example/portcullis/portcullis/policy/Ints" := (G134.keep K135)
    obtain ⟨cq138, kq138, q138a, q138b, q138c⟩ := isOf hZ rfl G137
    obtain ⟨_, _, ⟨T138, L138, kk138, nn138⟩, -, X138, ⟨Lc138, hQ138, l138, y138, z138⟩, st138⟩ := X135.virtualBack hx (y := (⟨"com/example/portcullis/portcullis/policy/Ints", "removeLast", "()I"⟩ : MethodName)) (z := (⟨"com/example/portcullis/portcullis/policy/Ints", "removeLast", "()I"⟩ : MethodName)) hown (mvT hZ (hw _ (List.mem_of_getElem? (i := 19) rfl))) (mvT hZ (hw _ (List.mem_of_getElem? (i := 20) rfl))) (notFace_of_selects (args := #[]) (mvT hZ (hw _ (List.mem_of_getElem? (i := 22) rfl)))) (mvT hZ (hw _ (List.mem_of_getElem? (i := 22) rfl))) (mvT hZ (hw _ (List.mem_of_getElem? (i := 21) rfl))) (by decide) (backOf (W := 0) (rm5 l Z ar hw [] b121 x122_b x122_k p0 p1 p3 (0 : Int32) T135.heap n0 (Nat.le_trans (Nat.le_trans (Nat.le_trans (Nat.le_trans (Nat.le_trans (Nat.le_trans (Nat.le_trans (Nat.le_trans Z0 E121.1) K122.1) K124.1) K126.1) K128.1) K130.1) K133.1) K135.1) P135_0 G136 G137 ge_b121 ge_x122_b ne_b121_x122_b P135_1) hZ (hw _ (List.mem_of_getElem? (i := 23) rfl)) (hw _ (List.mem_of_getElem? (i := 2) rfl)) (by decide) (by decide)) q138a q138c (g := (mkF m 68 #[.val (.int p0), .val (.int p1), .val (.int p2), .val (.int p3), .val (.int p4), .val (.int (1 : Int32)), .val (.ref b121), .val (.int p2), .val (.int p3), .unset, .unset, .unset] [(.ref b121)])) rfl (by rw [hml]; rfl) (Steps.refl _) (argsL := []) (rest := []) (lenOf pd_2 rfl) rfl (by show 2 * 0 + _ ≤ _; exact Nat.le_of_eq rfl) (hb hby at_68) (fun _ _ => ⟨rfl, rfl, (by decide : 2 + 0 ≤ _), (by decide : 18 + 0 ≤ _)⟩)
    dsimp only [Pt.U, Pt.locs, Pt.cells, Pt.slots] at X138 l138 y138 z138 st138 hQ138
    subst l138 y138 z138
    obtain ⟨rfl, Nq138, K138, P138_0, P138_1⟩ := hQ138
    have N138 := Fr.app N135 Nq138
    refine OGo.st (fun t k => st138.trans k) ?_
    show OGo p.tables e below _ (T138.setTop (mkF m 71 #[.val (.int p0), .val (.int p1), .val (.int p2), .val (.int p3), .val (.int p4), .val (.int (1 : Int32)), .val (.ref b121), .val (.int p2), .val (.int p3), .unset, .unset, .unset] [(.int p1)]))
    refine OGo.st (fun t k => XS.istore X138.here hx rfl (hb hby at_71) rfl (l' := #[.val (.int p0), .val (.int p1), .val (.int p2), .val (.int p3), .val (.int p4), .val (.int (1 : Int32)), .val (.ref b121), .val (.int p2), .val (.int p3), .val (.int p1), .unset, .unset]) rfl k) ?_
    show OGo p.tables e below _ (T138.setTop (mkF m 73 #[.val (.int p0), .val (.int p1), .val (.int p2), .val (.int p3), .val (.int p4), .val (.int (1 : Int32)), .val (.ref b121), .val (.int p2), .val (.int p3), .val (.int p1), .unset, .unset] []))
    refine OGo.st (fun t k => XS.aload X138.here hx rfl (hb hby at_73) rfl rfl k) ?_
    show OGo p.tables e below _ (T138.setTop (mkF m 75 #[.val (.int p0), .val (.int p1), .val (.int p2), .val (.int p3), .val (.int p4), .val (.int (1 : Int32)), .val (.ref b121), .val (.int p2), .val (.int p3), .val (.int p1), .unset, .unset] [(.ref b121)]))
    have G140 : Exa Z T138.heap b121 "com/example/portcullis/portcullis/policy/Ints" := (G137.keep K138)
    obtain ⟨cq139, kq139, q139a, q139b, q139c⟩ := isOf hZ rfl G140
    obtain ⟨_, _, ⟨T139, L139, kk139, nn139⟩, -, X139, ⟨Lc139, hQ139, l139, y139, z139⟩, st139⟩ := X138.virtualBack hx (y := (⟨"com/example/portcullis/portcullis/policy/Ints", "size", "()I"⟩ : MethodName)) (z := (⟨"com/example/portcullis/portcullis/policy/Ints", "size", "()I"⟩ : MethodName)) hown (mvT hZ (hw _ (List.mem_of_getElem? (i := 24) rfl))) (mvT hZ (hw _ (List.mem_of_getElem? (i := 25) rfl))) (notFace_of_selects (args := #[]) (mvT hZ (hw _ (List.mem_of_getElem? (i := 27) rfl)))) (mvT hZ (hw _ (List.mem_of_getElem? (i := 27) rfl))) (mvT hZ (hw _ (List.mem_of_getElem? (i := 26) rfl))) (by decide) (backOf (W := 0) (rm7 l Z ar hw [] b121 (1 : Int32) T138.heap n0 (Nat.le_trans (Nat.le_trans (Nat.le_trans (Nat.le_trans (Nat.le_trans (Nat.le_trans (Nat.le_trans (Nat.le_trans (Nat.le_trans Z0 E121.1) K122.1) K124.1) K126.1) K128.1) K130.1) K133.1) K135.1) K138.1) P138_1) hZ (hw _ (List.mem_of_getElem? (i := 28) rfl)) (hw _ (List.mem_of_getElem? (i := 2) rfl)) (by decide) (by decide)) q139a q139c (g := (mkF m 75 #[.val (.int p0), .val (.int p1), .val (.int p2), .val (.int p3), .val (.int p4), .val (.int (1 : Int32)), .val (.ref b121), .val (.int p2), .val (.int p3), .val (.int p1), .unset, .unset] [(.ref b121)])) rfl (by rw [hml]; rfl) (Steps.refl _) (argsL := []) (rest := []) (lenOf pd_2 rfl) rfl (by show 2 * 0 + _ ≤ _; exact Nat.le_of_eq rfl) (hb hby at_75) (fun _ _ => ⟨rfl, rfl, (by decide : 2 + 0 ≤ _), (by decide : 18 + 0 ≤ _)⟩)
    dsimp only [Pt.U, Pt.locs, Pt.cells, Pt.slots] at X139 l139 y139 z139 st139 hQ139
    subst l139 y139 z139
    obtain ⟨rfl, Nq139, hh139⟩ := hQ139
    have N139 := Fr.app N138 Nq139
    refine OGo.st (fun t k => st139.trans k) ?_
    have e139 : T139.heap = T138.heap := hh139
    show OGo p.tables e below _ (T139.setTop (mkF m 78 #[.val (.int p0), .val (.int p1), .val (.int p2), .val (.int p3), .val (.int p4), .val (.int (1 : Int32)), .val (.ref b121), .val (.int p2), .val (.int p3), .val (.int p1), .unset, .unset] [(.int (1 : Int32))]))
    refine OGo.st (fun t k => XS.istore X139.here hx rfl (hb hby at_78) rfl (l' := #[.val (.int p0), .val (.int p1), .val (.int p2), .val (.int p3), .val (.int p4), .val (.int (1 : Int32)), .val (.ref b121), .val (.int p2), .val (.int p3), .val (.int p1), .val (.int (1 : Int32)), .unset]) rfl k) ?_
    show OGo p.tables e below _ (T139.setTop (mkF m 80 #[.val (.int p0), .val (.int p1), .val (.int p2), .val (.int p3), .val (.int p4), .val (.int (1 : Int32)), .val (.ref b121), .val (.int p2), .val (.int p3), .val (.int p1), .val (.int (1 : Int32)), .unset] []))
    refine OGo.st (fun t k => XS.iload X139.here hx rfl (hb hby at_80) rfl k) ?_
    show OGo p.tables e below _ (T139.setTop (mkF m 82 #[.val (.int p0), .val (.int p1), .val (.int p2), .val (.int p3), .val (.int p4), .val (.int (1 : Int32)), .val (.ref b121), .val (.int p2), .val (.int p3), .val (.int p1), .val (.int (1 : Int32)), .unset] [(.int (1 : Int32))]))
    refine OGo.st (fun t k => XS.ifNo X139.here hx rfl (hb hby at_82) rfl ((if0 _ _).trans (feq (by decide : ¬ ((1 : Int32) = (0 : Int32)))).1) k) ?_
    show OGo p.tables e below _ (T139.setTop (mkF m 85 #[.val (.int p0), .val (.int p1), .val (.int p2), .val (.int p3), .val (.int p4), .val (.int (1 : Int32)), .val (.ref b121), .val (.int p2), .val (.int p3), .val (.int p1), .val (.int (1 : Int32)), .unset] []))
    refine OGo.st (fun t k => XS.aload X139.here hx rfl (hb hby at_85) rfl rfl k) ?_
    show OGo p.tables e below _ (T139.setTop (mkF m 87 #[.val (.int p0), .val (.int p1), .val (.int p2), .val (.int p3), .val (.int p4), .val (.int (1 : Int32)), .val (.ref b121), .val (.int p2), .val (.int p3), .val (.int p1), .val (.int (1 : Int32)), .unset] [(.ref b121)]))
    refine OGo.st (fun t k => XS.iconst X139.here hx rfl (hb hby at_87) k) ?_
    show OGo p.tables e below _ (T139.setTop (mkF m 88 #[.val (.int p0), .val (.int p1), .val (.int p2), .val (.int p3), .val (.int p4), .val (.int (1 : Int32)), .val (.ref b121), .val (.int p2), .val (.int p3), .val (.int p1), .val (.int (1 : Int32)), .unset] [(.int (0 : Int32)), (.ref b121)]))
    have G141 : Arv Z T138.heap x122_b x122_k .int (16 : Int32) [(.int p0), (.int p1), (.int p3), (.int (0 : Int32))] (.int (0 : Int32)) := (G136.keep K138 (ninS (Ne.symm ne_b121_x122_b) nin0))
    obtain ⟨cq142, kq142, q142a, q142b, q142c⟩ := isOf hZ e139 G140
    obtain ⟨_, _, ⟨T142, L142, kk142, nn142⟩, -, X142, ⟨Lc142, hQ142, l142, y142, z142⟩, st142⟩ := X139.virtualBack hx (y := (⟨"com/example/portcullis/portcullis/policy/Ints", "get", "(I)I"⟩ : MethodName)) (z := (⟨"com/example/portcullis/portcullis/policy/Ints", "get", "(I)I"⟩ : MethodName)) hown (mvT hZ (hw _ (List.mem_of_getElem? (i := 29) rfl))) (mvT hZ (hw _ (List.mem_of_getElem? (i := 30) rfl))) (notFace_of_selects (args := #[]) (mvT hZ (hw _ (List.mem_of_getElem? (i := 32) rfl)))) (mvT hZ (hw _ (List.mem_of_getElem? (i := 32) rfl))) (mvT hZ (hw _ (List.mem_of_getElem? (i := 31) rfl))) (by decide) (backOf (W := 0) (rm8 l Z ar hw [] b121 x122_b x122_k p0 p1 p3 (0 : Int32) T138.heap n0 (Nat.le_trans (Nat.le_trans (Nat.le_trans (Nat.le_trans (Nat.le_trans (Nat.le_trans (Nat.le_trans (Nat.le_trans (Nat.le_trans Z0 E121.1) K122.1) K124.1) K126.1) K128.1) K130.1) K133.1) K135.1) K138.1) P138_0 G141) hZ (hw _ (List.mem_of_getElem? (i := 33) rfl)) (hw _ (List.mem_of_getElem? (i := 2) rfl)) (by decide) (by decide)) q142a q142c (g := (mkF m 88 #[.val (.int p0), .val (.int p1), .val (.int p2), .val (.int p3), .val (.int p4), .val (.int (1 : Int32)), .val (.ref b121), .val (.int p2), .val (.int p3), .val (.int p1), .val (.int (1 : Int32)), .unset] [(.int (0 : Int32)), (.ref b121)])) rfl (by rw [hml]; rfl) (Steps.refl _) (argsL := [(.int (0 : Int32))]) (rest := []) (lenOf pd_3 rfl) rfl (by show 2 * 0 + _ ≤ _; exact Nat.le_of_eq rfl) (hb hby at_88) (fun _ _ => ⟨rfl, e139, (by decide : 2 + 0 ≤ _), (by decide : 18 + 0 ≤ _)⟩)
    dsimp only [Pt.U, Pt.locs, Pt.cells, Pt.slots] at X142 l142 y142 z142 st142 hQ142
    subst l142 y142 z142
    obtain ⟨rfl, Nq142, hh142⟩ := hQ142
    have N142 := Fr.app N139 Nq142
    refine OGo.st (fun t k => st142.trans k) ?_
    have e142 : T142.heap = T138.heap := hh142
    show OGo p.tables e below _ (T142.setTop (mkF m 91 #[.val (.int p0), .val (.int p1), .val (.int p2), .val (.int p3), .val (.int p4), .val (.int (1 : Int32)), .val (.ref b121), .val (.int p2), .val (.int p3), .val (.int p1), .val (.int (1 : Int32)), .unset] [(.int p0)]))
    refine OGo.st (fun t k => XS.istore X142.here hx rfl (hb hby at_91) rfl (l' := #[.val (.int p0), .val (.int p1), .val (.int p2), .val (.int p3), .val (.int p4), .val (.int (1 : Int32)), .val (.ref b121), .val (.int p2), .val (.int p3), .val (.int p1), .val (.int (1 : Int32)), .val (.int p0)]) rfl k) ?_
    show OGo p.tables e below _ (T142.setTop (mkF m 93 #[.val (.int p0), .val (.int p1), .val (.int p2), .val (.int p3), .val (.int p4), .val (.int (1 : Int32)), .val (.ref b121), .val (.int p2), .val (.int p3), .val (.int p1), .val (.int (1 : Int32)), .val (.int p0)] []))
    refine OGo.st (fun t k => XS.iload X142.here hx rfl (hb hby at_93) rfl k) ?_
    show OGo p.tables e below _ (T142.setTop (mkF m 95 #[.val (.int p0), .val (.int p1), .val (.int p2), .val (.int p3), .val (.int p4), .val (.int (1 : Int32)), .val (.ref b121), .val (.int p2), .val (.int p3), .val (.int p1), .val (.int (1 : Int32)), .val (.int p0)] [(.int p2)]))
    refine OGo.st (fun t k => XS.iloadN X142.here hx rfl (hb hby at_95) rfl k) ?_
    show OGo p.tables e below _ (T142.setTop (mkF m 96 #[.val (.int p0), .val (.int p1), .val (.int p2), .val (.int p3), .val (.int p4), .val (.int (1 : Int32)), .val (.ref b121), .val (.int p2), .val (.int p3), .val (.int p1), .val (.int (1 : Int32)), .val (.int p0)] [(.int p2), (.int p2)]))
    refine OGo.st (fun t k => XS.icmpNo X142.here hx rfl (hb hby at_96) rfl (teq (rfl : p2 = p2)).2 k) ?_
    show OGo p.tables e below _ (T142.setTop (mkF m 99 #[.val (.int p0), .val (.int p1), .val (.int p2), .val (.int p3), .val (.int p4), .val (.int (1 : Int32)), .val (.ref b121), .val (.int p2), .val (.int p3), .val (.int p1), .val (.int (1 : Int32)), .val (.int p0)] []))
    refine OGo.st (fun t k => XS.iload X142.here hx rfl (hb hby at_99) rfl k) ?_
    show OGo p.tables e below _ (T142.setTop (mkF m 101 #[.val (.int p0), .val (.int p1), .val (.int p2), .val (.int p3), .val (.int p4), .val (.int (1 : Int32)), .val (.ref b121), .val (.int p2), .val (.int p3), .val (.int p1), .val (.int (1 : Int32)), .val (.int p0)] [(.int p3)]))
    refine OGo.st (fun t k => XS.iloadN X142.here hx rfl (hb hby at_101) rfl k) ?_
    show OGo p.tables e below _ (T142.setTop (mkF m 102 #[.val (.int p0), .val (.int p1), .val (.int p2), .val (.int p3), .val (.int p4), .val (.int (1 : Int32)), .val (.ref b121), .val (.int p2), .val (.int p3), .val (.int p1), .val (.int (1 : Int32)), .val (.int p0)] [(.int p3), (.int p3)]))
    refine OGo.st (fun t k => XS.icmpNo X142.here hx rfl (hb hby at_102) rfl (teq (rfl : p3 = p3)).2 k) ?_
    show OGo p.tables e below _ (T142.setTop (mkF m 105 #[.val (.int p0), .val (.int p1), .val (.int p2), .val (.int p3), .val (.int p4), .val (.int (1 : Int32)), .val (.ref b121), .val (.int p2), .val (.int p3), .val (.int p1), .val (.int (1 : Int32)), .val (.int p0)] []))
    refine OGo.st (fun t k => XS.iload X142.here hx rfl (hb hby at_105) rfl k) ?_
    show OGo p.tables e below _ (T142.setTop (mkF m 107 #[.val (.int p0), .val (.int p1), .val (.int p2), .val (.int p3), .val (.int p4), .val (.int (1 : Int32)), .val (.ref b121), .val (.int p2), .val (.int p3), .val (.int p1), .val (.int (1 : Int32)), .val (.int p0)] [(.int p1)]))
    refine OGo.st (fun t k => XS.iloadN X142.here hx rfl (hb hby at_107) rfl k) ?_
    show OGo p.tables e below _ (T142.setTop (mkF m 108 #[.val (.int p0), .val (.int p1), .val (.int p2), .val (.int p3), .val (.int p4), .val (.int (1 : Int32)), .val (.ref b121), .val (.int p2), .val (.int p3), .val (.int p1), .val (.int (1 : Int32)), .val (.int p0)] [(.int p1), (.int p1)]))
    refine OGo.st (fun t k => XS.icmpNo X142.here hx rfl (hb hby at_108) rfl (teq (rfl : p1 = p1)).2 k) ?_
    show OGo p.tables e below _ (T142.setTop (mkF m 111 #[.val (.int p0), .val (.int p1), .val (.int p2), .val (.int p3), .val (.int p4), .val (.int (1 : Int32)), .val (.ref b121), .val (.int p2), .val (.int p3), .val (.int p1), .val (.int (1 : Int32)), .val (.int p0)] []))
    refine OGo.st (fun t k => XS.iload X142.here hx rfl (hb hby at_111) rfl k) ?_
    show OGo p.tables e below _ (T142.setTop (mkF m 113 #[.val (.int p0), .val (.int p1), .val (.int p2), .val (.int p3), .val (.int p4), .val (.int (1 : Int32)), .val (.ref b121), .val (.int p2), .val (.int p3), .val (.int p1), .val (.int (1 : Int32)), .val (.int p0)] [(.int (1 : Int32))]))
    refine OGo.st (fun t k => XS.iconst X142.here hx rfl (hb hby at_113) k) ?_
    show OGo p.tables e below _ (T142.setTop (mkF m 114 #[.val (.int p0), .val (.int p1), .val (.int p2), .val (.int p3), .val (.int p4), .val (.int (1 : Int32)), .val (.ref b121), .val (.int p2), .val (.int p3), .val (.int p1), .val (.int (1 : Int32)), .val (.int p0)] [(.int (1 : Int32)), (.int (1 : Int32))]))
    refine OGo.st (fun t k => XS.icmpNo X142.here hx rfl (hb hby at_114) rfl (teq (by decide : (1 : Int32) = (1 : Int32))).2 k) ?_
    show OGo p.tables e below _ (T142.setTop (mkF m 117 #[.val (.int p0), .val (.int p1), .val (.int p2), .val (.int p3), .val (.int p4), .val (.int (1 : Int32)), .val (.ref b121), .val (.int p2), .val (.int p3), .val (.int p1), .val (.int (1 : Int32)), .val (.int p0)] []))
    refine OGo.st (fun t k => XS.iload X142.here hx rfl (hb hby at_117) rfl k) ?_
    show OGo p.tables e below _ (T142.setTop (mkF m 119 #[.val (.int p0), .val (.int p1), .val (.int p2), .val (.int p3), .val (.int p4), .val (.int (1 : Int32)), .val (.ref b121), .val (.int p2), .val (.int p3), .val (.int p1), .val (.int (1 : Int32)), .val (.int p0)] [(.int p0)]))
    refine OGo.st (fun t k => XS.iloadN X142.here hx rfl (hb hby at_119) rfl k) ?_
    show OGo p.tables e below _ (T142.setTop (mkF m 120 #[.val (.int p0), .val (.int p1), .val (.int p2), .val (.int p3), .val (.int p4), .val (.int (1 : Int32)), .val (.ref b121), .val (.int p2), .val (.int p3), .val (.int p1), .val (.int (1 : Int32)), .val (.int p0)] [(.int p0), (.int p0)]))
    refine OGo.st (fun t k => XS.icmpNo X142.here hx rfl (hb hby at_120) rfl (teq (rfl : p0 = p0)).2 k) ?_
    show OGo p.tables e below _ (T142.setTop (mkF m 123 #[.val (.int p0), .val (.int p1), .val (.int p2), .val (.int p3), .val (.int p4), .val (.int (1 : Int32)), .val (.ref b121), .val (.int p2), .val (.int p3), .val (.int p1), .val (.int (1 : Int32)), .val (.int p0)] []))
    refine OGo.st (fun t k => XS.iconst X142.here hx rfl (hb hby at_123) k) ?_
    show OGo p.tables e below _ (T142.setTop (mkF m 124 #[.val (.int p0), .val (.int p1), .val (.int p2), .val (.int p3), .val (.int p4), .val (.int (1 : Int32)), .val (.ref b121), .val (.int p2), .val (.int p3), .val (.int p1), .val (.int (1 : Int32)), .val (.int p0)] [(.int (1 : Int32))]))
    refine OGo.st (fun t k => XS.goto X142.here hx rfl (pc0 := 124) (pc' := 128) rfl (hb hby at_124) (by decide) (by decide) k) ?_
    show OGo p.tables e below _ (T142.setTop (mkF m 128 #[.val (.int p0), .val (.int p1), .val (.int p2), .val (.int p3), .val (.int p4), .val (.int (1 : Int32)), .val (.ref b121), .val (.int p2), .val (.int p3), .val (.int p1), .val (.int (1 : Int32)), .val (.int p0)] [(.int (1 : Int32))]))
    obtain ⟨fs, hr, hrun, hended, hW, hsame⟩ := X142.leave (v := some (.int (1 : Int32))) (fun h => by rw [Bd.returns] at h; cases h)
    refine OGo.done (retN X142 hx (t := .boolean) Bd.returns (by simp) (hb hby at_128) hr) ⟨hrun, hended, _, _, rfl, ?_, ⟨_, rfl⟩, hW, hsame.mono (by decide) (by decide)⟩
    show Q9 Z p0 p1 p2 p3 p4 h0 n0 _ T142.heap _
    rw [e142]
    exact ⟨rfl, N142⟩
set_option maxRecDepth 65536 in
set_option maxHeartbeats 40000000 in
theorem comes_1 {Post : Tables → Env → Array Value → State → Outcome → State → Prop} (hpost : ∀ tb e args s v u, (limb_1_1.after args s (.returned v) u = true ∧ limb_1_2.after args s (.returned v) u = true ∧ True) → FrameEnd s (.returned v) u (Jvm.fieldLocs frame_1_writes args s ++ Jvm.arrayLocs frame_1_arrays args s ++ Jvm.staticLocs frame_1_statics s) 16 128 → Post tb e args s (.returned v) u) :
    ArmFor flags0 classFile x code maxLocals ret World_1 tables_1 room_1 Calls_1 rest_1 Pre_1 Post := by
  intro l hfl _ _ p e ha hc hk s m args below hf hA hF happ hP
  obtain ⟨hcalls, hrest, hpre⟩ := hP
  obtain ⟨-, -, -, hnamed, -, -, -, hat⟩ := (Spec.applies_iff hf).mp happ
  obtain ⟨hg, hn⟩ := and_e (Cond.before_iff.mp (show (Jvm.Cond.and given_1 narrow_1).before args s = true from hpre))
  obtain ⟨gc, gr0⟩ := and_e hg
  obtain ⟨g_0, gr1⟩ := and_e gr0
  obtain ⟨g_1, gr2⟩ := and_e gr1
  obtain ⟨g_2, gr3⟩ := and_e gr2
  obtain ⟨g_3, gr4⟩ := and_e gr3
  have g_4 := gr4
  obtain ⟨w0, w1, w2, w3, w4, rfl⟩ : ∃ w0 w1 w2 w3 w4 : Value, args = #[w0, w1, w2, w3, w4] := by
    have hs : args.size = 5 := by simpa [Cond.value, given_1] using gc
    obtain ⟨L⟩ := args
    match L, hs with
    | [w0, w1, w2, w3, w4], _ => exact ⟨w0, w1, w2, w3, w4, rfl⟩
  have hw := fun d (hd : d ∈ tables_1) => atoms_spec (ws := Jvm.Cond.code x code maxLocals ret :: tables_1) hat d (List.mem_cons_of_mem _ hd)
  have hfit : Fit s := fun {y c} hc i hi => by
    obtain ⟨ha, rfl⟩ := Array.getElem?_eq_some_iff.mp hc
    have q := List.all_eq_true.mp ((Array.all_eq_true_iff_forall_mem.mp hF) _ (Array.getElem_mem ha)) i (List.mem_range.mpr hi)
    simpa [Array.getElem?_eq_getElem hi] using q
  obtain ⟨i0, ei0⟩ := is_v g_0
  obtain rfl : w0 = (.int i0) := Option.some.inj ei0
  obtain ⟨i1, ei1⟩ := is_v g_1
  obtain rfl : w1 = (.int i1) := Option.some.inj ei1
  obtain ⟨i2, ei2⟩ := is_v g_2
  obtain rfl : w2 = (.int i2) := Option.some.inj ei2
  obtain ⟨i3, ei3⟩ := is_v g_3
  obtain rfl : w3 = (.int i3) := Option.some.inj ei3
  obtain ⟨i4, ei4⟩ := is_v g_4
  obtain rfl : w4 = (.int i4) := Option.some.inj ei4
  obtain ⟨n, o, h1, h2, h3, _, L, rfl, ⟨rfl, N⟩, hq⟩ := rm9 l s _ hw tables_1 i0 i1 i2 i3 i4 s.heap s.heap.size (Nat.le_refl _)  p e ha hc hk s m _ below hf ((Spec.applies_iff_loose hf).mp happ).1 ⟨rfl, State.Warmed39.refl s, rfl⟩ trivial
  refine ⟨n, _, h1, h2, h3, hpost _ _ _ _ _ _ ⟨Cond.after_iff.mpr rfl, Cond.after_iff.mpr (eq_i res_at (Term.int_eval (1)) rfl), trivial⟩ ⟨hq.1, hq.2.1, (hq.2.2.sift fun y hy => Or.inr (N y hy)).mono (by decide) (by decide)⟩⟩
theorem main_1_1 : Claimed_1_1 := comes_1 fun _ _ _ _ _ _ h hF => ⟨h.1, hF⟩
theorem main_1_2 : Claimed_1_2 := comes_1 fun _ _ _ _ _ _ h hF => ⟨h.2.1, hF⟩
end Jvm.Pilot.@@N@@
namespace Jvm.Pilot.@@N@@
open Jvm Jvm.ClassFile Sem Op Lib Jvm.Free Jvm.Stand Jvm.Pilot.@@N@@.Jvm.D
/-! MADE BY PROGRAM (witnessworld.py) out of the Statement's table words and the real class files: 9 classes; the members and pool entries that the words name. The judged class is class 1, her method 1. -/
namespace start1
open Jvm.ClassFile
def u (s : String) : CpInfo := .utf8 (stringToUtf16 s)
/-- a pool by its gaps: so many unusable entries, then the entry; so many at the end -/
def gap : Nat → List CpInfo → List CpInfo
  | 0, r => r
  | n + 1, r => .unusable :: gap n r
def poolList (es : List (Nat × CpInfo)) (last : Nat) : List CpInfo := es.foldr (fun e r => gap e.1 (e.2 :: r)) (gap last [])
def pool (es : List (Nat × CpInfo)) (last : Nat) : Array CpInfo := ⟨poolList es last⟩
def fileOf (pool : Array CpInfo) (this : Nat) (attrs : Array Attribute := #[]) (ms : Array MethodInfo := #[]) (fl : Nat := 33) (sup : Nat := 0) (ifs : Array Nat := #[]) (fds : Array FieldInfo := #[]) : ClassFile where
  minorVersion := 0
  majorVersion := 65
  constantPool := pool
  accessFlags := fl
  thisClass := this
  superClass := sup
  interfaces := ifs
  fields := fds
  methods := ms
  attributes := attrs
def plain (name : String) (sup : Option ClassId) : Class where
  name := name
  kind := .ordinary
  loader := none
  accessFlags := 33
  super := sup
  interfaces := #[]
  cf := none
  fields := #[]
  methods := #[]
  instanceTypes := #[]
  staticTypes := #[]
  resolved := #[]
  callSites := []
  init := .initialized
  statics := none
  mirror := none

def pool0 : Array CpInfo := pool [(5, u "<init>"), (0, u "()V"), (1, .class_ 10), (1, u "java/lang/Object")] 113

def k0c0 : Code := { maxStack := 0, maxLocals := 1, code := object_method_1_code, exceptionTable := #[], attributes := #[] }
def k0m0 : Method := { name := "<init>", desc := "()V", sig := { parameters := [], returnType := none }, accessFlags := 1, code := some k0c0 }
/-- java/lang/Object -/
def k0 : Class := { plain "java/lang/Object" none with
  accessFlags := 33
  interfaces := #[]
  cf := some (fileOf pool0 8 #[] #[{ accessFlags := 1, nameIndex := 5, descriptorIndex := 6, attributes := #[] }] 33 0 #[] #[])
  fields := #[]
  methods := #[k0m0]
  instanceTypes := #[]
  staticTypes := #[]
  resolved := Array.replicate 124 none
  statics := none }

def pool1 : Array CpInfo := pool [(2, .class_ 4), (0, .nameAndType 5 6), (0, u "java/lang/Object"), (0, u "<init>"), (0, u "()V"), (0, .class_ 8), (0, u "com/example/portcullis/portcullis/policy/Ints"), (0, .methodref 7 3), (0, .methodref 7 11), (0, .nameAndType 12 13), (0, u "add"), (0, u "(I)V"), (0, .methodref 7 15), (0, .nameAndType 16 17), (0, u "removeLast"), (0, u "()I"), (0, .methodref 7 19), (0, .nameAndType 20 17), (0, u "size"), (0, .methodref 7 22), (0, .nameAndType 23 24), (0, u "get"), (0, u "(I)I"), (0, .class_ 26), (0, u "com/example/portcullis/portcullis/policy/IntsRemoveLastPinLaw"), (2, u "law"), (0, u "(IIIII)Z")] 3

def k1m0 : Method := { name := "<init>", desc := "()V", sig := { parameters := [], returnType := none }, accessFlags := 1, code := none }
def k1c1 : Code := { maxStack := 2, maxLocals := 12, code := code, exceptionTable := #[], attributes := #[] }
def k1m1 : Method := { name := "law", desc := "(IIIII)Z", sig := { parameters := [.int, .int, .int, .int, .int], returnType := some .boolean }, accessFlags := 9, code := some k1c1 }
/-- com/example/portcullis/portcullis/policy/IntsRemoveLastPinLaw -/
def k1 : Class := { plain "com/example/portcullis/portcullis/policy/IntsRemoveLastPinLaw" (some 0) with
  accessFlags := 49
  interfaces := #[]
  cf := some (fileOf pool1 25 #[] #[{ accessFlags := 1, nameIndex := 5, descriptorIndex := 6, attributes := #[] }, { accessFlags := 9, nameIndex := 29, descriptorIndex := 30, attributes := #[] }] 49 2 #[] #[])
  fields := #[]
  methods := #[k1m0, k1m1]
  instanceTypes := #[]
  staticTypes := #[]
  resolved := Array.replicate 34 none
  statics := none }

def pool2 : Array CpInfo := pool [(1, .methodref 2 3), (0, .class_ 4), (0, .nameAndType 5 6), (0, u "java/lang/Object"), (0, u "<init>"), (0, u "()V"), (0, .fieldref 8 9), (0, .class_ 10), (0, .nameAndType 11 12), (0, u "com/example/portcullis/portcullis/policy/Ints"), (0, u "values"), (0, u "[I"), (0, .fieldref 8 14), (0, .nameAndType 15 16), (0, u "size"), (0, u "I"), (8, u "add"), (0, u "(I)V"), (1, u "get"), (0, u "(I)I"), (0, u "removeLast"), (0, u "()I")] 3

def k2c0 : Code := { maxStack := 2, maxLocals := 1, code := prog_59_method_1_code, exceptionTable := #[], attributes := #[] }
def k2m0 : Method := { name := "<init>", desc := "()V", sig := { parameters := [], returnType := none }, accessFlags := 0, code := some k2c0 }
def k2c1 : Code := { maxStack := 4, maxLocals := 2, code := prog_59_method_2_code, exceptionTable := #[], attributes := #[] }
def k2m1 : Method := { name := "add", desc := "(I)V", sig := { parameters := [.int], returnType := none }, accessFlags := 0, code := some k2c1 }
def k2c2 : Code := { maxStack := 2, maxLocals := 2, code := prog_59_method_3_code, exceptionTable := #[], attributes := #[] }
def k2m2 : Method := { name := "get", desc := "(I)I", sig := { parameters := [.int], returnType := some .int }, accessFlags := 0, code := some k2c2 }
def k2c3 : Code := { maxStack := 3, maxLocals := 1, code := prog_59_method_4_code, exceptionTable := #[], attributes := #[] }
def k2m3 : Method := { name := "removeLast", desc := "()I", sig := { parameters := [], returnType := some .int }, accessFlags := 0, code := some k2c3 }
def k2c4 : Code := { maxStack := 1, maxLocals := 1, code := prog_59_method_6_code, exceptionTable := #[], attributes := #[] }
def k2m4 : Method := { name := "size", desc := "()I", sig := { parameters := [], returnType := some .int }, accessFlags := 0, code := some k2c4 }
/-- com/example/portcullis/portcullis/policy/Ints -/
def k2 : Class := { plain "com/example/portcullis/portcullis/policy/Ints" (some 0) with
  accessFlags := 48
  interfaces := #[]
  cf := some (fileOf pool2 8 #[] #[{ accessFlags := 0, nameIndex := 5, descriptorIndex := 6, attributes := #[] }, { accessFlags := 0, nameIndex := 25, descriptorIndex := 26, attributes := #[] }, { accessFlags := 0, nameIndex := 28, descriptorIndex := 29, attributes := #[] }, { accessFlags := 0, nameIndex := 30, descriptorIndex := 31, attributes := #[] }, { accessFlags := 0, nameIndex := 15, descriptorIndex := 31, attributes := #[] }] 48 2 #[] #[{ accessFlags := 2, nameIndex := 11, descriptorIndex := 12, attributes := #[] }, { accessFlags := 2, nameIndex := 15, descriptorIndex := 16, attributes := #[] }])
  fields := #[{ name := "values", type := (.array .int), accessFlags := 2, slot := 0, constantValue := 0 }, { name := "size", type := .int, accessFlags := 2, slot := 1, constantValue := 0 }]
  methods := #[k2m0, k2m1, k2m2, k2m3, k2m4]
  instanceTypes := #[(.array .int), .int]
  staticTypes := #[]
  resolved := Array.replicate 35 none
  statics := none }

def pool3 : Array CpInfo := pool [(1, u "java/lang/Cloneable"), (0, .class_ 1), (0, u "java/lang/Object"), (0, .class_ 3)] 3

/-- java/lang/Cloneable -/
def k3 : Class := { plain "java/lang/Cloneable" (some 0) with
  accessFlags := 1537
  interfaces := #[]
  cf := some (fileOf pool3 2 #[] #[] 1537 4 #[] #[])
  fields := #[]
  methods := #[]
  instanceTypes := #[]
  staticTypes := #[]
  resolved := Array.replicate 8 none
  statics := none }

def pool4 : Array CpInfo := pool [(1, u "java/io/Serializable"), (0, .class_ 1), (0, u "java/lang/Object"), (0, .class_ 3)] 3

/-- java/io/Serializable -/
def k4 : Class := { plain "java/io/Serializable" (some 0) with
  accessFlags := 1537
  interfaces := #[]
  cf := some (fileOf pool4 2 #[] #[] 1537 4 #[] #[])
  fields := #[]
  methods := #[]
  instanceTypes := #[]
  staticTypes := #[]
  resolved := Array.replicate 8 none
  statics := none }

/-- the primitive byte -/
def k5 : Class := { plain "byte" none with kind := .primitive 'B', accessFlags := 0x411 }
/-- [B -/
def k6 : Class := { plain "[B" (some 0) with kind := .array 5 .byte, interfaces := #[3, 4], accessFlags := 1041 }

/-- the primitive int -/
def k7 : Class := { plain "int" none with kind := .primitive 'I', accessFlags := 0x411 }
/-- [I -/
def k8 : Class := { plain "[I" (some 0) with kind := .array 7 .int, interfaces := #[3, 4], accessFlags := 1041 }

def heap : Heap := #[]
def classes : Array Class := #[k0, k1, k2, k3, k4, k5, k6, k7, k8]
def interned : List (Array UInt16 × Addr) := []
def slotsUsed : Nat := 0
def theMethod : MethodId := ⟨1, 1⟩
def args0 : Array Value := #[.int 1, .int 2, .int 3, .int 4, .int 5]
def aboutOver (below : List Frame) : State where
  vm := { classes := classes, interned := interned.toArray }
  heap := heap
  slotsUsed := slotsUsed
  threads := #[{ frames := .invoking theMethod args0 :: below }]
def below0 : List Frame := [.native { method := ⟨0, 0⟩, args := #[] }]
def about1 : State := aboutOver below0
def p0 : Program := .bare "" "" ""
def e0 : Env := launch0.env 0 0 0
theorem w_frames : about1.frames = Frame.invoking theMethod args0 :: below0 := rfl
set_option maxRecDepth 65536 in
theorem w_args : argsFit about1.vm theMethod args0 = true := by decide +kernel
set_option maxRecDepth 65536 in
theorem w_heap : heapFits about1 = true := by decide +kernel
set_option maxRecDepth 65536 in
theorem w_runnable : about1.curStatus? = some .runnable := by decide +kernel
set_option maxRecDepth 65536 in
theorem w_alone : about1.alone = true := by decide +kernel
set_option maxRecDepth 65536 in
theorem w_named : about1.methodNamed? x = some theMethod := by decide +kernel
set_option maxRecDepth 65536 in
theorem w_hears : about1.hears theMethod below0 = true := by decide +kernel
set_option maxRecDepth 65536 in
theorem w_ripe : about1.ripe theMethod args0 below0 = true := by decide +kernel
theorem w_running : about1.status = .running := rfl
set_option maxRecDepth 65536 in
theorem w_room : about1.hasRoom e0.platform room_1 = true :=
  launch0.hasRoom_least _ room_1 (by decide +kernel) (by decide +kernel) (by decide +kernel) (by decide +kernel) (by decide +kernel) (by decide +kernel)
theorem allAtoms_all (ts : List Jvm.Cond) (a : Array Jvm.Value) (st : Jvm.State) : (allAtoms ts).before a st = ts.all (fun c => c.before a st) := by
  induction ts with
  | nil => rfl
  | cons c t ih =>
    show (Jvm.Cond.and c (allAtoms t)).before a st = _
    rw [Jvm.Cond.before_and, ih, List.all_cons]
def words1 : List Jvm.Cond := Jvm.Cond.code x code maxLocals ret :: tables_1
/-- a 'code' word, met by the world's own term for the bytes: nothing is compared byte by byte -/
theorem code_word {y : MethodName} {bytes : ByteArray} {mx : Nat} {rt : Option FieldType} {a : Array Value} {s : State} {m : MethodId} {meth : Method} {c : Code} (h1 : s.methodNamed? y = some m) (h2 : s.vm.method? m = some meth) (h3 : meth.code = some c) (h4 : c.code = bytes)
    (h5 : (c.maxLocals == mx && c.exceptionTable.isEmpty && decide (c.maxStack ≤ mostOperands) && decide (meth.sig.returnType = rt) && !meth.locks && decide (parseMethodDescriptor y.desc = some meth.sig)) = true) : (Jvm.Cond.code y bytes mx rt).before a s = true := by
  simp only [Bool.and_eq_true, beq_iff_eq, Bool.not_eq_true', decide_eq_true_eq] at h5
  obtain ⟨⟨⟨⟨⟨g1, g2⟩, g3⟩, g4⟩, g5⟩, g6⟩ := h5
  simp [Cond.before, Cond.holds, Cond.value, h1, h2, h3, h4, g1, g2, g3, g4, g5, g6]
def isCode : Jvm.Cond → Bool
  | .code _ _ _ _ => true
  | _ => false
theorem all_split {L : List Jvm.Cond} {P : Jvm.Cond → Bool} (h1 : L.all (fun c => isCode c || P c) = true) (h2 : ∀ c ∈ L.filter isCode, P c = true) : L.all P = true := by
  refine List.all_eq_true.mpr fun c hc => ?_
  have h := List.all_eq_true.mp h1 c hc
  rcases Bool.eq_false_or_eq_true (isCode c) with hi | hi
  · exact h2 c (List.mem_filter.mpr ⟨hc, hi⟩)
  · simpa [hi] using h
set_option maxRecDepth 65536 in
theorem w_c0 : (Jvm.Cond.code x code maxLocals ret).before args0 about1 = true := code_word (m := ⟨1, 1⟩) (meth := k1m1) (c := k1c1) (by decide +kernel) rfl rfl rfl (by decide +kernel)
set_option maxRecDepth 65536 in
theorem w_c1 : (Jvm.Cond.code ({ cls := "com/example/portcullis/portcullis/policy/Ints", name := "<init>", desc := "()V" } : Jvm.MethodName) prog_59_method_1_code (1 : Nat) (Option.none : Option Jvm.ClassFile.FieldType)).before args0 about1 = true := code_word (m := ⟨2, 0⟩) (meth := k2m0) (c := k2c0) (by decide +kernel) rfl rfl rfl (by decide +kernel)
set_option maxRecDepth 65536 in
theorem w_c2 : (Jvm.Cond.code ({ cls := "java/lang/Object", name := "<init>", desc := "()V" } : Jvm.MethodName) object_method_1_code (1 : Nat) (Option.none : Option Jvm.ClassFile.FieldType)).before args0 about1 = true := code_word (m := ⟨0, 0⟩) (meth := k0m0) (c := k0c0) (by decide +kernel) rfl rfl rfl (by decide +kernel)
set_option maxRecDepth 65536 in
theorem w_c3 : (Jvm.Cond.code ({ cls := "com/example/portcullis/portcullis/policy/Ints", name := "add", desc := "(I)V" } : Jvm.MethodName) prog_59_method_2_code (2 : Nat) (Option.none : Option Jvm.ClassFile.FieldType)).before args0 about1 = true := code_word (m := ⟨2, 1⟩) (meth := k2m1) (c := k2c1) (by decide +kernel) rfl rfl rfl (by decide +kernel)
set_option maxRecDepth 65536 in
theorem w_c4 : (Jvm.Cond.code ({ cls := "com/example/portcullis/portcullis/policy/Ints", name := "removeLast", desc := "()I" } : Jvm.MethodName) prog_59_method_4_code (1 : Nat) (Option.some Jvm.ClassFile.FieldType.int)).before args0 about1 = true := code_word (m := ⟨2, 3⟩) (meth := k2m3) (c := k2c3) (by decide +kernel) rfl rfl rfl (by decide +kernel)
set_option maxRecDepth 65536 in
theorem w_c5 : (Jvm.Cond.code ({ cls := "com/example/portcullis/portcullis/policy/Ints", name := "size", desc := "()I" } : Jvm.MethodName) prog_59_method_6_code (1 : Nat) (Option.some Jvm.ClassFile.FieldType.int)).before args0 about1 = true := code_word (m := ⟨2, 4⟩) (meth := k2m4) (c := k2c4) (by decide +kernel) rfl rfl rfl (by decide +kernel)
set_option maxRecDepth 65536 in
theorem w_c6 : (Jvm.Cond.code ({ cls := "com/example/portcullis/portcullis/policy/Ints", name := "get", desc := "(I)I" } : Jvm.MethodName) prog_59_method_3_code (2 : Nat) (Option.some Jvm.ClassFile.FieldType.int)).before args0 about1 = true := code_word (m := ⟨2, 2⟩) (meth := k2m2) (c := k2c2) (by decide +kernel) rfl rfl rfl (by decide +kernel)
def codes1 : List Jvm.Cond := [Jvm.Cond.code x code maxLocals ret, Jvm.Cond.code ({ cls := "com/example/portcullis/portcullis/policy/Ints", name := "<init>", desc := "()V" } : Jvm.MethodName) prog_59_method_1_code (1 : Nat) (Option.none : Option Jvm.ClassFile.FieldType), Jvm.Cond.code ({ cls := "java/lang/Object", name := "<init>", desc := "()V" } : Jvm.MethodName) object_method_1_code (1 : Nat) (Option.none : Option Jvm.ClassFile.FieldType), Jvm.Cond.code ({ cls := "com/example/portcullis/portcullis/policy/Ints", name := "add", desc := "(I)V" } : Jvm.MethodName) prog_59_method_2_code (2 : Nat) (Option.none : Option Jvm.ClassFile.FieldType), Jvm.Cond.code ({ cls := "com/example/portcullis/portcullis/policy/Ints", name := "removeLast", desc := "()I" } : Jvm.MethodName) prog_59_method_4_code (1 : Nat) (Option.some Jvm.ClassFile.FieldType.int), Jvm.Cond.code ({ cls := "com/example/portcullis/portcullis/policy/Ints", name := "size", desc := "()I" } : Jvm.MethodName) prog_59_method_6_code (1 : Nat) (Option.some Jvm.ClassFile.FieldType.int), Jvm.Cond.code ({ cls := "com/example/portcullis/portcullis/policy/Ints", name := "get", desc := "(I)I" } : Jvm.MethodName) prog_59_method_3_code (2 : Nat) (Option.some Jvm.ClassFile.FieldType.int)]
set_option maxRecDepth 65536 in
theorem codes_eq : words1.filter isCode = codes1 := rfl
theorem w_codes : ∀ c ∈ words1.filter isCode, c.before args0 about1 = true := by
  rw [codes_eq]
  intro c hc
  simp only [codes1, List.mem_cons, List.not_mem_nil, or_false] at hc
  rcases hc with rfl | rfl | rfl | rfl | rfl | rfl | rfl
  · exact w_c0
  · exact w_c1
  · exact w_c2
  · exact w_c3
  · exact w_c4
  · exact w_c5
  · exact w_c6
set_option maxRecDepth 65536 in
theorem w_t1 : (words1.take 24).all (fun c => isCode c || c.before args0 about1) = true := by decide +kernel
set_option maxRecDepth 65536 in
theorem w_t2 : (words1.drop 24).all (fun c => isCode c || c.before args0 about1) = true := by decide +kernel
theorem w_tables : (allAtoms (Jvm.Cond.code x code maxLocals ret :: tables_1)).before args0 about1 = true := by
  rw [allAtoms_all]
  show words1.all (fun c => c.before args0 about1) = true
  refine all_split ?_ w_codes
  rw [← List.take_append_drop 24 words1, List.all_append, w_t1, w_t2]
  rfl
set_option maxRecDepth 65536 in
theorem w_case : (Jvm.Cond.and given_1 narrow_1).before args0 about1 = true := by decide +kernel
theorem w_applies : (headSpec (Jvm.Cond.code x code maxLocals ret :: tables_1) room_1).applies x e0.platform about1 = true :=
  (Spec.applies_iff w_frames).mpr ⟨w_running, w_runnable, w_alone, w_named, w_hears, w_ripe, w_room, w_tables⟩
theorem atStart : AtStart classFile x code maxLocals ret World_1 tables_1 room_1 Calls_1 rest_1 Pre_1 launch0 p0 e0 about1 theMethod args0 below0 :=
  ⟨lists_1, trivial, launch0.admits_env _ _ _, launch0.least_env, fairChoices_fair.cas, fairChoices_fair.clock, w_frames, w_args, w_heap, w_applies, trivial, trivial, w_case⟩
end start1
theorem witness_1 : WitnessClaimed_1 := ⟨start1.p0, start1.e0, start1.about1, start1.theMethod, start1.args0, start1.below0, start1.atStart⟩
end Jvm.Pilot.@@N@@
