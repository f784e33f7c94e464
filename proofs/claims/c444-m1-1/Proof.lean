import JvmDerived
import JvmDerived.Pilot.@@N@@Statement
import JvmDerived.Pilot.@@N@@Code
set_option linter.unusedVariables false
set_option linter.unusedSimpArgs false
namespace Jvm.RoadKit
open Sem ClassFile Op Lib Jvm.Stand Jvm.Free Jvm.LawKit
section New
variable {p : Program} {l : Launch} {e : Env} {R : Room} {s : State} {m : MethodId} {args : Array Value} {below : List Frame} {meth : Method} {c : Code} {T : State} {locs : List Loc} {cells slots : Nat}
theorem retI (X : Stand p l e R s m args below meth c T locs cells slots) (hx : p.tables.exec = Jvm.exec) {pc : Nat} {Ls : Array Slot} {z : Int32} {rest : List Value} (hret : meth.sig.returnType = some .int) (hd : decode c.code pc = .ok (.ireturn, 1)) {fs : List Frame}
    (hl : ∀ (f : JFrame) (acts : List Action), f.method = m → f.locked = none → f.entered = [] → (doReturn e (T.setTop f) acts (some (.int z))).1 = T.setFrames fs) : Steps p.tables e below (T.setTop (mkF m pc Ls (.int z :: rest))) (T.setFrames fs) := by
  have hm' : T.vm.method? m = some meth := X.method'
  have hn : narrow .int (.int z) = .int z := rfl
  show Steps p.tables e below (T.setTop { method := m, pc := pc, locals := Ls, stack := _ :: rest, locked := none }) _
  jvm_step X.here [X.here.top, hx, hd, hm', hret, hn]
  first | (intro acts; rw [hl _ acts rfl rfl rfl]) | rw [hl _ _ rfl rfl rfl]
  exact Steps.refl _
theorem own_retL (X : Stand p l e R s m args below meth c T locs cells slots) (hx : p.tables.exec = Jvm.exec) {pc : Nat} {Ls : Array Slot} {z : Int64} {rest : List Value} (hret : meth.sig.returnType = some .long) (hd : decode c.code pc = .ok (.lreturn, 1)) {fs : List Frame}
    (hl : ∀ (f : JFrame) (acts : List Action), f.method = m → f.locked = none → f.entered = [] → (doReturn e (T.setTop f) acts (some (.long z))).1 = T.setFrames fs) : Steps p.tables e below (T.setTop (mkF m pc Ls (.long z :: rest))) (T.setFrames fs) := by
  have hm' : T.vm.method? m = some meth := X.method'
  have hn : narrow .long (.long z) = .long z := rfl
  show Steps p.tables e below (T.setTop { method := m, pc := pc, locals := Ls, stack := _ :: rest, locked := none }) _
  jvm_step X.here [X.here.top, hx, hd, hm', hret, hn]
  first | (intro acts; rw [hl _ acts rfl rfl rfl]) | rw [hl _ _ rfl rfl rfl]
  exact Steps.refl _
theorem own_retR (X : Stand p l e R s m args below meth c T locs cells slots) (hx : p.tables.exec = Jvm.exec) {pc : Nat} {Ls : Array Slot} {v : Value} {t : FieldType} {rest : List Value} (hret : meth.sig.returnType = some t) (ht : t.isReference = true) (hv : v.isRef = true) (hd : decode c.code pc = .ok (.areturn, 1)) {fs : List Frame}
    (hl : ∀ (f : JFrame) (acts : List Action), f.method = m → f.locked = none → f.entered = [] → (doReturn e (T.setTop f) acts (some v)).1 = T.setFrames fs) : Steps p.tables e below (T.setTop (mkF m pc Ls (v :: rest))) (T.setFrames fs) := by
  have hm' : T.vm.method? m = some meth := X.method'
  show Steps p.tables e below (T.setTop { method := m, pc := pc, locals := Ls, stack := _ :: rest, locked := none }) _
  rcases ref_cases hv with rfl | ⟨a, rfl⟩
  · jvm_step X.here [X.here.top, hx, hd, hm', hret, ht, Value.isRef]
    first | (intro acts; rw [hl _ acts rfl rfl rfl]) | rw [hl _ _ rfl rfl rfl]
    exact Steps.refl _
  · jvm_step X.here [X.here.top, hx, hd, hm', hret, ht, Value.isRef]
    first | (intro acts; rw [hl _ acts rfl rfl rfl]) | rw [hl _ _ rfl rfl rfl]
    exact Steps.refl _
end New
/-- an end that the run comes to from S, with what is said of it -/
def OGo (tb : Tables) (e : Env) (below : List Frame) (Φ : State → Outcome → Prop) (S : State) : Prop := ∃ t o, Steps tb e below S t ∧ Φ t o
section Own
variable {tb : Tables} {e : Env} {below : List Frame} {Φ : State → Outcome → Prop} {S S' t : State} {o : Outcome}
theorem OGo.start (pre : ∀ t, Steps tb e below S' t → Steps tb e below S t) (k : OGo tb e below Φ S') : ∃ t o, Steps tb e below S t ∧ Φ t o := by
  obtain ⟨t, o, h1, h2⟩ := k
  exact ⟨t, o, pre t h1, h2⟩
theorem OGo.st (h : ∀ t, Steps tb e below S' t → Steps tb e below S t) (k : OGo tb e below Φ S') : OGo tb e below Φ S := OGo.start h k
theorem OGo.tr (h : Steps tb e below S S') (k : OGo tb e below Φ S') : OGo tb e below Φ S := OGo.start (fun _ q => h.trans q) k
theorem OGo.done (h : Steps tb e below S t) (q : Φ t o) : OGo tb e below Φ S := ⟨t, o, h, q⟩
theorem OGo.join {α : Type} (P : α → Prop) (F : α → State) (h : ∀ v, P v → OGo tb e below Φ (F v)) (k : (∀ v, P v → OGo tb e below Φ (F v)) → OGo tb e below Φ S) : OGo tb e below Φ S := k h
theorem own_fld {Z : State} {h : Heap} {a : Addr} {C n d : String} {v w : Value} (F : Fld Z h a C n d v) (q : v = w) : Fld Z h a C n d w := q ▸ F
end Own
end Jvm.RoadKit
namespace Jvm.Pilot.@@N@@
open Jvm Jvm.ClassFile Sem Op Lib Jvm.Free Jvm.Stand Jvm.LawKit Jvm.RoadKit Bundle Jvm.Pilot.@@N@@.Jvm.D
def own_pz (x u : Int32) : Int32 := if (x &&& (((1 : Int32) <<< (u &&& 31)) - 1)) = 0 then 1 else 0
theorem own_and3 (x : Int32) : x &&& 3 = 0 ∨ x &&& 3 = 1 ∨ x &&& 3 = 2 ∨ x &&& 3 = 3 := by
  have h := c_mask x 3 2 (by decide) (by decide)
  have e : ((2 ^ 2 : Nat) : Int) = 4 := rfl
  rw [e] at h
  simp only [← Int32.toInt_inj]
  have e0 : (0 : Int32).toInt = 0 := rfl
  have e1 : (1 : Int32).toInt = 1 := rfl
  have e2 : (2 : Int32).toInt = 2 := rfl
  have e3 : (3 : Int32).toInt = 3 := rfl
  omega
theorem own_and7 (x : Int32) : ∃ k : Fin 8, x &&& 7 = Int32.ofNat k.1 := by
  have h := c_mask x 7 3 (by decide) (by decide)
  have e : ((2 ^ 3 : Nat) : Int) = 8 := rfl
  rw [e] at h
  refine ⟨⟨(x &&& 7).toInt.toNat, by omega⟩, ?_⟩
  apply Int32.toInt_inj.mp
  show (x &&& 7).toInt = (Int32.ofNat (x &&& 7).toInt.toNat).toInt
  rw [Int32.toInt_ofNat_of_lt (by omega)]; omega
theorem own_byte (x : Int32) : ∃ k : Fin 256, x.toInt8.toInt32 = (Int32.ofNat k.1) - 128 := by
  have h := c_i2b x
  refine ⟨⟨(x.toInt8.toInt32.toInt + 128).toNat, by omega⟩, ?_⟩
  apply Int32.toInt_inj.mp
  have e : (Int32.ofNat (x.toInt8.toInt32.toInt + 128).toNat).toInt = x.toInt8.toInt32.toInt + 128 := by
    rw [Int32.toInt_ofNat_of_lt (by omega)]; omega
  have q := c_isub (Int32.ofNat (x.toInt8.toInt32.toInt + 128).toNat) 128
  have r := rng32 (Int32.ofNat (x.toInt8.toInt32.toInt + 128).toNat - 128)
  have e2 : (128 : Int32).toInt = 128 := rfl
  rw [e, e2] at q
  show _ = (Int32.ofNat (x.toInt8.toInt32.toInt + 128).toNat - 128).toInt
  omega
def own_ex (x u : Int32) : Int32 := if (((x &&& 255).toUInt32 >>> (u &&& 31).toUInt32).toInt32 <<< (u &&& 31)) = (x &&& 255) then 1 else 0
theorem own_fin : ∀ (k : Fin 256) (u : Fin 8), own_pz (Int32.ofNat k.1 - 128) (Int32.ofNat u.1) = own_ex (Int32.ofNat k.1 - 128) (Int32.ofNat u.1) := by decide +kernel
theorem own_pe (x u : Int32) : own_pz x.toInt8.toInt32 (u &&& 7) = own_ex x.toInt8.toInt32 (u &&& 7) := by
  obtain ⟨k, hk⟩ := own_byte x
  obtain ⟨j, hj⟩ := own_and7 u
  rw [hk, hj]; exact own_fin k j
theorem own_bb (x : Int32) : x.toInt8.toInt32.toInt8.toInt32 = x.toInt8.toInt32 := by
  have h := c_i2b x
  have h2 := c_i2b x.toInt8.toInt32
  apply Int32.toInt_inj.mp
  omega
theorem d0_0 : decode prog_46_method_1_code 0 = .ok (.aload_n 0, 1) := by decide +kernel
theorem d0_1 : decode prog_46_method_1_code 1 = .ok (.invokespecial 1, 3) := by decide +kernel
theorem d0_4 : decode prog_46_method_1_code 4 = .ok (.aload_n 0, 1) := by decide +kernel
theorem d0_5 : decode prog_46_method_1_code 5 = .ok (.aload_n 1, 1) := by decide +kernel
theorem d0_6 : decode prog_46_method_1_code 6 = .ok (.putfield 7, 3) := by decide +kernel
theorem d0_9 : decode prog_46_method_1_code 9 = .ok (.aload_n 0, 1) := by decide +kernel
theorem d0_10 : decode prog_46_method_1_code 10 = .ok (.iload_n 2, 1) := by decide +kernel
theorem d0_11 : decode prog_46_method_1_code 11 = .ok (.putfield 13, 3) := by decide +kernel
theorem d0_14 : decode prog_46_method_1_code 14 = .ok (.return_, 1) := by decide +kernel
theorem pn_0 : plainName "com/example/holdfast/holdfast/resources/DerValue$BitString" = true := by first | (simp [plainName, overriddenIn]; done) | decide +kernel
theorem ef_0 (m : MethodId) (x0 : Addr) (x1 : Addr) (x2 : Int32) : entryFrame m #[(.ref x0), (.ref x1), (.int x2)] 3 = mkF m 0 #[.val (.ref x0), .val (.ref x1), .val (.int x2)] [] := by first | (simp [entryFrame, mkF, argsToLocals, Value.category]; done) | rfl
def Q0 (Z : State) (a0 : Addr) (a1 : Addr) (p2 : Int32) (h0 : Heap) (n0 : Nat) (v : Option Value) (h : Heap) (L : List Loc) : Prop := v = none ∧ Fr n0 L ∧ Keep h0 h [a0] ∧ (Fld Z h a0 "com/example/holdfast/holdfast/resources/DerValue$BitString" "octets" "[B" (.ref a1)) ∧ (Fld Z h a0 "com/example/holdfast/holdfast/resources/DerValue$BitString" "unusedBits" "I" (.int p2))
set_option maxRecDepth 65536 in
set_option maxHeartbeats 40000000 in
theorem rm0 (l : Launch) (Z : State) (ar : Array Value) (hw : ∀ d ∈ tables_1, d.before ar Z = true) (ws : List Jvm.Cond) (a0 : Addr) (a1 : Addr) (p2 : Int32) (h0 : Heap) (n0 : Nat) (Z0 : n0 ≤ h0.size) (E0 : Exa Z h0 a0 "com/example/holdfast/holdfast/resources/DerValue$BitString") (g0 : n0 ≤ a0) (F1 : Fld Z h0 a0 "com/example/holdfast/holdfast/resources/DerValue$BitString" "octets" "[B" .null) (F2 : Fld Z h0 a0 "com/example/holdfast/holdfast/resources/DerValue$BitString" "unusedBits" "I" (.int (0 : Int32))) :
    MetFree l (⟨"com/example/holdfast/holdfast/resources/DerValue$BitString", "<init>", "([BI)V"⟩ : MethodName) (head1 (Jvm.Cond.code (⟨"com/example/holdfast/holdfast/resources/DerValue$BitString", "<init>", "([BI)V"⟩ : MethodName) prog_46_method_1_code 3 none :: ws) ({ frames := 1, cells := 0, slots := 0, locals := 12 } : Room)) (fun a U => a = #[(.ref a0), (.ref a1), (.int p2)] ∧ Z.Warmed39 U.vm ∧ U.heap = h0) (fun _ _ _ _ _ => True) (fun _ U o U' => ∃ v L, o = .returned v ∧ Q0 Z a0 a1 p2 h0 n0 v U'.heap L ∧ FrameEnd U o U' L ({ frames := 1, cells := 0, slots := 0, locals := 12 } : Room).cells ({ frames := 1, cells := 0, slots := 0, locals := 12 } : Room).slots) := by
  refine MetFree.of_bodySF (plainFor_of_name pn_0) hisR ?_
  intro p e s m args below meth c s₁ Bd hml0 hP hK
  obtain ⟨rfl, hZ, hh⟩ := hP
  have hx := Bd.exec
  have hby := Bd.bytes
  have hml : c.maxLocals = 3 := hml0
  have hown : s.vm.findClass "com/example/holdfast/holdfast/resources/DerValue$BitString" = some m.cls := findClass_of_methodNamed Bd.named
  have hnm := (name_of_methodNamed Bd.named Bd.method).1
  have X0 : Stand p l e ({ frames := 1, cells := 0, slots := 0, locals := 12 } : Room) s m #[(.ref a0), (.ref a1), (.int p2)] below meth c s₁ [] 0 0 := Stand.of_body Bd
  have e0 : s₁.heap = h0 := by rw [← hh, Bd.state]; rfl
  have N0 := Fr.nil n0
  have pre0 : ∀ t, Steps p.tables e below (s₁.setTop (mkF m 0 #[.val (.ref a0), .val (.ref a1), .val (.int p2)] [])) t → Steps p.tables e below (s₁.setTop (entryFrame m #[(.ref a0), (.ref a1), (.int p2)] 3)) t := fun t k => castTop (ef_0 m a0 a1 p2) k
  refine OGo.start pre0 ?_
  show OGo p.tables e below _ (s₁.setTop (mkF m 0 #[.val (.ref a0), .val (.ref a1), .val (.int p2)] []))
  refine OGo.st (fun t k => XS.aloadN X0.here hx rfl (hb hby d0_0) rfl rfl k) ?_
  show OGo p.tables e below _ (s₁.setTop (mkF m 1 #[.val (.ref a0), .val (.ref a1), .val (.int p2)] [(.ref a0)]))
  obtain ⟨T101, X101, e101, st101⟩ := initO X0 hx hZ hown (hw _ (List.mem_of_getElem? (i := 7) rfl)) (hw _ (List.mem_of_getElem? (i := 8) rfl)) (hw _ (List.mem_of_getElem? (i := 9) rfl)) e0 (g := (mkF m 1 #[.val (.ref a0), .val (.ref a1), .val (.int p2)] [(.ref a0)])) rfl (by rw [hml]; rfl) rfl (hb hby d0_1) (by decide) (W := 0) (by show 2 * 0 + _ ≤ _; exact Nat.le_of_eq rfl) (by decide)
  refine OGo.st st101 ?_
  show OGo p.tables e below _ (T101.setTop (mkF m 4 #[.val (.ref a0), .val (.ref a1), .val (.int p2)] []))
  refine OGo.st (fun t k => XS.aloadN X101.here hx rfl (hb hby d0_4) rfl rfl k) ?_
  show OGo p.tables e below _ (T101.setTop (mkF m 5 #[.val (.ref a0), .val (.ref a1), .val (.int p2)] [(.ref a0)]))
  refine OGo.st (fun t k => XS.aloadN X101.here hx rfl (hb hby d0_5) rfl rfl k) ?_
  show OGo p.tables e below _ (T101.setTop (mkF m 6 #[.val (.ref a0), .val (.ref a1), .val (.int p2)] [(.ref a1), (.ref a0)]))
  obtain ⟨T102, h102, X102, e102, W102, st102⟩ := putF X101 hx hZ hown (host := "") (Or.inl (hw _ (List.mem_of_getElem? (i := 10) rfl))) Via.refl e101 F1 E0 (Or.inr ⟨(hw _ (List.mem_of_getElem? (i := 11) rfl)), rfl, hnm⟩) (hw _ (List.mem_of_getElem? (i := 2) rfl)) (ty := (.array .byte)) (by decide) rfl rfl (g := (mkF m 6 #[.val (.ref a0), .val (.ref a1), .val (.int p2)] [(.ref a1), (.ref a0)])) rfl rfl (hb hby d0_6)
  refine OGo.st st102 ?_
  have Fw102 : Fld Z h102 a0 "com/example/holdfast/holdfast/resources/DerValue$BitString" "octets" "[B" (.ref a1) := Fld.same W102 F1
  have N102 := Fr.snoc X102 N0 g0
  show OGo p.tables e below _ (T102.setTop (mkF m 9 #[.val (.ref a0), .val (.ref a1), .val (.int p2)] []))
  refine OGo.st (fun t k => XS.aloadN X102.here hx rfl (hb hby d0_9) rfl rfl k) ?_
  show OGo p.tables e below _ (T102.setTop (mkF m 10 #[.val (.ref a0), .val (.ref a1), .val (.int p2)] [(.ref a0)]))
  refine OGo.st (fun t k => XS.iloadN X102.here hx rfl (hb hby d0_10) rfl k) ?_
  show OGo p.tables e below _ (T102.setTop (mkF m 11 #[.val (.ref a0), .val (.ref a1), .val (.int p2)] [(.int p2), (.ref a0)]))
  have G103 : Exa Z h102 a0 "com/example/holdfast/holdfast/resources/DerValue$BitString" := (Exa.wr W102 E0)
  have G104 : Fld Z h102 a0 "com/example/holdfast/holdfast/resources/DerValue$BitString" "unusedBits" "I" (.int (0 : Int32)) := (Fld.other W102 F2 (Or.inr (slot_ne (Or.inr (hw _ (List.mem_of_getElem? (i := 13) rfl))) (Or.inr (hw _ (List.mem_of_getElem? (i := 11) rfl))) (by decide) (t := .int) (t' := (.array .byte)) (by decide) (by decide))))
  obtain ⟨T105, h105, X105, e105, W105, st105⟩ := putF X102 hx hZ hown (host := "") (Or.inl (hw _ (List.mem_of_getElem? (i := 12) rfl))) Via.refl e102 G104 G103 (Or.inr ⟨(hw _ (List.mem_of_getElem? (i := 13) rfl)), rfl, hnm⟩) (hw _ (List.mem_of_getElem? (i := 2) rfl)) (ty := .int) (by decide) rfl rfl (g := (mkF m 11 #[.val (.ref a0), .val (.ref a1), .val (.int p2)] [(.int p2), (.ref a0)])) rfl rfl (hb hby d0_11)
  refine OGo.st st105 ?_
  have Fw105 : Fld Z h105 a0 "com/example/holdfast/holdfast/resources/DerValue$BitString" "unusedBits" "I" (.int p2) := Fld.same W105 G104
  have N105 := Fr.snoc X105 N102 g0
  show OGo p.tables e below _ (T105.setTop (mkF m 14 #[.val (.ref a0), .val (.ref a1), .val (.int p2)] []))
  obtain ⟨fs, hr, hrun, hended, hW, hsame⟩ := X105.leave (v := none) (fun _ => rfl)
  have G107 : Fld Z h105 a0 "com/example/holdfast/holdfast/resources/DerValue$BitString" "octets" "[B" (.ref a1) := (Fld.other W105 Fw102 (Or.inr (slot_ne (Or.inr (hw _ (List.mem_of_getElem? (i := 11) rfl))) (Or.inr (hw _ (List.mem_of_getElem? (i := 13) rfl))) (by decide) (t := (.array .byte)) (t' := .int) (by decide) (by decide))))
  refine OGo.done (X105.returnOut hx Bd.returns (hb hby d0_14) hr) ⟨hrun, hended, _, _, rfl, ?_, ⟨_, rfl⟩, hW, hsame.mono (by decide) (by decide)⟩
  show Q0 Z a0 a1 p2 h0 n0 _ T105.heap _
  rw [e105]
  exact ⟨rfl, N105, (((Keep.refl h0 [a0]).wr W102 (Or.inl (List.mem_of_getElem? (i := 0) rfl))).wr W105 (Or.inl (List.mem_of_getElem? (i := 0) rfl))), G107, Fw105⟩
theorem d1_0 : decode prog_46_method_4_code 0 = .ok (.iconst 1, 1) := by decide +kernel
theorem d1_1 : decode prog_46_method_4_code 1 = .ok (.aload_n 0, 1) := by decide +kernel
theorem d1_2 : decode prog_46_method_4_code 2 = .ok (.getfield 13, 3) := by decide +kernel
theorem d1_5 : decode prog_46_method_4_code 5 = .ok (.ishl, 1) := by decide +kernel
theorem d1_6 : decode prog_46_method_4_code 6 = .ok (.iconst 1, 1) := by decide +kernel
theorem d1_7 : decode prog_46_method_4_code 7 = .ok (.isub, 1) := by decide +kernel
theorem d1_8 : decode prog_46_method_4_code 8 = .ok (.istore_n 1, 1) := by decide +kernel
theorem d1_9 : decode prog_46_method_4_code 9 = .ok (.aload_n 0, 1) := by decide +kernel
theorem d1_10 : decode prog_46_method_4_code 10 = .ok (.getfield 7, 3) := by decide +kernel
theorem d1_13 : decode prog_46_method_4_code 13 = .ok (.arraylength, 1) := by decide +kernel
theorem d1_14 : decode prog_46_method_4_code 14 = .ok (.ifCond .eq 20, 3) := by decide +kernel
theorem d1_34 : decode prog_46_method_4_code 34 = .ok (.iconst 1, 1) := by decide +kernel
theorem d1_35 : decode prog_46_method_4_code 35 = .ok (.goto 4, 3) := by decide +kernel
theorem d1_39 : decode prog_46_method_4_code 39 = .ok (.ireturn, 1) := by decide +kernel
theorem ef_1 (m : MethodId) (x0 : Addr) : entryFrame m #[(.ref x0)] 2 = mkF m 0 #[.val (.ref x0), .unset] [] := by first | (simp [entryFrame, mkF, argsToLocals, Value.category]; done) | rfl
def Q1 (Z : State) (a0 : Addr) (b : Addr) (k : ClassId) (u : Int32) (h0 : Heap) (n0 : Nat) (v : Option Value) (h : Heap) (L : List Loc) : Prop := v = some (.int (1 : Int32)) ∧ Fr n0 L ∧ h = h0
set_option maxRecDepth 65536 in
set_option maxHeartbeats 40000000 in
theorem rm1 (l : Launch) (Z : State) (ar : Array Value) (hw : ∀ d ∈ tables_1, d.before ar Z = true) (ws : List Jvm.Cond) (a0 : Addr) (b : Addr) (k : ClassId) (u : Int32) (h0 : Heap) (n0 : Nat) (Z0 : n0 ≤ h0.size) (F1 : Fld Z h0 a0 "com/example/holdfast/holdfast/resources/DerValue$BitString" "octets" "[B" (.ref b)) (F2 : Fld Z h0 a0 "com/example/holdfast/holdfast/resources/DerValue$BitString" "unusedBits" "I" (.int u)) (V0 : Arv Z h0 b k .byte (0 : Int32) [] (.int (0 : Int32))) :
    MetFree l (⟨"com/example/holdfast/holdfast/resources/DerValue$BitString", "paddingIsZero", "()Z"⟩ : MethodName) (head1 (Jvm.Cond.code (⟨"com/example/holdfast/holdfast/resources/DerValue$BitString", "paddingIsZero", "()Z"⟩ : MethodName) prog_46_method_4_code 2 (some .boolean) :: ws) ({ frames := 0, cells := 0, slots := 0, locals := 0 } : Room)) (fun a U => a = #[(.ref a0)] ∧ Z.Warmed39 U.vm ∧ U.heap = h0) (fun _ _ _ _ _ => True) (fun _ U o U' => ∃ v L, o = .returned v ∧ Q1 Z a0 b k u h0 n0 v U'.heap L ∧ FrameEnd U o U' L ({ frames := 0, cells := 0, slots := 0, locals := 0 } : Room).cells ({ frames := 0, cells := 0, slots := 0, locals := 0 } : Room).slots) := by
  refine MetFree.of_bodySF (plainFor_of_name pn_0) hisR ?_
  intro p e s m args below meth c s₁ Bd hml0 hP hK
  obtain ⟨rfl, hZ, hh⟩ := hP
  have hx := Bd.exec
  have hby := Bd.bytes
  have hml : c.maxLocals = 2 := hml0
  have hown : s.vm.findClass "com/example/holdfast/holdfast/resources/DerValue$BitString" = some m.cls := findClass_of_methodNamed Bd.named
  have hnm := (name_of_methodNamed Bd.named Bd.method).1
  have X0 : Stand p l e ({ frames := 0, cells := 0, slots := 0, locals := 0 } : Room) s m #[(.ref a0)] below meth c s₁ [] 0 0 := Stand.of_body Bd
  have e0 : s₁.heap = h0 := by rw [← hh, Bd.state]; rfl
  have N0 := Fr.nil n0
  have pre0 : ∀ t, Steps p.tables e below (s₁.setTop (mkF m 0 #[.val (.ref a0), .unset] [])) t → Steps p.tables e below (s₁.setTop (entryFrame m #[(.ref a0)] 2)) t := fun t k => castTop (ef_1 m a0) k
  refine OGo.start pre0 ?_
  show OGo p.tables e below _ (s₁.setTop (mkF m 0 #[.val (.ref a0), .unset] []))
  refine OGo.st (fun t k => XS.iconst X0.here hx rfl (hb hby d1_0) k) ?_
  show OGo p.tables e below _ (s₁.setTop (mkF m 1 #[.val (.ref a0), .unset] [(.int (1 : Int32))]))
  refine OGo.st (fun t k => XS.aloadN X0.here hx rfl (hb hby d1_1) rfl rfl k) ?_
  show OGo p.tables e below _ (s₁.setTop (mkF m 2 #[.val (.ref a0), .unset] [(.ref a0), (.int (1 : Int32))]))
  obtain ⟨T101, X101, e101, st101⟩ := getF X0 hx hZ hown (host := "") (Or.inl (hw _ (List.mem_of_getElem? (i := 12) rfl))) Via.refl e0 F2 (g := (mkF m 2 #[.val (.ref a0), .unset] [(.ref a0), (.int (1 : Int32))])) rfl rfl (hb hby d1_2)
  refine OGo.st st101 ?_
  show OGo p.tables e below _ (T101.setTop (mkF m 5 #[.val (.ref a0), .unset] [(.int u), (.int (1 : Int32))]))
  refine OGo.st (fun t k => XS.ishl X101.here hx rfl (hb hby d1_5) rfl k) ?_
  show OGo p.tables e below _ (T101.setTop (mkF m 6 #[.val (.ref a0), .unset] [(.int ((1 : Int32) <<< (u &&& 31)))]))
  refine OGo.st (fun t k => XS.iconst X101.here hx rfl (hb hby d1_6) k) ?_
  show OGo p.tables e below _ (T101.setTop (mkF m 7 #[.val (.ref a0), .unset] [(.int (1 : Int32)), (.int ((1 : Int32) <<< (u &&& 31)))]))
  refine OGo.st (fun t k => XS.isub X101.here hx rfl (hb hby d1_7) rfl k) ?_
  show OGo p.tables e below _ (T101.setTop (mkF m 8 #[.val (.ref a0), .unset] [(.int (((1 : Int32) <<< (u &&& 31)) - (1 : Int32)))]))
  refine OGo.st (fun t k => XS.istoreN X101.here hx rfl (hb hby d1_8) rfl (l' := #[.val (.ref a0), .val (.int (((1 : Int32) <<< (u &&& 31)) - (1 : Int32)))]) rfl k) ?_
  show OGo p.tables e below _ (T101.setTop (mkF m 9 #[.val (.ref a0), .val (.int (((1 : Int32) <<< (u &&& 31)) - (1 : Int32)))] []))
  refine OGo.st (fun t k => XS.aloadN X101.here hx rfl (hb hby d1_9) rfl rfl k) ?_
  show OGo p.tables e below _ (T101.setTop (mkF m 10 #[.val (.ref a0), .val (.int (((1 : Int32) <<< (u &&& 31)) - (1 : Int32)))] [(.ref a0)]))
  obtain ⟨T102, X102, e102, st102⟩ := getF X101 hx hZ hown (host := "") (Or.inl (hw _ (List.mem_of_getElem? (i := 10) rfl))) Via.refl e101 F1 (g := (mkF m 10 #[.val (.ref a0), .val (.int (((1 : Int32) <<< (u &&& 31)) - (1 : Int32)))] [(.ref a0)])) rfl rfl (hb hby d1_10)
  refine OGo.st st102 ?_
  show OGo p.tables e below _ (T102.setTop (mkF m 13 #[.val (.ref a0), .val (.int (((1 : Int32) <<< (u &&& 31)) - (1 : Int32)))] [(.ref b)]))
  obtain ⟨cl103, Ar103, qc103, Sz103, Nz103, Hs103, Gs103⟩ := id V0
  refine OGo.st (fun t k => X102.arraylength hx (by rw [e102]; exact Ar103.1) (State.isArrayOf_alike hZ.alike Ar103.2.1) (g := (mkF m 13 #[.val (.ref a0), .val (.int (((1 : Int32) <<< (u &&& 31)) - (1 : Int32)))] [(.ref b)])) rfl rfl (hb hby d1_13) _ k) ?_
  rw [len_of Sz103 Nz103]
  show OGo p.tables e below _ (T102.setTop (mkF m 14 #[.val (.ref a0), .val (.int (((1 : Int32) <<< (u &&& 31)) - (1 : Int32)))] [(.int (0 : Int32))]))
  refine OGo.st (fun t k => XS.ifYes X102.here hx rfl (pc0 := 14) (pc' := 34) rfl (hb hby d1_14) rfl ((if0 _ _).trans (teq (by decide : (0 : Int32) = (0 : Int32))).1) (by decide) (by decide) k) ?_
  show OGo p.tables e below _ (T102.setTop (mkF m 34 #[.val (.ref a0), .val (.int (((1 : Int32) <<< (u &&& 31)) - (1 : Int32)))] []))
  refine OGo.st (fun t k => XS.iconst X102.here hx rfl (hb hby d1_34) k) ?_
  show OGo p.tables e below _ (T102.setTop (mkF m 35 #[.val (.ref a0), .val (.int (((1 : Int32) <<< (u &&& 31)) - (1 : Int32)))] [(.int (1 : Int32))]))
  refine OGo.st (fun t k => XS.goto X102.here hx rfl (pc0 := 35) (pc' := 39) rfl (hb hby d1_35) (by decide) (by decide) k) ?_
  show OGo p.tables e below _ (T102.setTop (mkF m 39 #[.val (.ref a0), .val (.int (((1 : Int32) <<< (u &&& 31)) - (1 : Int32)))] [(.int (1 : Int32))]))
  obtain ⟨fs, hr, hrun, hended, hW, hsame⟩ := X102.leave (v := some (.int (1 : Int32))) (fun h => by rw [Bd.returns] at h; cases h)
  refine OGo.done (retN X102 hx (t := .boolean) Bd.returns (by simp) (hb hby d1_39) hr) ⟨hrun, hended, _, _, rfl, ?_, ⟨_, rfl⟩, hW, hsame.mono (by decide) (by decide)⟩
  show Q1 Z a0 b k u h0 n0 _ T102.heap _
  rw [e102]
  exact ⟨rfl, N0, rfl⟩
theorem d2_0 : decode prog_46_method_4_code 0 = .ok (.iconst 1, 1) := by decide +kernel
theorem d2_1 : decode prog_46_method_4_code 1 = .ok (.aload_n 0, 1) := by decide +kernel
theorem d2_2 : decode prog_46_method_4_code 2 = .ok (.getfield 13, 3) := by decide +kernel
theorem d2_5 : decode prog_46_method_4_code 5 = .ok (.ishl, 1) := by decide +kernel
theorem d2_6 : decode prog_46_method_4_code 6 = .ok (.iconst 1, 1) := by decide +kernel
theorem d2_7 : decode prog_46_method_4_code 7 = .ok (.isub, 1) := by decide +kernel
theorem d2_8 : decode prog_46_method_4_code 8 = .ok (.istore_n 1, 1) := by decide +kernel
theorem d2_9 : decode prog_46_method_4_code 9 = .ok (.aload_n 0, 1) := by decide +kernel
theorem d2_10 : decode prog_46_method_4_code 10 = .ok (.getfield 7, 3) := by decide +kernel
theorem d2_13 : decode prog_46_method_4_code 13 = .ok (.arraylength, 1) := by decide +kernel
theorem d2_14 : decode prog_46_method_4_code 14 = .ok (.ifCond .eq 20, 3) := by decide +kernel
theorem d2_17 : decode prog_46_method_4_code 17 = .ok (.aload_n 0, 1) := by decide +kernel
theorem d2_18 : decode prog_46_method_4_code 18 = .ok (.getfield 7, 3) := by decide +kernel
theorem d2_21 : decode prog_46_method_4_code 21 = .ok (.aload_n 0, 1) := by decide +kernel
theorem d2_22 : decode prog_46_method_4_code 22 = .ok (.getfield 7, 3) := by decide +kernel
theorem d2_25 : decode prog_46_method_4_code 25 = .ok (.arraylength, 1) := by decide +kernel
theorem d2_26 : decode prog_46_method_4_code 26 = .ok (.iconst 1, 1) := by decide +kernel
theorem d2_27 : decode prog_46_method_4_code 27 = .ok (.isub, 1) := by decide +kernel
theorem d2_28 : decode prog_46_method_4_code 28 = .ok (.baload, 1) := by decide +kernel
theorem d2_29 : decode prog_46_method_4_code 29 = .ok (.iload_n 1, 1) := by decide +kernel
theorem d2_30 : decode prog_46_method_4_code 30 = .ok (.iand, 1) := by decide +kernel
theorem d2_31 : decode prog_46_method_4_code 31 = .ok (.ifCond .ne 7, 3) := by decide +kernel
theorem d2_34 : decode prog_46_method_4_code 34 = .ok (.iconst 1, 1) := by decide +kernel
theorem d2_35 : decode prog_46_method_4_code 35 = .ok (.goto 4, 3) := by decide +kernel
theorem d2_38 : decode prog_46_method_4_code 38 = .ok (.iconst 0, 1) := by decide +kernel
theorem d2_39 : decode prog_46_method_4_code 39 = .ok (.ireturn, 1) := by decide +kernel
theorem ef_2 (m : MethodId) (x0 : Addr) : entryFrame m #[(.ref x0)] 2 = mkF m 0 #[.val (.ref x0), .unset] [] := by first | (simp [entryFrame, mkF, argsToLocals, Value.category]; done) | rfl
def Q2 (Z : State) (a0 : Addr) (b : Addr) (k : ClassId) (u : Int32) (v0 : Int32) (h0 : Heap) (n0 : Nat) (v : Option Value) (h : Heap) (L : List Loc) : Prop := v = some (.int (own_pz v0 u)) ∧ Fr n0 L ∧ h = h0
set_option maxRecDepth 65536 in
set_option maxHeartbeats 40000000 in
theorem rm2 (l : Launch) (Z : State) (ar : Array Value) (hw : ∀ d ∈ tables_1, d.before ar Z = true) (ws : List Jvm.Cond) (a0 : Addr) (b : Addr) (k : ClassId) (u : Int32) (v0 : Int32) (h0 : Heap) (n0 : Nat) (Z0 : n0 ≤ h0.size) (F1 : Fld Z h0 a0 "com/example/holdfast/holdfast/resources/DerValue$BitString" "octets" "[B" (.ref b)) (F2 : Fld Z h0 a0 "com/example/holdfast/holdfast/resources/DerValue$BitString" "unusedBits" "I" (.int u)) (V0 : Arv Z h0 b k .byte (1 : Int32) [(.int v0)] (.int (0 : Int32))) :
    MetFree l (⟨"com/example/holdfast/holdfast/resources/DerValue$BitString", "paddingIsZero", "()Z"⟩ : MethodName) (head1 (Jvm.Cond.code (⟨"com/example/holdfast/holdfast/resources/DerValue$BitString", "paddingIsZero", "()Z"⟩ : MethodName) prog_46_method_4_code 2 (some .boolean) :: ws) ({ frames := 0, cells := 0, slots := 0, locals := 0 } : Room)) (fun a U => a = #[(.ref a0)] ∧ Z.Warmed39 U.vm ∧ U.heap = h0) (fun _ _ _ _ _ => True) (fun _ U o U' => ∃ v L, o = .returned v ∧ Q2 Z a0 b k u v0 h0 n0 v U'.heap L ∧ FrameEnd U o U' L ({ frames := 0, cells := 0, slots := 0, locals := 0 } : Room).cells ({ frames := 0, cells := 0, slots := 0, locals := 0 } : Room).slots) := by
  refine MetFree.of_bodySF (plainFor_of_name pn_0) hisR ?_
  intro p e s m args below meth c s₁ Bd hml0 hP hK
  obtain ⟨rfl, hZ, hh⟩ := hP
  have hx := Bd.exec
  have hby := Bd.bytes
  have hml : c.maxLocals = 2 := hml0
  have hown : s.vm.findClass "com/example/holdfast/holdfast/resources/DerValue$BitString" = some m.cls := findClass_of_methodNamed Bd.named
  have hnm := (name_of_methodNamed Bd.named Bd.method).1
  have X0 : Stand p l e ({ frames := 0, cells := 0, slots := 0, locals := 0 } : Room) s m #[(.ref a0)] below meth c s₁ [] 0 0 := Stand.of_body Bd
  have e0 : s₁.heap = h0 := by rw [← hh, Bd.state]; rfl
  have N0 := Fr.nil n0
  have pre0 : ∀ t, Steps p.tables e below (s₁.setTop (mkF m 0 #[.val (.ref a0), .unset] [])) t → Steps p.tables e below (s₁.setTop (entryFrame m #[(.ref a0)] 2)) t := fun t k => castTop (ef_2 m a0) k
  refine OGo.start pre0 ?_
  show OGo p.tables e below _ (s₁.setTop (mkF m 0 #[.val (.ref a0), .unset] []))
  refine OGo.st (fun t k => XS.iconst X0.here hx rfl (hb hby d2_0) k) ?_
  show OGo p.tables e below _ (s₁.setTop (mkF m 1 #[.val (.ref a0), .unset] [(.int (1 : Int32))]))
  refine OGo.st (fun t k => XS.aloadN X0.here hx rfl (hb hby d2_1) rfl rfl k) ?_
  show OGo p.tables e below _ (s₁.setTop (mkF m 2 #[.val (.ref a0), .unset] [(.ref a0), (.int (1 : Int32))]))
  obtain ⟨T101, X101, e101, st101⟩ := getF X0 hx hZ hown (host := "") (Or.inl (hw _ (List.mem_of_getElem? (i := 12) rfl))) Via.refl e0 F2 (g := (mkF m 2 #[.val (.ref a0), .unset] [(.ref a0), (.int (1 : Int32))])) rfl rfl (hb hby d2_2)
  refine OGo.st st101 ?_
  show OGo p.tables e below _ (T101.setTop (mkF m 5 #[.val (.ref a0), .unset] [(.int u), (.int (1 : Int32))]))
  refine OGo.st (fun t k => XS.ishl X101.here hx rfl (hb hby d2_5) rfl k) ?_
  show OGo p.tables e below _ (T101.setTop (mkF m 6 #[.val (.ref a0), .unset] [(.int ((1 : Int32) <<< (u &&& 31)))]))
  refine OGo.st (fun t k => XS.iconst X101.here hx rfl (hb hby d2_6) k) ?_
  show OGo p.tables e below _ (T101.setTop (mkF m 7 #[.val (.ref a0), .unset] [(.int (1 : Int32)), (.int ((1 : Int32) <<< (u &&& 31)))]))
  refine OGo.st (fun t k => XS.isub X101.here hx rfl (hb hby d2_7) rfl k) ?_
  show OGo p.tables e below _ (T101.setTop (mkF m 8 #[.val (.ref a0), .unset] [(.int (((1 : Int32) <<< (u &&& 31)) - (1 : Int32)))]))
  refine OGo.st (fun t k => XS.istoreN X101.here hx rfl (hb hby d2_8) rfl (l' := #[.val (.ref a0), .val (.int (((1 : Int32) <<< (u &&& 31)) - (1 : Int32)))]) rfl k) ?_
  show OGo p.tables e below _ (T101.setTop (mkF m 9 #[.val (.ref a0), .val (.int (((1 : Int32) <<< (u &&& 31)) - (1 : Int32)))] []))
  refine OGo.st (fun t k => XS.aloadN X101.here hx rfl (hb hby d2_9) rfl rfl k) ?_
  show OGo p.tables e below _ (T101.setTop (mkF m 10 #[.val (.ref a0), .val (.int (((1 : Int32) <<< (u &&& 31)) - (1 : Int32)))] [(.ref a0)]))
  obtain ⟨T102, X102, e102, st102⟩ := getF X101 hx hZ hown (host := "") (Or.inl (hw _ (List.mem_of_getElem? (i := 10) rfl))) Via.refl e101 F1 (g := (mkF m 10 #[.val (.ref a0), .val (.int (((1 : Int32) <<< (u &&& 31)) - (1 : Int32)))] [(.ref a0)])) rfl rfl (hb hby d2_10)
  refine OGo.st st102 ?_
  show OGo p.tables e below _ (T102.setTop (mkF m 13 #[.val (.ref a0), .val (.int (((1 : Int32) <<< (u &&& 31)) - (1 : Int32)))] [(.ref b)]))
  obtain ⟨cl103, Ar103, qc103, Sz103, Nz103, Hs103, Gs103⟩ := id V0
  refine OGo.st (fun t k => X102.arraylength hx (by rw [e102]; exact Ar103.1) (State.isArrayOf_alike hZ.alike Ar103.2.1) (g := (mkF m 13 #[.val (.ref a0), .val (.int (((1 : Int32) <<< (u &&& 31)) - (1 : Int32)))] [(.ref b)])) rfl rfl (hb hby d2_13) _ k) ?_
  rw [len_of Sz103 Nz103]
  show OGo p.tables e below _ (T102.setTop (mkF m 14 #[.val (.ref a0), .val (.int (((1 : Int32) <<< (u &&& 31)) - (1 : Int32)))] [(.int (1 : Int32))]))
  refine OGo.st (fun t k => XS.ifNo X102.here hx rfl (hb hby d2_14) rfl ((if0 _ _).trans (feq (by decide : ¬ ((1 : Int32) = (0 : Int32)))).1) k) ?_
  show OGo p.tables e below _ (T102.setTop (mkF m 17 #[.val (.ref a0), .val (.int (((1 : Int32) <<< (u &&& 31)) - (1 : Int32)))] []))
  refine OGo.st (fun t k => XS.aloadN X102.here hx rfl (hb hby d2_17) rfl rfl k) ?_
  show OGo p.tables e below _ (T102.setTop (mkF m 18 #[.val (.ref a0), .val (.int (((1 : Int32) <<< (u &&& 31)) - (1 : Int32)))] [(.ref a0)]))
  obtain ⟨T104, X104, e104, st104⟩ := getF X102 hx hZ hown (host := "") (Or.inl (hw _ (List.mem_of_getElem? (i := 10) rfl))) Via.refl e102 F1 (g := (mkF m 18 #[.val (.ref a0), .val (.int (((1 : Int32) <<< (u &&& 31)) - (1 : Int32)))] [(.ref a0)])) rfl rfl (hb hby d2_18)
  refine OGo.st st104 ?_
  show OGo p.tables e below _ (T104.setTop (mkF m 21 #[.val (.ref a0), .val (.int (((1 : Int32) <<< (u &&& 31)) - (1 : Int32)))] [(.ref b)]))
  refine OGo.st (fun t k => XS.aloadN X104.here hx rfl (hb hby d2_21) rfl rfl k) ?_
  show OGo p.tables e below _ (T104.setTop (mkF m 22 #[.val (.ref a0), .val (.int (((1 : Int32) <<< (u &&& 31)) - (1 : Int32)))] [(.ref a0), (.ref b)]))
  obtain ⟨T105, X105, e105, st105⟩ := getF X104 hx hZ hown (host := "") (Or.inl (hw _ (List.mem_of_getElem? (i := 10) rfl))) Via.refl e104 F1 (g := (mkF m 22 #[.val (.ref a0), .val (.int (((1 : Int32) <<< (u &&& 31)) - (1 : Int32)))] [(.ref a0), (.ref b)])) rfl rfl (hb hby d2_22)
  refine OGo.st st105 ?_
  show OGo p.tables e below _ (T105.setTop (mkF m 25 #[.val (.ref a0), .val (.int (((1 : Int32) <<< (u &&& 31)) - (1 : Int32)))] [(.ref b), (.ref b)]))
  obtain ⟨cl106, Ar106, qc106, Sz106, Nz106, Hs106, Gs106⟩ := id V0
  refine OGo.st (fun t k => X105.arraylength hx (by rw [e105]; exact Ar106.1) (State.isArrayOf_alike hZ.alike Ar106.2.1) (g := (mkF m 25 #[.val (.ref a0), .val (.int (((1 : Int32) <<< (u &&& 31)) - (1 : Int32)))] [(.ref b), (.ref b)])) rfl rfl (hb hby d2_25) _ k) ?_
  rw [len_of Sz106 Nz106]
  show OGo p.tables e below _ (T105.setTop (mkF m 26 #[.val (.ref a0), .val (.int (((1 : Int32) <<< (u &&& 31)) - (1 : Int32)))] [(.int (1 : Int32)), (.ref b)]))
  refine OGo.st (fun t k => XS.iconst X105.here hx rfl (hb hby d2_26) k) ?_
  show OGo p.tables e below _ (T105.setTop (mkF m 27 #[.val (.ref a0), .val (.int (((1 : Int32) <<< (u &&& 31)) - (1 : Int32)))] [(.int (1 : Int32)), (.int (1 : Int32)), (.ref b)]))
  refine OGo.st (fun t k => XS.isub X105.here hx rfl (hb hby d2_27) rfl k) ?_
  show OGo p.tables e below _ (T105.setTop (mkF m 28 #[.val (.ref a0), .val (.int (((1 : Int32) <<< (u &&& 31)) - (1 : Int32)))] [(.int (0 : Int32)), (.ref b)]))
  obtain ⟨cl107, Ar107, qc107, Sz107, Nz107, Hs107, Gs107⟩ := id V0
  have hin107 : ¬ ((0 : Int32) < 0 ∨ cl107.slots.size ≤ ((0 : Int32)).toNatClampNeg) := inb_of Sz107 ⟨by decide, by decide⟩
  have hat107 : cl107.slots[((0 : Int32)).toNatClampNeg]? = some (.int v0) := Has.at Hs107 hin107 rfl
  refine OGo.st (fun t k => X105.baloadBytes hx (j := (0 : Int32)) (v := (.int v0)) (by rw [e105]; exact Ar107.1) (State.isArrayOf_alike hZ.alike Ar107.2.1) Ar107.2.2 hin107 hat107 (g := (mkF m 28 #[.val (.ref a0), .val (.int (((1 : Int32) <<< (u &&& 31)) - (1 : Int32)))] [(.int (0 : Int32)), (.ref b)])) rfl rfl (hb hby d2_28) _ k) ?_
  show OGo p.tables e below _ (T105.setTop (mkF m 29 #[.val (.ref a0), .val (.int (((1 : Int32) <<< (u &&& 31)) - (1 : Int32)))] [(.int v0)]))
  refine OGo.st (fun t k => XS.iloadN X105.here hx rfl (hb hby d2_29) rfl k) ?_
  show OGo p.tables e below _ (T105.setTop (mkF m 30 #[.val (.ref a0), .val (.int (((1 : Int32) <<< (u &&& 31)) - (1 : Int32)))] [(.int (((1 : Int32) <<< (u &&& 31)) - (1 : Int32))), (.int v0)]))
  refine OGo.st (fun t k => XS.iand X105.here hx rfl (hb hby d2_30) rfl k) ?_
  show OGo p.tables e below _ (T105.setTop (mkF m 31 #[.val (.ref a0), .val (.int (((1 : Int32) <<< (u &&& 31)) - (1 : Int32)))] [(.int (v0 &&& (((1 : Int32) <<< (u &&& 31)) - (1 : Int32))))]))
  by_cases hc31_108 : (v0 &&& (((1 : Int32) <<< (u &&& 31)) - (1 : Int32))) = (0 : Int32)
  ·
    refine OGo.st (fun t k => XS.ifNo X105.here hx rfl (hb hby d2_31) rfl ((if0 _ _).trans (teq hc31_108).2) k) ?_
    show OGo p.tables e below _ (T105.setTop (mkF m 34 #[.val (.ref a0), .val (.int (((1 : Int32) <<< (u &&& 31)) - (1 : Int32)))] []))
    refine OGo.st (fun t k => XS.iconst X105.here hx rfl (hb hby d2_34) k) ?_
    show OGo p.tables e below _ (T105.setTop (mkF m 35 #[.val (.ref a0), .val (.int (((1 : Int32) <<< (u &&& 31)) - (1 : Int32)))] [(.int (1 : Int32))]))
    refine OGo.st (fun t k => XS.goto X105.here hx rfl (pc0 := 35) (pc' := 39) rfl (hb hby d2_35) (by decide) (by decide) k) ?_
    show OGo p.tables e below _ (T105.setTop (mkF m 39 #[.val (.ref a0), .val (.int (((1 : Int32) <<< (u &&& 31)) - (1 : Int32)))] [(.int (1 : Int32))]))
    obtain ⟨fs, hr, hrun, hended, hW, hsame⟩ := X105.leave (v := some (.int (1 : Int32))) (fun h => by rw [Bd.returns] at h; cases h)
    refine OGo.done (retN X105 hx (t := .boolean) Bd.returns (by simp) (hb hby d2_39) hr) ⟨hrun, hended, _, _, rfl, ?_, ⟨_, rfl⟩, hW, hsame.mono (by decide) (by decide)⟩
    show Q2 Z a0 b k u v0 h0 n0 _ T105.heap _
    rw [e105]
    exact ⟨(congrArg (fun z => some (Value.int z)) (show (1 : Int32) = (own_pz v0 u) from by rw [own_pz, if_pos hc31_108])), N0, rfl⟩
  ·
    refine OGo.st (fun t k => XS.ifYes X105.here hx rfl (pc0 := 31) (pc' := 38) rfl (hb hby d2_31) rfl ((if0 _ _).trans (feq hc31_108).2) (by decide) (by decide) k) ?_
    show OGo p.tables e below _ (T105.setTop (mkF m 38 #[.val (.ref a0), .val (.int (((1 : Int32) <<< (u &&& 31)) - (1 : Int32)))] []))
    refine OGo.st (fun t k => XS.iconst X105.here hx rfl (hb hby d2_38) k) ?_
    show OGo p.tables e below _ (T105.setTop (mkF m 39 #[.val (.ref a0), .val (.int (((1 : Int32) <<< (u &&& 31)) - (1 : Int32)))] [(.int (0 : Int32))]))
    obtain ⟨fs, hr, hrun, hended, hW, hsame⟩ := X105.leave (v := some (.int (0 : Int32))) (fun h => by rw [Bd.returns] at h; cases h)
    refine OGo.done (retN X105 hx (t := .boolean) Bd.returns (by simp) (hb hby d2_39) hr) ⟨hrun, hended, _, _, rfl, ?_, ⟨_, rfl⟩, hW, hsame.mono (by decide) (by decide)⟩
    show Q2 Z a0 b k u v0 h0 n0 _ T105.heap _
    rw [e105]
    exact ⟨(congrArg (fun z => some (Value.int z)) (show (0 : Int32) = (own_pz v0 u) from by rw [own_pz, if_neg hc31_108])), N0, rfl⟩
theorem d3_0 : decode prog_46_method_4_code 0 = .ok (.iconst 1, 1) := by decide +kernel
theorem d3_1 : decode prog_46_method_4_code 1 = .ok (.aload_n 0, 1) := by decide +kernel
theorem d3_2 : decode prog_46_method_4_code 2 = .ok (.getfield 13, 3) := by decide +kernel
theorem d3_5 : decode prog_46_method_4_code 5 = .ok (.ishl, 1) := by decide +kernel
theorem d3_6 : decode prog_46_method_4_code 6 = .ok (.iconst 1, 1) := by decide +kernel
theorem d3_7 : decode prog_46_method_4_code 7 = .ok (.isub, 1) := by decide +kernel
theorem d3_8 : decode prog_46_method_4_code 8 = .ok (.istore_n 1, 1) := by decide +kernel
theorem d3_9 : decode prog_46_method_4_code 9 = .ok (.aload_n 0, 1) := by decide +kernel
theorem d3_10 : decode prog_46_method_4_code 10 = .ok (.getfield 7, 3) := by decide +kernel
theorem d3_13 : decode prog_46_method_4_code 13 = .ok (.arraylength, 1) := by decide +kernel
theorem d3_14 : decode prog_46_method_4_code 14 = .ok (.ifCond .eq 20, 3) := by decide +kernel
theorem d3_17 : decode prog_46_method_4_code 17 = .ok (.aload_n 0, 1) := by decide +kernel
theorem d3_18 : decode prog_46_method_4_code 18 = .ok (.getfield 7, 3) := by decide +kernel
theorem d3_21 : decode prog_46_method_4_code 21 = .ok (.aload_n 0, 1) := by decide +kernel
theorem d3_22 : decode prog_46_method_4_code 22 = .ok (.getfield 7, 3) := by decide +kernel
theorem d3_25 : decode prog_46_method_4_code 25 = .ok (.arraylength, 1) := by decide +kernel
theorem d3_26 : decode prog_46_method_4_code 26 = .ok (.iconst 1, 1) := by decide +kernel
theorem d3_27 : decode prog_46_method_4_code 27 = .ok (.isub, 1) := by decide +kernel
theorem d3_28 : decode prog_46_method_4_code 28 = .ok (.baload, 1) := by decide +kernel
theorem d3_29 : decode prog_46_method_4_code 29 = .ok (.iload_n 1, 1) := by decide +kernel
theorem d3_30 : decode prog_46_method_4_code 30 = .ok (.iand, 1) := by decide +kernel
theorem d3_31 : decode prog_46_method_4_code 31 = .ok (.ifCond .ne 7, 3) := by decide +kernel
theorem d3_34 : decode prog_46_method_4_code 34 = .ok (.iconst 1, 1) := by decide +kernel
theorem d3_35 : decode prog_46_method_4_code 35 = .ok (.goto 4, 3) := by decide +kernel
theorem d3_38 : decode prog_46_method_4_code 38 = .ok (.iconst 0, 1) := by decide +kernel
theorem d3_39 : decode prog_46_method_4_code 39 = .ok (.ireturn, 1) := by decide +kernel
theorem ef_3 (m : MethodId) (x0 : Addr) : entryFrame m #[(.ref x0)] 2 = mkF m 0 #[.val (.ref x0), .unset] [] := by first | (simp [entryFrame, mkF, argsToLocals, Value.category]; done) | rfl
def Q3 (Z : State) (a0 : Addr) (b : Addr) (k : ClassId) (u : Int32) (v0 : Int32) (v1 : Int32) (h0 : Heap) (n0 : Nat) (v : Option Value) (h : Heap) (L : List Loc) : Prop := v = some (.int (own_pz v1 u)) ∧ Fr n0 L ∧ h = h0
set_option maxRecDepth 65536 in
set_option maxHeartbeats 40000000 in
theorem rm3 (l : Launch) (Z : State) (ar : Array Value) (hw : ∀ d ∈ tables_1, d.before ar Z = true) (ws : List Jvm.Cond) (a0 : Addr) (b : Addr) (k : ClassId) (u : Int32) (v0 : Int32) (v1 : Int32) (h0 : Heap) (n0 : Nat) (Z0 : n0 ≤ h0.size) (F1 : Fld Z h0 a0 "com/example/holdfast/holdfast/resources/DerValue$BitString" "octets" "[B" (.ref b)) (F2 : Fld Z h0 a0 "com/example/holdfast/holdfast/resources/DerValue$BitString" "unusedBits" "I" (.int u)) (V0 : Arv Z h0 b k .byte (2 : Int32) [(.int v0), (.int v1)] (.int (0 : Int32))) :
    MetFree l (⟨"com/example/holdfast/holdfast/resources/DerValue$BitString", "paddingIsZero", "()Z"⟩ : MethodName) (head1 (Jvm.Cond.code (⟨"com/example/holdfast/holdfast/resources/DerValue$BitString", "paddingIsZero", "()Z"⟩ : MethodName) prog_46_method_4_code 2 (some .boolean) :: ws) ({ frames := 0, cells := 0, slots := 0, locals := 0 } : Room)) (fun a U => a = #[(.ref a0)] ∧ Z.Warmed39 U.vm ∧ U.heap = h0) (fun _ _ _ _ _ => True) (fun _ U o U' => ∃ v L, o = .returned v ∧ Q3 Z a0 b k u v0 v1 h0 n0 v U'.heap L ∧ FrameEnd U o U' L ({ frames := 0, cells := 0, slots := 0, locals := 0 } : Room).cells ({ frames := 0, cells := 0, slots := 0, locals := 0 } : Room).slots) := by
  refine MetFree.of_bodySF (plainFor_of_name pn_0) hisR ?_
  intro p e s m args below meth c s₁ Bd hml0 hP hK
  obtain ⟨rfl, hZ, hh⟩ := hP
  have hx := Bd.exec
  have hby := Bd.bytes
  have hml : c.maxLocals = 2 := hml0
  have hown : s.vm.findClass "com/example/holdfast/holdfast/resources/DerValue$BitString" = some m.cls := findClass_of_methodNamed Bd.named
  have hnm := (name_of_methodNamed Bd.named Bd.method).1
  have X0 : Stand p l e ({ frames := 0, cells := 0, slots := 0, locals := 0 } : Room) s m #[(.ref a0)] below meth c s₁ [] 0 0 := Stand.of_body Bd
  have e0 : s₁.heap = h0 := by rw [← hh, Bd.state]; rfl
  have N0 := Fr.nil n0
  have pre0 : ∀ t, Steps p.tables e below (s₁.setTop (mkF m 0 #[.val (.ref a0), .unset] [])) t → Steps p.tables e below (s₁.setTop (entryFrame m #[(.ref a0)] 2)) t := fun t k => castTop (ef_3 m a0) k
  refine OGo.start pre0 ?_
  show OGo p.tables e below _ (s₁.setTop (mkF m 0 #[.val (.ref a0), .unset] []))
  refine OGo.st (fun t k => XS.iconst X0.here hx rfl (hb hby d3_0) k) ?_
  show OGo p.tables e below _ (s₁.setTop (mkF m 1 #[.val (.ref a0), .unset] [(.int (1 : Int32))]))
  refine OGo.st (fun t k => XS.aloadN X0.here hx rfl (hb hby d3_1) rfl rfl k) ?_
  show OGo p.tables e below _ (s₁.setTop (mkF m 2 #[.val (.ref a0), .unset] [(.ref a0), (.int (1 : Int32))]))
  obtain ⟨T101, X101, e101, st101⟩ := getF X0 hx hZ hown (host := "") (Or.inl (hw _ (List.mem_of_getElem? (i := 12) rfl))) Via.refl e0 F2 (g := (mkF m 2 #[.val (.ref a0), .unset] [(.ref a0), (.int (1 : Int32))])) rfl rfl (hb hby d3_2)
  refine OGo.st st101 ?_
  show OGo p.tables e below _ (T101.setTop (mkF m 5 #[.val (.ref a0), .unset] [(.int u), (.int (1 : Int32))]))
  refine OGo.st (fun t k => XS.ishl X101.here hx rfl (hb hby d3_5) rfl k) ?_
  show OGo p.tables e below _ (T101.setTop (mkF m 6 #[.val (.ref a0), .unset] [(.int ((1 : Int32) <<< (u &&& 31)))]))
  refine OGo.st (fun t k => XS.iconst X101.here hx rfl (hb hby d3_6) k) ?_
  show OGo p.tables e below _ (T101.setTop (mkF m 7 #[.val (.ref a0), .unset] [(.int (1 : Int32)), (.int ((1 : Int32) <<< (u &&& 31)))]))
  refine OGo.st (fun t k => XS.isub X101.here hx rfl (hb hby d3_7) rfl k) ?_
  show OGo p.tables e below _ (T101.setTop (mkF m 8 #[.val (.ref a0), .unset] [(.int (((1 : Int32) <<< (u &&& 31)) - (1 : Int32)))]))
  refine OGo.st (fun t k => XS.istoreN X101.here hx rfl (hb hby d3_8) rfl (l' := #[.val (.ref a0), .val (.int (((1 : Int32) <<< (u &&& 31)) - (1 : Int32)))]) rfl k) ?_
  show OGo p.tables e below _ (T101.setTop (mkF m 9 #[.val (.ref a0), .val (.int (((1 : Int32) <<< (u &&& 31)) - (1 : Int32)))] []))
  refine OGo.st (fun t k => XS.aloadN X101.here hx rfl (hb hby d3_9) rfl rfl k) ?_
  show OGo p.tables e below _ (T101.setTop (mkF m 10 #[.val (.ref a0), .val (.int (((1 : Int32) <<< (u &&& 31)) - (1 : Int32)))] [(.ref a0)]))
  obtain ⟨T102, X102, e102, st102⟩ := getF X101 hx hZ hown (host := "") (Or.inl (hw _ (List.mem_of_getElem? (i := 10) rfl))) Via.refl e101 F1 (g := (mkF m 10 #[.val (.ref a0), .val (.int (((1 : Int32) <<< (u &&& 31)) - (1 : Int32)))] [(.ref a0)])) rfl rfl (hb hby d3_10)
  refine OGo.st st102 ?_
  show OGo p.tables e below _ (T102.setTop (mkF m 13 #[.val (.ref a0), .val (.int (((1 : Int32) <<< (u &&& 31)) - (1 : Int32)))] [(.ref b)]))
  obtain ⟨cl103, Ar103, qc103, Sz103, Nz103, Hs103, Gs103⟩ := id V0
  refine OGo.st (fun t k => X102.arraylength hx (by rw [e102]; exact Ar103.1) (State.isArrayOf_alike hZ.alike Ar103.2.1) (g := (mkF m 13 #[.val (.ref a0), .val (.int (((1 : Int32) <<< (u &&& 31)) - (1 : Int32)))] [(.ref b)])) rfl rfl (hb hby d3_13) _ k) ?_
  rw [len_of Sz103 Nz103]
  show OGo p.tables e below _ (T102.setTop (mkF m 14 #[.val (.ref a0), .val (.int (((1 : Int32) <<< (u &&& 31)) - (1 : Int32)))] [(.int (2 : Int32))]))
  refine OGo.st (fun t k => XS.ifNo X102.here hx rfl (hb hby d3_14) rfl ((if0 _ _).trans (feq (by decide : ¬ ((2 : Int32) = (0 : Int32)))).1) k) ?_
  show OGo p.tables e below _ (T102.setTop (mkF m 17 #[.val (.ref a0), .val (.int (((1 : Int32) <<< (u &&& 31)) - (1 : Int32)))] []))
  refine OGo.st (fun t k => XS.aloadN X102.here hx rfl (hb hby d3_17) rfl rfl k) ?_
  show OGo p.tables e below _ (T102.setTop (mkF m 18 #[.val (.ref a0), .val (.int (((1 : Int32) <<< (u &&& 31)) - (1 : Int32)))] [(.ref a0)]))
  obtain ⟨T104, X104, e104, st104⟩ := getF X102 hx hZ hown (host := "") (Or.inl (hw _ (List.mem_of_getElem? (i := 10) rfl))) Via.refl e102 F1 (g := (mkF m 18 #[.val (.ref a0), .val (.int (((1 : Int32) <<< (u &&& 31)) - (1 : Int32)))] [(.ref a0)])) rfl rfl (hb hby d3_18)
  refine OGo.st st104 ?_
  show OGo p.tables e below _ (T104.setTop (mkF m 21 #[.val (.ref a0), .val (.int (((1 : Int32) <<< (u &&& 31)) - (1 : Int32)))] [(.ref b)]))
  refine OGo.st (fun t k => XS.aloadN X104.here hx rfl (hb hby d3_21) rfl rfl k) ?_
  show OGo p.tables e below _ (T104.setTop (mkF m 22 #[.val (.ref a0), .val (.int (((1 : Int32) <<< (u &&& 31)) - (1 : Int32)))] [(.ref a0), (.ref b)]))
  obtain ⟨T105, X105, e105, st105⟩ := getF X104 hx hZ hown (host := "") (Or.inl (hw _ (List.mem_of_getElem? (i := 10) rfl))) Via.refl e104 F1 (g := (mkF m 22 #[.val (.ref a0), .val (.int (((1 : Int32) <<< (u &&& 31)) - (1 : Int32)))] [(.ref a0), (.ref b)])) rfl rfl (hb hby d3_22)
  refine OGo.st st105 ?_
  show OGo p.tables e below _ (T105.setTop (mkF m 25 #[.val (.ref a0), .val (.int (((1 : Int32) <<< (u &&& 31)) - (1 : Int32)))] [(.ref b), (.ref b)]))
  obtain ⟨cl106, Ar106, qc106, Sz106, Nz106, Hs106, Gs106⟩ := id V0
  refine OGo.st (fun t k => X105.arraylength hx (by rw [e105]; exact Ar106.1) (State.isArrayOf_alike hZ.alike Ar106.2.1) (g := (mkF m 25 #[.val (.ref a0), .val (.int (((1 : Int32) <<< (u &&& 31)) - (1 : Int32)))] [(.ref b), (.ref b)])) rfl rfl (hb hby d3_25) _ k) ?_
  rw [len_of Sz106 Nz106]
  show OGo p.tables e below _ (T105.setTop (mkF m 26 #[.val (.ref a0), .val (.int (((1 : Int32) <<< (u &&& 31)) - (1 : Int32)))] [(.int (2 : Int32)), (.ref b)]))
  refine OGo.st (fun t k => XS.iconst X105.here hx rfl (hb hby d3_26) k) ?_
  show OGo p.tables e below _ (T105.setTop (mkF m 27 #[.val (.ref a0), .val (.int (((1 : Int32) <<< (u &&& 31)) - (1 : Int32)))] [(.int (1 : Int32)), (.int (2 : Int32)), (.ref b)]))
  refine OGo.st (fun t k => XS.isub X105.here hx rfl (hb hby d3_27) rfl k) ?_
  show OGo p.tables e below _ (T105.setTop (mkF m 28 #[.val (.ref a0), .val (.int (((1 : Int32) <<< (u &&& 31)) - (1 : Int32)))] [(.int (1 : Int32)), (.ref b)]))
  obtain ⟨cl107, Ar107, qc107, Sz107, Nz107, Hs107, Gs107⟩ := id V0
  have hin107 : ¬ ((1 : Int32) < 0 ∨ cl107.slots.size ≤ ((1 : Int32)).toNatClampNeg) := inb_of Sz107 ⟨by decide, by decide⟩
  have hat107 : cl107.slots[((1 : Int32)).toNatClampNeg]? = some (.int v1) := Has.at Hs107 hin107 rfl
  refine OGo.st (fun t k => X105.baloadBytes hx (j := (1 : Int32)) (v := (.int v1)) (by rw [e105]; exact Ar107.1) (State.isArrayOf_alike hZ.alike Ar107.2.1) Ar107.2.2 hin107 hat107 (g := (mkF m 28 #[.val (.ref a0), .val (.int (((1 : Int32) <<< (u &&& 31)) - (1 : Int32)))] [(.int (1 : Int32)), (.ref b)])) rfl rfl (hb hby d3_28) _ k) ?_
  show OGo p.tables e below _ (T105.setTop (mkF m 29 #[.val (.ref a0), .val (.int (((1 : Int32) <<< (u &&& 31)) - (1 : Int32)))] [(.int v1)]))
  refine OGo.st (fun t k => XS.iloadN X105.here hx rfl (hb hby d3_29) rfl k) ?_
  show OGo p.tables e below _ (T105.setTop (mkF m 30 #[.val (.ref a0), .val (.int (((1 : Int32) <<< (u &&& 31)) - (1 : Int32)))] [(.int (((1 : Int32) <<< (u &&& 31)) - (1 : Int32))), (.int v1)]))
  refine OGo.st (fun t k => XS.iand X105.here hx rfl (hb hby d3_30) rfl k) ?_
  show OGo p.tables e below _ (T105.setTop (mkF m 31 #[.val (.ref a0), .val (.int (((1 : Int32) <<< (u &&& 31)) - (1 : Int32)))] [(.int (v1 &&& (((1 : Int32) <<< (u &&& 31)) - (1 : Int32))))]))
  by_cases hc31_108 : (v1 &&& (((1 : Int32) <<< (u &&& 31)) - (1 : Int32))) = (0 : Int32)
  ·
    refine OGo.st (fun t k => XS.ifNo X105.here hx rfl (hb hby d3_31) rfl ((if0 _ _).trans (teq hc31_108).2) k) ?_
    show OGo p.tables e below _ (T105.setTop (mkF m 34 #[.val (.ref a0), .val (.int (((1 : Int32) <<< (u &&& 31)) - (1 : Int32)))] []))
    refine OGo.st (fun t k => XS.iconst X105.here hx rfl (hb hby d3_34) k) ?_
    show OGo p.tables e below _ (T105.setTop (mkF m 35 #[.val (.ref a0), .val (.int (((1 : Int32) <<< (u &&& 31)) - (1 : Int32)))] [(.int (1 : Int32))]))
    refine OGo.st (fun t k => XS.goto X105.here hx rfl (pc0 := 35) (pc' := 39) rfl (hb hby d3_35) (by decide) (by decide) k) ?_
    show OGo p.tables e below _ (T105.setTop (mkF m 39 #[.val (.ref a0), .val (.int (((1 : Int32) <<< (u &&& 31)) - (1 : Int32)))] [(.int (1 : Int32))]))
    obtain ⟨fs, hr, hrun, hended, hW, hsame⟩ := X105.leave (v := some (.int (1 : Int32))) (fun h => by rw [Bd.returns] at h; cases h)
    refine OGo.done (retN X105 hx (t := .boolean) Bd.returns (by simp) (hb hby d3_39) hr) ⟨hrun, hended, _, _, rfl, ?_, ⟨_, rfl⟩, hW, hsame.mono (by decide) (by decide)⟩
    show Q3 Z a0 b k u v0 v1 h0 n0 _ T105.heap _
    rw [e105]
    exact ⟨(congrArg (fun z => some (Value.int z)) (show (1 : Int32) = (own_pz v1 u) from by rw [own_pz, if_pos hc31_108])), N0, rfl⟩
  ·
    refine OGo.st (fun t k => XS.ifYes X105.here hx rfl (pc0 := 31) (pc' := 38) rfl (hb hby d3_31) rfl ((if0 _ _).trans (feq hc31_108).2) (by decide) (by decide) k) ?_
    show OGo p.tables e below _ (T105.setTop (mkF m 38 #[.val (.ref a0), .val (.int (((1 : Int32) <<< (u &&& 31)) - (1 : Int32)))] []))
    refine OGo.st (fun t k => XS.iconst X105.here hx rfl (hb hby d3_38) k) ?_
    show OGo p.tables e below _ (T105.setTop (mkF m 39 #[.val (.ref a0), .val (.int (((1 : Int32) <<< (u &&& 31)) - (1 : Int32)))] [(.int (0 : Int32))]))
    obtain ⟨fs, hr, hrun, hended, hW, hsame⟩ := X105.leave (v := some (.int (0 : Int32))) (fun h => by rw [Bd.returns] at h; cases h)
    refine OGo.done (retN X105 hx (t := .boolean) Bd.returns (by simp) (hb hby d3_39) hr) ⟨hrun, hended, _, _, rfl, ?_, ⟨_, rfl⟩, hW, hsame.mono (by decide) (by decide)⟩
    show Q3 Z a0 b k u v0 v1 h0 n0 _ T105.heap _
    rw [e105]
    exact ⟨(congrArg (fun z => some (Value.int z)) (show (0 : Int32) = (own_pz v1 u) from by rw [own_pz, if_neg hc31_108])), N0, rfl⟩
theorem d4_0 : decode prog_46_method_4_code 0 = .ok (.iconst 1, 1) := by decide +kernel
theorem d4_1 : decode prog_46_method_4_code 1 = .ok (.aload_n 0, 1) := by decide +kernel
theorem d4_2 : decode prog_46_method_4_code 2 = .ok (.getfield 13, 3) := by decide +kernel
theorem d4_5 : decode prog_46_method_4_code 5 = .ok (.ishl, 1) := by decide +kernel
theorem d4_6 : decode prog_46_method_4_code 6 = .ok (.iconst 1, 1) := by decide +kernel
theorem d4_7 : decode prog_46_method_4_code 7 = .ok (.isub, 1) := by decide +kernel
theorem d4_8 : decode prog_46_method_4_code 8 = .ok (.istore_n 1, 1) := by decide +kernel
theorem d4_9 : decode prog_46_method_4_code 9 = .ok (.aload_n 0, 1) := by decide +kernel
theorem d4_10 : decode prog_46_method_4_code 10 = .ok (.getfield 7, 3) := by decide +kernel
theorem d4_13 : decode prog_46_method_4_code 13 = .ok (.arraylength, 1) := by decide +kernel
theorem d4_14 : decode prog_46_method_4_code 14 = .ok (.ifCond .eq 20, 3) := by decide +kernel
theorem d4_17 : decode prog_46_method_4_code 17 = .ok (.aload_n 0, 1) := by decide +kernel
theorem d4_18 : decode prog_46_method_4_code 18 = .ok (.getfield 7, 3) := by decide +kernel
theorem d4_21 : decode prog_46_method_4_code 21 = .ok (.aload_n 0, 1) := by decide +kernel
theorem d4_22 : decode prog_46_method_4_code 22 = .ok (.getfield 7, 3) := by decide +kernel
theorem d4_25 : decode prog_46_method_4_code 25 = .ok (.arraylength, 1) := by decide +kernel
theorem d4_26 : decode prog_46_method_4_code 26 = .ok (.iconst 1, 1) := by decide +kernel
theorem d4_27 : decode prog_46_method_4_code 27 = .ok (.isub, 1) := by decide +kernel
theorem d4_28 : decode prog_46_method_4_code 28 = .ok (.baload, 1) := by decide +kernel
theorem d4_29 : decode prog_46_method_4_code 29 = .ok (.iload_n 1, 1) := by decide +kernel
theorem d4_30 : decode prog_46_method_4_code 30 = .ok (.iand, 1) := by decide +kernel
theorem d4_31 : decode prog_46_method_4_code 31 = .ok (.ifCond .ne 7, 3) := by decide +kernel
theorem d4_34 : decode prog_46_method_4_code 34 = .ok (.iconst 1, 1) := by decide +kernel
theorem d4_35 : decode prog_46_method_4_code 35 = .ok (.goto 4, 3) := by decide +kernel
theorem d4_38 : decode prog_46_method_4_code 38 = .ok (.iconst 0, 1) := by decide +kernel
theorem d4_39 : decode prog_46_method_4_code 39 = .ok (.ireturn, 1) := by decide +kernel
theorem ef_4 (m : MethodId) (x0 : Addr) : entryFrame m #[(.ref x0)] 2 = mkF m 0 #[.val (.ref x0), .unset] [] := by first | (simp [entryFrame, mkF, argsToLocals, Value.category]; done) | rfl
def Q4 (Z : State) (a0 : Addr) (b : Addr) (k : ClassId) (u : Int32) (v0 : Int32) (v1 : Int32) (v2 : Int32) (h0 : Heap) (n0 : Nat) (v : Option Value) (h : Heap) (L : List Loc) : Prop := v = some (.int (own_pz v2 u)) ∧ Fr n0 L ∧ h = h0
set_option maxRecDepth 65536 in
set_option maxHeartbeats 40000000 in
theorem rm4 (l : Launch) (Z : State) (ar : Array Value) (hw : ∀ d ∈ tables_1, d.before ar Z = true) (ws : List Jvm.Cond) (a0 : Addr) (b : Addr) (k : ClassId) (u : Int32) (v0 : Int32) (v1 : Int32) (v2 : Int32) (h0 : Heap) (n0 : Nat) (Z0 : n0 ≤ h0.size) (F1 : Fld Z h0 a0 "com/example/holdfast/holdfast/resources/DerValue$BitString" "octets" "[B" (.ref b)) (F2 : Fld Z h0 a0 "com/example/holdfast/holdfast/resources/DerValue$BitString" "unusedBits" "I" (.int u)) (V0 : Arv Z h0 b k .byte (3 : Int32) [(.int v0), (.int v1), (.int v2)] (.int (0 : Int32))) :
    MetFree l (⟨"com/example/holdfast/holdfast/resources/DerValue$BitString", "paddingIsZero", "()Z"⟩ : MethodName) (head1 (Jvm.Cond.code (⟨"com/example/holdfast/holdfast/resources/DerValue$BitString", "paddingIsZero", "()Z"⟩ : MethodName) prog_46_method_4_code 2 (some .boolean) :: ws) ({ frames := 0, cells := 0, slots := 0, locals := 0 } : Room)) (fun a U => a = #[(.ref a0)] ∧ Z.Warmed39 U.vm ∧ U.heap = h0) (fun _ _ _ _ _ => True) (fun _ U o U' => ∃ v L, o = .returned v ∧ Q4 Z a0 b k u v0 v1 v2 h0 n0 v U'.heap L ∧ FrameEnd U o U' L ({ frames := 0, cells := 0, slots := 0, locals := 0 } : Room).cells ({ frames := 0, cells := 0, slots := 0, locals := 0 } : Room).slots) := by
  refine MetFree.of_bodySF (plainFor_of_name pn_0) hisR ?_
  intro p e s m args below meth c s₁ Bd hml0 hP hK
  obtain ⟨rfl, hZ, hh⟩ := hP
  have hx := Bd.exec
  have hby := Bd.bytes
  have hml : c.maxLocals = 2 := hml0
  have hown : s.vm.findClass "com/example/holdfast/holdfast/resources/DerValue$BitString" = some m.cls := findClass_of_methodNamed Bd.named
  have hnm := (name_of_methodNamed Bd.named Bd.method).1
  have X0 : Stand p l e ({ frames := 0, cells := 0, slots := 0, locals := 0 } : Room) s m #[(.ref a0)] below meth c s₁ [] 0 0 := Stand.of_body Bd
  have e0 : s₁.heap = h0 := by rw [← hh, Bd.state]; rfl
  have N0 := Fr.nil n0
  have pre0 : ∀ t, Steps p.tables e below (s₁.setTop (mkF m 0 #[.val (.ref a0), .unset] [])) t → Steps p.tables e below (s₁.setTop (entryFrame m #[(.ref a0)] 2)) t := fun t k => castTop (ef_4 m a0) k
  refine OGo.start pre0 ?_
  show OGo p.tables e below _ (s₁.setTop (mkF m 0 #[.val (.ref a0), .unset] []))
  refine OGo.st (fun t k => XS.iconst X0.here hx rfl (hb hby d4_0) k) ?_
  show OGo p.tables e below _ (s₁.setTop (mkF m 1 #[.val (.ref a0), .unset] [(.int (1 : Int32))]))
  refine OGo.st (fun t k => XS.aloadN X0.here hx rfl (hb hby d4_1) rfl rfl k) ?_
  show OGo p.tables e below _ (s₁.setTop (mkF m 2 #[.val (.ref a0), .unset] [(.ref a0), (.int (1 : Int32))]))
  obtain ⟨T101, X101, e101, st101⟩ := getF X0 hx hZ hown (host := "") (Or.inl (hw _ (List.mem_of_getElem? (i := 12) rfl))) Via.refl e0 F2 (g := (mkF m 2 #[.val (.ref a0), .unset] [(.ref a0), (.int (1 : Int32))])) rfl rfl (hb hby d4_2)
  refine OGo.st st101 ?_
  show OGo p.tables e below _ (T101.setTop (mkF m 5 #[.val (.ref a0), .unset] [(.int u), (.int (1 : Int32))]))
  refine OGo.st (fun t k => XS.ishl X101.here hx rfl (hb hby d4_5) rfl k) ?_
  show OGo p.tables e below _ (T101.setTop (mkF m 6 #[.val (.ref a0), .unset] [(.int ((1 : Int32) <<< (u &&& 31)))]))
  refine OGo.st (fun t k => XS.iconst X101.here hx rfl (hb hby d4_6) k) ?_
  show OGo p.tables e below _ (T101.setTop (mkF m 7 #[.val (.ref a0), .unset] [(.int (1 : Int32)), (.int ((1 : Int32) <<< (u &&& 31)))]))
  refine OGo.st (fun t k => XS.isub X101.here hx rfl (hb hby d4_7) rfl k) ?_
  show OGo p.tables e below _ (T101.setTop (mkF m 8 #[.val (.ref a0), .unset] [(.int (((1 : Int32) <<< (u &&& 31)) - (1 : Int32)))]))
  refine OGo.st (fun t k => XS.istoreN X101.here hx rfl (hb hby d4_8) rfl (l' := #[.val (.ref a0), .val (.int (((1 : Int32) <<< (u &&& 31)) - (1 : Int32)))]) rfl k) ?_
  show OGo p.tables e below _ (T101.setTop (mkF m 9 #[.val (.ref a0), .val (.int (((1 : Int32) <<< (u &&& 31)) - (1 : Int32)))] []))
  refine OGo.st (fun t k => XS.aloadN X101.here hx rfl (hb hby d4_9) rfl rfl k) ?_
  show OGo p.tables e below _ (T101.setTop (mkF m 10 #[.val (.ref a0), .val (.int (((1 : Int32) <<< (u &&& 31)) - (1 : Int32)))] [(.ref a0)]))
  obtain ⟨T102, X102, e102, st102⟩ := getF X101 hx hZ hown (host := "") (Or.inl (hw _ (List.mem_of_getElem? (i := 10) rfl))) Via.refl e101 F1 (g := (mkF m 10 #[.val (.ref a0), .val (.int (((1 : Int32) <<< (u &&& 31)) - (1 : Int32)))] [(.ref a0)])) rfl rfl (hb hby d4_10)
  refine OGo.st st102 ?_
  show OGo p.tables e below _ (T102.setTop (mkF m 13 #[.val (.ref a0), .val (.int (((1 : Int32) <<< (u &&& 31)) - (1 : Int32)))] [(.ref b)]))
  obtain ⟨cl103, Ar103, qc103, Sz103, Nz103, Hs103, Gs103⟩ := id V0
  refine OGo.st (fun t k => X102.arraylength hx (by rw [e102]; exact Ar103.1) (State.isArrayOf_alike hZ.alike Ar103.2.1) (g := (mkF m 13 #[.val (.ref a0), .val (.int (((1 : Int32) <<< (u &&& 31)) - (1 : Int32)))] [(.ref b)])) rfl rfl (hb hby d4_13) _ k) ?_
  rw [len_of Sz103 Nz103]
  show OGo p.tables e below _ (T102.setTop (mkF m 14 #[.val (.ref a0), .val (.int (((1 : Int32) <<< (u &&& 31)) - (1 : Int32)))] [(.int (3 : Int32))]))
  refine OGo.st (fun t k => XS.ifNo X102.here hx rfl (hb hby d4_14) rfl ((if0 _ _).trans (feq (by decide : ¬ ((3 : Int32) = (0 : Int32)))).1) k) ?_
  show OGo p.tables e below _ (T102.setTop (mkF m 17 #[.val (.ref a0), .val (.int (((1 : Int32) <<< (u &&& 31)) - (1 : Int32)))] []))
  refine OGo.st (fun t k => XS.aloadN X102.here hx rfl (hb hby d4_17) rfl rfl k) ?_
  show OGo p.tables e below _ (T102.setTop (mkF m 18 #[.val (.ref a0), .val (.int (((1 : Int32) <<< (u &&& 31)) - (1 : Int32)))] [(.ref a0)]))
  obtain ⟨T104, X104, e104, st104⟩ := getF X102 hx hZ hown (host := "") (Or.inl (hw _ (List.mem_of_getElem? (i := 10) rfl))) Via.refl e102 F1 (g := (mkF m 18 #[.val (.ref a0), .val (.int (((1 : Int32) <<< (u &&& 31)) - (1 : Int32)))] [(.ref a0)])) rfl rfl (hb hby d4_18)
  refine OGo.st st104 ?_
  show OGo p.tables e below _ (T104.setTop (mkF m 21 #[.val (.ref a0), .val (.int (((1 : Int32) <<< (u &&& 31)) - (1 : Int32)))] [(.ref b)]))
  refine OGo.st (fun t k => XS.aloadN X104.here hx rfl (hb hby d4_21) rfl rfl k) ?_
  show OGo p.tables e below _ (T104.setTop (mkF m 22 #[.val (.ref a0), .val (.int (((1 : Int32) <<< (u &&& 31)) - (1 : Int32)))] [(.ref a0), (.ref b)]))
  obtain ⟨T105, X105, e105, st105⟩ := getF X104 hx hZ hown (host := "") (Or.inl (hw _ (List.mem_of_getElem? (i := 10) rfl))) Via.refl e104 F1 (g := (mkF m 22 #[.val (.ref a0), .val (.int (((1 : Int32) <<< (u &&& 31)) - (1 : Int32)))] [(.ref a0), (.ref b)])) rfl rfl (hb hby d4_22)
  refine OGo.st st105 ?_
  show OGo p.tables e below _ (T105.setTop (mkF m 25 #[.val (.ref a0), .val (.int (((1 : Int32) <<< (u &&& 31)) - (1 : Int32)))] [(.ref b), (.ref b)]))
  obtain ⟨cl106, Ar106, qc106, Sz106, Nz106, Hs106, Gs106⟩ := id V0
  refine OGo.st (fun t k => X105.arraylength hx (by rw [e105]; exact Ar106.1) (State.isArrayOf_alike hZ.alike Ar106.2.1) (g := (mkF m 25 #[.val (.ref a0), .val (.int (((1 : Int32) <<< (u &&& 31)) - (1 : Int32)))] [(.ref b), (.ref b)])) rfl rfl (hb hby d4_25) _ k) ?_
  rw [len_of Sz106 Nz106]
  show OGo p.tables e below _ (T105.setTop (mkF m 26 #[.val (.ref a0), .val (.int (((1 : Int32) <<< (u &&& 31)) - (1 : Int32)))] [(.int (3 : Int32)), (.ref b)]))
  refine OGo.st (fun t k => XS.iconst X105.here hx rfl (hb hby d4_26) k) ?_
  show OGo p.tables e below _ (T105.setTop (mkF m 27 #[.val (.ref a0), .val (.int (((1 : Int32) <<< (u &&& 31)) - (1 : Int32)))] [(.int (1 : Int32)), (.int (3 : Int32)), (.ref b)]))
  refine OGo.st (fun t k => XS.isub X105.here hx rfl (hb hby d4_27) rfl k) ?_
  show OGo p.tables e below _ (T105.setTop (mkF m 28 #[.val (.ref a0), .val (.int (((1 : Int32) <<< (u &&& 31)) - (1 : Int32)))] [(.int (2 : Int32)), (.ref b)]))
  obtain ⟨cl107, Ar107, qc107, Sz107, Nz107, Hs107, Gs107⟩ := id V0
  have hin107 : ¬ ((2 : Int32) < 0 ∨ cl107.slots.size ≤ ((2 : Int32)).toNatClampNeg) := inb_of Sz107 ⟨by decide, by decide⟩
  have hat107 : cl107.slots[((2 : Int32)).toNatClampNeg]? = some (.int v2) := Has.at Hs107 hin107 rfl
  refine OGo.st (fun t k => X105.baloadBytes hx (j := (2 : Int32)) (v := (.int v2)) (by rw [e105]; exact Ar107.1) (State.isArrayOf_alike hZ.alike Ar107.2.1) Ar107.2.2 hin107 hat107 (g := (mkF m 28 #[.val (.ref a0), .val (.int (((1 : Int32) <<< (u &&& 31)) - (1 : Int32)))] [(.int (2 : Int32)), (.ref b)])) rfl rfl (hb hby d4_28) _ k) ?_
  show OGo p.tables e below _ (T105.setTop (mkF m 29 #[.val (.ref a0), .val (.int (((1 : Int32) <<< (u &&& 31)) - (1 : Int32)))] [(.int v2)]))
  refine OGo.st (fun t k => XS.iloadN X105.here hx rfl (hb hby d4_29) rfl k) ?_
  show OGo p.tables e below _ (T105.setTop (mkF m 30 #[.val (.ref a0), .val (.int (((1 : Int32) <<< (u &&& 31)) - (1 : Int32)))] [(.int (((1 : Int32) <<< (u &&& 31)) - (1 : Int32))), (.int v2)]))
  refine OGo.st (fun t k => XS.iand X105.here hx rfl (hb hby d4_30) rfl k) ?_
  show OGo p.tables e below _ (T105.setTop (mkF m 31 #[.val (.ref a0), .val (.int (((1 : Int32) <<< (u &&& 31)) - (1 : Int32)))] [(.int (v2 &&& (((1 : Int32) <<< (u &&& 31)) - (1 : Int32))))]))
  by_cases hc31_108 : (v2 &&& (((1 : Int32) <<< (u &&& 31)) - (1 : Int32))) = (0 : Int32)
  ·
    refine OGo.st (fun t k => XS.ifNo X105.here hx rfl (hb hby d4_31) rfl ((if0 _ _).trans (teq hc31_108).2) k) ?_
    show OGo p.tables e below _ (T105.setTop (mkF m 34 #[.val (.ref a0), .val (.int (((1 : Int32) <<< (u &&& 31)) - (1 : Int32)))] []))
    refine OGo.st (fun t k => XS.iconst X105.here hx rfl (hb hby d4_34) k) ?_
    show OGo p.tables e below _ (T105.setTop (mkF m 35 #[.val (.ref a0), .val (.int (((1 : Int32) <<< (u &&& 31)) - (1 : Int32)))] [(.int (1 : Int32))]))
    refine OGo.st (fun t k => XS.goto X105.here hx rfl (pc0 := 35) (pc' := 39) rfl (hb hby d4_35) (by decide) (by decide) k) ?_
    show OGo p.tables e below _ (T105.setTop (mkF m 39 #[.val (.ref a0), .val (.int (((1 : Int32) <<< (u &&& 31)) - (1 : Int32)))] [(.int (1 : Int32))]))
    obtain ⟨fs, hr, hrun, hended, hW, hsame⟩ := X105.leave (v := some (.int (1 : Int32))) (fun h => by rw [Bd.returns] at h; cases h)
    refine OGo.done (retN X105 hx (t := .boolean) Bd.returns (by simp) (hb hby d4_39) hr) ⟨hrun, hended, _, _, rfl, ?_, ⟨_, rfl⟩, hW, hsame.mono (by decide) (by decide)⟩
    show Q4 Z a0 b k u v0 v1 v2 h0 n0 _ T105.heap _
    rw [e105]
    exact ⟨(congrArg (fun z => some (Value.int z)) (show (1 : Int32) = (own_pz v2 u) from by rw [own_pz, if_pos hc31_108])), N0, rfl⟩
  ·
    refine OGo.st (fun t k => XS.ifYes X105.here hx rfl (pc0 := 31) (pc' := 38) rfl (hb hby d4_31) rfl ((if0 _ _).trans (feq hc31_108).2) (by decide) (by decide) k) ?_
    show OGo p.tables e below _ (T105.setTop (mkF m 38 #[.val (.ref a0), .val (.int (((1 : Int32) <<< (u &&& 31)) - (1 : Int32)))] []))
    refine OGo.st (fun t k => XS.iconst X105.here hx rfl (hb hby d4_38) k) ?_
    show OGo p.tables e below _ (T105.setTop (mkF m 39 #[.val (.ref a0), .val (.int (((1 : Int32) <<< (u &&& 31)) - (1 : Int32)))] [(.int (0 : Int32))]))
    obtain ⟨fs, hr, hrun, hended, hW, hsame⟩ := X105.leave (v := some (.int (0 : Int32))) (fun h => by rw [Bd.returns] at h; cases h)
    refine OGo.done (retN X105 hx (t := .boolean) Bd.returns (by simp) (hb hby d4_39) hr) ⟨hrun, hended, _, _, rfl, ?_, ⟨_, rfl⟩, hW, hsame.mono (by decide) (by decide)⟩
    show Q4 Z a0 b k u v0 v1 v2 h0 n0 _ T105.heap _
    rw [e105]
    exact ⟨(congrArg (fun z => some (Value.int z)) (show (0 : Int32) = (own_pz v2 u) from by rw [own_pz, if_neg hc31_108])), N0, rfl⟩
theorem pd_0 : parseMethodDescriptor "([BI)V" = some ⟨[(.array .byte), .int], none⟩ := by decide +kernel
theorem pd_1 : parseMethodDescriptor "()Z" = some ⟨[], some .boolean⟩ := by decide +kernel
theorem pn_1 : plainName "com/example/holdfast/holdfast/resources/BitStringPaddingIsZeroPinLaw" = true := by first | (simp [plainName, overriddenIn]; done) | decide +kernel
theorem ef_5 (m : MethodId) (x0 : Int32) (x1 : Int32) (x2 : Int32) (x3 : Int32) (x4 : Int32) : entryFrame m #[(.int x0), (.int x1), (.int x2), (.int x3), (.int x4)] maxLocals = mkF m 0 #[.val (.int x0), .val (.int x1), .val (.int x2), .val (.int x3), .val (.int x4), .unset, .unset, .unset, .unset, .unset] [] := by first | (simp [entryFrame, mkF, argsToLocals, Value.category, maxLocals]; done) | rfl
def Q5 (Z : State) (p0 : Int32) (p1 : Int32) (p2 : Int32) (p3 : Int32) (p4 : Int32) (h0 : Heap) (n0 : Nat) (v : Option Value) (h : Heap) (L : List Loc) : Prop := v = some (.int (1 : Int32)) ∧ Fr n0 L
set_option maxRecDepth 65536 in
set_option maxHeartbeats 40000000 in
theorem rm5 (l : Launch) (Z : State) (ar : Array Value) (hw : ∀ d ∈ tables_1, d.before ar Z = true) (ws : List Jvm.Cond) (p0 : Int32) (p1 : Int32) (p2 : Int32) (p3 : Int32) (p4 : Int32) (h0 : Heap) (n0 : Nat) (Z0 : n0 ≤ h0.size)  :
    MetFree l x (head1 (Jvm.Cond.code x code maxLocals ret :: ws) room_1) (fun a U => a = #[(.int p0), (.int p1), (.int p2), (.int p3), (.int p4)] ∧ Z.Warmed39 U.vm ∧ U.heap = h0) (fun _ _ _ _ _ => True) (fun _ U o U' => ∃ v L, o = .returned v ∧ Q5 Z p0 p1 p2 p3 p4 h0 n0 v U'.heap L ∧ FrameEnd U o U' L room_1.cells room_1.slots) := by
  refine MetFree.of_bodySF (plainFor_of_name pn_1) hisR ?_
  intro p e s m args below meth c s₁ Bd hml0 hP hK
  obtain ⟨rfl, hZ, hh⟩ := hP
  have hx := Bd.exec
  have hby := Bd.bytes
  have hml : c.maxLocals = 10 := hml0
  have hown : s.vm.findClass "com/example/holdfast/holdfast/resources/BitStringPaddingIsZeroPinLaw" = some m.cls := findClass_of_methodNamed Bd.named
  have hnm := (name_of_methodNamed Bd.named Bd.method).1
  have X0 : Stand p l e room_1 s m #[(.int p0), (.int p1), (.int p2), (.int p3), (.int p4)] below meth c s₁ [] 0 0 := Stand.of_body Bd
  have e0 : s₁.heap = h0 := by rw [← hh, Bd.state]; rfl
  have N0 := Fr.nil n0
  have pre0 : ∀ t, Steps p.tables e below (s₁.setTop (mkF m 0 #[.val (.int p0), .val (.int p1), .val (.int p2), .val (.int p3), .val (.int p4), .unset, .unset, .unset, .unset, .unset] [])) t → Steps p.tables e below (s₁.setTop (entryFrame m #[(.int p0), (.int p1), (.int p2), (.int p3), (.int p4)] maxLocals)) t := fun t k => castTop (ef_5 m p0 p1 p2 p3 p4) k
  refine OGo.start pre0 ?_
  show OGo p.tables e below _ (s₁.setTop (mkF m 0 #[.val (.int p0), .val (.int p1), .val (.int p2), .val (.int p3), .val (.int p4), .unset, .unset, .unset, .unset, .unset] []))
  refine OGo.st (fun t k => XS.iloadN X0.here hx rfl (hb hby at_0) rfl k) ?_
  show OGo p.tables e below _ (s₁.setTop (mkF m 1 #[.val (.int p0), .val (.int p1), .val (.int p2), .val (.int p3), .val (.int p4), .unset, .unset, .unset, .unset, .unset] [(.int p0)]))
  refine OGo.st (fun t k => XS.iconst X0.here hx rfl (hb hby at_1) k) ?_
  show OGo p.tables e below _ (s₁.setTop (mkF m 2 #[.val (.int p0), .val (.int p1), .val (.int p2), .val (.int p3), .val (.int p4), .unset, .unset, .unset, .unset, .unset] [(.int (3 : Int32)), (.int p0)]))
  refine OGo.st (fun t k => XS.iand X0.here hx rfl (hb hby at_2) rfl k) ?_
  show OGo p.tables e below _ (s₁.setTop (mkF m 3 #[.val (.int p0), .val (.int p1), .val (.int p2), .val (.int p3), .val (.int p4), .unset, .unset, .unset, .unset, .unset] [(.int (p0 &&& (3 : Int32)))]))
  refine OGo.st (fun t k => XS.istore X0.here hx rfl (hb hby at_3) rfl (l' := #[.val (.int p0), .val (.int p1), .val (.int p2), .val (.int p3), .val (.int p4), .val (.int (p0 &&& (3 : Int32))), .unset, .unset, .unset, .unset]) rfl k) ?_
  show OGo p.tables e below _ (s₁.setTop (mkF m 5 #[.val (.int p0), .val (.int p1), .val (.int p2), .val (.int p3), .val (.int p4), .val (.int (p0 &&& (3 : Int32))), .unset, .unset, .unset, .unset] []))
  rcases own_and3 p0 with hn | hn | hn | hn
  ·
    rw [hn]
    show OGo p.tables e below _ (s₁.setTop (mkF m 5 #[.val (.int p0), .val (.int p1), .val (.int p2), .val (.int p3), .val (.int p4), .val (.int (0 : Int32)), .unset, .unset, .unset, .unset] []))
    refine OGo.st (fun t k => XS.iload X0.here hx rfl (hb hby at_5) rfl k) ?_
    show OGo p.tables e below _ (s₁.setTop (mkF m 7 #[.val (.int p0), .val (.int p1), .val (.int p2), .val (.int p3), .val (.int p4), .val (.int (0 : Int32)), .unset, .unset, .unset, .unset] [(.int (0 : Int32))]))
    refine OGo.st (fun t k => XS.ifNo X0.here hx rfl (hb hby at_7) rfl ((if0 _ _).trans (teq (by decide : (0 : Int32) = (0 : Int32))).2) k) ?_
    show OGo p.tables e below _ (s₁.setTop (mkF m 10 #[.val (.int p0), .val (.int p1), .val (.int p2), .val (.int p3), .val (.int p4), .val (.int (0 : Int32)), .unset, .unset, .unset, .unset] []))
    refine OGo.st (fun t k => XS.iconst X0.here hx rfl (hb hby at_10) k) ?_
    show OGo p.tables e below _ (s₁.setTop (mkF m 11 #[.val (.int p0), .val (.int p1), .val (.int p2), .val (.int p3), .val (.int p4), .val (.int (0 : Int32)), .unset, .unset, .unset, .unset] [(.int (0 : Int32))]))
    refine OGo.st (fun t k => XS.goto X0.here hx rfl (pc0 := 11) (pc' := 19) rfl (hb hby at_11) (by decide) (by decide) k) ?_
    show OGo p.tables e below _ (s₁.setTop (mkF m 19 #[.val (.int p0), .val (.int p1), .val (.int p2), .val (.int p3), .val (.int p4), .val (.int (0 : Int32)), .unset, .unset, .unset, .unset] [(.int (0 : Int32))]))
    refine OGo.st (fun t k => XS.istore X0.here hx rfl (hb hby at_19) rfl (l' := #[.val (.int p0), .val (.int p1), .val (.int p2), .val (.int p3), .val (.int p4), .val (.int (0 : Int32)), .val (.int (0 : Int32)), .unset, .unset, .unset]) rfl k) ?_
    show OGo p.tables e below _ (s₁.setTop (mkF m 21 #[.val (.int p0), .val (.int p1), .val (.int p2), .val (.int p3), .val (.int p4), .val (.int (0 : Int32)), .val (.int (0 : Int32)), .unset, .unset, .unset] []))
    refine OGo.st (fun t k => XS.iload X0.here hx rfl (hb hby at_21) rfl k) ?_
    show OGo p.tables e below _ (s₁.setTop (mkF m 23 #[.val (.int p0), .val (.int p1), .val (.int p2), .val (.int p3), .val (.int p4), .val (.int (0 : Int32)), .val (.int (0 : Int32)), .unset, .unset, .unset] [(.int (0 : Int32))]))
    obtain ⟨T101, h101, k101, X101, e101, E101, A101, st101⟩ := newP X0 hx hZ (hw _ (List.mem_of_getElem? (i := 0) rfl)) e0 (g := (mkF m 23 #[.val (.int p0), .val (.int p1), .val (.int p2), .val (.int p3), .val (.int p4), .val (.int (0 : Int32)), .val (.int (0 : Int32)), .unset, .unset, .unset] [(.int (0 : Int32))])) rfl (hb hby at_23) rfl (by decide) (cap := 0) (by decide) (by decide) (by decide) (by decide)
    obtain ⟨b101, g101⟩ : ∃ z, z = h0.size := ⟨_, rfl⟩
    rw [← g101] at A101 st101
    have ge_b101 : n0 ≤ b101 := Nat.le_trans Z0 (Nat.le_of_eq g101.symm)
    have sz_b101 : h0.size ≤ b101 := Nat.le_trans (Nat.le_refl h0.size) (Nat.le_of_eq g101.symm)
    have V101 : Arv Z h101 b101 k101 .byte (0 : Int32) [] (.int (0 : Int32)) := Arv.new A101 (by decide)
    refine OGo.st st101 ?_
    show OGo p.tables e below _ (T101.setTop (mkF m 25 #[.val (.int p0), .val (.int p1), .val (.int p2), .val (.int p3), .val (.int p4), .val (.int (0 : Int32)), .val (.int (0 : Int32)), .unset, .unset, .unset] [(.ref b101)]))
    refine OGo.st (fun t k => XS.astore X101.here hx rfl (hb hby at_25) rfl rfl (l' := #[.val (.int p0), .val (.int p1), .val (.int p2), .val (.int p3), .val (.int p4), .val (.int (0 : Int32)), .val (.int (0 : Int32)), .val (.ref b101), .unset, .unset]) rfl k) ?_
    show OGo p.tables e below _ (T101.setTop (mkF m 27 #[.val (.int p0), .val (.int p1), .val (.int p2), .val (.int p3), .val (.int p4), .val (.int (0 : Int32)), .val (.int (0 : Int32)), .val (.ref b101), .unset, .unset] []))
    refine OGo.st (fun t k => XS.iload X101.here hx rfl (hb hby at_27) rfl k) ?_
    show OGo p.tables e below _ (T101.setTop (mkF m 29 #[.val (.int p0), .val (.int p1), .val (.int p2), .val (.int p3), .val (.int p4), .val (.int (0 : Int32)), .val (.int (0 : Int32)), .val (.ref b101), .unset, .unset] [(.int (0 : Int32))]))
    refine OGo.st (fun t k => XS.ifYes X101.here hx rfl (pc0 := 29) (pc' := 38) rfl (hb hby at_29) rfl ((if0 _ _).trans (flt (by decide : ¬ ((0 : Int32) < (0 : Int32)))).2.2.2) (by decide) (by decide) k) ?_
    show OGo p.tables e below _ (T101.setTop (mkF m 38 #[.val (.int p0), .val (.int p1), .val (.int p2), .val (.int p3), .val (.int p4), .val (.int (0 : Int32)), .val (.int (0 : Int32)), .val (.ref b101), .unset, .unset] []))
    refine OGo.st (fun t k => XS.iload X101.here hx rfl (hb hby at_38) rfl k) ?_
    show OGo p.tables e below _ (T101.setTop (mkF m 40 #[.val (.int p0), .val (.int p1), .val (.int p2), .val (.int p3), .val (.int p4), .val (.int (0 : Int32)), .val (.int (0 : Int32)), .val (.ref b101), .unset, .unset] [(.int (0 : Int32))]))
    refine OGo.st (fun t k => XS.iconst X101.here hx rfl (hb hby at_40) k) ?_
    show OGo p.tables e below _ (T101.setTop (mkF m 41 #[.val (.int p0), .val (.int p1), .val (.int p2), .val (.int p3), .val (.int p4), .val (.int (0 : Int32)), .val (.int (0 : Int32)), .val (.ref b101), .unset, .unset] [(.int (1 : Int32)), (.int (0 : Int32))]))
    refine OGo.st (fun t k => XS.icmpYes X101.here hx rfl (pc0 := 41) (pc' := 50) rfl (hb hby at_41) rfl (flt (by decide : ¬ ((1 : Int32) < (0 : Int32)))).2.2.2 (by decide) (by decide) k) ?_
    show OGo p.tables e below _ (T101.setTop (mkF m 50 #[.val (.int p0), .val (.int p1), .val (.int p2), .val (.int p3), .val (.int p4), .val (.int (0 : Int32)), .val (.int (0 : Int32)), .val (.ref b101), .unset, .unset] []))
    refine OGo.st (fun t k => XS.iload X101.here hx rfl (hb hby at_50) rfl k) ?_
    show OGo p.tables e below _ (T101.setTop (mkF m 52 #[.val (.int p0), .val (.int p1), .val (.int p2), .val (.int p3), .val (.int p4), .val (.int (0 : Int32)), .val (.int (0 : Int32)), .val (.ref b101), .unset, .unset] [(.int (0 : Int32))]))
    refine OGo.st (fun t k => XS.iconst X101.here hx rfl (hb hby at_52) k) ?_
    show OGo p.tables e below _ (T101.setTop (mkF m 53 #[.val (.int p0), .val (.int p1), .val (.int p2), .val (.int p3), .val (.int p4), .val (.int (0 : Int32)), .val (.int (0 : Int32)), .val (.ref b101), .unset, .unset] [(.int (2 : Int32)), (.int (0 : Int32))]))
    refine OGo.st (fun t k => XS.icmpYes X101.here hx rfl (pc0 := 53) (pc' := 62) rfl (hb hby at_53) rfl (flt (by decide : ¬ ((2 : Int32) < (0 : Int32)))).2.2.2 (by decide) (by decide) k) ?_
    show OGo p.tables e below _ (T101.setTop (mkF m 62 #[.val (.int p0), .val (.int p1), .val (.int p2), .val (.int p3), .val (.int p4), .val (.int (0 : Int32)), .val (.int (0 : Int32)), .val (.ref b101), .unset, .unset] []))
    refine OGo.st (fun t k => XS.iload X101.here hx rfl (hb hby at_62) rfl k) ?_
    show OGo p.tables e below _ (T101.setTop (mkF m 64 #[.val (.int p0), .val (.int p1), .val (.int p2), .val (.int p3), .val (.int p4), .val (.int (0 : Int32)), .val (.int (0 : Int32)), .val (.ref b101), .unset, .unset] [(.int (0 : Int32))]))
    refine OGo.st (fun t k => XS.ifNo X101.here hx rfl (hb hby at_64) rfl ((if0 _ _).trans (teq (by decide : (0 : Int32) = (0 : Int32))).2) k) ?_
    show OGo p.tables e below _ (T101.setTop (mkF m 67 #[.val (.int p0), .val (.int p1), .val (.int p2), .val (.int p3), .val (.int p4), .val (.int (0 : Int32)), .val (.int (0 : Int32)), .val (.ref b101), .unset, .unset] []))
    refine OGo.st (fun t k => XS.iconst X101.here hx rfl (hb hby at_67) k) ?_
    show OGo p.tables e below _ (T101.setTop (mkF m 68 #[.val (.int p0), .val (.int p1), .val (.int p2), .val (.int p3), .val (.int p4), .val (.int (0 : Int32)), .val (.int (0 : Int32)), .val (.ref b101), .unset, .unset] [(.int (1 : Int32))]))
    refine OGo.st (fun t k => XS.istore X101.here hx rfl (hb hby at_68) rfl (l' := #[.val (.int p0), .val (.int p1), .val (.int p2), .val (.int p3), .val (.int p4), .val (.int (0 : Int32)), .val (.int (0 : Int32)), .val (.ref b101), .val (.int (1 : Int32)), .unset]) rfl k) ?_
    show OGo p.tables e below _ (T101.setTop (mkF m 70 #[.val (.int p0), .val (.int p1), .val (.int p2), .val (.int p3), .val (.int p4), .val (.int (0 : Int32)), .val (.int (0 : Int32)), .val (.ref b101), .val (.int (1 : Int32)), .unset] []))
    refine OGo.st (fun t k => XS.goto X101.here hx rfl (pc0 := 70) (pc' := 106) rfl (hb hby at_70) (by decide) (by decide) k) ?_
    show OGo p.tables e below _ (T101.setTop (mkF m 106 #[.val (.int p0), .val (.int p1), .val (.int p2), .val (.int p3), .val (.int p4), .val (.int (0 : Int32)), .val (.int (0 : Int32)), .val (.ref b101), .val (.int (1 : Int32)), .unset] []))
    obtain ⟨T102, h102, X102, e102, E102, A102, D102, -, st102⟩ := newO X101 hx hZ hown (hw _ (List.mem_of_getElem? (i := 1) rfl)) (hw _ (List.mem_of_getElem? (i := 2) rfl)) (hw _ (List.mem_of_getElem? (i := 3) rfl)) e101 (g := (mkF m 106 #[.val (.int p0), .val (.int p1), .val (.int p2), .val (.int p3), .val (.int p4), .val (.int (0 : Int32)), .val (.int (0 : Int32)), .val (.ref b101), .val (.int (1 : Int32)), .unset] [])) rfl (hb hby at_106) (by decide) (by decide)
    obtain ⟨b102, g102⟩ : ∃ z, z = h101.size := ⟨_, rfl⟩
    rw [← g102] at A102 D102 st102
    have ge_b102 : n0 ≤ b102 := Nat.le_trans (Nat.le_trans Z0 E101.1) (Nat.le_of_eq g102.symm)
    have sz_b102 : h0.size ≤ b102 := Nat.le_trans (Nat.le_trans (Nat.le_refl h0.size) E101.1) (Nat.le_of_eq g102.symm)
    have ne_b101_b102 : b101 ≠ b102 := Nat.ne_of_lt (Nat.lt_of_lt_of_le V101.lt (Nat.le_of_eq g102.symm))
    refine OGo.st st102 ?_
    have Fn102_octets : Fld Z h102 b102 "com/example/holdfast/holdfast/resources/DerValue$BitString" "octets" "[B" .null := D102 (Or.inr (hw _ (List.mem_of_getElem? (i := 11) rfl))) (ty := (.array .byte)) (by decide)
    have Fn102_unusedBits : Fld Z h102 b102 "com/example/holdfast/holdfast/resources/DerValue$BitString" "unusedBits" "I" (.int (0 : Int32)) := D102 (Or.inr (hw _ (List.mem_of_getElem? (i := 13) rfl))) (ty := .int) (by decide)
    show OGo p.tables e below _ (T102.setTop (mkF m 109 #[.val (.int p0), .val (.int p1), .val (.int p2), .val (.int p3), .val (.int p4), .val (.int (0 : Int32)), .val (.int (0 : Int32)), .val (.ref b101), .val (.int (1 : Int32)), .unset] [(.ref b102)]))
    refine OGo.st (fun t k => XS.dup X102.here hx rfl (hb hby at_109) rfl rfl k) ?_
    show OGo p.tables e below _ (T102.setTop (mkF m 110 #[.val (.int p0), .val (.int p1), .val (.int p2), .val (.int p3), .val (.int p4), .val (.int (0 : Int32)), .val (.int (0 : Int32)), .val (.ref b101), .val (.int (1 : Int32)), .unset] [(.ref b102), (.ref b102)]))
    refine OGo.st (fun t k => XS.aload X102.here hx rfl (hb hby at_110) rfl rfl k) ?_
    show OGo p.tables e below _ (T102.setTop (mkF m 112 #[.val (.int p0), .val (.int p1), .val (.int p2), .val (.int p3), .val (.int p4), .val (.int (0 : Int32)), .val (.int (0 : Int32)), .val (.ref b101), .val (.int (1 : Int32)), .unset] [(.ref b101), (.ref b102), (.ref b102)]))
    refine OGo.st (fun t k => XS.iload X102.here hx rfl (hb hby at_112) rfl k) ?_
    show OGo p.tables e below _ (T102.setTop (mkF m 114 #[.val (.int p0), .val (.int p1), .val (.int p2), .val (.int p3), .val (.int p4), .val (.int (0 : Int32)), .val (.int (0 : Int32)), .val (.ref b101), .val (.int (1 : Int32)), .unset] [(.int (0 : Int32)), (.ref b101), (.ref b102), (.ref b102)]))
    obtain ⟨_, _, ⟨T103, L103, kk103, nn103⟩, -, X103, ⟨Lc103, hQ103, l103, y103, z103⟩, st103⟩ := X102.specialBack hx (y := (⟨"com/example/holdfast/holdfast/resources/DerValue$BitString", "<init>", "([BI)V"⟩ : MethodName)) rfl hown (mvT hZ (hw _ (List.mem_of_getElem? (i := 4) rfl))) (mvT hZ (hw _ (List.mem_of_getElem? (i := 5) rfl))) (mvT hZ (hw _ (List.mem_of_getElem? (i := 6) rfl))) (by decide) (backOf (W := 1) (rm0 l Z ar hw [] b102 b101 (0 : Int32) h102 n0 (Nat.le_trans (Nat.le_trans Z0 E101.1) E102.1) A102 ge_b102 Fn102_octets Fn102_unusedBits) hZ (hw _ (List.mem_of_getElem? (i := 6) rfl)) (hw _ (List.mem_of_getElem? (i := 3) rfl)) (by decide) (by decide)) (g := (mkF m 114 #[.val (.int p0), .val (.int p1), .val (.int p2), .val (.int p3), .val (.int p4), .val (.int (0 : Int32)), .val (.int (0 : Int32)), .val (.ref b101), .val (.int (1 : Int32)), .unset] [(.int (0 : Int32)), (.ref b101), (.ref b102), (.ref b102)])) rfl (by rw [hml]; rfl) (Steps.refl _) (a := b102) (argsL := [(.ref b101), (.int (0 : Int32))]) (rest := [(.ref b102)]) (lenOf pd_0 rfl) rfl (by show 2 * 0 + _ ≤ _; exact Nat.le_of_eq rfl) (hb hby at_114) (fun _ _ => ⟨rfl, e102, (by decide : 2 + 0 ≤ _), (by decide : 2 + 0 ≤ _)⟩)
    dsimp only [Pt.U, Pt.locs, Pt.cells, Pt.slots] at X103 l103 y103 z103 st103 hQ103
    subst l103 y103 z103
    obtain ⟨rfl, Nq103, K103, P103_0, P103_1⟩ := hQ103
    have N103 := Fr.app N0 Nq103
    refine OGo.st (fun t k => st103.trans k) ?_
    show OGo p.tables e below _ (T103.setTop (mkF m 117 #[.val (.int p0), .val (.int p1), .val (.int p2), .val (.int p3), .val (.int p4), .val (.int (0 : Int32)), .val (.int (0 : Int32)), .val (.ref b101), .val (.int (1 : Int32)), .unset] [(.ref b102)]))
    refine OGo.st (fun t k => XS.astore X103.here hx rfl (hb hby at_117) rfl rfl (l' := #[.val (.int p0), .val (.int p1), .val (.int p2), .val (.int p3), .val (.int p4), .val (.int (0 : Int32)), .val (.int (0 : Int32)), .val (.ref b101), .val (.int (1 : Int32)), .val (.ref b102)]) rfl k) ?_
    show OGo p.tables e below _ (T103.setTop (mkF m 119 #[.val (.int p0), .val (.int p1), .val (.int p2), .val (.int p3), .val (.int p4), .val (.int (0 : Int32)), .val (.int (0 : Int32)), .val (.ref b101), .val (.int (1 : Int32)), .val (.ref b102)] []))
    refine OGo.st (fun t k => XS.aload X103.here hx rfl (hb hby at_119) rfl rfl k) ?_
    show OGo p.tables e below _ (T103.setTop (mkF m 121 #[.val (.int p0), .val (.int p1), .val (.int p2), .val (.int p3), .val (.int p4), .val (.int (0 : Int32)), .val (.int (0 : Int32)), .val (.ref b101), .val (.int (1 : Int32)), .val (.ref b102)] [(.ref b102)]))
    have G104 : Arv Z T103.heap b101 k101 .byte (0 : Int32) [] (.int (0 : Int32)) := ((V101.ext E102).keep K103 (ninS ne_b101_b102 nin0))
    have G106 : Exa Z T103.heap b102 "com/example/holdfast/holdfast/resources/DerValue$BitString" := (A102.keep K103)
    obtain ⟨cq105, kq105, q105a, q105b, q105c⟩ := isOf hZ rfl G106
    obtain ⟨_, _, ⟨T105, L105, kk105, nn105⟩, -, X105, ⟨Lc105, hQ105, l105, y105, z105⟩, st105⟩ := X103.virtualBack hx (y := (⟨"com/example/holdfast/holdfast/resources/DerValue$BitString", "paddingIsZero", "()Z"⟩ : MethodName)) (z := (⟨"com/example/holdfast/holdfast/resources/DerValue$BitString", "paddingIsZero", "()Z"⟩ : MethodName)) hown (mvT hZ (hw _ (List.mem_of_getElem? (i := 14) rfl))) (mvT hZ (hw _ (List.mem_of_getElem? (i := 15) rfl))) (notFace_of_selects (args := #[]) (mvT hZ (hw _ (List.mem_of_getElem? (i := 17) rfl)))) (mvT hZ (hw _ (List.mem_of_getElem? (i := 17) rfl))) (mvT hZ (hw _ (List.mem_of_getElem? (i := 16) rfl))) (by decide) (backOf (W := 0) (rm1 l Z ar hw [] b102 b101 k101 (0 : Int32) T103.heap n0 (Nat.le_trans (Nat.le_trans (Nat.le_trans Z0 E101.1) E102.1) K103.1) P103_0 P103_1 G104) hZ (hw _ (List.mem_of_getElem? (i := 18) rfl)) (hw _ (List.mem_of_getElem? (i := 3) rfl)) (by decide) (by decide)) q105a q105c (g := (mkF m 121 #[.val (.int p0), .val (.int p1), .val (.int p2), .val (.int p3), .val (.int p4), .val (.int (0 : Int32)), .val (.int (0 : Int32)), .val (.ref b101), .val (.int (1 : Int32)), .val (.ref b102)] [(.ref b102)])) rfl (by rw [hml]; rfl) (Steps.refl _) (argsL := []) (rest := []) (lenOf pd_1 rfl) rfl (by show 2 * 0 + _ ≤ _; exact Nat.le_of_eq rfl) (hb hby at_121) (fun _ _ => ⟨rfl, rfl, (by decide : 2 + 0 ≤ _), (by decide : 2 + 0 ≤ _)⟩)
    dsimp only [Pt.U, Pt.locs, Pt.cells, Pt.slots] at X105 l105 y105 z105 st105 hQ105
    subst l105 y105 z105
    obtain ⟨rfl, Nq105, hh105⟩ := hQ105
    have N105 := Fr.app N103 Nq105
    refine OGo.st (fun t k => st105.trans k) ?_
    have e105 : T105.heap = T103.heap := hh105
    show OGo p.tables e below _ (T105.setTop (mkF m 124 #[.val (.int p0), .val (.int p1), .val (.int p2), .val (.int p3), .val (.int p4), .val (.int (0 : Int32)), .val (.int (0 : Int32)), .val (.ref b101), .val (.int (1 : Int32)), .val (.ref b102)] [(.int (1 : Int32))]))
    refine OGo.st (fun t k => XS.iload X105.here hx rfl (hb hby at_124) rfl k) ?_
    show OGo p.tables e below _ (T105.setTop (mkF m 126 #[.val (.int p0), .val (.int p1), .val (.int p2), .val (.int p3), .val (.int p4), .val (.int (0 : Int32)), .val (.int (0 : Int32)), .val (.ref b101), .val (.int (1 : Int32)), .val (.ref b102)] [(.int (1 : Int32)), (.int (1 : Int32))]))
    refine OGo.st (fun t k => XS.icmpNo X105.here hx rfl (hb hby at_126) rfl (teq (by decide : (1 : Int32) = (1 : Int32))).2 k) ?_
    show OGo p.tables e below _ (T105.setTop (mkF m 129 #[.val (.int p0), .val (.int p1), .val (.int p2), .val (.int p3), .val (.int p4), .val (.int (0 : Int32)), .val (.int (0 : Int32)), .val (.ref b101), .val (.int (1 : Int32)), .val (.ref b102)] []))
    refine OGo.st (fun t k => XS.iconst X105.here hx rfl (hb hby at_129) k) ?_
    show OGo p.tables e below _ (T105.setTop (mkF m 130 #[.val (.int p0), .val (.int p1), .val (.int p2), .val (.int p3), .val (.int p4), .val (.int (0 : Int32)), .val (.int (0 : Int32)), .val (.ref b101), .val (.int (1 : Int32)), .val (.ref b102)] [(.int (1 : Int32))]))
    refine OGo.st (fun t k => XS.goto X105.here hx rfl (pc0 := 130) (pc' := 134) rfl (hb hby at_130) (by decide) (by decide) k) ?_
    show OGo p.tables e below _ (T105.setTop (mkF m 134 #[.val (.int p0), .val (.int p1), .val (.int p2), .val (.int p3), .val (.int p4), .val (.int (0 : Int32)), .val (.int (0 : Int32)), .val (.ref b101), .val (.int (1 : Int32)), .val (.ref b102)] [(.int (1 : Int32))]))
    obtain ⟨fs, hr, hrun, hended, hW, hsame⟩ := X105.leave (v := some (.int (1 : Int32))) (fun h => by rw [Bd.returns] at h; cases h)
    refine OGo.done (retN X105 hx (t := .boolean) Bd.returns (by simp) (hb hby at_134) hr) ⟨hrun, hended, _, _, rfl, ?_, ⟨_, rfl⟩, hW, hsame.mono (by decide) (by decide)⟩
    show Q5 Z p0 p1 p2 p3 p4 h0 n0 _ T105.heap _
    rw [e105]
    exact ⟨rfl, N105⟩
  ·
    rw [hn]
    show OGo p.tables e below _ (s₁.setTop (mkF m 5 #[.val (.int p0), .val (.int p1), .val (.int p2), .val (.int p3), .val (.int p4), .val (.int (1 : Int32)), .unset, .unset, .unset, .unset] []))
    refine OGo.st (fun t k => XS.iload X0.here hx rfl (hb hby at_5) rfl k) ?_
    show OGo p.tables e below _ (s₁.setTop (mkF m 7 #[.val (.int p0), .val (.int p1), .val (.int p2), .val (.int p3), .val (.int p4), .val (.int (1 : Int32)), .unset, .unset, .unset, .unset] [(.int (1 : Int32))]))
    refine OGo.st (fun t k => XS.ifYes X0.here hx rfl (pc0 := 7) (pc' := 14) rfl (hb hby at_7) rfl ((if0 _ _).trans (feq (by decide : ¬ ((1 : Int32) = (0 : Int32)))).2) (by decide) (by decide) k) ?_
    show OGo p.tables e below _ (s₁.setTop (mkF m 14 #[.val (.int p0), .val (.int p1), .val (.int p2), .val (.int p3), .val (.int p4), .val (.int (1 : Int32)), .unset, .unset, .unset, .unset] []))
    refine OGo.st (fun t k => XS.iload X0.here hx rfl (hb hby at_14) rfl k) ?_
    show OGo p.tables e below _ (s₁.setTop (mkF m 16 #[.val (.int p0), .val (.int p1), .val (.int p2), .val (.int p3), .val (.int p4), .val (.int (1 : Int32)), .unset, .unset, .unset, .unset] [(.int p4)]))
    refine OGo.st (fun t k => XS.bipush X0.here hx rfl (hb hby at_16) k) ?_
    show OGo p.tables e below _ (s₁.setTop (mkF m 18 #[.val (.int p0), .val (.int p1), .val (.int p2), .val (.int p3), .val (.int p4), .val (.int (1 : Int32)), .unset, .unset, .unset, .unset] [(.int (7 : Int32)), (.int p4)]))
    refine OGo.st (fun t k => XS.iand X0.here hx rfl (hb hby at_18) rfl k) ?_
    show OGo p.tables e below _ (s₁.setTop (mkF m 19 #[.val (.int p0), .val (.int p1), .val (.int p2), .val (.int p3), .val (.int p4), .val (.int (1 : Int32)), .unset, .unset, .unset, .unset] [(.int (p4 &&& (7 : Int32)))]))
    refine OGo.st (fun t k => XS.istore X0.here hx rfl (hb hby at_19) rfl (l' := #[.val (.int p0), .val (.int p1), .val (.int p2), .val (.int p3), .val (.int p4), .val (.int (1 : Int32)), .val (.int (p4 &&& (7 : Int32))), .unset, .unset, .unset]) rfl k) ?_
    show OGo p.tables e below _ (s₁.setTop (mkF m 21 #[.val (.int p0), .val (.int p1), .val (.int p2), .val (.int p3), .val (.int p4), .val (.int (1 : Int32)), .val (.int (p4 &&& (7 : Int32))), .unset, .unset, .unset] []))
    refine OGo.st (fun t k => XS.iload X0.here hx rfl (hb hby at_21) rfl k) ?_
    show OGo p.tables e below _ (s₁.setTop (mkF m 23 #[.val (.int p0), .val (.int p1), .val (.int p2), .val (.int p3), .val (.int p4), .val (.int (1 : Int32)), .val (.int (p4 &&& (7 : Int32))), .unset, .unset, .unset] [(.int (1 : Int32))]))
    obtain ⟨T108, h108, k108, X108, e108, E108, A108, st108⟩ := newP X0 hx hZ (hw _ (List.mem_of_getElem? (i := 0) rfl)) e0 (g := (mkF m 23 #[.val (.int p0), .val (.int p1), .val (.int p2), .val (.int p3), .val (.int p4), .val (.int (1 : Int32)), .val (.int (p4 &&& (7 : Int32))), .unset, .unset, .unset] [(.int (1 : Int32))])) rfl (hb hby at_23) rfl (by decide) (cap := 1) (by decide) (by decide) (by decide) (by decide)
    obtain ⟨b108, g108⟩ : ∃ z, z = h0.size := ⟨_, rfl⟩
    rw [← g108] at A108 st108
    have ge_b108 : n0 ≤ b108 := Nat.le_trans Z0 (Nat.le_of_eq g108.symm)
    have sz_b108 : h0.size ≤ b108 := Nat.le_trans (Nat.le_refl h0.size) (Nat.le_of_eq g108.symm)
    have V108 : Arv Z h108 b108 k108 .byte (1 : Int32) [(.int (0 : Int32))] (.int (0 : Int32)) := (Arv.new A108 (by decide)).pad (pad_rep [] (.int (0 : Int32)) 1)
    refine OGo.st st108 ?_
    show OGo p.tables e below _ (T108.setTop (mkF m 25 #[.val (.int p0), .val (.int p1), .val (.int p2), .val (.int p3), .val (.int p4), .val (.int (1 : Int32)), .val (.int (p4 &&& (7 : Int32))), .unset, .unset, .unset] [(.ref b108)]))
    refine OGo.st (fun t k => XS.astore X108.here hx rfl (hb hby at_25) rfl rfl (l' := #[.val (.int p0), .val (.int p1), .val (.int p2), .val (.int p3), .val (.int p4), .val (.int (1 : Int32)), .val (.int (p4 &&& (7 : Int32))), .val (.ref b108), .unset, .unset]) rfl k) ?_
    show OGo p.tables e below _ (T108.setTop (mkF m 27 #[.val (.int p0), .val (.int p1), .val (.int p2), .val (.int p3), .val (.int p4), .val (.int (1 : Int32)), .val (.int (p4 &&& (7 : Int32))), .val (.ref b108), .unset, .unset] []))
    refine OGo.st (fun t k => XS.iload X108.here hx rfl (hb hby at_27) rfl k) ?_
    show OGo p.tables e below _ (T108.setTop (mkF m 29 #[.val (.int p0), .val (.int p1), .val (.int p2), .val (.int p3), .val (.int p4), .val (.int (1 : Int32)), .val (.int (p4 &&& (7 : Int32))), .val (.ref b108), .unset, .unset] [(.int (1 : Int32))]))
    refine OGo.st (fun t k => XS.ifNo X108.here hx rfl (hb hby at_29) rfl ((if0 _ _).trans (tlt (by decide : (0 : Int32) < (1 : Int32))).2.2.2) k) ?_
    show OGo p.tables e below _ (T108.setTop (mkF m 32 #[.val (.int p0), .val (.int p1), .val (.int p2), .val (.int p3), .val (.int p4), .val (.int (1 : Int32)), .val (.int (p4 &&& (7 : Int32))), .val (.ref b108), .unset, .unset] []))
    refine OGo.st (fun t k => XS.aload X108.here hx rfl (hb hby at_32) rfl rfl k) ?_
    show OGo p.tables e below _ (T108.setTop (mkF m 34 #[.val (.int p0), .val (.int p1), .val (.int p2), .val (.int p3), .val (.int p4), .val (.int (1 : Int32)), .val (.int (p4 &&& (7 : Int32))), .val (.ref b108), .unset, .unset] [(.ref b108)]))
    refine OGo.st (fun t k => XS.iconst X108.here hx rfl (hb hby at_34) k) ?_
    show OGo p.tables e below _ (T108.setTop (mkF m 35 #[.val (.int p0), .val (.int p1), .val (.int p2), .val (.int p3), .val (.int p4), .val (.int (1 : Int32)), .val (.int (p4 &&& (7 : Int32))), .val (.ref b108), .unset, .unset] [(.int (0 : Int32)), (.ref b108)]))
    refine OGo.st (fun t k => XS.iloadN X108.here hx rfl (hb hby at_35) rfl k) ?_
    show OGo p.tables e below _ (T108.setTop (mkF m 36 #[.val (.int p0), .val (.int p1), .val (.int p2), .val (.int p3), .val (.int p4), .val (.int (1 : Int32)), .val (.int (p4 &&& (7 : Int32))), .val (.ref b108), .unset, .unset] [(.int p1), (.int (0 : Int32)), (.ref b108)]))
    refine OGo.st (fun t k => XS.i2b X108.here hx rfl (hb hby at_36) rfl k) ?_
    show OGo p.tables e below _ (T108.setTop (mkF m 37 #[.val (.int p0), .val (.int p1), .val (.int p2), .val (.int p3), .val (.int p4), .val (.int (1 : Int32)), .val (.int (p4 &&& (7 : Int32))), .val (.ref b108), .unset, .unset] [(.int ((p1).toInt8.toInt32)), (.int (0 : Int32)), (.ref b108)]))
    obtain ⟨cl109, Ar109, qc109, Sz109, Nz109, Hs109, Gs109⟩ := id V108
    have hin109 : ¬ ((0 : Int32) < 0 ∨ cl109.slots.size ≤ ((0 : Int32)).toNatClampNeg) := inb_of Sz109 ⟨by decide, by decide⟩
    obtain ⟨T110, h110, X110, e110, W110, st110⟩ := stB X108 hx hZ e108 Ar109 (j := (0 : Int32)) hin109 (g := (mkF m 37 #[.val (.int p0), .val (.int p1), .val (.int p2), .val (.int p3), .val (.int p4), .val (.int (1 : Int32)), .val (.int (p4 &&& (7 : Int32))), .val (.ref b108), .unset, .unset] [(.int ((p1).toInt8.toInt32)), (.int (0 : Int32)), (.ref b108)])) rfl rfl (hb hby at_37)
    refine OGo.st st110 ?_
    have N110 := Fr.snoc X110 N0 ge_b108
    have V110 : Arv Z h110 b108 k108 .byte (1 : Int32) [(.int (((p1).toInt8.toInt32)).toInt8.toInt32)] (.int (0 : Int32)) := Arv.set Ar109 qc109 Sz109 Nz109 Hs109 Gs109 (fits_nar_byte _) W110 0 rfl (Nat.le_of_ble_eq_true rfl)
    show OGo p.tables e below _ (T110.setTop (mkF m 38 #[.val (.int p0), .val (.int p1), .val (.int p2), .val (.int p3), .val (.int p4), .val (.int (1 : Int32)), .val (.int (p4 &&& (7 : Int32))), .val (.ref b108), .unset, .unset] []))
    refine OGo.st (fun t k => XS.iload X110.here hx rfl (hb hby at_38) rfl k) ?_
    show OGo p.tables e below _ (T110.setTop (mkF m 40 #[.val (.int p0), .val (.int p1), .val (.int p2), .val (.int p3), .val (.int p4), .val (.int (1 : Int32)), .val (.int (p4 &&& (7 : Int32))), .val (.ref b108), .unset, .unset] [(.int (1 : Int32))]))
    refine OGo.st (fun t k => XS.iconst X110.here hx rfl (hb hby at_40) k) ?_
    show OGo p.tables e below _ (T110.setTop (mkF m 41 #[.val (.int p0), .val (.int p1), .val (.int p2), .val (.int p3), .val (.int p4), .val (.int (1 : Int32)), .val (.int (p4 &&& (7 : Int32))), .val (.ref b108), .unset, .unset] [(.int (1 : Int32)), (.int (1 : Int32))]))
    refine OGo.st (fun t k => XS.icmpYes X110.here hx rfl (pc0 := 41) (pc' := 50) rfl (hb hby at_41) rfl (flt (by decide : ¬ ((1 : Int32) < (1 : Int32)))).2.2.2 (by decide) (by decide) k) ?_
    show OGo p.tables e below _ (T110.setTop (mkF m 50 #[.val (.int p0), .val (.int p1), .val (.int p2), .val (.int p3), .val (.int p4), .val (.int (1 : Int32)), .val (.int (p4 &&& (7 : Int32))), .val (.ref b108), .unset, .unset] []))
    refine OGo.st (fun t k => XS.iload X110.here hx rfl (hb hby at_50) rfl k) ?_
    show OGo p.tables e below _ (T110.setTop (mkF m 52 #[.val (.int p0), .val (.int p1), .val (.int p2), .val (.int p3), .val (.int p4), .val (.int (1 : Int32)), .val (.int (p4 &&& (7 : Int32))), .val (.ref b108), .unset, .unset] [(.int (1 : Int32))]))
    refine OGo.st (fun t k => XS.iconst X110.here hx rfl (hb hby at_52) k) ?_
    show OGo p.tables e below _ (T110.setTop (mkF m 53 #[.val (.int p0), .val (.int p1), .val (.int p2), .val (.int p3), .val (.int p4), .val (.int (1 : Int32)), .val (.int (p4 &&& (7 : Int32))), .val (.ref b108), .unset, .unset] [(.int (2 : Int32)), (.int (1 : Int32))]))
    refine OGo.st (fun t k => XS.icmpYes X110.here hx rfl (pc0 := 53) (pc' := 62) rfl (hb hby at_53) rfl (flt (by decide : ¬ ((2 : Int32) < (1 : Int32)))).2.2.2 (by decide) (by decide) k) ?_
    show OGo p.tables e below _ (T110.setTop (mkF m 62 #[.val (.int p0), .val (.int p1), .val (.int p2), .val (.int p3), .val (.int p4), .val (.int (1 : Int32)), .val (.int (p4 &&& (7 : Int32))), .val (.ref b108), .unset, .unset] []))
    refine OGo.st (fun t k => XS.iload X110.here hx rfl (hb hby at_62) rfl k) ?_
    show OGo p.tables e below _ (T110.setTop (mkF m 64 #[.val (.int p0), .val (.int p1), .val (.int p2), .val (.int p3), .val (.int p4), .val (.int (1 : Int32)), .val (.int (p4 &&& (7 : Int32))), .val (.ref b108), .unset, .unset] [(.int (1 : Int32))]))
    refine OGo.st (fun t k => XS.ifYes X110.here hx rfl (pc0 := 64) (pc' := 73) rfl (hb hby at_64) rfl ((if0 _ _).trans (feq (by decide : ¬ ((1 : Int32) = (0 : Int32)))).2) (by decide) (by decide) k) ?_
    show OGo p.tables e below _ (T110.setTop (mkF m 73 #[.val (.int p0), .val (.int p1), .val (.int p2), .val (.int p3), .val (.int p4), .val (.int (1 : Int32)), .val (.int (p4 &&& (7 : Int32))), .val (.ref b108), .unset, .unset] []))
    refine OGo.st (fun t k => XS.aload X110.here hx rfl (hb hby at_73) rfl rfl k) ?_
    show OGo p.tables e below _ (T110.setTop (mkF m 75 #[.val (.int p0), .val (.int p1), .val (.int p2), .val (.int p3), .val (.int p4), .val (.int (1 : Int32)), .val (.int (p4 &&& (7 : Int32))), .val (.ref b108), .unset, .unset] [(.ref b108)]))
    refine OGo.st (fun t k => XS.iload X110.here hx rfl (hb hby at_75) rfl k) ?_
    show OGo p.tables e below _ (T110.setTop (mkF m 77 #[.val (.int p0), .val (.int p1), .val (.int p2), .val (.int p3), .val (.int p4), .val (.int (1 : Int32)), .val (.int (p4 &&& (7 : Int32))), .val (.ref b108), .unset, .unset] [(.int (1 : Int32)), (.ref b108)]))
    refine OGo.st (fun t k => XS.iconst X110.here hx rfl (hb hby at_77) k) ?_
    show OGo p.tables e below _ (T110.setTop (mkF m 78 #[.val (.int p0), .val (.int p1), .val (.int p2), .val (.int p3), .val (.int p4), .val (.int (1 : Int32)), .val (.int (p4 &&& (7 : Int32))), .val (.ref b108), .unset, .unset] [(.int (1 : Int32)), (.int (1 : Int32)), (.ref b108)]))
    refine OGo.st (fun t k => XS.isub X110.here hx rfl (hb hby at_78) rfl k) ?_
    show OGo p.tables e below _ (T110.setTop (mkF m 79 #[.val (.int p0), .val (.int p1), .val (.int p2), .val (.int p3), .val (.int p4), .val (.int (1 : Int32)), .val (.int (p4 &&& (7 : Int32))), .val (.ref b108), .unset, .unset] [(.int (0 : Int32)), (.ref b108)]))
    obtain ⟨cl111, Ar111, qc111, Sz111, Nz111, Hs111, Gs111⟩ := id V110
    have hin111 : ¬ ((0 : Int32) < 0 ∨ cl111.slots.size ≤ ((0 : Int32)).toNatClampNeg) := inb_of Sz111 ⟨by decide, by decide⟩
    have hat111 : cl111.slots[((0 : Int32)).toNatClampNeg]? = some (.int (((p1).toInt8.toInt32)).toInt8.toInt32) := Has.at Hs111 hin111 rfl
    refine OGo.st (fun t k => X110.baloadBytes hx (j := (0 : Int32)) (v := (.int (((p1).toInt8.toInt32)).toInt8.toInt32)) (by rw [e110]; exact Ar111.1) (State.isArrayOf_alike hZ.alike Ar111.2.1) Ar111.2.2 hin111 hat111 (g := (mkF m 79 #[.val (.int p0), .val (.int p1), .val (.int p2), .val (.int p3), .val (.int p4), .val (.int (1 : Int32)), .val (.int (p4 &&& (7 : Int32))), .val (.ref b108), .unset, .unset] [(.int (0 : Int32)), (.ref b108)])) rfl rfl (hb hby at_79) _ k) ?_
    show OGo p.tables e below _ (T110.setTop (mkF m 80 #[.val (.int p0), .val (.int p1), .val (.int p2), .val (.int p3), .val (.int p4), .val (.int (1 : Int32)), .val (.int (p4 &&& (7 : Int32))), .val (.ref b108), .unset, .unset] [(.int (((p1).toInt8.toInt32)).toInt8.toInt32)]))
    refine OGo.st (fun t k => XS.sipush X110.here hx rfl (hb hby at_80) k) ?_
    show OGo p.tables e below _ (T110.setTop (mkF m 83 #[.val (.int p0), .val (.int p1), .val (.int p2), .val (.int p3), .val (.int p4), .val (.int (1 : Int32)), .val (.int (p4 &&& (7 : Int32))), .val (.ref b108), .unset, .unset] [(.int (255 : Int32)), (.int (((p1).toInt8.toInt32)).toInt8.toInt32)]))
    refine OGo.st (fun t k => XS.iand X110.here hx rfl (hb hby at_83) rfl k) ?_
    show OGo p.tables e below _ (T110.setTop (mkF m 84 #[.val (.int p0), .val (.int p1), .val (.int p2), .val (.int p3), .val (.int p4), .val (.int (1 : Int32)), .val (.int (p4 &&& (7 : Int32))), .val (.ref b108), .unset, .unset] [(.int ((((p1).toInt8.toInt32)).toInt8.toInt32 &&& (255 : Int32)))]))
    refine OGo.st (fun t k => XS.istore X110.here hx rfl (hb hby at_84) rfl (l' := #[.val (.int p0), .val (.int p1), .val (.int p2), .val (.int p3), .val (.int p4), .val (.int (1 : Int32)), .val (.int (p4 &&& (7 : Int32))), .val (.ref b108), .unset, .val (.int ((((p1).toInt8.toInt32)).toInt8.toInt32 &&& (255 : Int32)))]) rfl k) ?_
    show OGo p.tables e below _ (T110.setTop (mkF m 86 #[.val (.int p0), .val (.int p1), .val (.int p2), .val (.int p3), .val (.int p4), .val (.int (1 : Int32)), .val (.int (p4 &&& (7 : Int32))), .val (.ref b108), .unset, .val (.int ((((p1).toInt8.toInt32)).toInt8.toInt32 &&& (255 : Int32)))] []))
    refine OGo.st (fun t k => XS.iload X110.here hx rfl (hb hby at_86) rfl k) ?_
    show OGo p.tables e below _ (T110.setTop (mkF m 88 #[.val (.int p0), .val (.int p1), .val (.int p2), .val (.int p3), .val (.int p4), .val (.int (1 : Int32)), .val (.int (p4 &&& (7 : Int32))), .val (.ref b108), .unset, .val (.int ((((p1).toInt8.toInt32)).toInt8.toInt32 &&& (255 : Int32)))] [(.int ((((p1).toInt8.toInt32)).toInt8.toInt32 &&& (255 : Int32)))]))
    refine OGo.st (fun t k => XS.iload X110.here hx rfl (hb hby at_88) rfl k) ?_
    show OGo p.tables e below _ (T110.setTop (mkF m 90 #[.val (.int p0), .val (.int p1), .val (.int p2), .val (.int p3), .val (.int p4), .val (.int (1 : Int32)), .val (.int (p4 &&& (7 : Int32))), .val (.ref b108), .unset, .val (.int ((((p1).toInt8.toInt32)).toInt8.toInt32 &&& (255 : Int32)))] [(.int (p4 &&& (7 : Int32))), (.int ((((p1).toInt8.toInt32)).toInt8.toInt32 &&& (255 : Int32)))]))
    refine OGo.st (fun t k => XS.iushr X110.here hx rfl (hb hby at_90) rfl k) ?_
    show OGo p.tables e below _ (T110.setTop (mkF m 91 #[.val (.int p0), .val (.int p1), .val (.int p2), .val (.int p3), .val (.int p4), .val (.int (1 : Int32)), .val (.int (p4 &&& (7 : Int32))), .val (.ref b108), .unset, .val (.int ((((p1).toInt8.toInt32)).toInt8.toInt32 &&& (255 : Int32)))] [(.int ((((((p1).toInt8.toInt32)).toInt8.toInt32 &&& (255 : Int32)).toUInt32 >>> ((p4 &&& (7 : Int32)) &&& 31).toUInt32).toInt32))]))
    refine OGo.st (fun t k => XS.iload X110.here hx rfl (hb hby at_91) rfl k) ?_
    show OGo p.tables e below _ (T110.setTop (mkF m 93 #[.val (.int p0), .val (.int p1), .val (.int p2), .val (.int p3), .val (.int p4), .val (.int (1 : Int32)), .val (.int (p4 &&& (7 : Int32))), .val (.ref b108), .unset, .val (.int ((((p1).toInt8.toInt32)).toInt8.toInt32 &&& (255 : Int32)))] [(.int (p4 &&& (7 : Int32))), (.int ((((((p1).toInt8.toInt32)).toInt8.toInt32 &&& (255 : Int32)).toUInt32 >>> ((p4 &&& (7 : Int32)) &&& 31).toUInt32).toInt32))]))
    refine OGo.st (fun t k => XS.ishl X110.here hx rfl (hb hby at_93) rfl k) ?_
    show OGo p.tables e below _ (T110.setTop (mkF m 94 #[.val (.int p0), .val (.int p1), .val (.int p2), .val (.int p3), .val (.int p4), .val (.int (1 : Int32)), .val (.int (p4 &&& (7 : Int32))), .val (.ref b108), .unset, .val (.int ((((p1).toInt8.toInt32)).toInt8.toInt32 &&& (255 : Int32)))] [(.int (((((((p1).toInt8.toInt32)).toInt8.toInt32 &&& (255 : Int32)).toUInt32 >>> ((p4 &&& (7 : Int32)) &&& 31).toUInt32).toInt32) <<< ((p4 &&& (7 : Int32)) &&& 31)))]))
    refine OGo.st (fun t k => XS.iload X110.here hx rfl (hb hby at_94) rfl k) ?_
    show OGo p.tables e below _ (T110.setTop (mkF m 96 #[.val (.int p0), .val (.int p1), .val (.int p2), .val (.int p3), .val (.int p4), .val (.int (1 : Int32)), .val (.int (p4 &&& (7 : Int32))), .val (.ref b108), .unset, .val (.int ((((p1).toInt8.toInt32)).toInt8.toInt32 &&& (255 : Int32)))] [(.int ((((p1).toInt8.toInt32)).toInt8.toInt32 &&& (255 : Int32))), (.int (((((((p1).toInt8.toInt32)).toInt8.toInt32 &&& (255 : Int32)).toUInt32 >>> ((p4 &&& (7 : Int32)) &&& 31).toUInt32).toInt32) <<< ((p4 &&& (7 : Int32)) &&& 31)))]))
    by_cases hc96_112 : (((((((p1).toInt8.toInt32)).toInt8.toInt32 &&& (255 : Int32)).toUInt32 >>> ((p4 &&& (7 : Int32)) &&& 31).toUInt32).toInt32) <<< ((p4 &&& (7 : Int32)) &&& 31)) = ((((p1).toInt8.toInt32)).toInt8.toInt32 &&& (255 : Int32))
    ·
      refine OGo.st (fun t k => XS.icmpNo X110.here hx rfl (hb hby at_96) rfl (teq hc96_112).2 k) ?_
      show OGo p.tables e below _ (T110.setTop (mkF m 99 #[.val (.int p0), .val (.int p1), .val (.int p2), .val (.int p3), .val (.int p4), .val (.int (1 : Int32)), .val (.int (p4 &&& (7 : Int32))), .val (.ref b108), .unset, .val (.int ((((p1).toInt8.toInt32)).toInt8.toInt32 &&& (255 : Int32)))] []))
      refine OGo.st (fun t k => XS.iconst X110.here hx rfl (hb hby at_99) k) ?_
      show OGo p.tables e below _ (T110.setTop (mkF m 100 #[.val (.int p0), .val (.int p1), .val (.int p2), .val (.int p3), .val (.int p4), .val (.int (1 : Int32)), .val (.int (p4 &&& (7 : Int32))), .val (.ref b108), .unset, .val (.int ((((p1).toInt8.toInt32)).toInt8.toInt32 &&& (255 : Int32)))] [(.int (1 : Int32))]))
      refine OGo.st (fun t k => XS.goto X110.here hx rfl (pc0 := 100) (pc' := 104) rfl (hb hby at_100) (by decide) (by decide) k) ?_
      show OGo p.tables e below _ (T110.setTop (mkF m 104 #[.val (.int p0), .val (.int p1), .val (.int p2), .val (.int p3), .val (.int p4), .val (.int (1 : Int32)), .val (.int (p4 &&& (7 : Int32))), .val (.ref b108), .unset, .val (.int ((((p1).toInt8.toInt32)).toInt8.toInt32 &&& (255 : Int32)))] [(.int (1 : Int32))]))
      refine OGo.st (fun t k => XS.istore X110.here hx rfl (hb hby at_104) rfl (l' := #[.val (.int p0), .val (.int p1), .val (.int p2), .val (.int p3), .val (.int p4), .val (.int (1 : Int32)), .val (.int (p4 &&& (7 : Int32))), .val (.ref b108), .val (.int (1 : Int32)), .val (.int ((((p1).toInt8.toInt32)).toInt8.toInt32 &&& (255 : Int32)))]) rfl k) ?_
      show OGo p.tables e below _ (T110.setTop (mkF m 106 #[.val (.int p0), .val (.int p1), .val (.int p2), .val (.int p3), .val (.int p4), .val (.int (1 : Int32)), .val (.int (p4 &&& (7 : Int32))), .val (.ref b108), .val (.int (1 : Int32)), .val (.int ((((p1).toInt8.toInt32)).toInt8.toInt32 &&& (255 : Int32)))] []))
      obtain ⟨T113, h113, X113, e113, E113, A113, D113, -, st113⟩ := newO X110 hx hZ hown (hw _ (List.mem_of_getElem? (i := 1) rfl)) (hw _ (List.mem_of_getElem? (i := 2) rfl)) (hw _ (List.mem_of_getElem? (i := 3) rfl)) e110 (g := (mkF m 106 #[.val (.int p0), .val (.int p1), .val (.int p2), .val (.int p3), .val (.int p4), .val (.int (1 : Int32)), .val (.int (p4 &&& (7 : Int32))), .val (.ref b108), .val (.int (1 : Int32)), .val (.int ((((p1).toInt8.toInt32)).toInt8.toInt32 &&& (255 : Int32)))] [])) rfl (hb hby at_106) (by decide) (by decide)
      obtain ⟨b113, g113⟩ : ∃ z, z = h110.size := ⟨_, rfl⟩
      rw [← g113] at A113 D113 st113
      have ge_b113 : n0 ≤ b113 := Nat.le_trans (Nat.le_trans (Nat.le_trans Z0 E108.1) (Keep.of_wr W110).1) (Nat.le_of_eq g113.symm)
      have sz_b113 : h0.size ≤ b113 := Nat.le_trans (Nat.le_trans (Nat.le_trans (Nat.le_refl h0.size) E108.1) (Keep.of_wr W110).1) (Nat.le_of_eq g113.symm)
      have ne_b108_b113 : b108 ≠ b113 := Nat.ne_of_lt (Nat.lt_of_lt_of_le V110.lt (Nat.le_of_eq g113.symm))
      refine OGo.st st113 ?_
      have Fn113_octets : Fld Z h113 b113 "com/example/holdfast/holdfast/resources/DerValue$BitString" "octets" "[B" .null := D113 (Or.inr (hw _ (List.mem_of_getElem? (i := 11) rfl))) (ty := (.array .byte)) (by decide)
      have Fn113_unusedBits : Fld Z h113 b113 "com/example/holdfast/holdfast/resources/DerValue$BitString" "unusedBits" "I" (.int (0 : Int32)) := D113 (Or.inr (hw _ (List.mem_of_getElem? (i := 13) rfl))) (ty := .int) (by decide)
      show OGo p.tables e below _ (T113.setTop (mkF m 109 #[.val (.int p0), .val (.int p1), .val (.int p2), .val (.int p3), .val (.int p4), .val (.int (1 : Int32)), .val (.int (p4 &&& (7 : Int32))), .val (.ref b108), .val (.int (1 : Int32)), .val (.int ((((p1).toInt8.toInt32)).toInt8.toInt32 &&& (255 : Int32)))] [(.ref b113)]))
      refine OGo.st (fun t k => XS.dup X113.here hx rfl (hb hby at_109) rfl rfl k) ?_
      show OGo p.tables e below _ (T113.setTop (mkF m 110 #[.val (.int p0), .val (.int p1), .val (.int p2), .val (.int p3), .val (.int p4), .val (.int (1 : Int32)), .val (.int (p4 &&& (7 : Int32))), .val (.ref b108), .val (.int (1 : Int32)), .val (.int ((((p1).toInt8.toInt32)).toInt8.toInt32 &&& (255 : Int32)))] [(.ref b113), (.ref b113)]))
      refine OGo.st (fun t k => XS.aload X113.here hx rfl (hb hby at_110) rfl rfl k) ?_
      show OGo p.tables e below _ (T113.setTop (mkF m 112 #[.val (.int p0), .val (.int p1), .val (.int p2), .val (.int p3), .val (.int p4), .val (.int (1 : Int32)), .val (.int (p4 &&& (7 : Int32))), .val (.ref b108), .val (.int (1 : Int32)), .val (.int ((((p1).toInt8.toInt32)).toInt8.toInt32 &&& (255 : Int32)))] [(.ref b108), (.ref b113), (.ref b113)]))
      refine OGo.st (fun t k => XS.iload X113.here hx rfl (hb hby at_112) rfl k) ?_
      show OGo p.tables e below _ (T113.setTop (mkF m 114 #[.val (.int p0), .val (.int p1), .val (.int p2), .val (.int p3), .val (.int p4), .val (.int (1 : Int32)), .val (.int (p4 &&& (7 : Int32))), .val (.ref b108), .val (.int (1 : Int32)), .val (.int ((((p1).toInt8.toInt32)).toInt8.toInt32 &&& (255 : Int32)))] [(.int (p4 &&& (7 : Int32))), (.ref b108), (.ref b113), (.ref b113)]))
      obtain ⟨_, _, ⟨T114, L114, kk114, nn114⟩, -, X114, ⟨Lc114, hQ114, l114, y114, z114⟩, st114⟩ := X113.specialBack hx (y := (⟨"com/example/holdfast/holdfast/resources/DerValue$BitString", "<init>", "([BI)V"⟩ : MethodName)) rfl hown (mvT hZ (hw _ (List.mem_of_getElem? (i := 4) rfl))) (mvT hZ (hw _ (List.mem_of_getElem? (i := 5) rfl))) (mvT hZ (hw _ (List.mem_of_getElem? (i := 6) rfl))) (by decide) (backOf (W := 1) (rm0 l Z ar hw [] b113 b108 (p4 &&& (7 : Int32)) h113 n0 (Nat.le_trans (Nat.le_trans (Nat.le_trans Z0 E108.1) (Keep.of_wr W110).1) E113.1) A113 ge_b113 Fn113_octets Fn113_unusedBits) hZ (hw _ (List.mem_of_getElem? (i := 6) rfl)) (hw _ (List.mem_of_getElem? (i := 3) rfl)) (by decide) (by decide)) (g := (mkF m 114 #[.val (.int p0), .val (.int p1), .val (.int p2), .val (.int p3), .val (.int p4), .val (.int (1 : Int32)), .val (.int (p4 &&& (7 : Int32))), .val (.ref b108), .val (.int (1 : Int32)), .val (.int ((((p1).toInt8.toInt32)).toInt8.toInt32 &&& (255 : Int32)))] [(.int (p4 &&& (7 : Int32))), (.ref b108), (.ref b113), (.ref b113)])) rfl (by rw [hml]; rfl) (Steps.refl _) (a := b113) (argsL := [(.ref b108), (.int (p4 &&& (7 : Int32)))]) (rest := [(.ref b113)]) (lenOf pd_0 rfl) rfl (by show 2 * 0 + _ ≤ _; exact Nat.le_of_eq rfl) (hb hby at_114) (fun _ _ => ⟨rfl, e113, (by decide : 2 + 0 ≤ _), (by decide : 3 + 0 ≤ _)⟩)
      dsimp only [Pt.U, Pt.locs, Pt.cells, Pt.slots] at X114 l114 y114 z114 st114 hQ114
      subst l114 y114 z114
      obtain ⟨rfl, Nq114, K114, P114_0, P114_1⟩ := hQ114
      have N114 := Fr.app N110 Nq114
      refine OGo.st (fun t k => st114.trans k) ?_
      show OGo p.tables e below _ (T114.setTop (mkF m 117 #[.val (.int p0), .val (.int p1), .val (.int p2), .val (.int p3), .val (.int p4), .val (.int (1 : Int32)), .val (.int (p4 &&& (7 : Int32))), .val (.ref b108), .val (.int (1 : Int32)), .val (.int ((((p1).toInt8.toInt32)).toInt8.toInt32 &&& (255 : Int32)))] [(.ref b113)]))
      refine OGo.st (fun t k => XS.astore X114.here hx rfl (hb hby at_117) rfl rfl (l' := #[.val (.int p0), .val (.int p1), .val (.int p2), .val (.int p3), .val (.int p4), .val (.int (1 : Int32)), .val (.int (p4 &&& (7 : Int32))), .val (.ref b108), .val (.int (1 : Int32)), .val (.ref b113)]) rfl k) ?_
      show OGo p.tables e below _ (T114.setTop (mkF m 119 #[.val (.int p0), .val (.int p1), .val (.int p2), .val (.int p3), .val (.int p4), .val (.int (1 : Int32)), .val (.int (p4 &&& (7 : Int32))), .val (.ref b108), .val (.int (1 : Int32)), .val (.ref b113)] []))
      refine OGo.st (fun t k => XS.aload X114.here hx rfl (hb hby at_119) rfl rfl k) ?_
      show OGo p.tables e below _ (T114.setTop (mkF m 121 #[.val (.int p0), .val (.int p1), .val (.int p2), .val (.int p3), .val (.int p4), .val (.int (1 : Int32)), .val (.int (p4 &&& (7 : Int32))), .val (.ref b108), .val (.int (1 : Int32)), .val (.ref b113)] [(.ref b113)]))
      have G115 : Arv Z T114.heap b108 k108 .byte (1 : Int32) [(.int (((p1).toInt8.toInt32)).toInt8.toInt32)] (.int (0 : Int32)) := ((V110.ext E113).keep K114 (ninS ne_b108_b113 nin0))
      have G117 : Exa Z T114.heap b113 "com/example/holdfast/holdfast/resources/DerValue$BitString" := (A113.keep K114)
      obtain ⟨cq116, kq116, q116a, q116b, q116c⟩ := isOf hZ rfl G117
      obtain ⟨_, _, ⟨T116, L116, kk116, nn116⟩, -, X116, ⟨Lc116, hQ116, l116, y116, z116⟩, st116⟩ := X114.virtualBack hx (y := (⟨"com/example/holdfast/holdfast/resources/DerValue$BitString", "paddingIsZero", "()Z"⟩ : MethodName)) (z := (⟨"com/example/holdfast/holdfast/resources/DerValue$BitString", "paddingIsZero", "()Z"⟩ : MethodName)) hown (mvT hZ (hw _ (List.mem_of_getElem? (i := 14) rfl))) (mvT hZ (hw _ (List.mem_of_getElem? (i := 15) rfl))) (notFace_of_selects (args := #[]) (mvT hZ (hw _ (List.mem_of_getElem? (i := 17) rfl)))) (mvT hZ (hw _ (List.mem_of_getElem? (i := 17) rfl))) (mvT hZ (hw _ (List.mem_of_getElem? (i := 16) rfl))) (by decide) (backOf (W := 0) (rm2 l Z ar hw [] b113 b108 k108 (p4 &&& (7 : Int32)) (((p1).toInt8.toInt32)).toInt8.toInt32 T114.heap n0 (Nat.le_trans (Nat.le_trans (Nat.le_trans (Nat.le_trans Z0 E108.1) (Keep.of_wr W110).1) E113.1) K114.1) P114_0 P114_1 G115) hZ (hw _ (List.mem_of_getElem? (i := 18) rfl)) (hw _ (List.mem_of_getElem? (i := 3) rfl)) (by decide) (by decide)) q116a q116c (g := (mkF m 121 #[.val (.int p0), .val (.int p1), .val (.int p2), .val (.int p3), .val (.int p4), .val (.int (1 : Int32)), .val (.int (p4 &&& (7 : Int32))), .val (.ref b108), .val (.int (1 : Int32)), .val (.ref b113)] [(.ref b113)])) rfl (by rw [hml]; rfl) (Steps.refl _) (argsL := []) (rest := []) (lenOf pd_1 rfl) rfl (by show 2 * 0 + _ ≤ _; exact Nat.le_of_eq rfl) (hb hby at_121) (fun _ _ => ⟨rfl, rfl, (by decide : 2 + 0 ≤ _), (by decide : 3 + 0 ≤ _)⟩)
      dsimp only [Pt.U, Pt.locs, Pt.cells, Pt.slots] at X116 l116 y116 z116 st116 hQ116
      subst l116 y116 z116
      obtain ⟨rfl, Nq116, hh116⟩ := hQ116
      have N116 := Fr.app N114 Nq116
      refine OGo.st (fun t k => st116.trans k) ?_
      have e116 : T116.heap = T114.heap := hh116
      show OGo p.tables e below _ (T116.setTop (mkF m 124 #[.val (.int p0), .val (.int p1), .val (.int p2), .val (.int p3), .val (.int p4), .val (.int (1 : Int32)), .val (.int (p4 &&& (7 : Int32))), .val (.ref b108), .val (.int (1 : Int32)), .val (.ref b113)] [(.int (own_pz (((p1).toInt8.toInt32)).toInt8.toInt32 (p4 &&& (7 : Int32))))]))
      refine OGo.st (fun t k => XS.iload X116.here hx rfl (hb hby at_124) rfl k) ?_
      show OGo p.tables e below _ (T116.setTop (mkF m 126 #[.val (.int p0), .val (.int p1), .val (.int p2), .val (.int p3), .val (.int p4), .val (.int (1 : Int32)), .val (.int (p4 &&& (7 : Int32))), .val (.ref b108), .val (.int (1 : Int32)), .val (.ref b113)] [(.int (1 : Int32)), (.int (own_pz (((p1).toInt8.toInt32)).toInt8.toInt32 (p4 &&& (7 : Int32))))]))
      refine OGo.st (fun t k => XS.icmpNo X116.here hx rfl (hb hby at_126) rfl (teq ((by rw [own_bb, own_pe, own_ex]; rw [own_bb] at hc96_112; rw [if_pos hc96_112]) : (own_pz (((p1).toInt8.toInt32)).toInt8.toInt32 (p4 &&& (7 : Int32))) = (1 : Int32))).2 k) ?_
      show OGo p.tables e below _ (T116.setTop (mkF m 129 #[.val (.int p0), .val (.int p1), .val (.int p2), .val (.int p3), .val (.int p4), .val (.int (1 : Int32)), .val (.int (p4 &&& (7 : Int32))), .val (.ref b108), .val (.int (1 : Int32)), .val (.ref b113)] []))
      refine OGo.st (fun t k => XS.iconst X116.here hx rfl (hb hby at_129) k) ?_
      show OGo p.tables e below _ (T116.setTop (mkF m 130 #[.val (.int p0), .val (.int p1), .val (.int p2), .val (.int p3), .val (.int p4), .val (.int (1 : Int32)), .val (.int (p4 &&& (7 : Int32))), .val (.ref b108), .val (.int (1 : Int32)), .val (.ref b113)] [(.int (1 : Int32))]))
      refine OGo.st (fun t k => XS.goto X116.here hx rfl (pc0 := 130) (pc' := 134) rfl (hb hby at_130) (by decide) (by decide) k) ?_
      show OGo p.tables e below _ (T116.setTop (mkF m 134 #[.val (.int p0), .val (.int p1), .val (.int p2), .val (.int p3), .val (.int p4), .val (.int (1 : Int32)), .val (.int (p4 &&& (7 : Int32))), .val (.ref b108), .val (.int (1 : Int32)), .val (.ref b113)] [(.int (1 : Int32))]))
      obtain ⟨fs, hr, hrun, hended, hW, hsame⟩ := X116.leave (v := some (.int (1 : Int32))) (fun h => by rw [Bd.returns] at h; cases h)
      refine OGo.done (retN X116 hx (t := .boolean) Bd.returns (by simp) (hb hby at_134) hr) ⟨hrun, hended, _, _, rfl, ?_, ⟨_, rfl⟩, hW, hsame.mono (by decide) (by decide)⟩
      show Q5 Z p0 p1 p2 p3 p4 h0 n0 _ T116.heap _
      rw [e116]
      exact ⟨rfl, N116⟩
    ·
      refine OGo.st (fun t k => XS.icmpYes X110.here hx rfl (pc0 := 96) (pc' := 103) rfl (hb hby at_96) rfl (feq hc96_112).2 (by decide) (by decide) k) ?_
      show OGo p.tables e below _ (T110.setTop (mkF m 103 #[.val (.int p0), .val (.int p1), .val (.int p2), .val (.int p3), .val (.int p4), .val (.int (1 : Int32)), .val (.int (p4 &&& (7 : Int32))), .val (.ref b108), .unset, .val (.int ((((p1).toInt8.toInt32)).toInt8.toInt32 &&& (255 : Int32)))] []))
      refine OGo.st (fun t k => XS.iconst X110.here hx rfl (hb hby at_103) k) ?_
      show OGo p.tables e below _ (T110.setTop (mkF m 104 #[.val (.int p0), .val (.int p1), .val (.int p2), .val (.int p3), .val (.int p4), .val (.int (1 : Int32)), .val (.int (p4 &&& (7 : Int32))), .val (.ref b108), .unset, .val (.int ((((p1).toInt8.toInt32)).toInt8.toInt32 &&& (255 : Int32)))] [(.int (0 : Int32))]))
      refine OGo.st (fun t k => XS.istore X110.here hx rfl (hb hby at_104) rfl (l' := #[.val (.int p0), .val (.int p1), .val (.int p2), .val (.int p3), .val (.int p4), .val (.int (1 : Int32)), .val (.int (p4 &&& (7 : Int32))), .val (.ref b108), .val (.int (0 : Int32)), .val (.int ((((p1).toInt8.toInt32)).toInt8.toInt32 &&& (255 : Int32)))]) rfl k) ?_
      show OGo p.tables e below _ (T110.setTop (mkF m 106 #[.val (.int p0), .val (.int p1), .val (.int p2), .val (.int p3), .val (.int p4), .val (.int (1 : Int32)), .val (.int (p4 &&& (7 : Int32))), .val (.ref b108), .val (.int (0 : Int32)), .val (.int ((((p1).toInt8.toInt32)).toInt8.toInt32 &&& (255 : Int32)))] []))
      obtain ⟨T119, h119, X119, e119, E119, A119, D119, -, st119⟩ := newO X110 hx hZ hown (hw _ (List.mem_of_getElem? (i := 1) rfl)) (hw _ (List.mem_of_getElem? (i := 2) rfl)) (hw _ (List.mem_of_getElem? (i := 3) rfl)) e110 (g := (mkF m 106 #[.val (.int p0), .val (.int p1), .val (.int p2), .val (.int p3), .val (.int p4), .val (.int (1 : Int32)), .val (.int (p4 &&& (7 : Int32))), .val (.ref b108), .val (.int (0 : Int32)), .val (.int ((((p1).toInt8.toInt32)).toInt8.toInt32 &&& (255 : Int32)))] [])) rfl (hb hby at_106) (by decide) (by decide)
      obtain ⟨b119, g119⟩ : ∃ z, z = h110.size := ⟨_, rfl⟩
      rw [← g119] at A119 D119 st119
      have ge_b119 : n0 ≤ b119 := Nat.le_trans (Nat.le_trans (Nat.le_trans Z0 E108.1) (Keep.of_wr W110).1) (Nat.le_of_eq g119.symm)
      have sz_b119 : h0.size ≤ b119 := Nat.le_trans (Nat.le_trans (Nat.le_trans (Nat.le_refl h0.size) E108.1) (Keep.of_wr W110).1) (Nat.le_of_eq g119.symm)
      have ne_b108_b119 : b108 ≠ b119 := Nat.ne_of_lt (Nat.lt_of_lt_of_le V110.lt (Nat.le_of_eq g119.symm))
      refine OGo.st st119 ?_
      have Fn119_octets : Fld Z h119 b119 "com/example/holdfast/holdfast/resources/DerValue$BitString" "octets" "[B" .null := D119 (Or.inr (hw _ (List.mem_of_getElem? (i := 11) rfl))) (ty := (.array .byte)) (by decide)
      have Fn119_unusedBits : Fld Z h119 b119 "com/example/holdfast/holdfast/resources/DerValue$BitString" "unusedBits" "I" (.int (0 : Int32)) := D119 (Or.inr (hw _ (List.mem_of_getElem? (i := 13) rfl))) (ty := .int) (by decide)
      show OGo p.tables e below _ (T119.setTop (mkF m 109 #[.val (.int p0), .val (.int p1), .val (.int p2), .val (.int p3), .val (.int p4), .val (.int (1 : Int32)), .val (.int (p4 &&& (7 : Int32))), .val (.ref b108), .val (.int (0 : Int32)), .val (.int ((((p1).toInt8.toInt32)).toInt8.toInt32 &&& (255 : Int32)))] [(.ref b119)]))
      refine OGo.st (fun t k => XS.dup X119.here hx rfl (hb hby at_109) rfl rfl k) ?_
      show OGo p.tables e below _ (T119.setTop (mkF m 110 #[.val (.int p0), .val (.int p1), .val (.int p2), .val (.int p3), .val (.int p4), .val (.int (1 : Int32)), .val (.int (p4 &&& (7 : Int32))), .val (.ref b108), .val (.int (0 : Int32)), .val (.int ((((p1).toInt8.toInt32)).toInt8.toInt32 &&& (255 : Int32)))] [(.ref b119), (.ref b119)]))
      refine OGo.st (fun t k => XS.aload X119.here hx rfl (hb hby at_110) rfl rfl k) ?_
      show OGo p.tables e below _ (T119.setTop (mkF m 112 #[.val (.int p0), .val (.int p1), .val (.int p2), .val (.int p3), .val (.int p4), .val (.int (1 : Int32)), .val (.int (p4 &&& (7 : Int32))), .val (.ref b108), .val (.int (0 : Int32)), .val (.int ((((p1).toInt8.toInt32)).toInt8.toInt32 &&& (255 : Int32)))] [(.ref b108), (.ref b119), (.ref b119)]))
      refine OGo.st (fun t k => XS.iload X119.here hx rfl (hb hby at_112) rfl k) ?_
      show OGo p.tables e below _ (T119.setTop (mkF m 114 #[.val (.int p0), .val (.int p1), .val (.int p2), .val (.int p3), .val (.int p4), .val (.int (1 : Int32)), .val (.int (p4 &&& (7 : Int32))), .val (.ref b108), .val (.int (0 : Int32)), .val (.int ((((p1).toInt8.toInt32)).toInt8.toInt32 &&& (255 : Int32)))] [(.int (p4 &&& (7 : Int32))), (.ref b108), (.ref b119), (.ref b119)]))
      obtain ⟨_, _, ⟨T120, L120, kk120, nn120⟩, -, X120, ⟨Lc120, hQ120, l120, y120, z120⟩, st120⟩ := X119.specialBack hx (y := (⟨"com/example/holdfast/holdfast/resources/DerValue$BitString", "<init>", "([BI)V"⟩ : MethodName)) rfl hown (mvT hZ (hw _ (List.mem_of_getElem? (i := 4) rfl))) (mvT hZ (hw _ (List.mem_of_getElem? (i := 5) rfl))) (mvT hZ (hw _ (List.mem_of_getElem? (i := 6) rfl))) (by decide) (backOf (W := 1) (rm0 l Z ar hw [] b119 b108 (p4 &&& (7 : Int32)) h119 n0 (Nat.le_trans (Nat.le_trans (Nat.le_trans Z0 E108.1) (Keep.of_wr W110).1) E119.1) A119 ge_b119 Fn119_octets Fn119_unusedBits) hZ (hw _ (List.mem_of_getElem? (i := 6) rfl)) (hw _ (List.mem_of_getElem? (i := 3) rfl)) (by decide) (by decide)) (g := (mkF m 114 #[.val (.int p0), .val (.int p1), .val (.int p2), .val (.int p3), .val (.int p4), .val (.int (1 : Int32)), .val (.int (p4 &&& (7 : Int32))), .val (.ref b108), .val (.int (0 : Int32)), .val (.int ((((p1).toInt8.toInt32)).toInt8.toInt32 &&& (255 : Int32)))] [(.int (p4 &&& (7 : Int32))), (.ref b108), (.ref b119), (.ref b119)])) rfl (by rw [hml]; rfl) (Steps.refl _) (a := b119) (argsL := [(.ref b108), (.int (p4 &&& (7 : Int32)))]) (rest := [(.ref b119)]) (lenOf pd_0 rfl) rfl (by show 2 * 0 + _ ≤ _; exact Nat.le_of_eq rfl) (hb hby at_114) (fun _ _ => ⟨rfl, e119, (by decide : 2 + 0 ≤ _), (by decide : 3 + 0 ≤ _)⟩)
      dsimp only [Pt.U, Pt.locs, Pt.cells, Pt.slots] at X120 l120 y120 z120 st120 hQ120
      subst l120 y120 z120
      obtain ⟨rfl, Nq120, K120, P120_0, P120_1⟩ := hQ120
      have N120 := Fr.app N110 Nq120
      refine OGo.st (fun t k => st120.trans k) ?_
      show OGo p.tables e below _ (T120.setTop (mkF m 117 #[.val (.int p0), .val (.int p1), .val (.int p2), .val (.int p3), .val (.int p4), .val (.int (1 : Int32)), .val (.int (p4 &&& (7 : Int32))), .val (.ref b108), .val (.int (0 : Int32)), .val (.int ((((p1).toInt8.toInt32)).toInt8.toInt32 &&& (255 : Int32)))] [(.ref b119)]))
      refine OGo.st (fun t k => XS.astore X120.here hx rfl (hb hby at_117) rfl rfl (l' := #[.val (.int p0), .val (.int p1), .val (.int p2), .val (.int p3), .val (.int p4), .val (.int (1 : Int32)), .val (.int (p4 &&& (7 : Int32))), .val (.ref b108), .val (.int (0 : Int32)), .val (.ref b119)]) rfl k) ?_
      show OGo p.tables e below _ (T120.setTop (mkF m 119 #[.val (.int p0), .val (.int p1), .val (.int p2), .val (.int p3), .val (.int p4), .val (.int (1 : Int32)), .val (.int (p4 &&& (7 : Int32))), .val (.ref b108), .val (.int (0 : Int32)), .val (.ref b119)] []))
      refine OGo.st (fun t k => XS.aload X120.here hx rfl (hb hby at_119) rfl rfl k) ?_
      show OGo p.tables e below _ (T120.setTop (mkF m 121 #[.val (.int p0), .val (.int p1), .val (.int p2), .val (.int p3), .val (.int p4), .val (.int (1 : Int32)), .val (.int (p4 &&& (7 : Int32))), .val (.ref b108), .val (.int (0 : Int32)), .val (.ref b119)] [(.ref b119)]))
      have G121 : Arv Z T120.heap b108 k108 .byte (1 : Int32) [(.int (((p1).toInt8.toInt32)).toInt8.toInt32)] (.int (0 : Int32)) := ((V110.ext E119).keep K120 (ninS ne_b108_b119 nin0))
      have G123 : Exa Z T120.heap b119 "com/example/holdfast/holdfast/resources/DerValue$BitString" := (A119.keep K120)
      obtain ⟨cq122, kq122, q122a, q122b, q122c⟩ := isOf hZ rfl G123
      obtain ⟨_, _, ⟨T122, L122, kk122, nn122⟩, -, X122, ⟨Lc122, hQ122, l122, y122, z122⟩, st122⟩ := X120.virtualBack hx (y := (⟨"com/example/holdfast/holdfast/resources/DerValue$BitString", "paddingIsZero", "()Z"⟩ : MethodName)) (z := (⟨"com/example/holdfast/holdfast/resources/DerValue$BitString", "paddingIsZero", "()Z"⟩ : MethodName)) hown (mvT hZ (hw _ (List.mem_of_getElem? (i := 14) rfl))) (mvT hZ (hw _ (List.mem_of_getElem? (i := 15) rfl))) (notFace_of_selects (args := #[]) (mvT hZ (hw _ (List.mem_of_getElem? (i := 17) rfl)))) (mvT hZ (hw _ (List.mem_of_getElem? (i := 17) rfl))) (mvT hZ (hw _ (List.mem_of_getElem? (i := 16) rfl))) (by decide) (backOf (W := 0) (rm2 l Z ar hw [] b119 b108 k108 (p4 &&& (7 : Int32)) (((p1).toInt8.toInt32)).toInt8.toInt32 T120.heap n0 (Nat.le_trans (Nat.le_trans (Nat.le_trans (Nat.le_trans Z0 E108.1) (Keep.of_wr W110).1) E119.1) K120.1) P120_0 P120_1 G121) hZ (hw _ (List.mem_of_getElem? (i := 18) rfl)) (hw _ (List.mem_of_getElem? (i := 3) rfl)) (by decide) (by decide)) q122a q122c (g := (mkF m 121 #[.val (.int p0), .val (.int p1), .val (.int p2), .val (.int p3), .val (.int p4), .val (.int (1 : Int32)), .val (.int (p4 &&& (7 : Int32))), .val (.ref b108), .val (.int (0 : Int32)), .val (.ref b119)] [(.ref b119)])) rfl (by rw [hml]; rfl) (Steps.refl _) (argsL := []) (rest := []) (lenOf pd_1 rfl) rfl (by show 2 * 0 + _ ≤ _; exact Nat.le_of_eq rfl) (hb hby at_121) (fun _ _ => ⟨rfl, rfl, (by decide : 2 + 0 ≤ _), (by decide : 3 + 0 ≤ _)⟩)
      dsimp only [Pt.U, Pt.locs, Pt.cells, Pt.slots] at X122 l122 y122 z122 st122 hQ122
      subst l122 y122 z122
      obtain ⟨rfl, Nq122, hh122⟩ := hQ122
      have N122 := Fr.app N120 Nq122
      refine OGo.st (fun t k => st122.trans k) ?_
      have e122 : T122.heap = T120.heap := hh122
      show OGo p.tables e below _ (T122.setTop (mkF m 124 #[.val (.int p0), .val (.int p1), .val (.int p2), .val (.int p3), .val (.int p4), .val (.int (1 : Int32)), .val (.int (p4 &&& (7 : Int32))), .val (.ref b108), .val (.int (0 : Int32)), .val (.ref b119)] [(.int (own_pz (((p1).toInt8.toInt32)).toInt8.toInt32 (p4 &&& (7 : Int32))))]))
      refine OGo.st (fun t k => XS.iload X122.here hx rfl (hb hby at_124) rfl k) ?_
      show OGo p.tables e below _ (T122.setTop (mkF m 126 #[.val (.int p0), .val (.int p1), .val (.int p2), .val (.int p3), .val (.int p4), .val (.int (1 : Int32)), .val (.int (p4 &&& (7 : Int32))), .val (.ref b108), .val (.int (0 : Int32)), .val (.ref b119)] [(.int (0 : Int32)), (.int (own_pz (((p1).toInt8.toInt32)).toInt8.toInt32 (p4 &&& (7 : Int32))))]))
      refine OGo.st (fun t k => XS.icmpNo X122.here hx rfl (hb hby at_126) rfl (teq ((by rw [own_bb, own_pe, own_ex]; rw [own_bb] at hc96_112; rw [if_neg hc96_112]) : (own_pz (((p1).toInt8.toInt32)).toInt8.toInt32 (p4 &&& (7 : Int32))) = (0 : Int32))).2 k) ?_
      show OGo p.tables e below _ (T122.setTop (mkF m 129 #[.val (.int p0), .val (.int p1), .val (.int p2), .val (.int p3), .val (.int p4), .val (.int (1 : Int32)), .val (.int (p4 &&& (7 : Int32))), .val (.ref b108), .val (.int (0 : Int32)), .val (.ref b119)] []))
      refine OGo.st (fun t k => XS.iconst X122.here hx rfl (hb hby at_129) k) ?_
      show OGo p.tables e below _ (T122.setTop (mkF m 130 #[.val (.int p0), .val (.int p1), .val (.int p2), .val (.int p3), .val (.int p4), .val (.int (1 : Int32)), .val (.int (p4 &&& (7 : Int32))), .val (.ref b108), .val (.int (0 : Int32)), .val (.ref b119)] [(.int (1 : Int32))]))
      refine OGo.st (fun t k => XS.goto X122.here hx rfl (pc0 := 130) (pc' := 134) rfl (hb hby at_130) (by decide) (by decide) k) ?_
      show OGo p.tables e below _ (T122.setTop (mkF m 134 #[.val (.int p0), .val (.int p1), .val (.int p2), .val (.int p3), .val (.int p4), .val (.int (1 : Int32)), .val (.int (p4 &&& (7 : Int32))), .val (.ref b108), .val (.int (0 : Int32)), .val (.ref b119)] [(.int (1 : Int32))]))
      obtain ⟨fs, hr, hrun, hended, hW, hsame⟩ := X122.leave (v := some (.int (1 : Int32))) (fun h => by rw [Bd.returns] at h; cases h)
      refine OGo.done (retN X122 hx (t := .boolean) Bd.returns (by simp) (hb hby at_134) hr) ⟨hrun, hended, _, _, rfl, ?_, ⟨_, rfl⟩, hW, hsame.mono (by decide) (by decide)⟩
      show Q5 Z p0 p1 p2 p3 p4 h0 n0 _ T122.heap _
      rw [e122]
      exact ⟨rfl, N122⟩
  ·
    rw [hn]
    show OGo p.tables e below _ (s₁.setTop (mkF m 5 #[.val (.int p0), .val (.int p1), .val (.int p2), .val (.int p3), .val (.int p4), .val (.int (2 : Int32)), .unset, .unset, .unset, .unset] []))
    refine OGo.st (fun t k => XS.iload X0.here hx rfl (hb hby at_5) rfl k) ?_
    show OGo p.tables e below _ (s₁.setTop (mkF m 7 #[.val (.int p0), .val (.int p1), .val (.int p2), .val (.int p3), .val (.int p4), .val (.int (2 : Int32)), .unset, .unset, .unset, .unset] [(.int (2 : Int32))]))
    refine OGo.st (fun t k => XS.ifYes X0.here hx rfl (pc0 := 7) (pc' := 14) rfl (hb hby at_7) rfl ((if0 _ _).trans (feq (by decide : ¬ ((2 : Int32) = (0 : Int32)))).2) (by decide) (by decide) k) ?_
    show OGo p.tables e below _ (s₁.setTop (mkF m 14 #[.val (.int p0), .val (.int p1), .val (.int p2), .val (.int p3), .val (.int p4), .val (.int (2 : Int32)), .unset, .unset, .unset, .unset] []))
    refine OGo.st (fun t k => XS.iload X0.here hx rfl (hb hby at_14) rfl k) ?_
    show OGo p.tables e below _ (s₁.setTop (mkF m 16 #[.val (.int p0), .val (.int p1), .val (.int p2), .val (.int p3), .val (.int p4), .val (.int (2 : Int32)), .unset, .unset, .unset, .unset] [(.int p4)]))
    refine OGo.st (fun t k => XS.bipush X0.here hx rfl (hb hby at_16) k) ?_
    show OGo p.tables e below _ (s₁.setTop (mkF m 18 #[.val (.int p0), .val (.int p1), .val (.int p2), .val (.int p3), .val (.int p4), .val (.int (2 : Int32)), .unset, .unset, .unset, .unset] [(.int (7 : Int32)), (.int p4)]))
    refine OGo.st (fun t k => XS.iand X0.here hx rfl (hb hby at_18) rfl k) ?_
    show OGo p.tables e below _ (s₁.setTop (mkF m 19 #[.val (.int p0), .val (.int p1), .val (.int p2), .val (.int p3), .val (.int p4), .val (.int (2 : Int32)), .unset, .unset, .unset, .unset] [(.int (p4 &&& (7 : Int32)))]))
    refine OGo.st (fun t k => XS.istore X0.here hx rfl (hb hby at_19) rfl (l' := #[.val (.int p0), .val (.int p1), .val (.int p2), .val (.int p3), .val (.int p4), .val (.int (2 : Int32)), .val (.int (p4 &&& (7 : Int32))), .unset, .unset, .unset]) rfl k) ?_
    show OGo p.tables e below _ (s₁.setTop (mkF m 21 #[.val (.int p0), .val (.int p1), .val (.int p2), .val (.int p3), .val (.int p4), .val (.int (2 : Int32)), .val (.int (p4 &&& (7 : Int32))), .unset, .unset, .unset] []))
    refine OGo.st (fun t k => XS.iload X0.here hx rfl (hb hby at_21) rfl k) ?_
    show OGo p.tables e below _ (s₁.setTop (mkF m 23 #[.val (.int p0), .val (.int p1), .val (.int p2), .val (.int p3), .val (.int p4), .val (.int (2 : Int32)), .val (.int (p4 &&& (7 : Int32))), .unset, .unset, .unset] [(.int (2 : Int32))]))
    obtain ⟨T125, h125, k125, X125, e125, E125, A125, st125⟩ := newP X0 hx hZ (hw _ (List.mem_of_getElem? (i := 0) rfl)) e0 (g := (mkF m 23 #[.val (.int p0), .val (.int p1), .val (.int p2), .val (.int p3), .val (.int p4), .val (.int (2 : Int32)), .val (.int (p4 &&& (7 : Int32))), .unset, .unset, .unset] [(.int (2 : Int32))])) rfl (hb hby at_23) rfl (by decide) (cap := 2) (by decide) (by decide) (by decide) (by decide)
    obtain ⟨b125, g125⟩ : ∃ z, z = h0.size := ⟨_, rfl⟩
    rw [← g125] at A125 st125
    have ge_b125 : n0 ≤ b125 := Nat.le_trans Z0 (Nat.le_of_eq g125.symm)
    have sz_b125 : h0.size ≤ b125 := Nat.le_trans (Nat.le_refl h0.size) (Nat.le_of_eq g125.symm)
    have V125 : Arv Z h125 b125 k125 .byte (2 : Int32) [(.int (0 : Int32)), (.int (0 : Int32))] (.int (0 : Int32)) := (Arv.new A125 (by decide)).pad (pad_rep [] (.int (0 : Int32)) 2)
    refine OGo.st st125 ?_
    show OGo p.tables e below _ (T125.setTop (mkF m 25 #[.val (.int p0), .val (.int p1), .val (.int p2), .val (.int p3), .val (.int p4), .val (.int (2 : Int32)), .val (.int (p4 &&& (7 : Int32))), .unset, .unset, .unset] [(.ref b125)]))
    refine OGo.st (fun t k => XS.astore X125.here hx rfl (hb hby at_25) rfl rfl (l' := #[.val (.int p0), .val (.int p1), .val (.int p2), .val (.int p3), .val (.int p4), .val (.int (2 : Int32)), .val (.int (p4 &&& (7 : Int32))), .val (.ref b125), .unset, .unset]) rfl k) ?_
    show OGo p.tables e below _ (T125.setTop (mkF m 27 #[.val (.int p0), .val (.int p1), .val (.int p2), .val (.int p3), .val (.int p4), .val (.int (2 : Int32)), .val (.int (p4 &&& (7 : Int32))), .val (.ref b125), .unset, .unset] []))
    refine OGo.st (fun t k => XS.iload X125.here hx rfl (hb hby at_27) rfl k) ?_
    show OGo p.tables e below _ (T125.setTop (mkF m 29 #[.val (.int p0), .val (.int p1), .val (.int p2), .val (.int p3), .val (.int p4), .val (.int (2 : Int32)), .val (.int (p4 &&& (7 : Int32))), .val (.ref b125), .unset, .unset] [(.int (2 : Int32))]))
    refine OGo.st (fun t k => XS.ifNo X125.here hx rfl (hb hby at_29) rfl ((if0 _ _).trans (tlt (by decide : (0 : Int32) < (2 : Int32))).2.2.2) k) ?_
    show OGo p.tables e below _ (T125.setTop (mkF m 32 #[.val (.int p0), .val (.int p1), .val (.int p2), .val (.int p3), .val (.int p4), .val (.int (2 : Int32)), .val (.int (p4 &&& (7 : Int32))), .val (.ref b125), .unset, .unset] []))
    refine OGo.st (fun t k => XS.aload X125.here hx rfl (hb hby at_32) rfl rfl k) ?_
    show OGo p.tables e below _ (T125.setTop (mkF m 34 #[.val (.int p0), .val (.int p1), .val (.int p2), .val (.int p3), .val (.int p4), .val (.int (2 : Int32)), .val (.int (p4 &&& (7 : Int32))), .val (.ref b125), .unset, .unset] [(.ref b125)]))
    refine OGo.st (fun t k => XS.iconst X125.here hx rfl (hb hby at_34) k) ?_
    show OGo p.tables e below _ (T125.setTop (mkF m 35 #[.val (.int p0), .val (.int p1), .val (.int p2), .val (.int p3), .val (.int p4), .val (.int (2 : Int32)), .val (.int (p4 &&& (7 : Int32))), .val (.ref b125), .unset, .unset] [(.int (0 : Int32)), (.ref b125)]))
    refine OGo.st (fun t k => XS.iloadN X125.here hx rfl (hb hby at_35) rfl k) ?_
    show OGo p.tables e below _ (T125.setTop (mkF m 36 #[.val (.int p0), .val (.int p1), .val (.int p2), .val (.int p3), .val (.int p4), .val (.int (2 : Int32)), .val (.int (p4 &&& (7 : Int32))), .val (.ref b125), .unset, .unset] [(.int p1), (.int (0 : Int32)), (.ref b125)]))
    refine OGo.st (fun t k => XS.i2b X125.here hx rfl (hb hby at_36) rfl k) ?_
    show OGo p.tables e below _ (T125.setTop (mkF m 37 #[.val (.int p0), .val (.int p1), .val (.int p2), .val (.int p3), .val (.int p4), .val (.int (2 : Int32)), .val (.int (p4 &&& (7 : Int32))), .val (.ref b125), .unset, .unset] [(.int ((p1).toInt8.toInt32)), (.int (0 : Int32)), (.ref b125)]))
    obtain ⟨cl126, Ar126, qc126, Sz126, Nz126, Hs126, Gs126⟩ := id V125
    have hin126 : ¬ ((0 : Int32) < 0 ∨ cl126.slots.size ≤ ((0 : Int32)).toNatClampNeg) := inb_of Sz126 ⟨by decide, by decide⟩
    obtain ⟨T127, h127, X127, e127, W127, st127⟩ := stB X125 hx hZ e125 Ar126 (j := (0 : Int32)) hin126 (g := (mkF m 37 #[.val (.int p0), .val (.int p1), .val (.int p2), .val (.int p3), .val (.int p4), .val (.int (2 : Int32)), .val (.int (p4 &&& (7 : Int32))), .val (.ref b125), .unset, .unset] [(.int ((p1).toInt8.toInt32)), (.int (0 : Int32)), (.ref b125)])) rfl rfl (hb hby at_37)
    refine OGo.st st127 ?_
    have N127 := Fr.snoc X127 N0 ge_b125
    have V127 : Arv Z h127 b125 k125 .byte (2 : Int32) [(.int (((p1).toInt8.toInt32)).toInt8.toInt32), (.int (0 : Int32))] (.int (0 : Int32)) := Arv.set Ar126 qc126 Sz126 Nz126 Hs126 Gs126 (fits_nar_byte _) W127 0 rfl (Nat.le_of_ble_eq_true rfl)
    show OGo p.tables e below _ (T127.setTop (mkF m 38 #[.val (.int p0), .val (.int p1), .val (.int p2), .val (.int p3), .val (.int p4), .val (.int (2 : Int32)), .val (.int (p4 &&& (7 : Int32))), .val (.ref b125), .unset, .unset] []))
    refine OGo.st (fun t k => XS.iload X127.here hx rfl (hb hby at_38) rfl k) ?_
    show OGo p.tables e below _ (T127.setTop (mkF m 40 #[.val (.int p0), .val (.int p1), .val (.int p2), .val (.int p3), .val (.int p4), .val (.int (2 : Int32)), .val (.int (p4 &&& (7 : Int32))), .val (.ref b125), .unset, .unset] [(.int (2 : Int32))]))
    refine OGo.st (fun t k => XS.iconst X127.here hx rfl (hb hby at_40) k) ?_
    show OGo p.tables e below _ (T127.setTop (mkF m 41 #[.val (.int p0), .val (.int p1), .val (.int p2), .val (.int p3), .val (.int p4), .val (.int (2 : Int32)), .val (.int (p4 &&& (7 : Int32))), .val (.ref b125), .unset, .unset] [(.int (1 : Int32)), (.int (2 : Int32))]))
    refine OGo.st (fun t k => XS.icmpNo X127.here hx rfl (hb hby at_41) rfl (tlt (by decide : (1 : Int32) < (2 : Int32))).2.2.2 k) ?_
    show OGo p.tables e below _ (T127.setTop (mkF m 44 #[.val (.int p0), .val (.int p1), .val (.int p2), .val (.int p3), .val (.int p4), .val (.int (2 : Int32)), .val (.int (p4 &&& (7 : Int32))), .val (.ref b125), .unset, .unset] []))
    refine OGo.st (fun t k => XS.aload X127.here hx rfl (hb hby at_44) rfl rfl k) ?_
    show OGo p.tables e below _ (T127.setTop (mkF m 46 #[.val (.int p0), .val (.int p1), .val (.int p2), .val (.int p3), .val (.int p4), .val (.int (2 : Int32)), .val (.int (p4 &&& (7 : Int32))), .val (.ref b125), .unset, .unset] [(.ref b125)]))
    refine OGo.st (fun t k => XS.iconst X127.here hx rfl (hb hby at_46) k) ?_
    show OGo p.tables e below _ (T127.setTop (mkF m 47 #[.val (.int p0), .val (.int p1), .val (.int p2), .val (.int p3), .val (.int p4), .val (.int (2 : Int32)), .val (.int (p4 &&& (7 : Int32))), .val (.ref b125), .unset, .unset] [(.int (1 : Int32)), (.ref b125)]))
    refine OGo.st (fun t k => XS.iloadN X127.here hx rfl (hb hby at_47) rfl k) ?_
    show OGo p.tables e below _ (T127.setTop (mkF m 48 #[.val (.int p0), .val (.int p1), .val (.int p2), .val (.int p3), .val (.int p4), .val (.int (2 : Int32)), .val (.int (p4 &&& (7 : Int32))), .val (.ref b125), .unset, .unset] [(.int p2), (.int (1 : Int32)), (.ref b125)]))
    refine OGo.st (fun t k => XS.i2b X127.here hx rfl (hb hby at_48) rfl k) ?_
    show OGo p.tables e below _ (T127.setTop (mkF m 49 #[.val (.int p0), .val (.int p1), .val (.int p2), .val (.int p3), .val (.int p4), .val (.int (2 : Int32)), .val (.int (p4 &&& (7 : Int32))), .val (.ref b125), .unset, .unset] [(.int ((p2).toInt8.toInt32)), (.int (1 : Int32)), (.ref b125)]))
    obtain ⟨cl128, Ar128, qc128, Sz128, Nz128, Hs128, Gs128⟩ := id V127
    have hin128 : ¬ ((1 : Int32) < 0 ∨ cl128.slots.size ≤ ((1 : Int32)).toNatClampNeg) := inb_of Sz128 ⟨by decide, by decide⟩
    obtain ⟨T129, h129, X129, e129, W129, st129⟩ := stB X127 hx hZ e127 Ar128 (j := (1 : Int32)) hin128 (g := (mkF m 49 #[.val (.int p0), .val (.int p1), .val (.int p2), .val (.int p3), .val (.int p4), .val (.int (2 : Int32)), .val (.int (p4 &&& (7 : Int32))), .val (.ref b125), .unset, .unset] [(.int ((p2).toInt8.toInt32)), (.int (1 : Int32)), (.ref b125)])) rfl rfl (hb hby at_49)
    refine OGo.st st129 ?_
    have N129 := Fr.snoc X129 N127 ge_b125
    have V129 : Arv Z h129 b125 k125 .byte (2 : Int32) [(.int (((p1).toInt8.toInt32)).toInt8.toInt32), (.int (((p2).toInt8.toInt32)).toInt8.toInt32)] (.int (0 : Int32)) := Arv.set Ar128 qc128 Sz128 Nz128 Hs128 Gs128 (fits_nar_byte _) W129 1 rfl (Nat.le_of_ble_eq_true rfl)
    show OGo p.tables e below _ (T129.setTop (mkF m 50 #[.val (.int p0), .val (.int p1), .val (.int p2), .val (.int p3), .val (.int p4), .val (.int (2 : Int32)), .val (.int (p4 &&& (7 : Int32))), .val (.ref b125), .unset, .unset] []))
    refine OGo.st (fun t k => XS.iload X129.here hx rfl (hb hby at_50) rfl k) ?_
    show OGo p.tables e below _ (T129.setTop (mkF m 52 #[.val (.int p0), .val (.int p1), .val (.int p2), .val (.int p3), .val (.int p4), .val (.int (2 : Int32)), .val (.int (p4 &&& (7 : Int32))), .val (.ref b125), .unset, .unset] [(.int (2 : Int32))]))
    refine OGo.st (fun t k => XS.iconst X129.here hx rfl (hb hby at_52) k) ?_
    show OGo p.tables e below _ (T129.setTop (mkF m 53 #[.val (.int p0), .val (.int p1), .val (.int p2), .val (.int p3), .val (.int p4), .val (.int (2 : Int32)), .val (.int (p4 &&& (7 : Int32))), .val (.ref b125), .unset, .unset] [(.int (2 : Int32)), (.int (2 : Int32))]))
    refine OGo.st (fun t k => XS.icmpYes X129.here hx rfl (pc0 := 53) (pc' := 62) rfl (hb hby at_53) rfl (flt (by decide : ¬ ((2 : Int32) < (2 : Int32)))).2.2.2 (by decide) (by decide) k) ?_
    show OGo p.tables e below _ (T129.setTop (mkF m 62 #[.val (.int p0), .val (.int p1), .val (.int p2), .val (.int p3), .val (.int p4), .val (.int (2 : Int32)), .val (.int (p4 &&& (7 : Int32))), .val (.ref b125), .unset, .unset] []))
    refine OGo.st (fun t k => XS.iload X129.here hx rfl (hb hby at_62) rfl k) ?_
    show OGo p.tables e below _ (T129.setTop (mkF m 64 #[.val (.int p0), .val (.int p1), .val (.int p2), .val (.int p3), .val (.int p4), .val (.int (2 : Int32)), .val (.int (p4 &&& (7 : Int32))), .val (.ref b125), .unset, .unset] [(.int (2 : Int32))]))
    refine OGo.st (fun t k => XS.ifYes X129.here hx rfl (pc0 := 64) (pc' := 73) rfl (hb hby at_64) rfl ((if0 _ _).trans (feq (by decide : ¬ ((2 : Int32) = (0 : Int32)))).2) (by decide) (by decide) k) ?_
    show OGo p.tables e below _ (T129.setTop (mkF m 73 #[.val (.int p0), .val (.int p1), .val (.int p2), .val (.int p3), .val (.int p4), .val (.int (2 : Int32)), .val (.int (p4 &&& (7 : Int32))), .val (.ref b125), .unset, .unset] []))
    refine OGo.st (fun t k => XS.aload X129.here hx rfl (hb hby at_73) rfl rfl k) ?_
    show OGo p.tables e below _ (T129.setTop (mkF m 75 #[.val (.int p0), .val (.int p1), .val (.int p2), .val (.int p3), .val (.int p4), .val (.int (2 : Int32)), .val (.int (p4 &&& (7 : Int32))), .val (.ref b125), .unset, .unset] [(.ref b125)]))
    refine OGo.st (fun t k => XS.iload X129.here hx rfl (hb hby at_75) rfl k) ?_
    show OGo p.tables e below _ (T129.setTop (mkF m 77 #[.val (.int p0), .val (.int p1), .val (.int p2), .val (.int p3), .val (.int p4), .val (.int (2 : Int32)), .val (.int (p4 &&& (7 : Int32))), .val (.ref b125), .unset, .unset] [(.int (2 : Int32)), (.ref b125)]))
    refine OGo.st (fun t k => XS.iconst X129.here hx rfl (hb hby at_77) k) ?_
    show OGo p.tables e below _ (T129.setTop (mkF m 78 #[.val (.int p0), .val (.int p1), .val (.int p2), .val (.int p3), .val (.int p4), .val (.int (2 : Int32)), .val (.int (p4 &&& (7 : Int32))), .val (.ref b125), .unset, .unset] [(.int (1 : Int32)), (.int (2 : Int32)), (.ref b125)]))
    refine OGo.st (fun t k => XS.isub X129.here hx rfl (hb hby at_78) rfl k) ?_
    show OGo p.tables e below _ (T129.setTop (mkF m 79 #[.val (.int p0), .val (.int p1), .val (.int p2), .val (.int p3), .val (.int p4), .val (.int (2 : Int32)), .val (.int (p4 &&& (7 : Int32))), .val (.ref b125), .unset, .unset] [(.int (1 : Int32)), (.ref b125)]))
    obtain ⟨cl130, Ar130, qc130, Sz130, Nz130, Hs130, Gs130⟩ := id V129
    have hin130 : ¬ ((1 : Int32) < 0 ∨ cl130.slots.size ≤ ((1 : Int32)).toNatClampNeg) := inb_of Sz130 ⟨by decide, by decide⟩
    have hat130 : cl130.slots[((1 : Int32)).toNatClampNeg]? = some (.int (((p2).toInt8.toInt32)).toInt8.toInt32) := Has.at Hs130 hin130 rfl
    refine OGo.st (fun t k => X129.baloadBytes hx (j := (1 : Int32)) (v := (.int (((p2).toInt8.toInt32)).toInt8.toInt32)) (by rw [e129]; exact Ar130.1) (State.isArrayOf_alike hZ.alike Ar130.2.1) Ar130.2.2 hin130 hat130 (g := (mkF m 79 #[.val (.int p0), .val (.int p1), .val (.int p2), .val (.int p3), .val (.int p4), .val (.int (2 : Int32)), .val (.int (p4 &&& (7 : Int32))), .val (.ref b125), .unset, .unset] [(.int (1 : Int32)), (.ref b125)])) rfl rfl (hb hby at_79) _ k) ?_
    show OGo p.tables e below _ (T129.setTop (mkF m 80 #[.val (.int p0), .val (.int p1), .val (.int p2), .val (.int p3), .val (.int p4), .val (.int (2 : Int32)), .val (.int (p4 &&& (7 : Int32))), .val (.ref b125), .unset, .unset] [(.int (((p2).toInt8.toInt32)).toInt8.toInt32)]))
    refine OGo.st (fun t k => XS.sipush X129.here hx rfl (hb hby at_80) k) ?_
    show OGo p.tables e below _ (T129.setTop (mkF m 83 #[.val (.int p0), .val (.int p1), .val (.int p2), .val (.int p3), .val (.int p4), .val (.int (2 : Int32)), .val (.int (p4 &&& (7 : Int32))), .val (.ref b125), .unset, .unset] [(.int (255 : Int32)), (.int (((p2).toInt8.toInt32)).toInt8.toInt32)]))
    refine OGo.st (fun t k => XS.iand X129.here hx rfl (hb hby at_83) rfl k) ?_
    show OGo p.tables e below _ (T129.setTop (mkF m 84 #[.val (.int p0), .val (.int p1), .val (.int p2), .val (.int p3), .val (.int p4), .val (.int (2 : Int32)), .val (.int (p4 &&& (7 : Int32))), .val (.ref b125), .unset, .unset] [(.int ((((p2).toInt8.toInt32)).toInt8.toInt32 &&& (255 : Int32)))]))
    refine OGo.st (fun t k => XS.istore X129.here hx rfl (hb hby at_84) rfl (l' := #[.val (.int p0), .val (.int p1), .val (.int p2), .val (.int p3), .val (.int p4), .val (.int (2 : Int32)), .val (.int (p4 &&& (7 : Int32))), .val (.ref b125), .unset, .val (.int ((((p2).toInt8.toInt32)).toInt8.toInt32 &&& (255 : Int32)))]) rfl k) ?_
    show OGo p.tables e below _ (T129.setTop (mkF m 86 #[.val (.int p0), .val (.int p1), .val (.int p2), .val (.int p3), .val (.int p4), .val (.int (2 : Int32)), .val (.int (p4 &&& (7 : Int32))), .val (.ref b125), .unset, .val (.int ((((p2).toInt8.toInt32)).toInt8.toInt32 &&& (255 : Int32)))] []))
    refine OGo.st (fun t k => XS.iload X129.here hx rfl (hb hby at_86) rfl k) ?_
    show OGo p.tables e below _ (T129.setTop (mkF m 88 #[.val (.int p0), .val (.int p1), .val (.int p2), .val (.int p3), .val (.int p4), .val (.int (2 : Int32)), .val (.int (p4 &&& (7 : Int32))), .val (.ref b125), .unset, .val (.int ((((p2).toInt8.toInt32)).toInt8.toInt32 &&& (255 : Int32)))] [(.int ((((p2).toInt8.toInt32)).toInt8.toInt32 &&& (255 : Int32)))]))
    refine OGo.st (fun t k => XS.iload X129.here hx rfl (hb hby at_88) rfl k) ?_
    show OGo p.tables e below _ (T129.setTop (mkF m 90 #[.val (.int p0), .val (.int p1), .val (.int p2), .val (.int p3), .val (.int p4), .val (.int (2 : Int32)), .val (.int (p4 &&& (7 : Int32))), .val (.ref b125), .unset, .val (.int ((((p2).toInt8.toInt32)).toInt8.toInt32 &&& (255 : Int32)))] [(.int (p4 &&& (7 : Int32))), (.int ((((p2).toInt8.toInt32)).toInt8.toInt32 &&& (255 : Int32)))]))
    refine OGo.st (fun t k => XS.iushr X129.here hx rfl (hb hby at_90) rfl k) ?_
    show OGo p.tables e below _ (T129.setTop (mkF m 91 #[.val (.int p0), .val (.int p1), .val (.int p2), .val (.int p3), .val (.int p4), .val (.int (2 : Int32)), .val (.int (p4 &&& (7 : Int32))), .val (.ref b125), .unset, .val (.int ((((p2).toInt8.toInt32)).toInt8.toInt32 &&& (255 : Int32)))] [(.int ((((((p2).toInt8.toInt32)).toInt8.toInt32 &&& (255 : Int32)).toUInt32 >>> ((p4 &&& (7 : Int32)) &&& 31).toUInt32).toInt32))]))
    refine OGo.st (fun t k => XS.iload X129.here hx rfl (hb hby at_91) rfl k) ?_
    show OGo p.tables e below _ (T129.setTop (mkF m 93 #[.val (.int p0), .val (.int p1), .val (.int p2), .val (.int p3), .val (.int p4), .val (.int (2 : Int32)), .val (.int (p4 &&& (7 : Int32))), .val (.ref b125), .unset, .val (.int ((((p2).toInt8.toInt32)).toInt8.toInt32 &&& (255 : Int32)))] [(.int (p4 &&& (7 : Int32))), (.int ((((((p2).toInt8.toInt32)).toInt8.toInt32 &&& (255 : Int32)).toUInt32 >>> ((p4 &&& (7 : Int32)) &&& 31).toUInt32).toInt32))]))
    refine OGo.st (fun t k => XS.ishl X129.here hx rfl (hb hby at_93) rfl k) ?_
    show OGo p.tables e below _ (T129.setTop (mkF m 94 #[.val (.int p0), .val (.int p1), .val (.int p2), .val (.int p3), .val (.int p4), .val (.int (2 : Int32)), .val (.int (p4 &&& (7 : Int32))), .val (.ref b125), .unset, .val (.int ((((p2).toInt8.toInt32)).toInt8.toInt32 &&& (255 : Int32)))] [(.int (((((((p2).toInt8.toInt32)).toInt8.toInt32 &&& (255 : Int32)).toUInt32 >>> ((p4 &&& (7 : Int32)) &&& 31).toUInt32).toInt32) <<< ((p4 &&& (7 : Int32)) &&& 31)))]))
    refine OGo.st (fun t k => XS.iload X129.here hx rfl (hb hby at_94) rfl k) ?_
    show OGo p.tables e below _ (T129.setTop (mkF m 96 #[.val (.int p0), .val (.int p1), .val (.int p2), .val (.int p3), .val (.int p4), .val (.int (2 : Int32)), .val (.int (p4 &&& (7 : Int32))), .val (.ref b125), .unset, .val (.int ((((p2).toInt8.toInt32)).toInt8.toInt32 &&& (255 : Int32)))] [(.int ((((p2).toInt8.toInt32)).toInt8.toInt32 &&& (255 : Int32))), (.int (((((((p2).toInt8.toInt32)).toInt8.toInt32 &&& (255 : Int32)).toUInt32 >>> ((p4 &&& (7 : Int32)) &&& 31).toUInt32).toInt32) <<< ((p4 &&& (7 : Int32)) &&& 31)))]))
    by_cases hc96_131 : (((((((p2).toInt8.toInt32)).toInt8.toInt32 &&& (255 : Int32)).toUInt32 >>> ((p4 &&& (7 : Int32)) &&& 31).toUInt32).toInt32) <<< ((p4 &&& (7 : Int32)) &&& 31)) = ((((p2).toInt8.toInt32)).toInt8.toInt32 &&& (255 : Int32))
    ·
      refine OGo.st (fun t k => XS.icmpNo X129.here hx rfl (hb hby at_96) rfl (teq hc96_131).2 k) ?_
      show OGo p.tables e below _ (T129.setTop (mkF m 99 #[.val (.int p0), .val (.int p1), .val (.int p2), .val (.int p3), .val (.int p4), .val (.int (2 : Int32)), .val (.int (p4 &&& (7 : Int32))), .val (.ref b125), .unset, .val (.int ((((p2).toInt8.toInt32)).toInt8.toInt32 &&& (255 : Int32)))] []))
      refine OGo.st (fun t k => XS.iconst X129.here hx rfl (hb hby at_99) k) ?_
      show OGo p.tables e below _ (T129.setTop (mkF m 100 #[.val (.int p0), .val (.int p1), .val (.int p2), .val (.int p3), .val (.int p4), .val (.int (2 : Int32)), .val (.int (p4 &&& (7 : Int32))), .val (.ref b125), .unset, .val (.int ((((p2).toInt8.toInt32)).toInt8.toInt32 &&& (255 : Int32)))] [(.int (1 : Int32))]))
      refine OGo.st (fun t k => XS.goto X129.here hx rfl (pc0 := 100) (pc' := 104) rfl (hb hby at_100) (by decide) (by decide) k) ?_
      show OGo p.tables e below _ (T129.setTop (mkF m 104 #[.val (.int p0), .val (.int p1), .val (.int p2), .val (.int p3), .val (.int p4), .val (.int (2 : Int32)), .val (.int (p4 &&& (7 : Int32))), .val (.ref b125), .unset, .val (.int ((((p2).toInt8.toInt32)).toInt8.toInt32 &&& (255 : Int32)))] [(.int (1 : Int32))]))
      refine OGo.st (fun t k => XS.istore X129.here hx rfl (hb hby at_104) rfl (l' := #[.val (.int p0), .val (.int p1), .val (.int p2), .val (.int p3), .val (.int p4), .val (.int (2 : Int32)), .val (.int (p4 &&& (7 : Int32))), .val (.ref b125), .val (.int (1 : Int32)), .val (.int ((((p2).toInt8.toInt32)).toInt8.toInt32 &&& (255 : Int32)))]) rfl k) ?_
      show OGo p.tables e below _ (T129.setTop (mkF m 106 #[.val (.int p0), .val (.int p1), .val (.int p2), .val (.int p3), .val (.int p4), .val (.int (2 : Int32)), .val (.int (p4 &&& (7 : Int32))), .val (.ref b125), .val (.int (1 : Int32)), .val (.int ((((p2).toInt8.toInt32)).toInt8.toInt32 &&& (255 : Int32)))] []))
      obtain ⟨T132, h132, X132, e132, E132, A132, D132, -, st132⟩ := newO X129 hx hZ hown (hw _ (List.mem_of_getElem? (i := 1) rfl)) (hw _ (List.mem_of_getElem? (i := 2) rfl)) (hw _ (List.mem_of_getElem? (i := 3) rfl)) e129 (g := (mkF m 106 #[.val (.int p0), .val (.int p1), .val (.int p2), .val (.int p3), .val (.int p4), .val (.int (2 : Int32)), .val (.int (p4 &&& (7 : Int32))), .val (.ref b125), .val (.int (1 : Int32)), .val (.int ((((p2).toInt8.toInt32)).toInt8.toInt32 &&& (255 : Int32)))] [])) rfl (hb hby at_106) (by decide) (by decide)
      obtain ⟨b132, g132⟩ : ∃ z, z = h129.size := ⟨_, rfl⟩
      rw [← g132] at A132 D132 st132
      have ge_b132 : n0 ≤ b132 := Nat.le_trans (Nat.le_trans (Nat.le_trans (Nat.le_trans Z0 E125.1) (Keep.of_wr W127).1) (Keep.of_wr W129).1) (Nat.le_of_eq g132.symm)
      have sz_b132 : h0.size ≤ b132 := Nat.le_trans (Nat.le_trans (Nat.le_trans (Nat.le_trans (Nat.le_refl h0.size) E125.1) (Keep.of_wr W127).1) (Keep.of_wr W129).1) (Nat.le_of_eq g132.symm)
      have ne_b125_b132 : b125 ≠ b132 := Nat.ne_of_lt (Nat.lt_of_lt_of_le V129.lt (Nat.le_of_eq g132.symm))
      refine OGo.st st132 ?_
      have Fn132_octets : Fld Z h132 b132 "com/example/holdfast/holdfast/resources/DerValue$BitString" "octets" "[B" .null := D132 (Or.inr (hw _ (List.mem_of_getElem? (i := 11) rfl))) (ty := (.array .byte)) (by decide)
      have Fn132_unusedBits : Fld Z h132 b132 "com/example/holdfast/holdfast/resources/DerValue$BitString" "unusedBits" "I" (.int (0 : Int32)) := D132 (Or.inr (hw _ (List.mem_of_getElem? (i := 13) rfl))) (ty := .int) (by decide)
      show OGo p.tables e below _ (T132.setTop (mkF m 109 #[.val (.int p0), .val (.int p1), .val (.int p2), .val (.int p3), .val (.int p4), .val (.int (2 : Int32)), .val (.int (p4 &&& (7 : Int32))), .val (.ref b125), .val (.int (1 : Int32)), .val (.int ((((p2).toInt8.toInt32)).toInt8.toInt32 &&& (255 : Int32)))] [(.ref b132)]))
      refine OGo.st (fun t k => XS.dup X132.here hx rfl (hb hby at_109) rfl rfl k) ?_
      show OGo p.tables e below _ (T132.setTop (mkF m 110 #[.val (.int p0), .val (.int p1), .val (.int p2), .val (.int p3), .val (.int p4), .val (.int (2 : Int32)), .val (.int (p4 &&& (7 : Int32))), .val (.ref b125), .val (.int (1 : Int32)), .val (.int ((((p2).toInt8.toInt32)).toInt8.toInt32 &&& (255 : Int32)))] [(.ref b132), (.ref b132)]))
      refine OGo.st (fun t k => XS.aload X132.here hx rfl (hb hby at_110) rfl rfl k) ?_
      show OGo p.tables e below _ (T132.setTop (mkF m 112 #[.val (.int p0), .val (.int p1), .val (.int p2), .val (.int p3), .val (.int p4), .val (.int (2 : Int32)), .val (.int (p4 &&& (7 : Int32))), .val (.ref b125), .val (.int (1 : Int32)), .val (.int ((((p2).toInt8.toInt32)).toInt8.toInt32 &&& (255 : Int32)))] [(.ref b125), (.ref b132), (.ref b132)]))
      refine OGo.st (fun t k => XS.iload X132.here hx rfl (hb hby at_112) rfl k) ?_
      show OGo p.tables e below _ (T132.setTop (mkF m 114 #[.val (.int p0), .val (.int p1), .val (.int p2), .val (.int p3), .val (.int p4), .val (.int (2 : Int32)), .val (.int (p4 &&& (7 : Int32))), .val (.ref b125), .val (.int (1 : Int32)), .val (.int ((((p2).toInt8.toInt32)).toInt8.toInt32 &&& (255 : Int32)))] [(.int (p4 &&& (7 : Int32))), (.ref b125), (.ref b132), (.ref b132)]))
      obtain ⟨_, _, ⟨T133, L133, kk133, nn133⟩, -, X133, ⟨Lc133, hQ133, l133, y133, z133⟩, st133⟩ := X132.specialBack hx (y := (⟨"com/example/holdfast/holdfast/resources/DerValue$BitString", "<init>", "([BI)V"⟩ : MethodName)) rfl hown (mvT hZ (hw _ (List.mem_of_getElem? (i := 4) rfl))) (mvT hZ (hw _ (List.mem_of_getElem? (i := 5) rfl))) (mvT hZ (hw _ (List.mem_of_getElem? (i := 6) rfl))) (by decide) (backOf (W := 1) (rm0 l Z ar hw [] b132 b125 (p4 &&& (7 : Int32)) h132 n0 (Nat.le_trans (Nat.le_trans (Nat.le_trans (Nat.le_trans Z0 E125.1) (Keep.of_wr W127).1) (Keep.of_wr W129).1) E132.1) A132 ge_b132 Fn132_octets Fn132_unusedBits) hZ (hw _ (List.mem_of_getElem? (i := 6) rfl)) (hw _ (List.mem_of_getElem? (i := 3) rfl)) (by decide) (by decide)) (g := (mkF m 114 #[.val (.int p0), .val (.int p1), .val (.int p2), .val (.int p3), .val (.int p4), .val (.int (2 : Int32)), .val (.int (p4 &&& (7 : Int32))), .val (.ref b125), .val (.int (1 : Int32)), .val (.int ((((p2).toInt8.toInt32)).toInt8.toInt32 &&& (255 : Int32)))] [(.int (p4 &&& (7 : Int32))), (.ref b125), (.ref b132), (.ref b132)])) rfl (by rw [hml]; rfl) (Steps.refl _) (a := b132) (argsL := [(.ref b125), (.int (p4 &&& (7 : Int32)))]) (rest := [(.ref b132)]) (lenOf pd_0 rfl) rfl (by show 2 * 0 + _ ≤ _; exact Nat.le_of_eq rfl) (hb hby at_114) (fun _ _ => ⟨rfl, e132, (by decide : 2 + 0 ≤ _), (by decide : 4 + 0 ≤ _)⟩)
      dsimp only [Pt.U, Pt.locs, Pt.cells, Pt.slots] at X133 l133 y133 z133 st133 hQ133
      subst l133 y133 z133
      obtain ⟨rfl, Nq133, K133, P133_0, P133_1⟩ := hQ133
      have N133 := Fr.app N129 Nq133
      refine OGo.st (fun t k => st133.trans k) ?_
      show OGo p.tables e below _ (T133.setTop (mkF m 117 #[.val (.int p0), .val (.int p1), .val (.int p2), .val (.int p3), .val (.int p4), .val (.int (2 : Int32)), .val (.int (p4 &&& (7 : Int32))), .val (.ref b125), .val (.int (1 : Int32)), .val (.int ((((p2).toInt8.toInt32)).toInt8.toInt32 &&& (255 : Int32)))] [(.ref b132)]))
      refine OGo.st (fun t k => XS.astore X133.here hx rfl (hb hby at_117) rfl rfl (l' := #[.val (.int p0), .val (.int p1), .val (.int p2), .val (.int p3), .val (.int p4), .val (.int (2 : Int32)), .val (.int (p4 &&& (7 : Int32))), .val (.ref b125), .val (.int (1 : Int32)), .val (.ref b132)]) rfl k) ?_
      show OGo p.tables e below _ (T133.setTop (mkF m 119 #[.val (.int p0), .val (.int p1), .val (.int p2), .val (.int p3), .val (.int p4), .val (.int (2 : Int32)), .val (.int (p4 &&& (7 : Int32))), .val (.ref b125), .val (.int (1 : Int32)), .val (.ref b132)] []))
      refine OGo.st (fun t k => XS.aload X133.here hx rfl (hb hby at_119) rfl rfl k) ?_
      show OGo p.tables e below _ (T133.setTop (mkF m 121 #[.val (.int p0), .val (.int p1), .val (.int p2), .val (.int p3), .val (.int p4), .val (.int (2 : Int32)), .val (.int (p4 &&& (7 : Int32))), .val (.ref b125), .val (.int (1 : Int32)), .val (.ref b132)] [(.ref b132)]))
      have G134 : Arv Z T133.heap b125 k125 .byte (2 : Int32) [(.int (((p1).toInt8.toInt32)).toInt8.toInt32), (.int (((p2).toInt8.toInt32)).toInt8.toInt32)] (.int (0 : Int32)) := ((V129.ext E132).keep K133 (ninS ne_b125_b132 nin0))
      have G136 : Exa Z T133.heap b132 "com/example/holdfast/holdfast/resources/DerValue$BitString" := (A132.keep K133)
      obtain ⟨cq135, kq135, q135a, q135b, q135c⟩ := isOf hZ rfl G136
      obtain ⟨_, _, ⟨T135, L135, kk135, nn135⟩, -, X135, ⟨Lc135, hQ135, l135, y135, z135⟩, st135⟩ := X133.virtualBack hx (y := (⟨"com/example/holdfast/holdfast/resources/DerValue$BitString", "paddingIsZero", "()Z"⟩ : MethodName)) (z := (⟨"com/example/holdfast/holdfast/resources/DerValue$BitString", "paddingIsZero", "()Z"⟩ : MethodName)) hown (mvT hZ (hw _ (List.mem_of_getElem? (i := 14) rfl))) (mvT hZ (hw _ (List.mem_of_getElem? (i := 15) rfl))) (notFace_of_selects (args := #[]) (mvT hZ (hw _ (List.mem_of_getElem? (i := 17) rfl)))) (mvT hZ (hw _ (List.mem_of_getElem? (i := 17) rfl))) (mvT hZ (hw _ (List.mem_of_getElem? (i := 16) rfl))) (by decide) (backOf (W := 0) (rm3 l Z ar hw [] b132 b125 k125 (p4 &&& (7 : Int32)) (((p1).toInt8.toInt32)).toInt8.toInt32 (((p2).toInt8.toInt32)).toInt8.toInt32 T133.heap n0 (Nat.le_trans (Nat.le_trans (Nat.le_trans (Nat.le_trans (Nat.le_trans Z0 E125.1) (Keep.of_wr W127).1) (Keep.of_wr W129).1) E132.1) K133.1) P133_0 P133_1 G134) hZ (hw _ (List.mem_of_getElem? (i := 18) rfl)) (hw _ (List.mem_of_getElem? (i := 3) rfl)) (by decide) (by decide)) q135a q135c (g := (mkF m 121 #[.val (.int p0), .val (.int p1), .val (.int p2), .val (.int p3), .val (.int p4), .val (.int (2 : Int32)), .val (.int (p4 &&& (7 : Int32))), .val (.ref b125), .val (.int (1 : Int32)), .val (.ref b132)] [(.ref b132)])) rfl (by rw [hml]; rfl) (Steps.refl _) (argsL := []) (rest := []) (lenOf pd_1 rfl) rfl (by show 2 * 0 + _ ≤ _; exact Nat.le_of_eq rfl) (hb hby at_121) (fun _ _ => ⟨rfl, rfl, (by decide : 2 + 0 ≤ _), (by decide : 4 + 0 ≤ _)⟩)
      dsimp only [Pt.U, Pt.locs, Pt.cells, Pt.slots] at X135 l135 y135 z135 st135 hQ135
      subst l135 y135 z135
      obtain ⟨rfl, Nq135, hh135⟩ := hQ135
      have N135 := Fr.app N133 Nq135
      refine OGo.st (fun t k => st135.trans k) ?_
      have e135 : T135.heap = T133.heap := hh135
      show OGo p.tables e below _ (T135.setTop (mkF m 124 #[.val (.int p0), .val (.int p1), .val (.int p2), .val (.int p3), .val (.int p4), .val (.int (2 : Int32)), .val (.int (p4 &&& (7 : Int32))), .val (.ref b125), .val (.int (1 : Int32)), .val (.ref b132)] [(.int (own_pz (((p2).toInt8.toInt32)).toInt8.toInt32 (p4 &&& (7 : Int32))))]))
      refine OGo.st (fun t k => XS.iload X135.here hx rfl (hb hby at_124) rfl k) ?_
      show OGo p.tables e below _ (T135.setTop (mkF m 126 #[.val (.int p0), .val (.int p1), .val (.int p2), .val (.int p3), .val (.int p4), .val (.int (2 : Int32)), .val (.int (p4 &&& (7 : Int32))), .val (.ref b125), .val (.int (1 : Int32)), .val (.ref b132)] [(.int (1 : Int32)), (.int (own_pz (((p2).toInt8.toInt32)).toInt8.toInt32 (p4 &&& (7 : Int32))))]))
      refine OGo.st (fun t k => XS.icmpNo X135.here hx rfl (hb hby at_126) rfl (teq ((by rw [own_bb, own_pe, own_ex]; rw [own_bb] at hc96_131; rw [if_pos hc96_131]) : (own_pz (((p2).toInt8.toInt32)).toInt8.toInt32 (p4 &&& (7 : Int32))) = (1 : Int32))).2 k) ?_
      show OGo p.tables e below _ (T135.setTop (mkF m 129 #[.val (.int p0), .val (.int p1), .val (.int p2), .val (.int p3), .val (.int p4), .val (.int (2 : Int32)), .val (.int (p4 &&& (7 : Int32))), .val (.ref b125), .val (.int (1 : Int32)), .val (.ref b132)] []))
      refine OGo.st (fun t k => XS.iconst X135.here hx rfl (hb hby at_129) k) ?_
      show OGo p.tables e below _ (T135.setTop (mkF m 130 #[.val (.int p0), .val (.int p1), .val (.int p2), .val (.int p3), .val (.int p4), .val (.int (2 : Int32)), .val (.int (p4 &&& (7 : Int32))), .val (.ref b125), .val (.int (1 : Int32)), .val (.ref b132)] [(.int (1 : Int32))]))
      refine OGo.st (fun t k => XS.goto X135.here hx rfl (pc0 := 130) (pc' := 134) rfl (hb hby at_130) (by decide) (by decide) k) ?_
      show OGo p.tables e below _ (T135.setTop (mkF m 134 #[.val (.int p0), .val (.int p1), .val (.int p2), .val (.int p3), .val (.int p4), .val (.int (2 : Int32)), .val (.int (p4 &&& (7 : Int32))), .val (.ref b125), .val (.int (1 : Int32)), .val (.ref b132)] [(.int (1 : Int32))]))
      obtain ⟨fs, hr, hrun, hended, hW, hsame⟩ := X135.leave (v := some (.int (1 : Int32))) (fun h => by rw [Bd.returns] at h; cases h)
      refine OGo.done (retN X135 hx (t := .boolean) Bd.returns (by simp) (hb hby at_134) hr) ⟨hrun, hended, _, _, rfl, ?_, ⟨_, rfl⟩, hW, hsame.mono (by decide) (by decide)⟩
      show Q5 Z p0 p1 p2 p3 p4 h0 n0 _ T135.heap _
      rw [e135]
      exact ⟨rfl, N135⟩
    ·
      refine OGo.st (fun t k => XS.icmpYes X129.here hx rfl (pc0 := 96) (pc' := 103) rfl (hb hby at_96) rfl (feq hc96_131).2 (by decide) (by decide) k) ?_
      show OGo p.tables e below _ (T129.setTop (mkF m 103 #[.val (.int p0), .val (.int p1), .val (.int p2), .val (.int p3), .val (.int p4), .val (.int (2 : Int32)), .val (.int (p4 &&& (7 : Int32))), .val (.ref b125), .unset, .val (.int ((((p2).toInt8.toInt32)).toInt8.toInt32 &&& (255 : Int32)))] []))
      refine OGo.st (fun t k => XS.iconst X129.here hx rfl (hb hby at_103) k) ?_
      show OGo p.tables e below _ (T129.setTop (mkF m 104 #[.val (.int p0), .val (.int p1), .val (.int p2), .val (.int p3), .val (.int p4), .val (.int (2 : Int32)), .val (.int (p4 &&& (7 : Int32))), .val (.ref b125), .unset, .val (.int ((((p2).toInt8.toInt32)).toInt8.toInt32 &&& (255 : Int32)))] [(.int (0 : Int32))]))
      refine OGo.st (fun t k => XS.istore X129.here hx rfl (hb hby at_104) rfl (l' := #[.val (.int p0), .val (.int p1), .val (.int p2), .val (.int p3), .val (.int p4), .val (.int (2 : Int32)), .val (.int (p4 &&& (7 : Int32))), .val (.ref b125), .val (.int (0 : Int32)), .val (.int ((((p2).toInt8.toInt32)).toInt8.toInt32 &&& (255 : Int32)))]) rfl k) ?_
      show OGo p.tables e below _ (T129.setTop (mkF m 106 #[.val (.int p0), .val (.int p1), .val (.int p2), .val (.int p3), .val (.int p4), .val (.int (2 : Int32)), .val (.int (p4 &&& (7 : Int32))), .val (.ref b125), .val (.int (0 : Int32)), .val (.int ((((p2).toInt8.toInt32)).toInt8.toInt32 &&& (255 : Int32)))] []))
      obtain ⟨T138, h138, X138, e138, E138, A138, D138, -, st138⟩ := newO X129 hx hZ hown (hw _ (List.mem_of_getElem? (i := 1) rfl)) (hw _ (List.mem_of_getElem? (i := 2) rfl)) (hw _ (List.mem_of_getElem? (i := 3) rfl)) e129 (g := (mkF m 106 #[.val (.int p0), .val (.int p1), .val (.int p2), .val (.int p3), .val (.int p4), .val (.int (2 : Int32)), .val (.int (p4 &&& (7 : Int32))), .val (.ref b125), .val (.int (0 : Int32)), .val (.int ((((p2).toInt8.toInt32)).toInt8.toInt32 &&& (255 : Int32)))] [])) rfl (hb hby at_106) (by decide) (by decide)
      obtain ⟨b138, g138⟩ : ∃ z, z = h129.size := ⟨_, rfl⟩
      rw [← g138] at A138 D138 st138
      have ge_b138 : n0 ≤ b138 := Nat.le_trans (Nat.le_trans (Nat.le_trans (Nat.le_trans Z0 E125.1) (Keep.of_wr W127).1) (Keep.of_wr W129).1) (Nat.le_of_eq g138.symm)
      have sz_b138 : h0.size ≤ b138 := Nat.le_trans (Nat.le_trans (Nat.le_trans (Nat.le_trans (Nat.le_refl h0.size) E125.1) (Keep.of_wr W127).1) (Keep.of_wr W129).1) (Nat.le_of_eq g138.symm)
      have ne_b125_b138 : b125 ≠ b138 := Nat.ne_of_lt (Nat.lt_of_lt_of_le V129.lt (Nat.le_of_eq g138.symm))
      refine OGo.st st138 ?_
      have Fn138_octets : Fld Z h138 b138 "com/example/holdfast/holdfast/resources/DerValue$BitString" "octets" "[B" .null := D138 (Or.inr (hw _ (List.mem_of_getElem? (i := 11) rfl))) (ty := (.array .byte)) (by decide)
      have Fn138_unusedBits : Fld Z h138 b138 "com/example/holdfast/holdfast/resources/DerValue$BitString" "unusedBits" "I" (.int (0 : Int32)) := D138 (Or.inr (hw _ (List.mem_of_getElem? (i := 13) rfl))) (ty := .int) (by decide)
      show OGo p.tables e below _ (T138.setTop (mkF m 109 #[.val (.int p0), .val (.int p1), .val (.int p2), .val (.int p3), .val (.int p4), .val (.int (2 : Int32)), .val (.int (p4 &&& (7 : Int32))), .val (.ref b125), .val (.int (0 : Int32)), .val (.int ((((p2).toInt8.toInt32)).toInt8.toInt32 &&& (255 : Int32)))] [(.ref b138)]))
      refine OGo.st (fun t k => XS.dup X138.here hx rfl (hb hby at_109) rfl rfl k) ?_
      show OGo p.tables e below _ (T138.setTop (mkF m 110 #[.val (.int p0), .val (.int p1), .val (.int p2), .val (.int p3), .val (.int p4), .val (.int (2 : Int32)), .val (.int (p4 &&& (7 : Int32))), .val (.ref b125), .val (.int (0 : Int32)), .val (.int ((((p2).toInt8.toInt32)).toInt8.toInt32 &&& (255 : Int32)))] [(.ref b138), (.ref b138)]))
      refine OGo.st (fun t k => XS.aload X138.here hx rfl (hb hby at_110) rfl rfl k) ?_
      show OGo p.tables e below _ (T138.setTop (mkF m 112 #[.val (.int p0), .val (.int p1), .val (.int p2), .val (.int p3), .val (.int p4), .val (.int (2 : Int32)), .val (.int (p4 &&& (7 : Int32))), .val (.ref b125), .val (.int (0 : Int32)), .val (.int ((((p2).toInt8.toInt32)).toInt8.toInt32 &&& (255 : Int32)))] [(.ref b125), (.ref b138), (.ref b138)]))
      refine OGo.st (fun t k => XS.iload X138.here hx rfl (hb hby at_112) rfl k) ?_
      show OGo p.tables e below _ (T138.setTop (mkF m 114 #[.val (.int p0), .val (.int p1), .val (.int p2), .val (.int p3), .val (.int p4), .val (.int (2 : Int32)), .val (.int (p4 &&& (7 : Int32))), .val (.ref b125), .val (.int (0 : Int32)), .val (.int ((((p2).toInt8.toInt32)).toInt8.toInt32 &&& (255 : Int32)))] [(.int (p4 &&& (7 : Int32))), (.ref b125), (.ref b138), (.ref b138)]))
      obtain ⟨_, _, ⟨T139, L139, kk139, nn139⟩, -, X139, ⟨Lc139, hQ139, l139, y139, z139⟩, st139⟩ := X138.specialBack hx (y := (⟨"com/example/holdfast/holdfast/resources/DerValue$BitString", "<init>", "([BI)V"⟩ : MethodName)) rfl hown (mvT hZ (hw _ (List.mem_of_getElem? (i := 4) rfl))) (mvT hZ (hw _ (List.mem_of_getElem? (i := 5) rfl))) (mvT hZ (hw _ (List.mem_of_getElem? (i := 6) rfl))) (by decide) (backOf (W := 1) (rm0 l Z ar hw [] b138 b125 (p4 &&& (7 : Int32)) h138 n0 (Nat.le_trans (Nat.le_trans (Nat.le_trans (Nat.le_trans Z0 E125.1) (Keep.of_wr W127).1) (Keep.of_wr W129).1) E138.1) A138 ge_b138 Fn138_octets Fn138_unusedBits) hZ (hw _ (List.mem_of_getElem? (i := 6) rfl)) (hw _ (List.mem_of_getElem? (i := 3) rfl)) (by decide) (by decide)) (g := (mkF m 114 #[.val (.int p0), .val (.int p1), .val (.int p2), .val (.int p3), .val (.int p4), .val (.int (2 : Int32)), .val (.int (p4 &&& (7 : Int32))), .val (.ref b125), .val (.int (0 : Int32)), .val (.int ((((p2).toInt8.toInt32)).toInt8.toInt32 &&& (255 : Int32)))] [(.int (p4 &&& (7 : Int32))), (.ref b125), (.ref b138), (.ref b138)])) rfl (by rw [hml]; rfl) (Steps.refl _) (a := b138) (argsL := [(.ref b125), (.int (p4 &&& (7 : Int32)))]) (rest := [(.ref b138)]) (lenOf pd_0 rfl) rfl (by show 2 * 0 + _ ≤ _; exact Nat.le_of_eq rfl) (hb hby at_114) (fun _ _ => ⟨rfl, e138, (by decide : 2 + 0 ≤ _), (by decide : 4 + 0 ≤ _)⟩)
      dsimp only [Pt.U, Pt.locs, Pt.cells, Pt.slots] at X139 l139 y139 z139 st139 hQ139
      subst l139 y139 z139
      obtain ⟨rfl, Nq139, K139, P139_0, P139_1⟩ := hQ139
      have N139 := Fr.app N129 Nq139
      refine OGo.st (fun t k => st139.trans k) ?_
      show OGo p.tables e below _ (T139.setTop (mkF m 117 #[.val (.int p0), .val (.int p1), .val (.int p2), .val (.int p3), .val (.int p4), .val (.int (2 : Int32)), .val (.int (p4 &&& (7 : Int32))), .val (.ref b125), .val (.int (0 : Int32)), .val (.int ((((p2).toInt8.toInt32)).toInt8.toInt32 &&& (255 : Int32)))] [(.ref b138)]))
      refine OGo.st (fun t k => XS.astore X139.here hx rfl (hb hby at_117) rfl rfl (l' := #[.val (.int p0), .val (.int p1), .val (.int p2), .val (.int p3), .val (.int p4), .val (.int (2 : Int32)), .val (.int (p4 &&& (7 : Int32))), .val (.ref b125), .val (.int (0 : Int32)), .val (.ref b138)]) rfl k) ?_
      show OGo p.tables e below _ (T139.setTop (mkF m 119 #[.val (.int p0), .val (.int p1), .val (.int p2), .val (.int p3), .val (.int p4), .val (.int (2 : Int32)), .val (.int (p4 &&& (7 : Int32))), .val (.ref b125), .val (.int (0 : Int32)), .val (.ref b138)] []))
      refine OGo.st (fun t k => XS.aload X139.here hx rfl (hb hby at_119) rfl rfl k) ?_
      show OGo p.tables e below _ (T139.setTop (mkF m 121 #[.val (.int p0), .val (.int p1), .val (.int p2), .val (.int p3), .val (.int p4), .val (.int (2 : Int32)), .val (.int (p4 &&& (7 : Int32))), .val (.ref b125), .val (.int (0 : Int32)), .val (.ref b138)] [(.ref b138)]))
      have G140 : Arv Z T139.heap b125 k125 .byte (2 : Int32) [(.int (((p1).toInt8.toInt32)).toInt8.toInt32), (.int (((p2).toInt8.toInt32)).toInt8.toInt32)] (.int (0 : Int32)) := ((V129.ext E138).keep K139 (ninS ne_b125_b138 nin0))
      have G142 : Exa Z T139.heap b138 "com/example/holdfast/holdfast/resources/DerValue$BitString" := (A138.keep K139)
      obtain ⟨cq141, kq141, q141a, q141b, q141c⟩ := isOf hZ rfl G142
      obtain ⟨_, _, ⟨T141, L141, kk141, nn141⟩, -, X141, ⟨Lc141, hQ141, l141, y141, z141⟩, st141⟩ := X139.virtualBack hx (y := (⟨"com/example/holdfast/holdfast/resources/DerValue$BitString", "paddingIsZero", "()Z"⟩ : MethodName)) (z := (⟨"com/example/holdfast/holdfast/resources/DerValue$BitString", "paddingIsZero", "()Z"⟩ : MethodName)) hown (mvT hZ (hw _ (List.mem_of_getElem? (i := 14) rfl))) (mvT hZ (hw _ (List.mem_of_getElem? (i := 15) rfl))) (notFace_of_selects (args := #[]) (mvT hZ (hw _ (List.mem_of_getElem? (i := 17) rfl)))) (mvT hZ (hw _ (List.mem_of_getElem? (i := 17) rfl))) (mvT hZ (hw _ (List.mem_of_getElem? (i := 16) rfl))) (by decide) (backOf (W := 0) (rm3 l Z ar hw [] b138 b125 k125 (p4 &&& (7 : Int32)) (((p1).toInt8.toInt32)).toInt8.toInt32 (((p2).toInt8.toInt32)).toInt8.toInt32 T139.heap n0 (Nat.le_trans (Nat.le_trans (Nat.le_trans (Nat.le_trans (Nat.le_trans Z0 E125.1) (Keep.of_wr W127).1) (Keep.of_wr W129).1) E138.1) K139.1) P139_0 P139_1 G140) hZ (hw _ (List.mem_of_getElem? (i := 18) rfl)) (hw _ (List.mem_of_getElem? (i := 3) rfl)) (by decide) (by decide)) q141a q141c (g := (mkF m 121 #[.val (.int p0), .val (.int p1), .val (.int p2), .val (.int p3), .val (.int p4), .val (.int (2 : Int32)), .val (.int (p4 &&& (7 : Int32))), .val (.ref b125), .val (.int (0 : Int32)), .val (.ref b138)] [(.ref b138)])) rfl (by rw [hml]; rfl) (Steps.refl _) (argsL := []) (rest := []) (lenOf pd_1 rfl) rfl (by show 2 * 0 + _ ≤ _; exact Nat.le_of_eq rfl) (hb hby at_121) (fun _ _ => ⟨rfl, rfl, (by decide : 2 + 0 ≤ _), (by decide : 4 + 0 ≤ _)⟩)
      dsimp only [Pt.U, Pt.locs, Pt.cells, Pt.slots] at X141 l141 y141 z141 st141 hQ141
      subst l141 y141 z141
      obtain ⟨rfl, Nq141, hh141⟩ := hQ141
      have N141 := Fr.app N139 Nq141
      refine OGo.st (fun t k => st141.trans k) ?_
      have e141 : T141.heap = T139.heap := hh141
      show OGo p.tables e below _ (T141.setTop (mkF m 124 #[.val (.int p0), .val (.int p1), .val (.int p2), .val (.int p3), .val (.int p4), .val (.int (2 : Int32)), .val (.int (p4 &&& (7 : Int32))), .val (.ref b125), .val (.int (0 : Int32)), .val (.ref b138)] [(.int (own_pz (((p2).toInt8.toInt32)).toInt8.toInt32 (p4 &&& (7 : Int32))))]))
      refine OGo.st (fun t k => XS.iload X141.here hx rfl (hb hby at_124) rfl k) ?_
      show OGo p.tables e below _ (T141.setTop (mkF m 126 #[.val (.int p0), .val (.int p1), .val (.int p2), .val (.int p3), .val (.int p4), .val (.int (2 : Int32)), .val (.int (p4 &&& (7 : Int32))), .val (.ref b125), .val (.int (0 : Int32)), .val (.ref b138)] [(.int (0 : Int32)), (.int (own_pz (((p2).toInt8.toInt32)).toInt8.toInt32 (p4 &&& (7 : Int32))))]))
      refine OGo.st (fun t k => XS.icmpNo X141.here hx rfl (hb hby at_126) rfl (teq ((by rw [own_bb, own_pe, own_ex]; rw [own_bb] at hc96_131; rw [if_neg hc96_131]) : (own_pz (((p2).toInt8.toInt32)).toInt8.toInt32 (p4 &&& (7 : Int32))) = (0 : Int32))).2 k) ?_
      show OGo p.tables e below _ (T141.setTop (mkF m 129 #[.val (.int p0), .val (.int p1), .val (.int p2), .val (.int p3), .val (.int p4), .val (.int (2 : Int32)), .val (.int (p4 &&& (7 : Int32))), .val (.ref b125), .val (.int (0 : Int32)), .val (.ref b138)] []))
      refine OGo.st (fun t k => XS.iconst X141.here hx rfl (hb hby at_129) k) ?_
      show OGo p.tables e below _ (T141.setTop (mkF m 130 #[.val (.int p0), .val (.int p1), .val (.int p2), .val (.int p3), .val (.int p4), .val (.int (2 : Int32)), .val (.int (p4 &&& (7 : Int32))), .val (.ref b125), .val (.int (0 : Int32)), .val (.ref b138)] [(.int (1 : Int32))]))
      refine OGo.st (fun t k => XS.goto X141.here hx rfl (pc0 := 130) (pc' := 134) rfl (hb hby at_130) (by decide) (by decide) k) ?_
      show OGo p.tables e below _ (T141.setTop (mkF m 134 #[.val (.int p0), .val (.int p1), .val (.int p2), .val (.int p3), .val (.int p4), .val (.int (2 : Int32)), .val (.int (p4 &&& (7 : Int32))), .val (.ref b125), .val (.int (0 : Int32)), .val (.ref b138)] [(.int (1 : Int32))]))
      obtain ⟨fs, hr, hrun, hended, hW, hsame⟩ := X141.leave (v := some (.int (1 : Int32))) (fun h => by rw [Bd.returns] at h; cases h)
      refine OGo.done (retN X141 hx (t := .boolean) Bd.returns (by simp) (hb hby at_134) hr) ⟨hrun, hended, _, _, rfl, ?_, ⟨_, rfl⟩, hW, hsame.mono (by decide) (by decide)⟩
      show Q5 Z p0 p1 p2 p3 p4 h0 n0 _ T141.heap _
      rw [e141]
      exact ⟨rfl, N141⟩
  ·
    rw [hn]
    show OGo p.tables e below _ (s₁.setTop (mkF m 5 #[.val (.int p0), .val (.int p1), .val (.int p2), .val (.int p3), .val (.int p4), .val (.int (3 : Int32)), .unset, .unset, .unset, .unset] []))
    refine OGo.st (fun t k => XS.iload X0.here hx rfl (hb hby at_5) rfl k) ?_
    show OGo p.tables e below _ (s₁.setTop (mkF m 7 #[.val (.int p0), .val (.int p1), .val (.int p2), .val (.int p3), .val (.int p4), .val (.int (3 : Int32)), .unset, .unset, .unset, .unset] [(.int (3 : Int32))]))
    refine OGo.st (fun t k => XS.ifYes X0.here hx rfl (pc0 := 7) (pc' := 14) rfl (hb hby at_7) rfl ((if0 _ _).trans (feq (by decide : ¬ ((3 : Int32) = (0 : Int32)))).2) (by decide) (by decide) k) ?_
    show OGo p.tables e below _ (s₁.setTop (mkF m 14 #[.val (.int p0), .val (.int p1), .val (.int p2), .val (.int p3), .val (.int p4), .val (.int (3 : Int32)), .unset, .unset, .unset, .unset] []))
    refine OGo.st (fun t k => XS.iload X0.here hx rfl (hb hby at_14) rfl k) ?_
    show OGo p.tables e below _ (s₁.setTop (mkF m 16 #[.val (.int p0), .val (.int p1), .val (.int p2), .val (.int p3), .val (.int p4), .val (.int (3 : Int32)), .unset, .unset, .unset, .unset] [(.int p4)]))
    refine OGo.st (fun t k => XS.bipush X0.here hx rfl (hb hby at_16) k) ?_
    show OGo p.tables e below _ (s₁.setTop (mkF m 18 #[.val (.int p0), .val (.int p1), .val (.int p2), .val (.int p3), .val (.int p4), .val (.int (3 : Int32)), .unset, .unset, .unset, .unset] [(.int (7 : Int32)), (.int p4)]))
    refine OGo.st (fun t k => XS.iand X0.here hx rfl (hb hby at_18) rfl k) ?_
    show OGo p.tables e below _ (s₁.setTop (mkF m 19 #[.val (.int p0), .val (.int p1), .val (.int p2), .val (.int p3), .val (.int p4), .val (.int (3 : Int32)), .unset, .unset, .unset, .unset] [(.int (p4 &&& (7 : Int32)))]))
    refine OGo.st (fun t k => XS.istore X0.here hx rfl (hb hby at_19) rfl (l' := #[.val (.int p0), .val (.int p1), .val (.int p2), .val (.int p3), .val (.int p4), .val (.int (3 : Int32)), .val (.int (p4 &&& (7 : Int32))), .unset, .unset, .unset]) rfl k) ?_
    show OGo p.tables e below _ (s₁.setTop (mkF m 21 #[.val (.int p0), .val (.int p1), .val (.int p2), .val (.int p3), .val (.int p4), .val (.int (3 : Int32)), .val (.int (p4 &&& (7 : Int32))), .unset, .unset, .unset] []))
    refine OGo.st (fun t k => XS.iload X0.here hx rfl (hb hby at_21) rfl k) ?_
    show OGo p.tables e below _ (s₁.setTop (mkF m 23 #[.val (.int p0), .val (.int p1), .val (.int p2), .val (.int p3), .val (.int p4), .val (.int (3 : Int32)), .val (.int (p4 &&& (7 : Int32))), .unset, .unset, .unset] [(.int (3 : Int32))]))
    obtain ⟨T144, h144, k144, X144, e144, E144, A144, st144⟩ := newP X0 hx hZ (hw _ (List.mem_of_getElem? (i := 0) rfl)) e0 (g := (mkF m 23 #[.val (.int p0), .val (.int p1), .val (.int p2), .val (.int p3), .val (.int p4), .val (.int (3 : Int32)), .val (.int (p4 &&& (7 : Int32))), .unset, .unset, .unset] [(.int (3 : Int32))])) rfl (hb hby at_23) rfl (by decide) (cap := 3) (by decide) (by decide) (by decide) (by decide)
    obtain ⟨b144, g144⟩ : ∃ z, z = h0.size := ⟨_, rfl⟩
    rw [← g144] at A144 st144
    have ge_b144 : n0 ≤ b144 := Nat.le_trans Z0 (Nat.le_of_eq g144.symm)
    have sz_b144 : h0.size ≤ b144 := Nat.le_trans (Nat.le_refl h0.size) (Nat.le_of_eq g144.symm)
    have V144 : Arv Z h144 b144 k144 .byte (3 : Int32) [(.int (0 : Int32)), (.int (0 : Int32)), (.int (0 : Int32))] (.int (0 : Int32)) := (Arv.new A144 (by decide)).pad (pad_rep [] (.int (0 : Int32)) 3)
    refine OGo.st st144 ?_
    show OGo p.tables e below _ (T144.setTop (mkF m 25 #[.val (.int p0), .val (.int p1), .val (.int p2), .val (.int p3), .val (.int p4), .val (.int (3 : Int32)), .val (.int (p4 &&& (7 : Int32))), .unset, .unset, .unset] [(.ref b144)]))
    refine OGo.st (fun t k => XS.astore X144.here hx rfl (hb hby at_25) rfl rfl (l' := #[.val (.int p0), .val (.int p1), .val (.int p2), .val (.int p3), .val (.int p4), .val (.int (3 : Int32)), .val (.int (p4 &&& (7 : Int32))), .val (.ref b144), .unset, .unset]) rfl k) ?_
    show OGo p.tables e below _ (T144.setTop (mkF m 27 #[.val (.int p0), .val (.int p1), .val (.int p2), .val (.int p3), .val (.int p4), .val (.int (3 : Int32)), .val (.int (p4 &&& (7 : Int32))), .val (.ref b144), .unset, .unset] []))
    refine OGo.st (fun t k => XS.iload X144.here hx rfl (hb hby at_27) rfl k) ?_
    show OGo p.tables e below _ (T144.setTop (mkF m 29 #[.val (.int p0), .val (.int p1), .val (.int p2), .val (.int p3), .val (.int p4), .val (.int (3 : Int32)), .val (.int (p4 &&& (7 : Int32))), .val (.ref b144), .unset, .unset] [(.int (3 : Int32))]))
    refine OGo.st (fun t k => XS.ifNo X144.here hx rfl (hb hby at_29) rfl ((if0 _ _).trans (tlt (by decide : (0 : Int32) < (3 : Int32))).2.2.2) k) ?_
    show OGo p.tables e below _ (T144.setTop (mkF m 32 #[.val (.int p0), .val (.int p1), .val (.int p2), .val (.int p3), .val (.int p4), .val (.int (3 : Int32)), .val (.int (p4 &&& (7 : Int32))), .val (.ref b144), .unset, .unset] []))
    refine OGo.st (fun t k => XS.aload X144.here hx rfl (hb hby at_32) rfl rfl k) ?_
    show OGo p.tables e below _ (T144.setTop (mkF m 34 #[.val (.int p0), .val (.int p1), .val (.int p2), .val (.int p3), .val (.int p4), .val (.int (3 : Int32)), .val (.int (p4 &&& (7 : Int32))), .val (.ref b144), .unset, .unset] [(.ref b144)]))
    refine OGo.st (fun t k => XS.iconst X144.here hx rfl (hb hby at_34) k) ?_
    show OGo p.tables e below _ (T144.setTop (mkF m 35 #[.val (.int p0), .val (.int p1), .val (.int p2), .val (.int p3), .val (.int p4), .val (.int (3 : Int32)), .val (.int (p4 &&& (7 : Int32))), .val (.ref b144), .unset, .unset] [(.int (0 : Int32)), (.ref b144)]))
    refine OGo.st (fun t k => XS.iloadN X144.here hx rfl (hb hby at_35) rfl k) ?_
    show OGo p.tables e below _ (T144.setTop (mkF m 36 #[.val (.int p0), .val (.int p1), .val (.int p2), .val (.int p3), .val (.int p4), .val (.int (3 : Int32)), .val (.int (p4 &&& (7 : Int32))), .val (.ref b144), .unset, .unset] [(.int p1), (.int (0 : Int32)), (.ref b144)]))
    refine OGo.st (fun t k => XS.i2b X144.here hx rfl (hb hby at_36) rfl k) ?_
    show OGo p.tables e below _ (T144.setTop (mkF m 37 #[.val (.int p0), .val (.int p1), .val (.int p2), .val (.int p3), .val (.int p4), .val (.int (3 : Int32)), .val (.int (p4 &&& (7 : Int32))), .val (.ref b144), .unset, .unset] [(.int ((p1).toInt8.toInt32)), (.int (0 : Int32)), (.ref b144)]))
    obtain ⟨cl145, Ar145, qc145, Sz145, Nz145, Hs145, Gs145⟩ := id V144
    have hin145 : ¬ ((0 : Int32) < 0 ∨ cl145.slots.size ≤ ((0 : Int32)).toNatClampNeg) := inb_of Sz145 ⟨by decide, by decide⟩
    obtain ⟨T146, h146, X146, e146, W146, st146⟩ := stB X144 hx hZ e144 Ar145 (j := (0 : Int32)) hin145 (g := (mkF m 37 #[.val (.int p0), .val (.int p1), .val (.int p2), .val (.int p3), .val (.int p4), .val (.int (3 : Int32)), .val (.int (p4 &&& (7 : Int32))), .val (.ref b144), .unset, .unset] [(.int ((p1).toInt8.toInt32)), (.int (0 : Int32)), (.ref b144)])) rfl rfl (hb hby at_37)
    refine OGo.st st146 ?_
    have N146 := Fr.snoc X146 N0 ge_b144
    have V146 : Arv Z h146 b144 k144 .byte (3 : Int32) [(.int (((p1).toInt8.toInt32)).toInt8.toInt32), (.int (0 : Int32)), (.int (0 : Int32))] (.int (0 : Int32)) := Arv.set Ar145 qc145 Sz145 Nz145 Hs145 Gs145 (fits_nar_byte _) W146 0 rfl (Nat.le_of_ble_eq_true rfl)
    show OGo p.tables e below _ (T146.setTop (mkF m 38 #[.val (.int p0), .val (.int p1), .val (.int p2), .val (.int p3), .val (.int p4), .val (.int (3 : Int32)), .val (.int (p4 &&& (7 : Int32))), .val (.ref b144), .unset, .unset] []))
    refine OGo.st (fun t k => XS.iload X146.here hx rfl (hb hby at_38) rfl k) ?_
    show OGo p.tables e below _ (T146.setTop (mkF m 40 #[.val (.int p0), .val (.int p1), .val (.int p2), .val (.int p3), .val (.int p4), .val (.int (3 : Int32)), .val (.int (p4 &&& (7 : Int32))), .val (.ref b144), .unset, .unset] [(.int (3 : Int32))]))
    refine OGo.st (fun t k => XS.iconst X146.here hx rfl (hb hby at_40) k) ?_
    show OGo p.tables e below _ (T146.setTop (mkF m 41 #[.val (.int p0), .val (.int p1), .val (.int p2), .val (.int p3), .val (.int p4), .val (.int (3 : Int32)), .val (.int (p4 &&& (7 : Int32))), .val (.ref b144), .unset, .unset] [(.int (1 : Int32)), (.int (3 : Int32))]))
    refine OGo.st (fun t k => XS.icmpNo X146.here hx rfl (hb hby at_41) rfl (tlt (by decide : (1 : Int32) < (3 : Int32))).2.2.2 k) ?_
    show OGo p.tables e below _ (T146.setTop (mkF m 44 #[.val (.int p0), .val (.int p1), .val (.int p2), .val (.int p3), .val (.int p4), .val (.int (3 : Int32)), .val (.int (p4 &&& (7 : Int32))), .val (.ref b144), .unset, .unset] []))
    refine OGo.st (fun t k => XS.aload X146.here hx rfl (hb hby at_44) rfl rfl k) ?_
    show OGo p.tables e below _ (T146.setTop (mkF m 46 #[.val (.int p0), .val (.int p1), .val (.int p2), .val (.int p3), .val (.int p4), .val (.int (3 : Int32)), .val (.int (p4 &&& (7 : Int32))), .val (.ref b144), .unset, .unset] [(.ref b144)]))
    refine OGo.st (fun t k => XS.iconst X146.here hx rfl (hb hby at_46) k) ?_
    show OGo p.tables e below _ (T146.setTop (mkF m 47 #[.val (.int p0), .val (.int p1), .val (.int p2), .val (.int p3), .val (.int p4), .val (.int (3 : Int32)), .val (.int (p4 &&& (7 : Int32))), .val (.ref b144), .unset, .unset] [(.int (1 : Int32)), (.ref b144)]))
    refine OGo.st (fun t k => XS.iloadN X146.here hx rfl (hb hby at_47) rfl k) ?_
    show OGo p.tables e below _ (T146.setTop (mkF m 48 #[.val (.int p0), .val (.int p1), .val (.int p2), .val (.int p3), .val (.int p4), .val (.int (3 : Int32)), .val (.int (p4 &&& (7 : Int32))), .val (.ref b144), .unset, .unset] [(.int p2), (.int (1 : Int32)), (.ref b144)]))
    refine OGo.st (fun t k => XS.i2b X146.here hx rfl (hb hby at_48) rfl k) ?_
    show OGo p.tables e below _ (T146.setTop (mkF m 49 #[.val (.int p0), .val (.int p1), .val (.int p2), .val (.int p3), .val (.int p4), .val (.int (3 : Int32)), .val (.int (p4 &&& (7 : Int32))), .val (.ref b144), .unset, .unset] [(.int ((p2).toInt8.toInt32)), (.int (1 : Int32)), (.ref b144)]))
    obtain ⟨cl147, Ar147, qc147, Sz147, Nz147, Hs147, Gs147⟩ := id V146
    have hin147 : ¬ ((1 : Int32) < 0 ∨ cl147.slots.size ≤ ((1 : Int32)).toNatClampNeg) := inb_of Sz147 ⟨by decide, by decide⟩
    obtain ⟨T148, h148, X148, e148, W148, st148⟩ := stB X146 hx hZ e146 Ar147 (j := (1 : Int32)) hin147 (g := (mkF m 49 #[.val (.int p0), .val (.int p1), .val (.int p2), .val (.int p3), .val (.int p4), .val (.int (3 : Int32)), .val (.int (p4 &&& (7 : Int32))), .val (.ref b144), .unset, .unset] [(.int ((p2).toInt8.toInt32)), (.int (1 : Int32)), (.ref b144)])) rfl rfl (hb hby at_49)
    refine OGo.st st148 ?_
    have N148 := Fr.snoc X148 N146 ge_b144
    have V148 : Arv Z h148 b144 k144 .byte (3 : Int32) [(.int (((p1).toInt8.toInt32)).toInt8.toInt32), (.int (((p2).toInt8.toInt32)).toInt8.toInt32), (.int (0 : Int32))] (.int (0 : Int32)) := Arv.set Ar147 qc147 Sz147 Nz147 Hs147 Gs147 (fits_nar_byte _) W148 1 rfl (Nat.le_of_ble_eq_true rfl)
    show OGo p.tables e below _ (T148.setTop (mkF m 50 #[.val (.int p0), .val (.int p1), .val (.int p2), .val (.int p3), .val (.int p4), .val (.int (3 : Int32)), .val (.int (p4 &&& (7 : Int32))), .val (.ref b144), .unset, .unset] []))
    refine OGo.st (fun t k => XS.iload X148.here hx rfl (hb hby at_50) rfl k) ?_
    show OGo p.tables e below _ (T148.setTop (mkF m 52 #[.val (.int p0), .val (.int p1), .val (.int p2), .val (.int p3), .val (.int p4), .val (.int (3 : Int32)), .val (.int (p4 &&& (7 : Int32))), .val (.ref b144), .unset, .unset] [(.int (3 : Int32))]))
    refine OGo.st (fun t k => XS.iconst X148.here hx rfl (hb hby at_52) k) ?_
    show OGo p.tables e below _ (T148.setTop (mkF m 53 #[.val (.int p0), .val (.int p1), .val (.int p2), .val (.int p3), .val (.int p4), .val (.int (3 : Int32)), .val (.int (p4 &&& (7 : Int32))), .val (.ref b144), .unset, .unset] [(.int (2 : Int32)), (.int (3 : Int32))]))
    refine OGo.st (fun t k => XS.icmpNo X148.here hx rfl (hb hby at_53) rfl (tlt (by decide : (2 : Int32) < (3 : Int32))).2.2.2 k) ?_
    show OGo p.tables e below _ (T148.setTop (mkF m 56 #[.val (.int p0), .val (.int p1), .val (.int p2), .val (.int p3), .val (.int p4), .val (.int (3 : Int32)), .val (.int (p4 &&& (7 : Int32))), .val (.ref b144), .unset, .unset] []))
    refine OGo.st (fun t k => XS.aload X148.here hx rfl (hb hby at_56) rfl rfl k) ?_
    show OGo p.tables e below _ (T148.setTop (mkF m 58 #[.val (.int p0), .val (.int p1), .val (.int p2), .val (.int p3), .val (.int p4), .val (.int (3 : Int32)), .val (.int (p4 &&& (7 : Int32))), .val (.ref b144), .unset, .unset] [(.ref b144)]))
    refine OGo.st (fun t k => XS.iconst X148.here hx rfl (hb hby at_58) k) ?_
    show OGo p.tables e below _ (T148.setTop (mkF m 59 #[.val (.int p0), .val (.int p1), .val (.int p2), .val (.int p3), .val (.int p4), .val (.int (3 : Int32)), .val (.int (p4 &&& (7 : Int32))), .val (.ref b144), .unset, .unset] [(.int (2 : Int32)), (.ref b144)]))
    refine OGo.st (fun t k => XS.iloadN X148.here hx rfl (hb hby at_59) rfl k) ?_
    show OGo p.tables e below _ (T148.setTop (mkF m 60 #[.val (.int p0), .val (.int p1), .val (.int p2), .val (.int p3), .val (.int p4), .val (.int (3 : Int32)), .val (.int (p4 &&& (7 : Int32))), .val (.ref b144), .unset, .unset] [(.int p3), (.int (2 : Int32)), (.ref b144)]))
    refine OGo.st (fun t k => XS.i2b X148.here hx rfl (hb hby at_60) rfl k) ?_
    show OGo p.tables e below _ (T148.setTop (mkF m 61 #[.val (.int p0), .val (.int p1), .val (.int p2), .val (.int p3), .val (.int p4), .val (.int (3 : Int32)), .val (.int (p4 &&& (7 : Int32))), .val (.ref b144), .unset, .unset] [(.int ((p3).toInt8.toInt32)), (.int (2 : Int32)), (.ref b144)]))
    obtain ⟨cl149, Ar149, qc149, Sz149, Nz149, Hs149, Gs149⟩ := id V148
    have hin149 : ¬ ((2 : Int32) < 0 ∨ cl149.slots.size ≤ ((2 : Int32)).toNatClampNeg) := inb_of Sz149 ⟨by decide, by decide⟩
    obtain ⟨T150, h150, X150, e150, W150, st150⟩ := stB X148 hx hZ e148 Ar149 (j := (2 : Int32)) hin149 (g := (mkF m 61 #[.val (.int p0), .val (.int p1), .val (.int p2), .val (.int p3), .val (.int p4), .val (.int (3 : Int32)), .val (.int (p4 &&& (7 : Int32))), .val (.ref b144), .unset, .unset] [(.int ((p3).toInt8.toInt32)), (.int (2 : Int32)), (.ref b144)])) rfl rfl (hb hby at_61)
    refine OGo.st st150 ?_
    have N150 := Fr.snoc X150 N148 ge_b144
    have V150 : Arv Z h150 b144 k144 .byte (3 : Int32) [(.int (((p1).toInt8.toInt32)).toInt8.toInt32), (.int (((p2).toInt8.toInt32)).toInt8.toInt32), (.int (((p3).toInt8.toInt32)).toInt8.toInt32)] (.int (0 : Int32)) := Arv.set Ar149 qc149 Sz149 Nz149 Hs149 Gs149 (fits_nar_byte _) W150 2 rfl (Nat.le_of_ble_eq_true rfl)
    show OGo p.tables e below _ (T150.setTop (mkF m 62 #[.val (.int p0), .val (.int p1), .val (.int p2), .val (.int p3), .val (.int p4), .val (.int (3 : Int32)), .val (.int (p4 &&& (7 : Int32))), .val (.ref b144), .unset, .unset] []))
    refine OGo.st (fun t k => XS.iload X150.here hx rfl (hb hby at_62) rfl k) ?_
    show OGo p.tables e below _ (T150.setTop (mkF m 64 #[.val (.int p0), .val (.int p1), .val (.int p2), .val (.int p3), .val (.int p4), .val (.int (3 : Int32)), .val (.int (p4 &&& (7 : Int32))), .val (.ref b144), .unset, .unset] [(.int (3 : Int32))]))
    refine OGo.st (fun t k => XS.ifYes X150.here hx rfl (pc0 := 64) (pc' := 73) rfl (hb hby at_64) rfl ((if0 _ _).trans (feq (by decide : ¬ ((3 : Int32) = (0 : Int32)))).2) (by decide) (by decide) k) ?_
    show OGo p.tables e below _ (T150.setTop (mkF m 73 #[.val (.int p0), .val (.int p1), .val (.int p2), .val (.int p3), .val (.int p4), .val (.int (3 : Int32)), .val (.int (p4 &&& (7 : Int32))), .val (.ref b144), .unset, .unset] []))
    refine OGo.st (fun t k => XS.aload X150.here hx rfl (hb hby at_73) rfl rfl k) ?_
    show OGo p.tables e below _ (T150.setTop (mkF m 75 #[.val (.int p0), .val (.int p1), .val (.int p2), .val (.int p3), .val (.int p4), .val (.int (3 : Int32)), .val (.int (p4 &&& (7 : Int32))), .val (.ref b144), .unset, .unset] [(.ref b144)]))
    refine OGo.st (fun t k => XS.iload X150.here hx rfl (hb hby at_75) rfl k) ?_
    show OGo p.tables e below _ (T150.setTop (mkF m 77 #[.val (.int p0), .val (.int p1), .val (.int p2), .val (.int p3), .val (.int p4), .val (.int (3 : Int32)), .val (.int (p4 &&& (7 : Int32))), .val (.ref b144), .unset, .unset] [(.int (3 : Int32)), (.ref b144)]))
    refine OGo.st (fun t k => XS.iconst X150.here hx rfl (hb hby at_77) k) ?_
    show OGo p.tables e below _ (T150.setTop (mkF m 78 #[.val (.int p0), .val (.int p1), .val (.int p2), .val (.int p3), .val (.int p4), .val (.int (3 : Int32)), .val (.int (p4 &&& (7 : Int32))), .val (.ref b144), .unset, .unset] [(.int (1 : Int32)), (.int (3 : Int32)), (.ref b144)]))
    refine OGo.st (fun t k => XS.isub X150.here hx rfl (hb hby at_78) rfl k) ?_
    show OGo p.tables e below _ (T150.setTop (mkF m 79 #[.val (.int p0), .val (.int p1), .val (.int p2), .val (.int p3), .val (.int p4), .val (.int (3 : Int32)), .val (.int (p4 &&& (7 : Int32))), .val (.ref b144), .unset, .unset] [(.int (2 : Int32)), (.ref b144)]))
    obtain ⟨cl151, Ar151, qc151, Sz151, Nz151, Hs151, Gs151⟩ := id V150
    have hin151 : ¬ ((2 : Int32) < 0 ∨ cl151.slots.size ≤ ((2 : Int32)).toNatClampNeg) := inb_of Sz151 ⟨by decide, by decide⟩
    have hat151 : cl151.slots[((2 : Int32)).toNatClampNeg]? = some (.int (((p3).toInt8.toInt32)).toInt8.toInt32) := Has.at Hs151 hin151 rfl
    refine OGo.st (fun t k => X150.baloadBytes hx (j := (2 : Int32)) (v := (.int (((p3).toInt8.toInt32)).toInt8.toInt32)) (by rw [e150]; exact Ar151.1) (State.isArrayOf_alike hZ.alike Ar151.2.1) Ar151.2.2 hin151 hat151 (g := (mkF m 79 #[.val (.int p0), .val (.int p1), .val (.int p2), .val (.int p3), .val (.int p4), .val (.int (3 : Int32)), .val (.int (p4 &&& (7 : Int32))), .val (.ref b144), .unset, .unset] [(.int (2 : Int32)), (.ref b144)])) rfl rfl (hb hby at_79) _ k) ?_
    show OGo p.tables e below _ (T150.setTop (mkF m 80 #[.val (.int p0), .val (.int p1), .val (.int p2), .val (.int p3), .val (.int p4), .val (.int (3 : Int32)), .val (.int (p4 &&& (7 : Int32))), .val (.ref b144), .unset, .unset] [(.int (((p3).toInt8.toInt32)).toInt8.toInt32)]))
    refine OGo.st (fun t k => XS.sipush X150.here hx rfl (hb hby at_80) k) ?_
    show OGo p.tables e below _ (T150.setTop (mkF m 83 #[.val (.int p0), .val (.int p1), .val (.int p2), .val (.int p3), .val (.int p4), .val (.int (3 : Int32)), .val (.int (p4 &&& (7 : Int32))), .val (.ref b144), .unset, .unset] [(.int (255 : Int32)), (.int (((p3).toInt8.toInt32)).toInt8.toInt32)]))
    refine OGo.st (fun t k => XS.iand X150.here hx rfl (hb hby at_83) rfl k) ?_
    show OGo p.tables e below _ (T150.setTop (mkF m 84 #[.val (.int p0), .val (.int p1), .val (.int p2), .val (.int p3), .val (.int p4), .val (.int (3 : Int32)), .val (.int (p4 &&& (7 : Int32))), .val (.ref b144), .unset, .unset] [(.int ((((p3).toInt8.toInt32)).toInt8.toInt32 &&& (255 : Int32)))]))
    refine OGo.st (fun t k => XS.istore X150.here hx rfl (hb hby at_84) rfl (l' := #[.val (.int p0), .val (.int p1), .val (.int p2), .val (.int p3), .val (.int p4), .val (.int (3 : Int32)), .val (.int (p4 &&& (7 : Int32))), .val (.ref b144), .unset, .val (.int ((((p3).toInt8.toInt32)).toInt8.toInt32 &&& (255 : Int32)))]) rfl k) ?_
    show OGo p.tables e below _ (T150.setTop (mkF m 86 #[.val (.int p0), .val (.int p1), .val (.int p2), .val (.int p3), .val (.int p4), .val (.int (3 : Int32)), .val (.int (p4 &&& (7 : Int32))), .val (.ref b144), .unset, .val (.int ((((p3).toInt8.toInt32)).toInt8.toInt32 &&& (255 : Int32)))] []))
    refine OGo.st (fun t k => XS.iload X150.here hx rfl (hb hby at_86) rfl k) ?_
    show OGo p.tables e below _ (T150.setTop (mkF m 88 #[.val (.int p0), .val (.int p1), .val (.int p2), .val (.int p3), .val (.int p4), .val (.int (3 : Int32)), .val (.int (p4 &&& (7 : Int32))), .val (.ref b144), .unset, .val (.int ((((p3).toInt8.toInt32)).toInt8.toInt32 &&& (255 : Int32)))] [(.int ((((p3).toInt8.toInt32)).toInt8.toInt32 &&& (255 : Int32)))]))
    refine OGo.st (fun t k => XS.iload X150.here hx rfl (hb hby at_88) rfl k) ?_
    show OGo p.tables e below _ (T150.setTop (mkF m 90 #[.val (.int p0), .val (.int p1), .val (.int p2), .val (.int p3), .val (.int p4), .val (.int (3 : Int32)), .val (.int (p4 &&& (7 : Int32))), .val (.ref b144), .unset, .val (.int ((((p3).toInt8.toInt32)).toInt8.toInt32 &&& (255 : Int32)))] [(.int (p4 &&& (7 : Int32))), (.int ((((p3).toInt8.toInt32)).toInt8.toInt32 &&& (255 : Int32)))]))
    refine OGo.st (fun t k => XS.iushr X150.here hx rfl (hb hby at_90) rfl k) ?_
    show OGo p.tables e below _ (T150.setTop (mkF m 91 #[.val (.int p0), .val (.int p1), .val (.int p2), .val (.int p3), .val (.int p4), .val (.int (3 : Int32)), .val (.int (p4 &&& (7 : Int32))), .val (.ref b144), .unset, .val (.int ((((p3).toInt8.toInt32)).toInt8.toInt32 &&& (255 : Int32)))] [(.int ((((((p3).toInt8.toInt32)).toInt8.toInt32 &&& (255 : Int32)).toUInt32 >>> ((p4 &&& (7 : Int32)) &&& 31).toUInt32).toInt32))]))
    refine OGo.st (fun t k => XS.iload X150.here hx rfl (hb hby at_91) rfl k) ?_
    show OGo p.tables e below _ (T150.setTop (mkF m 93 #[.val (.int p0), .val (.int p1), .val (.int p2), .val (.int p3), .val (.int p4), .val (.int (3 : Int32)), .val (.int (p4 &&& (7 : Int32))), .val (.ref b144), .unset, .val (.int ((((p3).toInt8.toInt32)).toInt8.toInt32 &&& (255 : Int32)))] [(.int (p4 &&& (7 : Int32))), (.int ((((((p3).toInt8.toInt32)).toInt8.toInt32 &&& (255 : Int32)).toUInt32 >>> ((p4 &&& (7 : Int32)) &&& 31).toUInt32).toInt32))]))
    refine OGo.st (fun t k => XS.ishl X150.here hx rfl (hb hby at_93) rfl k) ?_
    show OGo p.tables e below _ (T150.setTop (mkF m 94 #[.val (.int p0), .val (.int p1), .val (.int p2), .val (.int p3), .val (.int p4), .val (.int (3 : Int32)), .val (.int (p4 &&& (7 : Int32))), .val (.ref b144), .unset, .val (.int ((((p3).toInt8.toInt32)).toInt8.toInt32 &&& (255 : Int32)))] [(.int (((((((p3).toInt8.toInt32)).toInt8.toInt32 &&& (255 : Int32)).toUInt32 >>> ((p4 &&& (7 : Int32)) &&& 31).toUInt32).toInt32) <<< ((p4 &&& (7 : Int32)) &&& 31)))]))
    refine OGo.st (fun t k => XS.iload X150.here hx rfl (hb hby at_94) rfl k) ?_
    show OGo p.tables e below _ (T150.setTop (mkF m 96 #[.val (.int p0), .val (.int p1), .val (.int p2), .val (.int p3), .val (.int p4), .val (.int (3 : Int32)), .val (.int (p4 &&& (7 : Int32))), .val (.ref b144), .unset, .val (.int ((((p3).toInt8.toInt32)).toInt8.toInt32 &&& (255 : Int32)))] [(.int ((((p3).toInt8.toInt32)).toInt8.toInt32 &&& (255 : Int32))), (.int (((((((p3).toInt8.toInt32)).toInt8.toInt32 &&& (255 : Int32)).toUInt32 >>> ((p4 &&& (7 : Int32)) &&& 31).toUInt32).toInt32) <<< ((p4 &&& (7 : Int32)) &&& 31)))]))
    by_cases hc96_152 : (((((((p3).toInt8.toInt32)).toInt8.toInt32 &&& (255 : Int32)).toUInt32 >>> ((p4 &&& (7 : Int32)) &&& 31).toUInt32).toInt32) <<< ((p4 &&& (7 : Int32)) &&& 31)) = ((((p3).toInt8.toInt32)).toInt8.toInt32 &&& (255 : Int32))
    ·
      refine OGo.st (fun t k => XS.icmpNo X150.here hx rfl (hb hby at_96) rfl (teq hc96_152).2 k) ?_
      show OGo p.tables e below _ (T150.setTop (mkF m 99 #[.val (.int p0), .val (.int p1), .val (.int p2), .val (.int p3), .val (.int p4), .val (.int (3 : Int32)), .val (.int (p4 &&& (7 : Int32))), .val (.ref b144), .unset, .val (.int ((((p3).toInt8.toInt32)).toInt8.toInt32 &&& (255 : Int32)))] []))
      refine OGo.st (fun t k => XS.iconst X150.here hx rfl (hb hby at_99) k) ?_
      show OGo p.tables e below _ (T150.setTop (mkF m 100 #[.val (.int p0), .val (.int p1), .val (.int p2), .val (.int p3), .val (.int p4), .val (.int (3 : Int32)), .val (.int (p4 &&& (7 : Int32))), .val (.ref b144), .unset, .val (.int ((((p3).toInt8.toInt32)).toInt8.toInt32 &&& (255 : Int32)))] [(.int (1 : Int32))]))
      refine OGo.st (fun t k => XS.goto X150.here hx rfl (pc0 := 100) (pc' := 104) rfl (hb hby at_100) (by decide) (by decide) k) ?_
      show OGo p.tables e below _ (T150.setTop (mkF m 104 #[.val (.int p0), .val (.int p1), .val (.int p2), .val (.int p3), .val (.int p4), .val (.int (3 : Int32)), .val (.int (p4 &&& (7 : Int32))), .val (.ref b144), .unset, .val (.int ((((p3).toInt8.toInt32)).toInt8.toInt32 &&& (255 : Int32)))] [(.int (1 : Int32))]))
      refine OGo.st (fun t k => XS.istore X150.here hx rfl (hb hby at_104) rfl (l' := #[.val (.int p0), .val (.int p1), .val (.int p2), .val (.int p3), .val (.int p4), .val (.int (3 : Int32)), .val (.int (p4 &&& (7 : Int32))), .val (.ref b144), .val (.int (1 : Int32)), .val (.int ((((p3).toInt8.toInt32)).toInt8.toInt32 &&& (255 : Int32)))]) rfl k) ?_
      show OGo p.tables e below _ (T150.setTop (mkF m 106 #[.val (.int p0), .val (.int p1), .val (.int p2), .val (.int p3), .val (.int p4), .val (.int (3 : Int32)), .val (.int (p4 &&& (7 : Int32))), .val (.ref b144), .val (.int (1 : Int32)), .val (.int ((((p3).toInt8.toInt32)).toInt8.toInt32 &&& (255 : Int32)))] []))
      obtain ⟨T153, h153, X153, e153, E153, A153, D153, -, st153⟩ := newO X150 hx hZ hown (hw _ (List.mem_of_getElem? (i := 1) rfl)) (hw _ (List.mem_of_getElem? (i := 2) rfl)) (hw _ (List.mem_of_getElem? (i := 3) rfl)) e150 (g := (mkF m 106 #[.val (.int p0), .val (.int p1), .val (.int p2), .val (.int p3), .val (.int p4), .val (.int (3 : Int32)), .val (.int (p4 &&& (7 : Int32))), .val (.ref b144), .val (.int (1 : Int32)), .val (.int ((((p3).toInt8.toInt32)).toInt8.toInt32 &&& (255 : Int32)))] [])) rfl (hb hby at_106) (by decide) (by decide)
      obtain ⟨b153, g153⟩ : ∃ z, z = h150.size := ⟨_, rfl⟩
      rw [← g153] at A153 D153 st153
      have ge_b153 : n0 ≤ b153 := Nat.le_trans (Nat.le_trans (Nat.le_trans (Nat.le_trans (Nat.le_trans Z0 E144.1) (Keep.of_wr W146).1) (Keep.of_wr W148).1) (Keep.of_wr W150).1) (Nat.le_of_eq g153.symm)
      have sz_b153 : h0.size ≤ b153 := Nat.le_trans (Nat.le_trans (Nat.le_trans (Nat.le_trans (Nat.le_trans (Nat.le_refl h0.size) E144.1) (Keep.of_wr W146).1) (Keep.of_wr W148).1) (Keep.of_wr W150).1) (Nat.le_of_eq g153.symm)
      have ne_b144_b153 : b144 ≠ b153 := Nat.ne_of_lt (Nat.lt_of_lt_of_le V150.lt (Nat.le_of_eq g153.symm))
      refine OGo.st st153 ?_
      have Fn153_octets : Fld Z h153 b153 "com/example/holdfast/holdfast/resources/DerValue$BitString" "octets" "[B" .null := D153 (Or.inr (hw _ (List.mem_of_getElem? (i := 11) rfl))) (ty := (.array .byte)) (by decide)
      have Fn153_unusedBits : Fld Z h153 b153 "com/example/holdfast/holdfast/resources/DerValue$BitString" "unusedBits" "I" (.int (0 : Int32)) := D153 (Or.inr (hw _ (List.mem_of_getElem? (i := 13) rfl))) (ty := .int) (by decide)
      show OGo p.tables e below _ (T153.setTop (mkF m 109 #[.val (.int p0), .val (.int p1), .val (.int p2), .val (.int p3), .val (.int p4), .val (.int (3 : Int32)), .val (.int (p4 &&& (7 : Int32))), .val (.ref b144), .val (.int (1 : Int32)), .val (.int ((((p3).toInt8.toInt32)).toInt8.toInt32 &&& (255 : Int32)))] [(.ref b153)]))
      refine OGo.st (fun t k => XS.dup X153.here hx rfl (hb hby at_109) rfl rfl k) ?_
      show OGo p.tables e below _ (T153.setTop (mkF m 110 #[.val (.int p0), .val (.int p1), .val (.int p2), .val (.int p3), .val (.int p4), .val (.int (3 : Int32)), .val (.int (p4 &&& (7 : Int32))), .val (.ref b144), .val (.int (1 : Int32)), .val (.int ((((p3).toInt8.toInt32)).toInt8.toInt32 &&& (255 : Int32)))] [(.ref b153), (.ref b153)]))
      refine OGo.st (fun t k => XS.aload X153.here hx rfl (hb hby at_110) rfl rfl k) ?_
      show OGo p.tables e below _ (T153.setTop (mkF m 112 #[.val (.int p0), .val (.int p1), .val (.int p2), .val (.int p3), .val (.int p4), .val (.int (3 : Int32)), .val (.int (p4 &&& (7 : Int32))), .val (.ref b144), .val (.int (1 : Int32)), .val (.int ((((p3).toInt8.toInt32)).toInt8.toInt32 &&& (255 : Int32)))] [(.ref b144), (.ref b153), (.ref b153)]))
      refine OGo.st (fun t k => XS.iload X153.here hx rfl (hb hby at_112) rfl k) ?_
      show OGo p.tables e below _ (T153.setTop (mkF m 114 #[.val (.int p0), .val (.int p1), .val (.int p2), .val (.int p3), .val (.int p4), .val (.int (3 : Int32)), .val (.int (p4 &&& (7 : Int32))), .val (.ref b144), .val (.int (1 : Int32)), .val (.int ((((p3).toInt8.toInt32)).toInt8.toInt32 &&& (255 : Int32)))] [(.int (p4 &&& (7 : Int32))), (.ref b144), (.ref b153), (.ref b153)]))
      obtain ⟨_, _, ⟨T154, L154, kk154, nn154⟩, -, X154, ⟨Lc154, hQ154, l154, y154, z154⟩, st154⟩ := X153.specialBack hx (y := (⟨"com/example/holdfast/holdfast/resources/DerValue$BitString", "<init>", "([BI)V"⟩ : MethodName)) rfl hown (mvT hZ (hw _ (List.mem_of_getElem? (i := 4) rfl))) (mvT hZ (hw _ (List.mem_of_getElem? (i := 5) rfl))) (mvT hZ (hw _ (List.mem_of_getElem? (i := 6) rfl))) (by decide) (backOf (W := 1) (rm0 l Z ar hw [] b153 b144 (p4 &&& (7 : Int32)) h153 n0 (Nat.le_trans (Nat.le_trans (Nat.le_trans (Nat.le_trans (Nat.le_trans Z0 E144.1) (Keep.of_wr W146).1) (Keep.of_wr W148).1) (Keep.of_wr W150).1) E153.1) A153 ge_b153 Fn153_octets Fn153_unusedBits) hZ (hw _ (List.mem_of_getElem? (i := 6) rfl)) (hw _ (List.mem_of_getElem? (i := 3) rfl)) (by decide) (by decide)) (g := (mkF m 114 #[.val (.int p0), .val (.int p1), .val (.int p2), .val (.int p3), .val (.int p4), .val (.int (3 : Int32)), .val (.int (p4 &&& (7 : Int32))), .val (.ref b144), .val (.int (1 : Int32)), .val (.int ((((p3).toInt8.toInt32)).toInt8.toInt32 &&& (255 : Int32)))] [(.int (p4 &&& (7 : Int32))), (.ref b144), (.ref b153), (.ref b153)])) rfl (by rw [hml]; rfl) (Steps.refl _) (a := b153) (argsL := [(.ref b144), (.int (p4 &&& (7 : Int32)))]) (rest := [(.ref b153)]) (lenOf pd_0 rfl) rfl (by show 2 * 0 + _ ≤ _; exact Nat.le_of_eq rfl) (hb hby at_114) (fun _ _ => ⟨rfl, e153, (by decide : 2 + 0 ≤ _), (by decide : 5 + 0 ≤ _)⟩)
      dsimp only [Pt.U, Pt.locs, Pt.cells, Pt.slots] at X154 l154 y154 z154 st154 hQ154
      subst l154 y154 z154
      obtain ⟨rfl, Nq154, K154, P154_0, P154_1⟩ := hQ154
      have N154 := Fr.app N150 Nq154
      refine OGo.st (fun t k => st154.trans k) ?_
      show OGo p.tables e below _ (T154.setTop (mkF m 117 #[.val (.int p0), .val (.int p1), .val (.int p2), .val (.int p3), .val (.int p4), .val (.int (3 : Int32)), .val (.int (p4 &&& (7 : Int32))), .val (.ref b144), .val (.int (1 : Int32)), .val (.int ((((p3).toInt8.toInt32)).toInt8.toInt32 &&& (255 : Int32)))] [(.ref b153)]))
      refine OGo.st (fun t k => XS.astore X154.here hx rfl (hb hby at_117) rfl rfl (l' := #[.val (.int p0), .val (.int p1), .val (.int p2), .val (.int p3), .val (.int p4), .val (.int (3 : Int32)), .val (.int (p4 &&& (7 : Int32))), .val (.ref b144), .val (.int (1 : Int32)), .val (.ref b153)]) rfl k) ?_
      show OGo p.tables e below _ (T154.setTop (mkF m 119 #[.val (.int p0), .val (.int p1), .val (.int p2), .val (.int p3), .val (.int p4), .val (.int (3 : Int32)), .val (.int (p4 &&& (7 : Int32))), .val (.ref b144), .val (.int (1 : Int32)), .val (.ref b153)] []))
      refine OGo.st (fun t k => XS.aload X154.here hx rfl (hb hby at_119) rfl rfl k) ?_
      show OGo p.tables e below _ (T154.setTop (mkF m 121 #[.val (.int p0), .val (.int p1), .val (.int p2), .val (.int p3), .val (.int p4), .val (.int (3 : Int32)), .val (.int (p4 &&& (7 : Int32))), .val (.ref b144), .val (.int (1 : Int32)), .val (.ref b153)] [(.ref b153)]))
      have G155 : Arv Z T154.heap b144 k144 .byte (3 : Int32) [(.int (((p1).toInt8.toInt32)).toInt8.toInt32), (.int (((p2).toInt8.toInt32)).toInt8.toInt32), (.int (((p3).toInt8.toInt32)).toInt8.toInt32)] (.int (0 : Int32)) := ((V150.ext E153).keep K154 (ninS ne_b144_b153 nin0))
      have G157 : Exa Z T154.heap b153 "com/example/holdfast/holdfast/resources/DerValue$BitString" := (A153.keep K154)
      obtain ⟨cq156, kq156, q156a, q156b, q156c⟩ := isOf hZ rfl G157
      obtain ⟨_, _, ⟨T156, L156, kk156, nn156⟩, -, X156, ⟨Lc156, hQ156, l156, y156, z156⟩, st156⟩ := X154.virtualBack hx (y := (⟨"com/example/holdfast/holdfast/resources/DerValue$BitString", "paddingIsZero", "()Z"⟩ : MethodName)) (z := (⟨"com/example/holdfast/holdfast/resources/DerValue$BitString", "paddingIsZero", "()Z"⟩ : MethodName)) hown (mvT hZ (hw _ (List.mem_of_getElem? (i := 14) rfl))) (mvT hZ (hw _ (List.mem_of_getElem? (i := 15) rfl))) (notFace_of_selects (args := #[]) (mvT hZ (hw _ (List.mem_of_getElem? (i := 17) rfl)))) (mvT hZ (hw _ (List.mem_of_getElem? (i := 17) rfl))) (mvT hZ (hw _ (List.mem_of_getElem? (i := 16) rfl))) (by decide) (backOf (W := 0) (rm4 l Z ar hw [] b153 b144 k144 (p4 &&& (7 : Int32)) (((p1).toInt8.toInt32)).toInt8.toInt32 (((p2).toInt8.toInt32)).toInt8.toInt32 (((p3).toInt8.toInt32)).toInt8.toInt32 T154.heap n0 (Nat.le_trans (Nat.le_trans (Nat.le_trans (Nat.le_trans (Nat.le_trans (Nat.le_trans Z0 E144.1) (Keep.of_wr W146).1) (Keep.of_wr W148).1) (Keep.of_wr W150).1) E153.1) K154.1) P154_0 P154_1 G155) hZ (hw _ (List.mem_of_getElem? (i := 18) rfl)) (hw _ (List.mem_of_getElem? (i := 3) rfl)) (by decide) (by decide)) q156a q156c (g := (mkF m 121 #[.val (.int p0), .val (.int p1), .val (.int p2), .val (.int p3), .val (.int p4), .val (.int (3 : Int32)), .val (.int (p4 &&& (7 : Int32))), .val (.ref b144), .val (.int (1 : Int32)), .val (.ref b153)] [(.ref b153)])) rfl (by rw [hml]; rfl) (Steps.refl _) (argsL := []) (rest := []) (lenOf pd_1 rfl) rfl (by show 2 * 0 + _ ≤ _; exact Nat.le_of_eq rfl) (hb hby at_121) (fun _ _ => ⟨rfl, rfl, (by decide : 2 + 0 ≤ _), (by decide : 5 + 0 ≤ _)⟩)
      dsimp only [Pt.U, Pt.locs, Pt.cells, Pt.slots] at X156 l156 y156 z156 st156 hQ156
      subst l156 y156 z156
      obtain ⟨rfl, Nq156, hh156⟩ := hQ156
      have N156 := Fr.app N154 Nq156
      refine OGo.st (fun t k => st156.trans k) ?_
      have e156 : T156.heap = T154.heap := hh156
      show OGo p.tables e below _ (T156.setTop (mkF m 124 #[.val (.int p0), .val (.int p1), .val (.int p2), .val (.int p3), .val (.int p4), .val (.int (3 : Int32)), .val (.int (p4 &&& (7 : Int32))), .val (.ref b144), .val (.int (1 : Int32)), .val (.ref b153)] [(.int (own_pz (((p3).toInt8.toInt32)).toInt8.toInt32 (p4 &&& (7 : Int32))))]))
      refine OGo.st (fun t k => XS.iload X156.here hx rfl (hb hby at_124) rfl k) ?_
      show OGo p.tables e below _ (T156.setTop (mkF m 126 #[.val (.int p0), .val (.int p1), .val (.int p2), .val (.int p3), .val (.int p4), .val (.int (3 : Int32)), .val (.int (p4 &&& (7 : Int32))), .val (.ref b144), .val (.int (1 : Int32)), .val (.ref b153)] [(.int (1 : Int32)), (.int (own_pz (((p3).toInt8.toInt32)).toInt8.toInt32 (p4 &&& (7 : Int32))))]))
      refine OGo.st (fun t k => XS.icmpNo X156.here hx rfl (hb hby at_126) rfl (teq ((by rw [own_bb, own_pe, own_ex]; rw [own_bb] at hc96_152; rw [if_pos hc96_152]) : (own_pz (((p3).toInt8.toInt32)).toInt8.toInt32 (p4 &&& (7 : Int32))) = (1 : Int32))).2 k) ?_
      show OGo p.tables e below _ (T156.setTop (mkF m 129 #[.val (.int p0), .val (.int p1), .val (.int p2), .val (.int p3), .val (.int p4), .val (.int (3 : Int32)), .val (.int (p4 &&& (7 : Int32))), .val (.ref b144), .val (.int (1 : Int32)), .val (.ref b153)] []))
      refine OGo.st (fun t k => XS.iconst X156.here hx rfl (hb hby at_129) k) ?_
      show OGo p.tables e below _ (T156.setTop (mkF m 130 #[.val (.int p0), .val (.int p1), .val (.int p2), .val (.int p3), .val (.int p4), .val (.int (3 : Int32)), .val (.int (p4 &&& (7 : Int32))), .val (.ref b144), .val (.int (1 : Int32)), .val (.ref b153)] [(.int (1 : Int32))]))
      refine OGo.st (fun t k => XS.goto X156.here hx rfl (pc0 := 130) (pc' := 134) rfl (hb hby at_130) (by decide) (by decide) k) ?_
      show OGo p.tables e below _ (T156.setTop (mkF m 134 #[.val (.int p0), .val (.int p1), .val (.int p2), .val (.int p3), .val (.int p4), .val (.int (3 : Int32)), .val (.int (p4 &&& (7 : Int32))), .val (.ref b144), .val (.int (1 : Int32)), .val (.ref b153)] [(.int (1 : Int32))]))
      obtain ⟨fs, hr, hrun, hended, hW, hsame⟩ := X156.leave (v := some (.int (1 : Int32))) (fun h => by rw [Bd.returns] at h; cases h)
      refine OGo.done (retN X156 hx (t := .boolean) Bd.returns (by simp) (hb hby at_134) hr) ⟨hrun, hended, _, _, rfl, ?_, ⟨_, rfl⟩, hW, hsame.mono (by decide) (by decide)⟩
      show Q5 Z p0 p1 p2 p3 p4 h0 n0 _ T156.heap _
      rw [e156]
      exact ⟨rfl, N156⟩
    ·
      refine OGo.st (fun t k => XS.icmpYes X150.here hx rfl (pc0 := 96) (pc' := 103) rfl (hb hby at_96) rfl (feq hc96_152).2 (by decide) (by decide) k) ?_
      show OGo p.tables e below _ (T150.setTop (mkF m 103 #[.val (.int p0), .val (.int p1), .val (.int p2), .val (.int p3), .val (.int p4), .val (.int (3 : Int32)), .val (.int (p4 &&& (7 : Int32))), .val (.ref b144), .unset, .val (.int ((((p3).toInt8.toInt32)).toInt8.toInt32 &&& (255 : Int32)))] []))
      refine OGo.st (fun t k => XS.iconst X150.here hx rfl (hb hby at_103) k) ?_
      show OGo p.tables e below _ (T150.setTop (mkF m 104 #[.val (.int p0), .val (.int p1), .val (.int p2), .val (.int p3), .val (.int p4), .val (.int (3 : Int32)), .val (.int (p4 &&& (7 : Int32))), .val (.ref b144), .unset, .val (.int ((((p3).toInt8.toInt32)).toInt8.toInt32 &&& (255 : Int32)))] [(.int (0 : Int32))]))
      refine OGo.st (fun t k => XS.istore X150.here hx rfl (hb hby at_104) rfl (l' := #[.val (.int p0), .val (.int p1), .val (.int p2), .val (.int p3), .val (.int p4), .val (.int (3 : Int32)), .val (.int (p4 &&& (7 : Int32))), .val (.ref b144), .val (.int (0 : Int32)), .val (.int ((((p3).toInt8.toInt32)).toInt8.toInt32 &&& (255 : Int32)))]) rfl k) ?_
      show OGo p.tables e below _ (T150.setTop (mkF m 106 #[.val (.int p0), .val (.int p1), .val (.int p2), .val (.int p3), .val (.int p4), .val (.int (3 : Int32)), .val (.int (p4 &&& (7 : Int32))), .val (.ref b144), .val (.int (0 : Int32)), .val (.int ((((p3).toInt8.toInt32)).toInt8.toInt32 &&& (255 : Int32)))] []))
      obtain ⟨T159, h159, X159, e159, E159, A159, D159, -, st159⟩ := newO X150 hx hZ hown (hw _ (List.mem_of_getElem? (i := 1) rfl)) (hw _ (List.mem_of_getElem? (i := 2) rfl)) (hw _ (List.mem_of_getElem? (i := 3) rfl)) e150 (g := (mkF m 106 #[.val (.int p0), .val (.int p1), .val (.int p2), .val (.int p3), .val (.int p4), .val (.int (3 : Int32)), .val (.int (p4 &&& (7 : Int32))), .val (.ref b144), .val (.int (0 : Int32)), .val (.int ((((p3).toInt8.toInt32)).toInt8.toInt32 &&& (255 : Int32)))] [])) rfl (hb hby at_106) (by decide) (by decide)
      obtain ⟨b159, g159⟩ : ∃ z, z = h150.size := ⟨_, rfl⟩
      rw [← g159] at A159 D159 st159
      have ge_b159 : n0 ≤ b159 := Nat.le_trans (Nat.le_trans (Nat.le_trans (Nat.le_trans (Nat.le_trans Z0 E144.1) (Keep.of_wr W146).1) (Keep.of_wr W148).1) (Keep.of_wr W150).1) (Nat.le_of_eq g159.symm)
      have sz_b159 : h0.size ≤ b159 := Nat.le_trans (Nat.le_trans (Nat.le_trans (Nat.le_trans (Nat.le_trans (Nat.le_refl h0.size) E144.1) (Keep.of_wr W146).1) (Keep.of_wr W148).1) (Keep.of_wr W150).1) (Nat.le_of_eq g159.symm)
      have ne_b144_b159 : b144 ≠ b159 := Nat.ne_of_lt (Nat.lt_of_lt_of_le V150.lt (Nat.le_of_eq g159.symm))
      refine OGo.st st159 ?_
      have Fn159_octets : Fld Z h159 b159 "com/example/holdfast/holdfast/resources/DerValue$BitString" "octets" "[B" .null := D159 (Or.inr (hw _ (List.mem_of_getElem? (i := 11) rfl))) (ty := (.array .byte)) (by decide)
      have Fn159_unusedBits : Fld Z h159 b159 "com/example/holdfast/holdfast/resources/DerValue$BitString" "unusedBits" "I" (.int (0 : Int32)) := D159 (Or.inr (hw _ (List.mem_of_getElem? (i := 13) rfl))) (ty := .int) (by decide)
      show OGo p.tables e below _ (T159.setTop (mkF m 109 #[.val (.int p0), .val (.int p1), .val (.int p2), .val (.int p3), .val (.int p4), .val (.int (3 : Int32)), .val (.int (p4 &&& (7 : Int32))), .val (.ref b144), .val (.int (0 : Int32)), .val (.int ((((p3).toInt8.toInt32)).toInt8.toInt32 &&& (255 : Int32)))] [(.ref b159)]))
      refine OGo.st (fun t k => XS.dup X159.here hx rfl (hb hby at_109) rfl rfl k) ?_
      show OGo p.tables e below _ (T159.setTop (mkF m 110 #[.val (.int p0), .val (.int p1), .val (.int p2), .val (.int p3), .val (.int p4), .val (.int (3 : Int32)), .val (.int (p4 &&& (7 : Int32))), .val (.ref b144), .val (.int (0 : Int32)), .val (.int ((((p3).toInt8.toInt32)).toInt8.toInt32 &&& (255 : Int32)))] [(.ref b159), (.ref b159)]))
      refine OGo.st (fun t k => XS.aload X159.here hx rfl (hb hby at_110) rfl rfl k) ?_
      show OGo p.tables e below _ (T159.setTop (mkF m 112 #[.val (.int p0), .val (.int p1), .val (.int p2), .val (.int p3), .val (.int p4), .val (.int (3 : Int32)), .val (.int (p4 &&& (7 : Int32))), .val (.ref b144), .val (.int (0 : Int32)), .val (.int ((((p3).toInt8.toInt32)).toInt8.toInt32 &&& (255 : Int32)))] [(.ref b144), (.ref b159), (.ref b159)]))
      refine OGo.st (fun t k => XS.iload X159.here hx rfl (hb hby at_112) rfl k) ?_
      show OGo p.tables e below _ (T159.setTop (mkF m 114 #[.val (.int p0), .val (.int p1), .val (.int p2), .val (.int p3), .val (.int p4), .val (.int (3 : Int32)), .val (.int (p4 &&& (7 : Int32))), .val (.ref b144), .val (.int (0 : Int32)), .val (.int ((((p3).toInt8.toInt32)).toInt8.toInt32 &&& (255 : Int32)))] [(.int (p4 &&& (7 : Int32))), (.ref b144), (.ref b159), (.ref b159)]))
      obtain ⟨_, _, ⟨T160, L160, kk160, nn160⟩, -, X160, ⟨Lc160, hQ160, l160, y160, z160⟩, st160⟩ := X159.specialBack hx (y := (⟨"com/example/holdfast/holdfast/resources/DerValue$BitString", "<init>", "([BI)V"⟩ : MethodName)) rfl hown (mvT hZ (hw _ (List.mem_of_getElem? (i := 4) rfl))) (mvT hZ (hw _ (List.mem_of_getElem? (i := 5) rfl))) (mvT hZ (hw _ (List.mem_of_getElem? (i := 6) rfl))) (by decide) (backOf (W := 1) (rm0 l Z ar hw [] b159 b144 (p4 &&& (7 : Int32)) h159 n0 (Nat.le_trans (Nat.le_trans (Nat.le_trans (Nat.le_trans (Nat.le_trans Z0 E144.1) (Keep.of_wr W146).1) (Keep.of_wr W148).1) (Keep.of_wr W150).1) E159.1) A159 ge_b159 Fn159_octets Fn159_unusedBits) hZ (hw _ (List.mem_of_getElem? (i := 6) rfl)) (hw _ (List.mem_of_getElem? (i := 3) rfl)) (by decide) (by decide)) (g := (mkF m 114 #[.val (.int p0), .val (.int p1), .val (.int p2), .val (.int p3), .val (.int p4), .val (.int (3 : Int32)), .val (.int (p4 &&& (7 : Int32))), .val (.ref b144), .val (.int (0 : Int32)), .val (.int ((((p3).toInt8.toInt32)).toInt8.toInt32 &&& (255 : Int32)))] [(.int (p4 &&& (7 : Int32))), (.ref b144), (.ref b159), (.ref b159)])) rfl (by rw [hml]; rfl) (Steps.refl _) (a := b159) (argsL := [(.ref b144), (.int (p4 &&& (7 : Int32)))]) (rest := [(.ref b159)]) (lenOf pd_0 rfl) rfl (by show 2 * 0 + _ ≤ _; exact Nat.le_of_eq rfl) (hb hby at_114) (fun _ _ => ⟨rfl, e159, (by decide : 2 + 0 ≤ _), (by decide : 5 + 0 ≤ _)⟩)
      dsimp only [Pt.U, Pt.locs, Pt.cells, Pt.slots] at X160 l160 y160 z160 st160 hQ160
      subst l160 y160 z160
      obtain ⟨rfl, Nq160, K160, P160_0, P160_1⟩ := hQ160
      have N160 := Fr.app N150 Nq160
      refine OGo.st (fun t k => st160.trans k) ?_
      show OGo p.tables e below _ (T160.setTop (mkF m 117 #[.val (.int p0), .val (.int p1), .val (.int p2), .val (.int p3), .val (.int p4), .val (.int (3 : Int32)), .val (.int (p4 &&& (7 : Int32))), .val (.ref b144), .val (.int (0 : Int32)), .val (.int ((((p3).toInt8.toInt32)).toInt8.toInt32 &&& (255 : Int32)))] [(.ref b159)]))
      refine OGo.st (fun t k => XS.astore X160.here hx rfl (hb hby at_117) rfl rfl (l' := #[.val (.int p0), .val (.int p1), .val (.int p2), .val (.int p3), .val (.int p4), .val (.int (3 : Int32)), .val (.int (p4 &&& (7 : Int32))), .val (.ref b144), .val (.int (0 : Int32)), .val (.ref b159)]) rfl k) ?_
      show OGo p.tables e below _ (T160.setTop (mkF m 119 #[.val (.int p0), .val (.int p1), .val (.int p2), .val (.int p3), .val (.int p4), .val (.int (3 : Int32)), .val (.int (p4 &&& (7 : Int32))), .val (.ref b144), .val (.int (0 : Int32)), .val (.ref b159)] []))
      refine OGo.st (fun t k => XS.aload X160.here hx rfl (hb hby at_119) rfl rfl k) ?_
      show OGo p.tables e below _ (T160.setTop (mkF m 121 #[.val (.int p0), .val (.int p1), .val (.int p2), .val (.int p3), .val (.int p4), .val (.int (3 : Int32)), .val (.int (p4 &&& (7 : Int32))), .val (.ref b144), .val (.int (0 : Int32)), .val (.ref b159)] [(.ref b159)]))
      have G161 : Arv Z T160.heap b144 k144 .byte (3 : Int32) [(.int (((p1).toInt8.toInt32)).toInt8.toInt32), (.int (((p2).toInt8.toInt32)).toInt8.toInt32), (.int (((p3).toInt8.toInt32)).toInt8.toInt32)] (.int (0 : Int32)) := ((V150.ext E159).keep K160 (ninS ne_b144_b159 nin0))
      have G163 : Exa Z T160.heap b159 "com/example/holdfast/holdfast/resources/DerValue$BitString" := (A159.keep K160)
      obtain ⟨cq162, kq162, q162a, q162b, q162c⟩ := isOf hZ rfl G163
      obtain ⟨_, _, ⟨T162, L162, kk162, nn162⟩, -, X162, ⟨Lc162, hQ162, l162, y162, z162⟩, st162⟩ := X160.virtualBack hx (y := (⟨"com/example/holdfast/holdfast/resources/DerValue$BitString", "paddingIsZero", "()Z"⟩ : MethodName)) (z := (⟨"com/example/holdfast/holdfast/resources/DerValue$BitString", "paddingIsZero", "()Z"⟩ : MethodName)) hown (mvT hZ (hw _ (List.mem_of_getElem? (i := 14) rfl))) (mvT hZ (hw _ (List.mem_of_getElem? (i := 15) rfl))) (notFace_of_selects (args := #[]) (mvT hZ (hw _ (List.mem_of_getElem? (i := 17) rfl)))) (mvT hZ (hw _ (List.mem_of_getElem? (i := 17) rfl))) (mvT hZ (hw _ (List.mem_of_getElem? (i := 16) rfl))) (by decide) (backOf (W := 0) (rm4 l Z ar hw [] b159 b144 k144 (p4 &&& (7 : Int32)) (((p1).toInt8.toInt32)).toInt8.toInt32 (((p2).toInt8.toInt32)).toInt8.toInt32 (((p3).toInt8.toInt32)).toInt8.toInt32 T160.heap n0 (Nat.le_trans (Nat.le_trans (Nat.le_trans (Nat.le_trans (Nat.le_trans (Nat.le_trans Z0 E144.1) (Keep.of_wr W146).1) (Keep.of_wr W148).1) (Keep.of_wr W150).1) E159.1) K160.1) P160_0 P160_1 G161) hZ (hw _ (List.mem_of_getElem? (i := 18) rfl)) (hw _ (List.mem_of_getElem? (i := 3) rfl)) (by decide) (by decide)) q162a q162c (g := (mkF m 121 #[.val (.int p0), .val (.int p1), .val (.int p2), .val (.int p3), .val (.int p4), .val (.int (3 : Int32)), .val (.int (p4 &&& (7 : Int32))), .val (.ref b144), .val (.int (0 : Int32)), .val (.ref b159)] [(.ref b159)])) rfl (by rw [hml]; rfl) (Steps.refl _) (argsL := []) (rest := []) (lenOf pd_1 rfl) rfl (by show 2 * 0 + _ ≤ _; exact Nat.le_of_eq rfl) (hb hby at_121) (fun _ _ => ⟨rfl, rfl, (by decide : 2 + 0 ≤ _), (by decide : 5 + 0 ≤ _)⟩)
      dsimp only [Pt.U, Pt.locs, Pt.cells, Pt.slots] at X162 l162 y162 z162 st162 hQ162
      subst l162 y162 z162
      obtain ⟨rfl, Nq162, hh162⟩ := hQ162
      have N162 := Fr.app N160 Nq162
      refine OGo.st (fun t k => st162.trans k) ?_
      have e162 : T162.heap = T160.heap := hh162
      show OGo p.tables e below _ (T162.setTop (mkF m 124 #[.val (.int p0), .val (.int p1), .val (.int p2), .val (.int p3), .val (.int p4), .val (.int (3 : Int32)), .val (.int (p4 &&& (7 : Int32))), .val (.ref b144), .val (.int (0 : Int32)), .val (.ref b159)] [(.int (own_pz (((p3).toInt8.toInt32)).toInt8.toInt32 (p4 &&& (7 : Int32))))]))
      refine OGo.st (fun t k => XS.iload X162.here hx rfl (hb hby at_124) rfl k) ?_
      show OGo p.tables e below _ (T162.setTop (mkF m 126 #[.val (.int p0), .val (.int p1), .val (.int p2), .val (.int p3), .val (.int p4), .val (.int (3 : Int32)), .val (.int (p4 &&& (7 : Int32))), .val (.ref b144), .val (.int (0 : Int32)), .val (.ref b159)] [(.int (0 : Int32)), (.int (own_pz (((p3).toInt8.toInt32)).toInt8.toInt32 (p4 &&& (7 : Int32))))]))
      refine OGo.st (fun t k => XS.icmpNo X162.here hx rfl (hb hby at_126) rfl (teq ((by rw [own_bb, own_pe, own_ex]; rw [own_bb] at hc96_152; rw [if_neg hc96_152]) : (own_pz (((p3).toInt8.toInt32)).toInt8.toInt32 (p4 &&& (7 : Int32))) = (0 : Int32))).2 k) ?_
      show OGo p.tables e below _ (T162.setTop (mkF m 129 #[.val (.int p0), .val (.int p1), .val (.int p2), .val (.int p3), .val (.int p4), .val (.int (3 : Int32)), .val (.int (p4 &&& (7 : Int32))), .val (.ref b144), .val (.int (0 : Int32)), .val (.ref b159)] []))
      refine OGo.st (fun t k => XS.iconst X162.here hx rfl (hb hby at_129) k) ?_
      show OGo p.tables e below _ (T162.setTop (mkF m 130 #[.val (.int p0), .val (.int p1), .val (.int p2), .val (.int p3), .val (.int p4), .val (.int (3 : Int32)), .val (.int (p4 &&& (7 : Int32))), .val (.ref b144), .val (.int (0 : Int32)), .val (.ref b159)] [(.int (1 : Int32))]))
      refine OGo.st (fun t k => XS.goto X162.here hx rfl (pc0 := 130) (pc' := 134) rfl (hb hby at_130) (by decide) (by decide) k) ?_
      show OGo p.tables e below _ (T162.setTop (mkF m 134 #[.val (.int p0), .val (.int p1), .val (.int p2), .val (.int p3), .val (.int p4), .val (.int (3 : Int32)), .val (.int (p4 &&& (7 : Int32))), .val (.ref b144), .val (.int (0 : Int32)), .val (.ref b159)] [(.int (1 : Int32))]))
      obtain ⟨fs, hr, hrun, hended, hW, hsame⟩ := X162.leave (v := some (.int (1 : Int32))) (fun h => by rw [Bd.returns] at h; cases h)
      refine OGo.done (retN X162 hx (t := .boolean) Bd.returns (by simp) (hb hby at_134) hr) ⟨hrun, hended, _, _, rfl, ?_, ⟨_, rfl⟩, hW, hsame.mono (by decide) (by decide)⟩
      show Q5 Z p0 p1 p2 p3 p4 h0 n0 _ T162.heap _
      rw [e162]
      exact ⟨rfl, N162⟩
set_option maxRecDepth 65536 in
set_option maxHeartbeats 40000000 in
theorem comes_1 {Post : Tables → Env → Array Value → State → Outcome → State → Prop} (hpost : ∀ tb e args s v u, (limb_1_1.after args s (.returned v) u = true ∧ limb_1_2.after args s (.returned v) u = true ∧ True) → FrameEnd s (.returned v) u (Jvm.fieldLocs frame_1_writes args s ++ Jvm.arrayLocs frame_1_arrays args s ++ Jvm.staticLocs frame_1_statics s) 16 128 → Post tb e args s (.returned v) u) :
    ArmFor flags0 classFile x code maxLocals ret World_1 tables_1 room_1 Calls_1 rest_1 Pre_1 Post := by
  intro l hfl _ _ p e ha hc hk s m args below hf hA hF happ hP
  obtain ⟨hcalls, hrest, hpre⟩ := hP
  obtain ⟨-, -, -, hnamed, -, -, -, hat⟩ := (Spec.applies_iff hf).mp happ
  obtain ⟨hg, hn⟩ := and_e (Cond.before_iff.mp (show (Jvm.Cond.and given_1 narrow_1).before args s = true from hpre))
  obtain ⟨gc, gr0⟩ := and_e hg
  obtain ⟨g_0, gr1⟩ := and_e gr0
  obtain ⟨g_1, gr2⟩ := and_e gr1
  obtain ⟨g_2, gr3⟩ := and_e gr2
  obtain ⟨g_3, gr4⟩ := and_e gr3
  have g_4 := gr4
  obtain ⟨w0, w1, w2, w3, w4, rfl⟩ : ∃ w0 w1 w2 w3 w4 : Value, args = #[w0, w1, w2, w3, w4] := by
    have hs : args.size = 5 := by simpa [Cond.value, given_1] using gc
    obtain ⟨L⟩ := args
    match L, hs with
    | [w0, w1, w2, w3, w4], _ => exact ⟨w0, w1, w2, w3, w4, rfl⟩
  have hw := fun d (hd : d ∈ tables_1) => atoms_spec (ws := Jvm.Cond.code x code maxLocals ret :: tables_1) hat d (List.mem_cons_of_mem _ hd)
  have hfit : Fit s := fun {y c} hc i hi => by
    obtain ⟨ha, rfl⟩ := Array.getElem?_eq_some_iff.mp hc
    have q := List.all_eq_true.mp ((Array.all_eq_true_iff_forall_mem.mp hF) _ (Array.getElem_mem ha)) i (List.mem_range.mpr hi)
    simpa [Array.getElem?_eq_getElem hi] using q
  obtain ⟨i0, ei0⟩ := is_v g_0
  obtain rfl : w0 = (.int i0) := Option.some.inj ei0
  obtain ⟨i1, ei1⟩ := is_v g_1
  obtain rfl : w1 = (.int i1) := Option.some.inj ei1
  obtain ⟨i2, ei2⟩ := is_v g_2
  obtain rfl : w2 = (.int i2) := Option.some.inj ei2
  obtain ⟨i3, ei3⟩ := is_v g_3
  obtain rfl : w3 = (.int i3) := Option.some.inj ei3
  obtain ⟨i4, ei4⟩ := is_v g_4
  obtain rfl : w4 = (.int i4) := Option.some.inj ei4
  obtain ⟨n, o, h1, h2, h3, _, L, rfl, ⟨rfl, N⟩, hq⟩ := rm5 l s _ hw tables_1 i0 i1 i2 i3 i4 s.heap s.heap.size (Nat.le_refl _)  p e ha hc hk s m _ below hf ((Spec.applies_iff_loose hf).mp happ).1 ⟨rfl, State.Warmed39.refl s, rfl⟩ trivial
  refine ⟨n, _, h1, h2, h3, hpost _ _ _ _ _ _ ⟨Cond.after_iff.mpr rfl, Cond.after_iff.mpr (eq_i res_at (Term.int_eval (1)) rfl), trivial⟩ ⟨hq.1, hq.2.1, (hq.2.2.sift fun y hy => Or.inr (N y hy)).mono (by decide) (by decide)⟩⟩
theorem main_1_1 : Claimed_1_1 := comes_1 fun _ _ _ _ _ _ h hF => ⟨h.1, hF⟩
theorem main_1_2 : Claimed_1_2 := comes_1 fun _ _ _ _ _ _ h hF => ⟨h.2.1, hF⟩
end Jvm.Pilot.@@N@@
namespace Jvm.Pilot.@@N@@
open Jvm Jvm.ClassFile Sem Op Lib Jvm.Free Jvm.Stand Jvm.Pilot.@@N@@.Jvm.D
/-! MADE BY PROGRAM (witnessworld.py) out of the Statement's table words and the real class files: 9 classes; the members and pool entries that the words name. The judged class is class 1, her method 1. -/
namespace start1
open Jvm.ClassFile
def u (s : String) : CpInfo := .utf8 (stringToUtf16 s)
/-- a pool by its gaps: so many unusable entries, then the entry; so many at the end -/
def gap : Nat → List CpInfo → List CpInfo
  | 0, r => r
  | n + 1, r => .unusable :: gap n r
def poolList (es : List (Nat × CpInfo)) (last : Nat) : List CpInfo := es.foldr (fun e r => gap e.1 (e.2 :: r)) (gap last [])
def pool (es : List (Nat × CpInfo)) (last : Nat) : Array CpInfo := ⟨poolList es last⟩
def fileOf (pool : Array CpInfo) (this : Nat) (attrs : Array Attribute := #[]) (ms : Array MethodInfo := #[]) (fl : Nat := 33) (sup : Nat := 0) (ifs : Array Nat := #[]) (fds : Array FieldInfo := #[]) : ClassFile where
  minorVersion := 0
  majorVersion := 65
  constantPool := pool
  accessFlags := fl
  thisClass := this
  superClass := sup
  interfaces := ifs
  fields := fds
  methods := ms
  attributes := attrs
def plain (name : String) (sup : Option ClassId) : Class where
  name := name
  kind := .ordinary
  loader := none
  accessFlags := 33
  super := sup
  interfaces := #[]
  cf := none
  fields := #[]
  methods := #[]
  instanceTypes := #[]
  staticTypes := #[]
  resolved := #[]
  callSites := []
  init := .initialized
  statics := none
  mirror := none

def pool0 : Array CpInfo := pool [(5, u "<init>"), (0, u "()V"), (1, .class_ 10), (1, u "java/lang/Object")] 113

def k0c0 : Code := { maxStack := 0, maxLocals := 1, code := object_method_1_code, exceptionTable := #[], attributes := #[] }
def k0m0 : Method := { name := "<init>", desc := "()V", sig := { parameters := [], returnType := none }, accessFlags := 1, code := some k0c0 }
/-- java/lang/Object -/
def k0 : Class := { plain "java/lang/Object" none with
  accessFlags := 33
  interfaces := #[]
  cf := some (fileOf pool0 8 #[] #[{ accessFlags := 1, nameIndex := 5, descriptorIndex := 6, attributes := #[] }] 33 0 #[] #[])
  fields := #[]
  methods := #[k0m0]
  instanceTypes := #[]
  staticTypes := #[]
  resolved := Array.replicate 124 none
  statics := none }

def pool1 : Array CpInfo := pool [(2, .class_ 4), (1, u "java/lang/Object"), (0, u "<init>"), (0, u "()V"), (0, .class_ 8), (0, u "com/example/holdfast/holdfast/resources/DerValue$BitString"), (0, .methodref 7 10), (0, .nameAndType 5 11), (0, u "([BI)V"), (0, .methodref 7 13), (0, .nameAndType 14 15), (0, u "paddingIsZero"), (0, u "()Z"), (0, .class_ 17), (0, u "com/example/holdfast/holdfast/resources/BitStringPaddingIsZeroPinLaw"), (2, u "law"), (0, u "(IIIII)Z")] 9

def k1m0 : Method := { name := "<init>", desc := "()V", sig := { parameters := [], returnType := none }, accessFlags := 1, code := none }
def k1c1 : Code := { maxStack := 4, maxLocals := 10, code := code, exceptionTable := #[], attributes := #[] }
def k1m1 : Method := { name := "law", desc := "(IIIII)Z", sig := { parameters := [.int, .int, .int, .int, .int], returnType := some .boolean }, accessFlags := 9, code := some k1c1 }
/-- com/example/holdfast/holdfast/resources/BitStringPaddingIsZeroPinLaw -/
def k1 : Class := { plain "com/example/holdfast/holdfast/resources/BitStringPaddingIsZeroPinLaw" (some 0) with
  accessFlags := 49
  interfaces := #[]
  cf := some (fileOf pool1 16 #[] #[{ accessFlags := 1, nameIndex := 5, descriptorIndex := 6, attributes := #[] }, { accessFlags := 9, nameIndex := 20, descriptorIndex := 21, attributes := #[] }] 49 2 #[] #[])
  fields := #[]
  methods := #[k1m0, k1m1]
  instanceTypes := #[]
  staticTypes := #[]
  resolved := Array.replicate 31 none
  statics := none }

def pool2 : Array CpInfo := pool [(1, .methodref 2 3), (0, .class_ 4), (0, .nameAndType 5 6), (0, u "java/lang/Object"), (0, u "<init>"), (0, u "()V"), (0, .fieldref 8 9), (0, .class_ 10), (0, .nameAndType 11 12), (0, u "com/example/holdfast/holdfast/resources/DerValue$BitString"), (0, u "octets"), (0, u "[B"), (0, .fieldref 8 14), (0, .nameAndType 15 16), (0, u "unusedBits"), (0, u "I"), (14, u "([BI)V"), (5, u "paddingIsZero"), (0, u "()Z"), (6, .class_ 46), (0, u "com/example/holdfast/holdfast/resources/DerValue")] 2

def k2c0 : Code := { maxStack := 2, maxLocals := 3, code := prog_46_method_1_code, exceptionTable := #[], attributes := #[] }
def k2m0 : Method := { name := "<init>", desc := "([BI)V", sig := { parameters := [(.array .byte), .int], returnType := none }, accessFlags := 0, code := some k2c0 }
def k2c1 : Code := { maxStack := 3, maxLocals := 2, code := prog_46_method_4_code, exceptionTable := #[], attributes := #[] }
def k2m1 : Method := { name := "paddingIsZero", desc := "()Z", sig := { parameters := [], returnType := some .boolean }, accessFlags := 1, code := some k2c1 }
/-- com/example/holdfast/holdfast/resources/DerValue$BitString -/
def k2 : Class := { plain "com/example/holdfast/holdfast/resources/DerValue$BitString" (some 0) with
  accessFlags := 49
  interfaces := #[]
  cf := some (fileOf pool2 8 #[.nestHost 45] #[{ accessFlags := 0, nameIndex := 5, descriptorIndex := 31, attributes := #[] }, { accessFlags := 1, nameIndex := 37, descriptorIndex := 38, attributes := #[] }] 49 2 #[] #[{ accessFlags := 18, nameIndex := 11, descriptorIndex := 12, attributes := #[] }, { accessFlags := 18, nameIndex := 15, descriptorIndex := 16, attributes := #[] }])
  fields := #[{ name := "octets", type := (.array .byte), accessFlags := 18, slot := 0, constantValue := 0 }, { name := "unusedBits", type := .int, accessFlags := 18, slot := 1, constantValue := 0 }]
  methods := #[k2m0, k2m1]
  instanceTypes := #[(.array .byte), .int]
  staticTypes := #[]
  resolved := Array.replicate 49 none
  statics := none }

def pool3 : Array CpInfo := pool [(1, u "java/lang/Cloneable"), (0, .class_ 1), (0, u "java/lang/Object"), (0, .class_ 3)] 3

/-- java/lang/Cloneable -/
def k3 : Class := { plain "java/lang/Cloneable" (some 0) with
  accessFlags := 1537
  interfaces := #[]
  cf := some (fileOf pool3 2 #[] #[] 1537 4 #[] #[])
  fields := #[]
  methods := #[]
  instanceTypes := #[]
  staticTypes := #[]
  resolved := Array.replicate 8 none
  statics := none }

def pool4 : Array CpInfo := pool [(1, u "java/io/Serializable"), (0, .class_ 1), (0, u "java/lang/Object"), (0, .class_ 3)] 3

/-- java/io/Serializable -/
def k4 : Class := { plain "java/io/Serializable" (some 0) with
  accessFlags := 1537
  interfaces := #[]
  cf := some (fileOf pool4 2 #[] #[] 1537 4 #[] #[])
  fields := #[]
  methods := #[]
  instanceTypes := #[]
  staticTypes := #[]
  resolved := Array.replicate 8 none
  statics := none }

/-- the primitive byte -/
def k5 : Class := { plain "byte" none with kind := .primitive 'B', accessFlags := 0x411 }
/-- [B -/
def k6 : Class := { plain "[B" (some 0) with kind := .array 5 .byte, interfaces := #[3, 4], accessFlags := 1041 }

/-- the primitive int -/
def k7 : Class := { plain "int" none with kind := .primitive 'I', accessFlags := 0x411 }
/-- [I -/
def k8 : Class := { plain "[I" (some 0) with kind := .array 7 .int, interfaces := #[3, 4], accessFlags := 1041 }

def heap : Heap := #[]
def classes : Array Class := #[k0, k1, k2, k3, k4, k5, k6, k7, k8]
def interned : List (Array UInt16 × Addr) := []
def slotsUsed : Nat := 0
def theMethod : MethodId := ⟨1, 1⟩
def args0 : Array Value := #[.int 1, .int 2, .int 3, .int 4, .int 5]
def aboutOver (below : List Frame) : State where
  vm := { classes := classes, interned := interned.toArray }
  heap := heap
  slotsUsed := slotsUsed
  threads := #[{ frames := .invoking theMethod args0 :: below }]
def below0 : List Frame := [.native { method := ⟨0, 0⟩, args := #[] }]
def about1 : State := aboutOver below0
def p0 : Program := .bare "" "" ""
def e0 : Env := launch0.env 0 0 0
theorem w_frames : about1.frames = Frame.invoking theMethod args0 :: below0 := rfl
set_option maxRecDepth 65536 in
theorem w_args : argsFit about1.vm theMethod args0 = true := by decide +kernel
set_option maxRecDepth 65536 in
theorem w_heap : heapFits about1 = true := by decide +kernel
set_option maxRecDepth 65536 in
theorem w_runnable : about1.curStatus? = some .runnable := by decide +kernel
set_option maxRecDepth 65536 in
theorem w_alone : about1.alone = true := by decide +kernel
set_option maxRecDepth 65536 in
theorem w_named : about1.methodNamed? x = some theMethod := by decide +kernel
set_option maxRecDepth 65536 in
theorem w_hears : about1.hears theMethod below0 = true := by decide +kernel
set_option maxRecDepth 65536 in
theorem w_ripe : about1.ripe theMethod args0 below0 = true := by decide +kernel
theorem w_running : about1.status = .running := rfl
set_option maxRecDepth 65536 in
theorem w_room : about1.hasRoom e0.platform room_1 = true :=
  launch0.hasRoom_least _ room_1 (by decide +kernel) (by decide +kernel) (by decide +kernel) (by decide +kernel) (by decide +kernel) (by decide +kernel)
theorem allAtoms_all (ts : List Jvm.Cond) (a : Array Jvm.Value) (st : Jvm.State) : (allAtoms ts).before a st = ts.all (fun c => c.before a st) := by
  induction ts with
  | nil => rfl
  | cons c t ih =>
    show (Jvm.Cond.and c (allAtoms t)).before a st = _
    rw [Jvm.Cond.before_and, ih, List.all_cons]
def words1 : List Jvm.Cond := Jvm.Cond.code x code maxLocals ret :: tables_1
/-- a 'code' word, met by the world's own term for the bytes: nothing is compared byte by byte -/
theorem code_word {y : MethodName} {bytes : ByteArray} {mx : Nat} {rt : Option FieldType} {a : Array Value} {s : State} {m : MethodId} {meth : Method} {c : Code} (h1 : s.methodNamed? y = some m) (h2 : s.vm.method? m = some meth) (h3 : meth.code = some c) (h4 : c.code = bytes)
    (h5 : (c.maxLocals == mx && c.exceptionTable.isEmpty && decide (c.maxStack ≤ mostOperands) && decide (meth.sig.returnType = rt) && !meth.locks && decide (parseMethodDescriptor y.desc = some meth.sig)) = true) : (Jvm.Cond.code y bytes mx rt).before a s = true := by
  simp only [Bool.and_eq_true, beq_iff_eq, Bool.not_eq_true', decide_eq_true_eq] at h5
  obtain ⟨⟨⟨⟨⟨g1, g2⟩, g3⟩, g4⟩, g5⟩, g6⟩ := h5
  simp [Cond.before, Cond.holds, Cond.value, h1, h2, h3, h4, g1, g2, g3, g4, g5, g6]
def isCode : Jvm.Cond → Bool
  | .code _ _ _ _ => true
  | _ => false
theorem all_split {L : List Jvm.Cond} {P : Jvm.Cond → Bool} (h1 : L.all (fun c => isCode c || P c) = true) (h2 : ∀ c ∈ L.filter isCode, P c = true) : L.all P = true := by
  refine List.all_eq_true.mpr fun c hc => ?_
  have h := List.all_eq_true.mp h1 c hc
  rcases Bool.eq_false_or_eq_true (isCode c) with hi | hi
  · exact h2 c (List.mem_filter.mpr ⟨hc, hi⟩)
  · simpa [hi] using h
set_option maxRecDepth 65536 in
theorem w_c0 : (Jvm.Cond.code x code maxLocals ret).before args0 about1 = true := code_word (m := ⟨1, 1⟩) (meth := k1m1) (c := k1c1) (by decide +kernel) rfl rfl rfl (by decide +kernel)
set_option maxRecDepth 65536 in
theorem w_c1 : (Jvm.Cond.code ({ cls := "com/example/holdfast/holdfast/resources/DerValue$BitString", name := "<init>", desc := "([BI)V" } : Jvm.MethodName) prog_46_method_1_code (3 : Nat) (Option.none : Option Jvm.ClassFile.FieldType)).before args0 about1 = true := code_word (m := ⟨2, 0⟩) (meth := k2m0) (c := k2c0) (by decide +kernel) rfl rfl rfl (by decide +kernel)
set_option maxRecDepth 65536 in
theorem w_c2 : (Jvm.Cond.code ({ cls := "java/lang/Object", name := "<init>", desc := "()V" } : Jvm.MethodName) object_method_1_code (1 : Nat) (Option.none : Option Jvm.ClassFile.FieldType)).before args0 about1 = true := code_word (m := ⟨0, 0⟩) (meth := k0m0) (c := k0c0) (by decide +kernel) rfl rfl rfl (by decide +kernel)
set_option maxRecDepth 65536 in
theorem w_c3 : (Jvm.Cond.code ({ cls := "com/example/holdfast/holdfast/resources/DerValue$BitString", name := "paddingIsZero", desc := "()Z" } : Jvm.MethodName) prog_46_method_4_code (2 : Nat) (Option.some Jvm.ClassFile.FieldType.boolean)).before args0 about1 = true := code_word (m := ⟨2, 1⟩) (meth := k2m1) (c := k2c1) (by decide +kernel) rfl rfl rfl (by decide +kernel)
def codes1 : List Jvm.Cond := [Jvm.Cond.code x code maxLocals ret, Jvm.Cond.code ({ cls := "com/example/holdfast/holdfast/resources/DerValue$BitString", name := "<init>", desc := "([BI)V" } : Jvm.MethodName) prog_46_method_1_code (3 : Nat) (Option.none : Option Jvm.ClassFile.FieldType), Jvm.Cond.code ({ cls := "java/lang/Object", name := "<init>", desc := "()V" } : Jvm.MethodName) object_method_1_code (1 : Nat) (Option.none : Option Jvm.ClassFile.FieldType), Jvm.Cond.code ({ cls := "com/example/holdfast/holdfast/resources/DerValue$BitString", name := "paddingIsZero", desc := "()Z" } : Jvm.MethodName) prog_46_method_4_code (2 : Nat) (Option.some Jvm.ClassFile.FieldType.boolean)]
set_option maxRecDepth 65536 in
theorem codes_eq : words1.filter isCode = codes1 := rfl
theorem w_codes : ∀ c ∈ words1.filter isCode, c.before args0 about1 = true := by
  rw [codes_eq]
  intro c hc
  simp only [codes1, List.mem_cons, List.not_mem_nil, or_false] at hc
  rcases hc with rfl | rfl | rfl | rfl
  · exact w_c0
  · exact w_c1
  · exact w_c2
  · exact w_c3
set_option maxRecDepth 65536 in
theorem w_t1 : words1.all (fun c => isCode c || c.before args0 about1) = true := by decide +kernel
theorem w_tables : (allAtoms (Jvm.Cond.code x code maxLocals ret :: tables_1)).before args0 about1 = true := by
  rw [allAtoms_all]
  show words1.all (fun c => c.before args0 about1) = true
  refine all_split ?_ w_codes
  rw [w_t1]
set_option maxRecDepth 65536 in
theorem w_case : (Jvm.Cond.and given_1 narrow_1).before args0 about1 = true := by decide +kernel
theorem w_applies : (headSpec (Jvm.Cond.code x code maxLocals ret :: tables_1) room_1).applies x e0.platform about1 = true :=
  (Spec.applies_iff w_frames).mpr ⟨w_running, w_runnable, w_alone, w_named, w_hears, w_ripe, w_room, w_tables⟩
theorem atStart : AtStart classFile x code maxLocals ret World_1 tables_1 room_1 Calls_1 rest_1 Pre_1 launch0 p0 e0 about1 theMethod args0 below0 :=
  ⟨lists_1, trivial, launch0.admits_env _ _ _, launch0.least_env, fairChoices_fair.cas, fairChoices_fair.clock, w_frames, w_args, w_heap, w_applies, trivial, trivial, w_case⟩
end start1
theorem witness_1 : WitnessClaimed_1 := ⟨start1.p0, start1.e0, start1.about1, start1.theMethod, start1.args0, start1.below0, start1.atStart⟩
end Jvm.Pilot.@@N@@
