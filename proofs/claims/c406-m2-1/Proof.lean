import JvmDerived
import JvmDerived.Pilot.@@N@@Statement
import JvmDerived.Pilot.@@N@@Code
set_option linter.unusedVariables false
set_option linter.unusedSimpArgs false
namespace Jvm.RoadKit
open Sem ClassFile Op Lib Jvm.Stand Jvm.Free Jvm.LawKit
section New
variable {p : Program} {l : Launch} {e : Env} {R : Room} {s : State} {m : MethodId} {args : Array Value} {below : List Frame} {meth : Method} {c : Code} {T : State} {locs : List Loc} {cells slots : Nat}
theorem retI (X : Stand p l e R s m args below meth c T locs cells slots) (hx : p.tables.exec = Jvm.exec) {pc : Nat} {Ls : Array Slot} {z : Int32} {rest : List Value} (hret : meth.sig.returnType = some .int) (hd : decode c.code pc = .ok (.ireturn, 1)) {fs : List Frame}
    (hl : ∀ (f : JFrame) (acts : List Action), f.method = m → f.locked = none → f.entered = [] → (doReturn e (T.setTop f) acts (some (.int z))).1 = T.setFrames fs) : Steps p.tables e below (T.setTop (mkF m pc Ls (.int z :: rest))) (T.setFrames fs) := by
  have hm' : T.vm.method? m = some meth := X.method'
  have hn : narrow .int (.int z) = .int z := rfl
  show Steps p.tables e below (T.setTop { method := m, pc := pc, locals := Ls, stack := _ :: rest, locked := none }) _
  jvm_step X.here [X.here.top, hx, hd, hm', hret, hn]
  first | (intro acts; rw [hl _ acts rfl rfl rfl]) | rw [hl _ _ rfl rfl rfl]
  exact Steps.refl _
theorem own_retL (X : Stand p l e R s m args below meth c T locs cells slots) (hx : p.tables.exec = Jvm.exec) {pc : Nat} {Ls : Array Slot} {z : Int64} {rest : List Value} (hret : meth.sig.returnType = some .long) (hd : decode c.code pc = .ok (.lreturn, 1)) {fs : List Frame}
    (hl : ∀ (f : JFrame) (acts : List Action), f.method = m → f.locked = none → f.entered = [] → (doReturn e (T.setTop f) acts (some (.long z))).1 = T.setFrames fs) : Steps p.tables e below (T.setTop (mkF m pc Ls (.long z :: rest))) (T.setFrames fs) := by
  have hm' : T.vm.method? m = some meth := X.method'
  have hn : narrow .long (.long z) = .long z := rfl
  show Steps p.tables e below (T.setTop { method := m, pc := pc, locals := Ls, stack := _ :: rest, locked := none }) _
  jvm_step X.here [X.here.top, hx, hd, hm', hret, hn]
  first | (intro acts; rw [hl _ acts rfl rfl rfl]) | rw [hl _ _ rfl rfl rfl]
  exact Steps.refl _
theorem own_retR (X : Stand p l e R s m args below meth c T locs cells slots) (hx : p.tables.exec = Jvm.exec) {pc : Nat} {Ls : Array Slot} {v : Value} {t : FieldType} {rest : List Value} (hret : meth.sig.returnType = some t) (ht : t.isReference = true) (hv : v.isRef = true) (hd : decode c.code pc = .ok (.areturn, 1)) {fs : List Frame}
    (hl : ∀ (f : JFrame) (acts : List Action), f.method = m → f.locked = none → f.entered = [] → (doReturn e (T.setTop f) acts (some v)).1 = T.setFrames fs) : Steps p.tables e below (T.setTop (mkF m pc Ls (v :: rest))) (T.setFrames fs) := by
  have hm' : T.vm.method? m = some meth := X.method'
  show Steps p.tables e below (T.setTop { method := m, pc := pc, locals := Ls, stack := _ :: rest, locked := none }) _
  rcases ref_cases hv with rfl | ⟨a, rfl⟩
  · jvm_step X.here [X.here.top, hx, hd, hm', hret, ht, Value.isRef]
    first | (intro acts; rw [hl _ acts rfl rfl rfl]) | rw [hl _ _ rfl rfl rfl]
    exact Steps.refl _
  · jvm_step X.here [X.here.top, hx, hd, hm', hret, ht, Value.isRef]
    first | (intro acts; rw [hl _ acts rfl rfl rfl]) | rw [hl _ _ rfl rfl rfl]
    exact Steps.refl _
end New
/-- an end that the run comes to from S, with what is said of it -/
def OGo (tb : Tables) (e : Env) (below : List Frame) (Φ : State → Outcome → Prop) (S : State) : Prop := ∃ t o, Steps tb e below S t ∧ Φ t o
section Own
variable {tb : Tables} {e : Env} {below : List Frame} {Φ : State → Outcome → Prop} {S S' t : State} {o : Outcome}
theorem OGo.start (pre : ∀ t, Steps tb e below S' t → Steps tb e below S t) (k : OGo tb e below Φ S') : ∃ t o, Steps tb e below S t ∧ Φ t o := by
  obtain ⟨t, o, h1, h2⟩ := k
  exact ⟨t, o, pre t h1, h2⟩
theorem OGo.st (h : ∀ t, Steps tb e below S' t → Steps tb e below S t) (k : OGo tb e below Φ S') : OGo tb e below Φ S := OGo.start h k
theorem OGo.tr (h : Steps tb e below S S') (k : OGo tb e below Φ S') : OGo tb e below Φ S := OGo.start (fun _ q => h.trans q) k
theorem OGo.done (h : Steps tb e below S t) (q : Φ t o) : OGo tb e below Φ S := ⟨t, o, h, q⟩
theorem OGo.join {α : Type} (P : α → Prop) (F : α → State) (h : ∀ v, P v → OGo tb e below Φ (F v)) (k : (∀ v, P v → OGo tb e below Φ (F v)) → OGo tb e below Φ S) : OGo tb e below Φ S := k h
theorem own_fld {Z : State} {h : Heap} {a : Addr} {C n d : String} {v w : Value} (F : Fld Z h a C n d v) (q : v = w) : Fld Z h a C n d w := q ▸ F
end Own
end Jvm.RoadKit
namespace Jvm.Pilot.@@N@@
open Jvm Jvm.ClassFile Sem Op Lib Jvm.Free Jvm.Stand Jvm.LawKit Jvm.RoadKit Bundle Jvm.Pilot.@@N@@.Jvm.D
def own_kn (x : Int32) : Int32 := if x = 14 then 1 else if x = 17 then 1 else if x = 18 then 1 else if x = 20 then 1 else 0
def own_rf (x : Int32) : Int32 := if x < 0 then 0 else if 31 < x then 0 else if (((1458176 : Int32).toUInt32 >>> (x &&& 31).toUInt32).toInt32 &&& 1) = 0 then 0 else 1
theorem own_fin : ∀ k : Fin 32, own_kn (Int32.ofNat k.1) = own_rf (Int32.ofNat k.1) := by decide +kernel
theorem own_eq (x : Int32) : own_kn x = own_rf x := by
  by_cases h0 : x < 0
  · have e : own_rf x = 0 := by simp [own_rf, h0]
    rw [e, own_kn]
    rw [Int32.lt_iff_toInt_lt] at h0
    rw [if_neg, if_neg, if_neg, if_neg] <;> (rintro rfl; revert h0; decide)
  · by_cases h1 : 31 < x
    · have e : own_rf x = 0 := by simp [own_rf, h0, h1]
      rw [e, own_kn]
      rw [if_neg, if_neg, if_neg, if_neg] <;> (rintro rfl; revert h1; decide)
    · have a0 : (0 : Int32).toInt = 0 := rfl
      have a1 : (31 : Int32).toInt = 31 := rfl
      rw [Int32.lt_iff_toInt_lt, a0] at h0
      rw [Int32.lt_iff_toInt_lt, a1] at h1
      have e : Int32.ofNat x.toInt.toNat = x := by
        apply Int32.toInt_inj.mp
        rw [Int32.toInt_ofNat_of_lt (by omega)]; omega
      have := own_fin ⟨x.toInt.toNat, by omega⟩
      rw [e] at this; exact this
theorem d0_0 : decode prog_59_method_4_code 0 = .ok (.iload_n 0, 1) := by decide +kernel
theorem d0_1 : decode prog_59_method_4_code 1 = .ok (.bipush 14, 2) := by decide +kernel
theorem d0_3 : decode prog_59_method_4_code 3 = .ok (.if_icmp .eq 21, 3) := by decide +kernel
theorem d0_6 : decode prog_59_method_4_code 6 = .ok (.iload_n 0, 1) := by decide +kernel
theorem d0_7 : decode prog_59_method_4_code 7 = .ok (.bipush 17, 2) := by decide +kernel
theorem d0_9 : decode prog_59_method_4_code 9 = .ok (.if_icmp .eq 15, 3) := by decide +kernel
theorem d0_12 : decode prog_59_method_4_code 12 = .ok (.iload_n 0, 1) := by decide +kernel
theorem d0_13 : decode prog_59_method_4_code 13 = .ok (.bipush 18, 2) := by decide +kernel
theorem d0_15 : decode prog_59_method_4_code 15 = .ok (.if_icmp .eq 9, 3) := by decide +kernel
theorem d0_18 : decode prog_59_method_4_code 18 = .ok (.iload_n 0, 1) := by decide +kernel
theorem d0_19 : decode prog_59_method_4_code 19 = .ok (.bipush 20, 2) := by decide +kernel
theorem d0_21 : decode prog_59_method_4_code 21 = .ok (.if_icmp .ne 7, 3) := by decide +kernel
theorem d0_24 : decode prog_59_method_4_code 24 = .ok (.iconst 1, 1) := by decide +kernel
theorem d0_25 : decode prog_59_method_4_code 25 = .ok (.goto 4, 3) := by decide +kernel
theorem d0_28 : decode prog_59_method_4_code 28 = .ok (.iconst 0, 1) := by decide +kernel
theorem d0_29 : decode prog_59_method_4_code 29 = .ok (.ireturn, 1) := by decide +kernel
theorem pn_0 : plainName "com/example/crossweave/crossweave/TypeIds" = true := by first | (simp [plainName, overriddenIn]; done) | decide +kernel
theorem ef_0 (m : MethodId) (x0 : Int32) : entryFrame m #[(.int x0)] 1 = mkF m 0 #[.val (.int x0)] [] := by first | (simp [entryFrame, mkF, argsToLocals, Value.category]; done) | rfl
def Q0 (Z : State) (p0 : Int32) (h0 : Heap) (n0 : Nat) (v : Option Value) (h : Heap) (L : List Loc) : Prop := v = some (.int (own_kn p0)) ∧ Fr n0 L ∧ h = h0
set_option maxRecDepth 65536 in
set_option maxHeartbeats 40000000 in
theorem rm0 (l : Launch) (Z : State) (ar : Array Value) (hw : ∀ d ∈ tables_1, d.before ar Z = true) (ws : List Jvm.Cond) (p0 : Int32) (h0 : Heap) (n0 : Nat) (Z0 : n0 ≤ h0.size)  :
    MetFree l (⟨"com/example/crossweave/crossweave/TypeIds", "isKindByName", "(I)Z"⟩ : MethodName) (head1 (Jvm.Cond.code (⟨"com/example/crossweave/crossweave/TypeIds", "isKindByName", "(I)Z"⟩ : MethodName) prog_59_method_4_code 1 (some .boolean) :: ws) ({ frames := 0, cells := 0, slots := 0, locals := 0 } : Room)) (fun a U => a = #[(.int p0)] ∧ Z.Warmed39 U.vm ∧ U.heap = h0) (fun _ _ _ _ _ => True) (fun _ U o U' => ∃ v L, o = .returned v ∧ Q0 Z p0 h0 n0 v U'.heap L ∧ FrameEnd U o U' L ({ frames := 0, cells := 0, slots := 0, locals := 0 } : Room).cells ({ frames := 0, cells := 0, slots := 0, locals := 0 } : Room).slots) := by
  refine MetFree.of_bodySF (plainFor_of_name pn_0) hisR ?_
  intro p e s m args below meth c s₁ Bd hml0 hP hK
  obtain ⟨rfl, hZ, hh⟩ := hP
  have hx := Bd.exec
  have hby := Bd.bytes
  have hml : c.maxLocals = 1 := hml0
  have hown : s.vm.findClass "com/example/crossweave/crossweave/TypeIds" = some m.cls := findClass_of_methodNamed Bd.named
  have hnm := (name_of_methodNamed Bd.named Bd.method).1
  have X0 : Stand p l e ({ frames := 0, cells := 0, slots := 0, locals := 0 } : Room) s m #[(.int p0)] below meth c s₁ [] 0 0 := Stand.of_body Bd
  have e0 : s₁.heap = h0 := by rw [← hh, Bd.state]; rfl
  have N0 := Fr.nil n0
  have pre0 : ∀ t, Steps p.tables e below (s₁.setTop (mkF m 0 #[.val (.int p0)] [])) t → Steps p.tables e below (s₁.setTop (entryFrame m #[(.int p0)] 1)) t := fun t k => castTop (ef_0 m p0) k
  refine OGo.start pre0 ?_
  show OGo p.tables e below _ (s₁.setTop (mkF m 0 #[.val (.int p0)] []))
  refine OGo.st (fun t k => XS.iloadN X0.here hx rfl (hb hby d0_0) rfl k) ?_
  show OGo p.tables e below _ (s₁.setTop (mkF m 1 #[.val (.int p0)] [(.int p0)]))
  refine OGo.st (fun t k => XS.bipush X0.here hx rfl (hb hby d0_1) k) ?_
  show OGo p.tables e below _ (s₁.setTop (mkF m 3 #[.val (.int p0)] [(.int (14 : Int32)), (.int p0)]))
  by_cases hc3_101 : p0 = (14 : Int32)
  ·
    refine OGo.st (fun t k => XS.icmpYes X0.here hx rfl (pc0 := 3) (pc' := 24) rfl (hb hby d0_3) rfl (teq hc3_101).1 (by decide) (by decide) k) ?_
    show OGo p.tables e below _ (s₁.setTop (mkF m 24 #[.val (.int p0)] []))
    refine OGo.st (fun t k => XS.iconst X0.here hx rfl (hb hby d0_24) k) ?_
    show OGo p.tables e below _ (s₁.setTop (mkF m 25 #[.val (.int p0)] [(.int (1 : Int32))]))
    refine OGo.st (fun t k => XS.goto X0.here hx rfl (pc0 := 25) (pc' := 29) rfl (hb hby d0_25) (by decide) (by decide) k) ?_
    show OGo p.tables e below _ (s₁.setTop (mkF m 29 #[.val (.int p0)] [(.int (1 : Int32))]))
    obtain ⟨fs, hr, hrun, hended, hW, hsame⟩ := X0.leave (v := some (.int (1 : Int32))) (fun h => by rw [Bd.returns] at h; cases h)
    refine OGo.done (retN X0 hx (t := .boolean) Bd.returns (by simp) (hb hby d0_29) hr) ⟨hrun, hended, _, _, rfl, ?_, ⟨_, rfl⟩, hW, hsame.mono (by decide) (by decide)⟩
    show Q0 Z p0 h0 n0 _ s₁.heap _
    rw [e0]
    exact ⟨(congrArg (fun z => some (Value.int z)) (show (1 : Int32) = (own_kn p0) from by rw [own_kn, if_pos hc3_101])), N0, rfl⟩
  ·
    refine OGo.st (fun t k => XS.icmpNo X0.here hx rfl (hb hby d0_3) rfl (feq hc3_101).1 k) ?_
    show OGo p.tables e below _ (s₁.setTop (mkF m 6 #[.val (.int p0)] []))
    refine OGo.st (fun t k => XS.iloadN X0.here hx rfl (hb hby d0_6) rfl k) ?_
    show OGo p.tables e below _ (s₁.setTop (mkF m 7 #[.val (.int p0)] [(.int p0)]))
    refine OGo.st (fun t k => XS.bipush X0.here hx rfl (hb hby d0_7) k) ?_
    show OGo p.tables e below _ (s₁.setTop (mkF m 9 #[.val (.int p0)] [(.int (17 : Int32)), (.int p0)]))
    by_cases hc9_103 : p0 = (17 : Int32)
    ·
      refine OGo.st (fun t k => XS.icmpYes X0.here hx rfl (pc0 := 9) (pc' := 24) rfl (hb hby d0_9) rfl (teq hc9_103).1 (by decide) (by decide) k) ?_
      show OGo p.tables e below _ (s₁.setTop (mkF m 24 #[.val (.int p0)] []))
      refine OGo.st (fun t k => XS.iconst X0.here hx rfl (hb hby d0_24) k) ?_
      show OGo p.tables e below _ (s₁.setTop (mkF m 25 #[.val (.int p0)] [(.int (1 : Int32))]))
      refine OGo.st (fun t k => XS.goto X0.here hx rfl (pc0 := 25) (pc' := 29) rfl (hb hby d0_25) (by decide) (by decide) k) ?_
      show OGo p.tables e below _ (s₁.setTop (mkF m 29 #[.val (.int p0)] [(.int (1 : Int32))]))
      obtain ⟨fs, hr, hrun, hended, hW, hsame⟩ := X0.leave (v := some (.int (1 : Int32))) (fun h => by rw [Bd.returns] at h; cases h)
      refine OGo.done (retN X0 hx (t := .boolean) Bd.returns (by simp) (hb hby d0_29) hr) ⟨hrun, hended, _, _, rfl, ?_, ⟨_, rfl⟩, hW, hsame.mono (by decide) (by decide)⟩
      show Q0 Z p0 h0 n0 _ s₁.heap _
      rw [e0]
      exact ⟨(congrArg (fun z => some (Value.int z)) (show (1 : Int32) = (own_kn p0) from by rw [own_kn, if_neg hc3_101, if_pos hc9_103])), N0, rfl⟩
    ·
      refine OGo.st (fun t k => XS.icmpNo X0.here hx rfl (hb hby d0_9) rfl (feq hc9_103).1 k) ?_
      show OGo p.tables e below _ (s₁.setTop (mkF m 12 #[.val (.int p0)] []))
      refine OGo.st (fun t k => XS.iloadN X0.here hx rfl (hb hby d0_12) rfl k) ?_
      show OGo p.tables e below _ (s₁.setTop (mkF m 13 #[.val (.int p0)] [(.int p0)]))
      refine OGo.st (fun t k => XS.bipush X0.here hx rfl (hb hby d0_13) k) ?_
      show OGo p.tables e below _ (s₁.setTop (mkF m 15 #[.val (.int p0)] [(.int (18 : Int32)), (.int p0)]))
      by_cases hc15_105 : p0 = (18 : Int32)
      ·
        refine OGo.st (fun t k => XS.icmpYes X0.here hx rfl (pc0 := 15) (pc' := 24) rfl (hb hby d0_15) rfl (teq hc15_105).1 (by decide) (by decide) k) ?_
        show OGo p.tables e below _ (s₁.setTop (mkF m 24 #[.val (.int p0)] []))
        refine OGo.st (fun t k => XS.iconst X0.here hx rfl (hb hby d0_24) k) ?_
        show OGo p.tables e below _ (s₁.setTop (mkF m 25 #[.val (.int p0)] [(.int (1 : Int32))]))
        refine OGo.st (fun t k => XS.goto X0.here hx rfl (pc0 := 25) (pc' := 29) rfl (hb hby d0_25) (by decide) (by decide) k) ?_
        show OGo p.tables e below _ (s₁.setTop (mkF m 29 #[.val (.int p0)] [(.int (1 : Int32))]))
        obtain ⟨fs, hr, hrun, hended, hW, hsame⟩ := X0.leave (v := some (.int (1 : Int32))) (fun h => by rw [Bd.returns] at h; cases h)
        refine OGo.done (retN X0 hx (t := .boolean) Bd.returns (by simp) (hb hby d0_29) hr) ⟨hrun, hended, _, _, rfl, ?_, ⟨_, rfl⟩, hW, hsame.mono (by decide) (by decide)⟩
        show Q0 Z p0 h0 n0 _ s₁.heap _
        rw [e0]
        exact ⟨(congrArg (fun z => some (Value.int z)) (show (1 : Int32) = (own_kn p0) from by rw [own_kn, if_neg hc3_101, if_neg hc9_103, if_pos hc15_105])), N0, rfl⟩
      ·
        refine OGo.st (fun t k => XS.icmpNo X0.here hx rfl (hb hby d0_15) rfl (feq hc15_105).1 k) ?_
        show OGo p.tables e below _ (s₁.setTop (mkF m 18 #[.val (.int p0)] []))
        refine OGo.st (fun t k => XS.iloadN X0.here hx rfl (hb hby d0_18) rfl k) ?_
        show OGo p.tables e below _ (s₁.setTop (mkF m 19 #[.val (.int p0)] [(.int p0)]))
        refine OGo.st (fun t k => XS.bipush X0.here hx rfl (hb hby d0_19) k) ?_
        show OGo p.tables e below _ (s₁.setTop (mkF m 21 #[.val (.int p0)] [(.int (20 : Int32)), (.int p0)]))
        by_cases hc21_107 : p0 = (20 : Int32)
        ·
          refine OGo.st (fun t k => XS.icmpNo X0.here hx rfl (hb hby d0_21) rfl (teq hc21_107).2 k) ?_
          show OGo p.tables e below _ (s₁.setTop (mkF m 24 #[.val (.int p0)] []))
          refine OGo.st (fun t k => XS.iconst X0.here hx rfl (hb hby d0_24) k) ?_
          show OGo p.tables e below _ (s₁.setTop (mkF m 25 #[.val (.int p0)] [(.int (1 : Int32))]))
          refine OGo.st (fun t k => XS.goto X0.here hx rfl (pc0 := 25) (pc' := 29) rfl (hb hby d0_25) (by decide) (by decide) k) ?_
          show OGo p.tables e below _ (s₁.setTop (mkF m 29 #[.val (.int p0)] [(.int (1 : Int32))]))
          obtain ⟨fs, hr, hrun, hended, hW, hsame⟩ := X0.leave (v := some (.int (1 : Int32))) (fun h => by rw [Bd.returns] at h; cases h)
          refine OGo.done (retN X0 hx (t := .boolean) Bd.returns (by simp) (hb hby d0_29) hr) ⟨hrun, hended, _, _, rfl, ?_, ⟨_, rfl⟩, hW, hsame.mono (by decide) (by decide)⟩
          show Q0 Z p0 h0 n0 _ s₁.heap _
          rw [e0]
          exact ⟨(congrArg (fun z => some (Value.int z)) (show (1 : Int32) = (own_kn p0) from by rw [own_kn, if_neg hc3_101, if_neg hc9_103, if_neg hc15_105, if_pos hc21_107])), N0, rfl⟩
        ·
          refine OGo.st (fun t k => XS.icmpYes X0.here hx rfl (pc0 := 21) (pc' := 28) rfl (hb hby d0_21) rfl (feq hc21_107).2 (by decide) (by decide) k) ?_
          show OGo p.tables e below _ (s₁.setTop (mkF m 28 #[.val (.int p0)] []))
          refine OGo.st (fun t k => XS.iconst X0.here hx rfl (hb hby d0_28) k) ?_
          show OGo p.tables e below _ (s₁.setTop (mkF m 29 #[.val (.int p0)] [(.int (0 : Int32))]))
          obtain ⟨fs, hr, hrun, hended, hW, hsame⟩ := X0.leave (v := some (.int (0 : Int32))) (fun h => by rw [Bd.returns] at h; cases h)
          refine OGo.done (retN X0 hx (t := .boolean) Bd.returns (by simp) (hb hby d0_29) hr) ⟨hrun, hended, _, _, rfl, ?_, ⟨_, rfl⟩, hW, hsame.mono (by decide) (by decide)⟩
          show Q0 Z p0 h0 n0 _ s₁.heap _
          rw [e0]
          exact ⟨(congrArg (fun z => some (Value.int z)) (show (0 : Int32) = (own_kn p0) from by rw [own_kn, if_neg hc3_101, if_neg hc9_103, if_neg hc15_105, if_neg hc21_107])), N0, rfl⟩
theorem d1_0 : decode method_2_code 0 = .ok (.iload_n 0, 1) := by decide +kernel
theorem d1_1 : decode method_2_code 1 = .ok (.ifCond .lt 9, 3) := by decide +kernel
theorem d1_4 : decode method_2_code 4 = .ok (.iload_n 0, 1) := by decide +kernel
theorem d1_5 : decode method_2_code 5 = .ok (.bipush 31, 2) := by decide +kernel
theorem d1_7 : decode method_2_code 7 = .ok (.if_icmp .le 5, 3) := by decide +kernel
theorem d1_10 : decode method_2_code 10 = .ok (.iconst 0, 1) := by decide +kernel
theorem d1_11 : decode method_2_code 11 = .ok (.ireturn, 1) := by decide +kernel
theorem d1_12 : decode method_2_code 12 = .ok (.ldc 9, 2) := by decide +kernel
theorem d1_14 : decode method_2_code 14 = .ok (.iload_n 0, 1) := by decide +kernel
theorem d1_15 : decode method_2_code 15 = .ok (.iushr, 1) := by decide +kernel
theorem d1_16 : decode method_2_code 16 = .ok (.iconst 1, 1) := by decide +kernel
theorem d1_17 : decode method_2_code 17 = .ok (.iand, 1) := by decide +kernel
theorem d1_18 : decode method_2_code 18 = .ok (.ifCond .eq 7, 3) := by decide +kernel
theorem d1_21 : decode method_2_code 21 = .ok (.iconst 1, 1) := by decide +kernel
theorem d1_22 : decode method_2_code 22 = .ok (.goto 4, 3) := by decide +kernel
theorem d1_25 : decode method_2_code 25 = .ok (.iconst 0, 1) := by decide +kernel
theorem d1_26 : decode method_2_code 26 = .ok (.ireturn, 1) := by decide +kernel
theorem pn_1 : plainName "com/example/crossweave/crossweave/TypeIdsIsKindByNamePinLaw" = true := by first | (simp [plainName, overriddenIn]; done) | decide +kernel
theorem ef_1 (m : MethodId) (x0 : Int32) : entryFrame m #[(.int x0)] 1 = mkF m 0 #[.val (.int x0)] [] := by first | (simp [entryFrame, mkF, argsToLocals, Value.category]; done) | rfl
def Q1 (Z : State) (p0 : Int32) (h0 : Heap) (n0 : Nat) (v : Option Value) (h : Heap) (L : List Loc) : Prop := v = some (.int (own_rf p0)) ∧ Fr n0 L ∧ h = h0
set_option maxRecDepth 65536 in
set_option maxHeartbeats 40000000 in
theorem rm1 (l : Launch) (Z : State) (ar : Array Value) (hw : ∀ d ∈ tables_1, d.before ar Z = true) (ws : List Jvm.Cond) (p0 : Int32) (h0 : Heap) (n0 : Nat) (Z0 : n0 ≤ h0.size)  :
    MetFree l (⟨"com/example/crossweave/crossweave/TypeIdsIsKindByNamePinLaw", "reference", "(I)Z"⟩ : MethodName) (head1 (Jvm.Cond.code (⟨"com/example/crossweave/crossweave/TypeIdsIsKindByNamePinLaw", "reference", "(I)Z"⟩ : MethodName) method_2_code 1 (some .boolean) :: ws) ({ frames := 0, cells := 0, slots := 0, locals := 0 } : Room)) (fun a U => a = #[(.int p0)] ∧ Z.Warmed39 U.vm ∧ U.heap = h0) (fun _ _ _ _ _ => True) (fun _ U o U' => ∃ v L, o = .returned v ∧ Q1 Z p0 h0 n0 v U'.heap L ∧ FrameEnd U o U' L ({ frames := 0, cells := 0, slots := 0, locals := 0 } : Room).cells ({ frames := 0, cells := 0, slots := 0, locals := 0 } : Room).slots) := by
  refine MetFree.of_bodySF (plainFor_of_name pn_1) hisR ?_
  intro p e s m args below meth c s₁ Bd hml0 hP hK
  obtain ⟨rfl, hZ, hh⟩ := hP
  have hx := Bd.exec
  have hby := Bd.bytes
  have hml : c.maxLocals = 1 := hml0
  have hown : s.vm.findClass "com/example/crossweave/crossweave/TypeIdsIsKindByNamePinLaw" = some m.cls := findClass_of_methodNamed Bd.named
  have hnm := (name_of_methodNamed Bd.named Bd.method).1
  have X0 : Stand p l e ({ frames := 0, cells := 0, slots := 0, locals := 0 } : Room) s m #[(.int p0)] below meth c s₁ [] 0 0 := Stand.of_body Bd
  have e0 : s₁.heap = h0 := by rw [← hh, Bd.state]; rfl
  have N0 := Fr.nil n0
  have pre0 : ∀ t, Steps p.tables e below (s₁.setTop (mkF m 0 #[.val (.int p0)] [])) t → Steps p.tables e below (s₁.setTop (entryFrame m #[(.int p0)] 1)) t := fun t k => castTop (ef_1 m p0) k
  refine OGo.start pre0 ?_
  show OGo p.tables e below _ (s₁.setTop (mkF m 0 #[.val (.int p0)] []))
  refine OGo.st (fun t k => XS.iloadN X0.here hx rfl (hb hby d1_0) rfl k) ?_
  show OGo p.tables e below _ (s₁.setTop (mkF m 1 #[.val (.int p0)] [(.int p0)]))
  by_cases hc1_101 : p0 < (0 : Int32)
  ·
    refine OGo.st (fun t k => XS.ifYes X0.here hx rfl (pc0 := 1) (pc' := 10) rfl (hb hby d1_1) rfl ((if0 _ _).trans (tlt hc1_101).1) (by decide) (by decide) k) ?_
    show OGo p.tables e below _ (s₁.setTop (mkF m 10 #[.val (.int p0)] []))
    refine OGo.st (fun t k => XS.iconst X0.here hx rfl (hb hby d1_10) k) ?_
    show OGo p.tables e below _ (s₁.setTop (mkF m 11 #[.val (.int p0)] [(.int (0 : Int32))]))
    obtain ⟨fs, hr, hrun, hended, hW, hsame⟩ := X0.leave (v := some (.int (0 : Int32))) (fun h => by rw [Bd.returns] at h; cases h)
    refine OGo.done (retN X0 hx (t := .boolean) Bd.returns (by simp) (hb hby d1_11) hr) ⟨hrun, hended, _, _, rfl, ?_, ⟨_, rfl⟩, hW, hsame.mono (by decide) (by decide)⟩
    show Q1 Z p0 h0 n0 _ s₁.heap _
    rw [e0]
    exact ⟨(congrArg (fun z => some (Value.int z)) (show (0 : Int32) = (own_rf p0) from by rw [own_rf, if_pos hc1_101])), N0, rfl⟩
  ·
    refine OGo.st (fun t k => XS.ifNo X0.here hx rfl (hb hby d1_1) rfl ((if0 _ _).trans (flt hc1_101).1) k) ?_
    show OGo p.tables e below _ (s₁.setTop (mkF m 4 #[.val (.int p0)] []))
    refine OGo.st (fun t k => XS.iloadN X0.here hx rfl (hb hby d1_4) rfl k) ?_
    show OGo p.tables e below _ (s₁.setTop (mkF m 5 #[.val (.int p0)] [(.int p0)]))
    refine OGo.st (fun t k => XS.bipush X0.here hx rfl (hb hby d1_5) k) ?_
    show OGo p.tables e below _ (s₁.setTop (mkF m 7 #[.val (.int p0)] [(.int (31 : Int32)), (.int p0)]))
    by_cases hc7_103 : (31 : Int32) < p0
    ·
      refine OGo.st (fun t k => XS.icmpNo X0.here hx rfl (hb hby d1_7) rfl (tlt hc7_103).2.2.2 k) ?_
      show OGo p.tables e below _ (s₁.setTop (mkF m 10 #[.val (.int p0)] []))
      refine OGo.st (fun t k => XS.iconst X0.here hx rfl (hb hby d1_10) k) ?_
      show OGo p.tables e below _ (s₁.setTop (mkF m 11 #[.val (.int p0)] [(.int (0 : Int32))]))
      obtain ⟨fs, hr, hrun, hended, hW, hsame⟩ := X0.leave (v := some (.int (0 : Int32))) (fun h => by rw [Bd.returns] at h; cases h)
      refine OGo.done (retN X0 hx (t := .boolean) Bd.returns (by simp) (hb hby d1_11) hr) ⟨hrun, hended, _, _, rfl, ?_, ⟨_, rfl⟩, hW, hsame.mono (by decide) (by decide)⟩
      show Q1 Z p0 h0 n0 _ s₁.heap _
      rw [e0]
      exact ⟨(congrArg (fun z => some (Value.int z)) (show (0 : Int32) = (own_rf p0) from by rw [own_rf, if_neg hc1_101, if_pos hc7_103])), N0, rfl⟩
    ·
      refine OGo.st (fun t k => XS.icmpYes X0.here hx rfl (pc0 := 7) (pc' := 12) rfl (hb hby d1_7) rfl (flt hc7_103).2.2.2 (by decide) (by decide) k) ?_
      show OGo p.tables e below _ (s₁.setTop (mkF m 12 #[.val (.int p0)] []))
      refine OGo.st (fun t k => X0.ldcInt hx hown (mvT hZ (hw _ (List.mem_of_getElem? (i := 11) rfl))) (g := (mkF m 12 #[.val (.int p0)] [])) rfl (hb hby d1_12) _ k) ?_
      show OGo p.tables e below _ (s₁.setTop (mkF m 14 #[.val (.int p0)] [(.int (1458176 : Int32))]))
      refine OGo.st (fun t k => XS.iloadN X0.here hx rfl (hb hby d1_14) rfl k) ?_
      show OGo p.tables e below _ (s₁.setTop (mkF m 15 #[.val (.int p0)] [(.int p0), (.int (1458176 : Int32))]))
      refine OGo.st (fun t k => XS.iushr X0.here hx rfl (hb hby d1_15) rfl k) ?_
      show OGo p.tables e below _ (s₁.setTop (mkF m 16 #[.val (.int p0)] [(.int (((1458176 : Int32).toUInt32 >>> (p0 &&& 31).toUInt32).toInt32))]))
      refine OGo.st (fun t k => XS.iconst X0.here hx rfl (hb hby d1_16) k) ?_
      show OGo p.tables e below _ (s₁.setTop (mkF m 17 #[.val (.int p0)] [(.int (1 : Int32)), (.int (((1458176 : Int32).toUInt32 >>> (p0 &&& 31).toUInt32).toInt32))]))
      refine OGo.st (fun t k => XS.iand X0.here hx rfl (hb hby d1_17) rfl k) ?_
      show OGo p.tables e below _ (s₁.setTop (mkF m 18 #[.val (.int p0)] [(.int ((((1458176 : Int32).toUInt32 >>> (p0 &&& 31).toUInt32).toInt32) &&& (1 : Int32)))]))
      by_cases hc18_105 : ((((1458176 : Int32).toUInt32 >>> (p0 &&& 31).toUInt32).toInt32) &&& (1 : Int32)) = (0 : Int32)
      ·
        refine OGo.st (fun t k => XS.ifYes X0.here hx rfl (pc0 := 18) (pc' := 25) rfl (hb hby d1_18) rfl ((if0 _ _).trans (teq hc18_105).1) (by decide) (by decide) k) ?_
        show OGo p.tables e below _ (s₁.setTop (mkF m 25 #[.val (.int p0)] []))
        refine OGo.st (fun t k => XS.iconst X0.here hx rfl (hb hby d1_25) k) ?_
        show OGo p.tables e below _ (s₁.setTop (mkF m 26 #[.val (.int p0)] [(.int (0 : Int32))]))
        obtain ⟨fs, hr, hrun, hended, hW, hsame⟩ := X0.leave (v := some (.int (0 : Int32))) (fun h => by rw [Bd.returns] at h; cases h)
        refine OGo.done (retN X0 hx (t := .boolean) Bd.returns (by simp) (hb hby d1_26) hr) ⟨hrun, hended, _, _, rfl, ?_, ⟨_, rfl⟩, hW, hsame.mono (by decide) (by decide)⟩
        show Q1 Z p0 h0 n0 _ s₁.heap _
        rw [e0]
        exact ⟨(congrArg (fun z => some (Value.int z)) (show (0 : Int32) = (own_rf p0) from by rw [own_rf, if_neg hc1_101, if_neg hc7_103, if_pos hc18_105])), N0, rfl⟩
      ·
        refine OGo.st (fun t k => XS.ifNo X0.here hx rfl (hb hby d1_18) rfl ((if0 _ _).trans (feq hc18_105).1) k) ?_
        show OGo p.tables e below _ (s₁.setTop (mkF m 21 #[.val (.int p0)] []))
        refine OGo.st (fun t k => XS.iconst X0.here hx rfl (hb hby d1_21) k) ?_
        show OGo p.tables e below _ (s₁.setTop (mkF m 22 #[.val (.int p0)] [(.int (1 : Int32))]))
        refine OGo.st (fun t k => XS.goto X0.here hx rfl (pc0 := 22) (pc' := 26) rfl (hb hby d1_22) (by decide) (by decide) k) ?_
        show OGo p.tables e below _ (s₁.setTop (mkF m 26 #[.val (.int p0)] [(.int (1 : Int32))]))
        obtain ⟨fs, hr, hrun, hended, hW, hsame⟩ := X0.leave (v := some (.int (1 : Int32))) (fun h => by rw [Bd.returns] at h; cases h)
        refine OGo.done (retN X0 hx (t := .boolean) Bd.returns (by simp) (hb hby d1_26) hr) ⟨hrun, hended, _, _, rfl, ?_, ⟨_, rfl⟩, hW, hsame.mono (by decide) (by decide)⟩
        show Q1 Z p0 h0 n0 _ s₁.heap _
        rw [e0]
        exact ⟨(congrArg (fun z => some (Value.int z)) (show (1 : Int32) = (own_rf p0) from by rw [own_rf, if_neg hc1_101, if_neg hc7_103, if_neg hc18_105])), N0, rfl⟩
theorem pd_0 : parseMethodDescriptor "(I)Z" = some ⟨[.int], some .boolean⟩ := by decide +kernel
theorem d2_0 : decode method_3_code 0 = .ok (.iload_n 0, 1) := by decide +kernel
theorem d2_1 : decode method_3_code 1 = .ok (.invokestatic 10, 3) := by decide +kernel
theorem d2_4 : decode method_3_code 4 = .ok (.iload_n 0, 1) := by decide +kernel
theorem d2_5 : decode method_3_code 5 = .ok (.invokestatic 16, 3) := by decide +kernel
theorem d2_8 : decode method_3_code 8 = .ok (.if_icmp .ne 7, 3) := by decide +kernel
theorem d2_11 : decode method_3_code 11 = .ok (.iconst 1, 1) := by decide +kernel
theorem d2_12 : decode method_3_code 12 = .ok (.goto 4, 3) := by decide +kernel
theorem d2_16 : decode method_3_code 16 = .ok (.ireturn, 1) := by decide +kernel
theorem ef_2 (m : MethodId) (x0 : Int32) : entryFrame m #[(.int x0)] 1 = mkF m 0 #[.val (.int x0)] [] := by first | (simp [entryFrame, mkF, argsToLocals, Value.category]; done) | rfl
def Q2 (Z : State) (p0 : Int32) (h0 : Heap) (n0 : Nat) (v : Option Value) (h : Heap) (L : List Loc) : Prop := v = some (.int (1 : Int32)) ∧ Fr n0 L ∧ h = h0
set_option maxRecDepth 65536 in
set_option maxHeartbeats 40000000 in
theorem rm2 (l : Launch) (Z : State) (ar : Array Value) (hw : ∀ d ∈ tables_1, d.before ar Z = true) (ws : List Jvm.Cond) (p0 : Int32) (h0 : Heap) (n0 : Nat) (Z0 : n0 ≤ h0.size)  :
    MetFree l (⟨"com/example/crossweave/crossweave/TypeIdsIsKindByNamePinLaw", "check", "(I)Z"⟩ : MethodName) (head1 (Jvm.Cond.code (⟨"com/example/crossweave/crossweave/TypeIdsIsKindByNamePinLaw", "check", "(I)Z"⟩ : MethodName) method_3_code 1 (some .boolean) :: ws) ({ frames := 1, cells := 0, slots := 0, locals := 13 } : Room)) (fun a U => a = #[(.int p0)] ∧ Z.Warmed39 U.vm ∧ U.heap = h0) (fun _ _ _ _ _ => True) (fun _ U o U' => ∃ v L, o = .returned v ∧ Q2 Z p0 h0 n0 v U'.heap L ∧ FrameEnd U o U' L ({ frames := 1, cells := 0, slots := 0, locals := 13 } : Room).cells ({ frames := 1, cells := 0, slots := 0, locals := 13 } : Room).slots) := by
  refine MetFree.of_bodySF (plainFor_of_name pn_1) hisR ?_
  intro p e s m args below meth c s₁ Bd hml0 hP hK
  obtain ⟨rfl, hZ, hh⟩ := hP
  have hx := Bd.exec
  have hby := Bd.bytes
  have hml : c.maxLocals = 1 := hml0
  have hown : s.vm.findClass "com/example/crossweave/crossweave/TypeIdsIsKindByNamePinLaw" = some m.cls := findClass_of_methodNamed Bd.named
  have hnm := (name_of_methodNamed Bd.named Bd.method).1
  have X0 : Stand p l e ({ frames := 1, cells := 0, slots := 0, locals := 13 } : Room) s m #[(.int p0)] below meth c s₁ [] 0 0 := Stand.of_body Bd
  have e0 : s₁.heap = h0 := by rw [← hh, Bd.state]; rfl
  have N0 := Fr.nil n0
  have pre0 : ∀ t, Steps p.tables e below (s₁.setTop (mkF m 0 #[.val (.int p0)] [])) t → Steps p.tables e below (s₁.setTop (entryFrame m #[(.int p0)] 1)) t := fun t k => castTop (ef_2 m p0) k
  refine OGo.start pre0 ?_
  show OGo p.tables e below _ (s₁.setTop (mkF m 0 #[.val (.int p0)] []))
  refine OGo.st (fun t k => XS.iloadN X0.here hx rfl (hb hby d2_0) rfl k) ?_
  show OGo p.tables e below _ (s₁.setTop (mkF m 1 #[.val (.int p0)] [(.int p0)]))
  obtain ⟨_, _, ⟨T101, L101, kk101, nn101⟩, -, X101, ⟨Lc101, hQ101, l101, y101, z101⟩, st101⟩ := Jvm.LawKit.callS X0 hx (y := (⟨"com/example/crossweave/crossweave/TypeIds", "isKindByName", "(I)Z"⟩ : MethodName)) hown (mvT hZ (hw _ (List.mem_of_getElem? (i := 4) rfl))) (mvT hZ (hw _ (List.mem_of_getElem? (i := 5) rfl))) (mvT hZ (hw _ (List.mem_of_getElem? (i := 6) rfl))) (mvT hZ (hw _ (List.mem_of_getElem? (i := 7) rfl))) (by decide) (backOf (W := 0) (rm0 l Z ar hw [] p0 h0 n0 Z0 ) hZ (hw _ (List.mem_of_getElem? (i := 7) rfl)) (hw _ (List.mem_of_getElem? (i := 6) rfl)) (by decide) (by decide)) (g := (mkF m 1 #[.val (.int p0)] [(.int p0)])) rfl (by rw [hml]; rfl) (argsL := [(.int p0)]) (rest := []) (lenOf pd_0 rfl) rfl (by show 2 * 0 + _ ≤ _; exact Nat.le_of_eq rfl) (hb hby d2_1) (fun _ _ => ⟨rfl, e0, (by decide : 0 + 0 ≤ _), (by decide : 0 + 0 ≤ _)⟩)
  dsimp only [Pt.U, Pt.locs, Pt.cells, Pt.slots] at X101 l101 y101 z101 st101 hQ101
  subst l101 y101 z101
  obtain ⟨rfl, Nq101, hh101⟩ := hQ101
  have N101 := Fr.app N0 Nq101
  refine OGo.st st101 ?_
  have e101 : T101.heap = h0 := hh101
  show OGo p.tables e below _ (T101.setTop (mkF m 4 #[.val (.int p0)] [(.int (own_kn p0))]))
  refine OGo.st (fun t k => XS.iloadN X101.here hx rfl (hb hby d2_4) rfl k) ?_
  show OGo p.tables e below _ (T101.setTop (mkF m 5 #[.val (.int p0)] [(.int p0), (.int (own_kn p0))]))
  obtain ⟨_, _, ⟨T102, L102, kk102, nn102⟩, -, X102, ⟨Lc102, hQ102, l102, y102, z102⟩, st102⟩ := Jvm.LawKit.callS X101 hx (y := (⟨"com/example/crossweave/crossweave/TypeIdsIsKindByNamePinLaw", "reference", "(I)Z"⟩ : MethodName)) hown (mvT hZ (hw _ (List.mem_of_getElem? (i := 8) rfl))) (mvT hZ (hw _ (List.mem_of_getElem? (i := 9) rfl))) (mvT hZ (hw _ (List.mem_of_getElem? (i := 2) rfl))) (mvT hZ (hw _ (List.mem_of_getElem? (i := 10) rfl))) (by decide) (backOf (W := 1) (rm1 l Z ar hw [] p0 h0 n0 Z0 ) hZ (hw _ (List.mem_of_getElem? (i := 10) rfl)) (hw _ (List.mem_of_getElem? (i := 2) rfl)) (by decide) (by decide)) (g := (mkF m 5 #[.val (.int p0)] [(.int p0), (.int (own_kn p0))])) rfl (by rw [hml]; rfl) (argsL := [(.int p0)]) (rest := [(.int (own_kn p0))]) (lenOf pd_0 rfl) rfl (by show 2 * 0 + _ ≤ _; exact Nat.le_of_eq rfl) (hb hby d2_5) (fun _ _ => ⟨rfl, e101, (by decide : 0 + 0 ≤ _), (by decide : 0 + 0 ≤ _)⟩)
  dsimp only [Pt.U, Pt.locs, Pt.cells, Pt.slots] at X102 l102 y102 z102 st102 hQ102
  subst l102 y102 z102
  obtain ⟨rfl, Nq102, hh102⟩ := hQ102
  have N102 := Fr.app N101 Nq102
  refine OGo.st st102 ?_
  have e102 : T102.heap = h0 := hh102
  show OGo p.tables e below _ (T102.setTop (mkF m 8 #[.val (.int p0)] [(.int (own_rf p0)), (.int (own_kn p0))]))
  refine OGo.st (fun t k => XS.icmpNo X102.here hx rfl (hb hby d2_8) rfl (teq ((own_eq p0) : (own_kn p0) = (own_rf p0))).2 k) ?_
  show OGo p.tables e below _ (T102.setTop (mkF m 11 #[.val (.int p0)] []))
  refine OGo.st (fun t k => XS.iconst X102.here hx rfl (hb hby d2_11) k) ?_
  show OGo p.tables e below _ (T102.setTop (mkF m 12 #[.val (.int p0)] [(.int (1 : Int32))]))
  refine OGo.st (fun t k => XS.goto X102.here hx rfl (pc0 := 12) (pc' := 16) rfl (hb hby d2_12) (by decide) (by decide) k) ?_
  show OGo p.tables e below _ (T102.setTop (mkF m 16 #[.val (.int p0)] [(.int (1 : Int32))]))
  obtain ⟨fs, hr, hrun, hended, hW, hsame⟩ := X102.leave (v := some (.int (1 : Int32))) (fun h => by rw [Bd.returns] at h; cases h)
  refine OGo.done (retN X102 hx (t := .boolean) Bd.returns (by simp) (hb hby d2_16) hr) ⟨hrun, hended, _, _, rfl, ?_, ⟨_, rfl⟩, hW, hsame.mono (by decide) (by decide)⟩
  show Q2 Z p0 h0 n0 _ T102.heap _
  rw [e102]
  exact ⟨rfl, N102, rfl⟩
theorem ef_3 (m : MethodId) (x0 : Int32) (x1 : Int32) : entryFrame m #[(.int x0), (.int x1)] maxLocals = mkF m 0 #[.val (.int x0), .val (.int x1), .unset] [] := by first | (simp [entryFrame, mkF, argsToLocals, Value.category, maxLocals]; done) | rfl
def Q3 (Z : State) (p0 : Int32) (p1 : Int32) (h0 : Heap) (n0 : Nat) (v : Option Value) (h : Heap) (L : List Loc) : Prop := v = some (.int (1 : Int32)) ∧ Fr n0 L
set_option maxRecDepth 65536 in
set_option maxHeartbeats 40000000 in
theorem rm3 (l : Launch) (Z : State) (ar : Array Value) (hw : ∀ d ∈ tables_1, d.before ar Z = true) (ws : List Jvm.Cond) (p0 : Int32) (p1 : Int32) (h0 : Heap) (n0 : Nat) (Z0 : n0 ≤ h0.size)  :
    MetFree l x (head1 (Jvm.Cond.code x code maxLocals ret :: ws) room_1) (fun a U => a = #[(.int p0), (.int p1)] ∧ Z.Warmed39 U.vm ∧ U.heap = h0) (fun _ _ _ _ _ => True) (fun _ U o U' => ∃ v L, o = .returned v ∧ Q3 Z p0 p1 h0 n0 v U'.heap L ∧ FrameEnd U o U' L room_1.cells room_1.slots) := by
  refine MetFree.of_bodySF (plainFor_of_name pn_1) hisR ?_
  intro p e s m args below meth c s₁ Bd hml0 hP hK
  obtain ⟨rfl, hZ, hh⟩ := hP
  have hx := Bd.exec
  have hby := Bd.bytes
  have hml : c.maxLocals = 3 := hml0
  have hown : s.vm.findClass "com/example/crossweave/crossweave/TypeIdsIsKindByNamePinLaw" = some m.cls := findClass_of_methodNamed Bd.named
  have hnm := (name_of_methodNamed Bd.named Bd.method).1
  have X0 : Stand p l e room_1 s m #[(.int p0), (.int p1)] below meth c s₁ [] 0 0 := Stand.of_body Bd
  have e0 : s₁.heap = h0 := by rw [← hh, Bd.state]; rfl
  have N0 := Fr.nil n0
  have pre0 : ∀ t, Steps p.tables e below (s₁.setTop (mkF m 0 #[.val (.int p0), .val (.int p1), .unset] [])) t → Steps p.tables e below (s₁.setTop (entryFrame m #[(.int p0), (.int p1)] maxLocals)) t := fun t k => castTop (ef_3 m p0 p1) k
  refine OGo.start pre0 ?_
  show OGo p.tables e below _ (s₁.setTop (mkF m 0 #[.val (.int p0), .val (.int p1), .unset] []))
  refine OGo.st (fun t k => XS.iloadN X0.here hx rfl (hb hby at_0) rfl k) ?_
  show OGo p.tables e below _ (s₁.setTop (mkF m 1 #[.val (.int p0), .val (.int p1), .unset] [(.int p1)]))
  refine OGo.st (fun t k => XS.sipush X0.here hx rfl (hb hby at_1) k) ?_
  show OGo p.tables e below _ (s₁.setTop (mkF m 4 #[.val (.int p0), .val (.int p1), .unset] [(.int (255 : Int32)), (.int p1)]))
  refine OGo.st (fun t k => XS.iand X0.here hx rfl (hb hby at_4) rfl k) ?_
  show OGo p.tables e below _ (s₁.setTop (mkF m 5 #[.val (.int p0), .val (.int p1), .unset] [(.int (p1 &&& (255 : Int32)))]))
  refine OGo.st (fun t k => XS.istoreN X0.here hx rfl (hb hby at_5) rfl (l' := #[.val (.int p0), .val (.int p1), .val (.int (p1 &&& (255 : Int32)))]) rfl k) ?_
  show OGo p.tables e below _ (s₁.setTop (mkF m 6 #[.val (.int p0), .val (.int p1), .val (.int (p1 &&& (255 : Int32)))] []))
  refine OGo.st (fun t k => XS.iloadN X0.here hx rfl (hb hby at_6) rfl k) ?_
  show OGo p.tables e below _ (s₁.setTop (mkF m 7 #[.val (.int p0), .val (.int p1), .val (.int (p1 &&& (255 : Int32)))] [(.int p0)]))
  obtain ⟨_, _, ⟨T101, L101, kk101, nn101⟩, -, X101, ⟨Lc101, hQ101, l101, y101, z101⟩, st101⟩ := Jvm.LawKit.callS X0 hx (y := (⟨"com/example/crossweave/crossweave/TypeIdsIsKindByNamePinLaw", "check", "(I)Z"⟩ : MethodName)) hown (mvT hZ (hw _ (List.mem_of_getElem? (i := 0) rfl))) (mvT hZ (hw _ (List.mem_of_getElem? (i := 1) rfl))) (mvT hZ (hw _ (List.mem_of_getElem? (i := 2) rfl))) (mvT hZ (hw _ (List.mem_of_getElem? (i := 3) rfl))) (by decide) (backOf (W := 0) (rm2 l Z ar hw [] p0 h0 n0 Z0 ) hZ (hw _ (List.mem_of_getElem? (i := 3) rfl)) (hw _ (List.mem_of_getElem? (i := 2) rfl)) (by decide) (by decide)) (g := (mkF m 7 #[.val (.int p0), .val (.int p1), .val (.int (p1 &&& (255 : Int32)))] [(.int p0)])) rfl (by rw [hml]; rfl) (argsL := [(.int p0)]) (rest := []) (lenOf pd_0 rfl) rfl (by show 2 * 0 + _ ≤ _; exact Nat.le_of_eq rfl) (hb hby at_7) (fun _ _ => ⟨rfl, e0, (by decide : 0 + 0 ≤ _), (by decide : 0 + 0 ≤ _)⟩)
  dsimp only [Pt.U, Pt.locs, Pt.cells, Pt.slots] at X101 l101 y101 z101 st101 hQ101
  subst l101 y101 z101
  obtain ⟨rfl, Nq101, hh101⟩ := hQ101
  have N101 := Fr.app N0 Nq101
  refine OGo.st st101 ?_
  have e101 : T101.heap = h0 := hh101
  show OGo p.tables e below _ (T101.setTop (mkF m 10 #[.val (.int p0), .val (.int p1), .val (.int (p1 &&& (255 : Int32)))] [(.int (1 : Int32))]))
  refine OGo.st (fun t k => XS.ifNo X101.here hx rfl (hb hby at_10) rfl ((if0 _ _).trans (feq (by decide : ¬ ((1 : Int32) = (0 : Int32)))).1) k) ?_
  show OGo p.tables e below _ (T101.setTop (mkF m 13 #[.val (.int p0), .val (.int p1), .val (.int (p1 &&& (255 : Int32)))] []))
  refine OGo.st (fun t k => XS.iloadN X101.here hx rfl (hb hby at_13) rfl k) ?_
  show OGo p.tables e below _ (T101.setTop (mkF m 14 #[.val (.int p0), .val (.int p1), .val (.int (p1 &&& (255 : Int32)))] [(.int (p1 &&& (255 : Int32)))]))
  obtain ⟨_, _, ⟨T102, L102, kk102, nn102⟩, -, X102, ⟨Lc102, hQ102, l102, y102, z102⟩, st102⟩ := Jvm.LawKit.callS X101 hx (y := (⟨"com/example/crossweave/crossweave/TypeIdsIsKindByNamePinLaw", "check", "(I)Z"⟩ : MethodName)) hown (mvT hZ (hw _ (List.mem_of_getElem? (i := 0) rfl))) (mvT hZ (hw _ (List.mem_of_getElem? (i := 1) rfl))) (mvT hZ (hw _ (List.mem_of_getElem? (i := 2) rfl))) (mvT hZ (hw _ (List.mem_of_getElem? (i := 3) rfl))) (by decide) (backOf (W := 0) (rm2 l Z ar hw [] (p1 &&& (255 : Int32)) h0 n0 Z0 ) hZ (hw _ (List.mem_of_getElem? (i := 3) rfl)) (hw _ (List.mem_of_getElem? (i := 2) rfl)) (by decide) (by decide)) (g := (mkF m 14 #[.val (.int p0), .val (.int p1), .val (.int (p1 &&& (255 : Int32)))] [(.int (p1 &&& (255 : Int32)))])) rfl (by rw [hml]; rfl) (argsL := [(.int (p1 &&& (255 : Int32)))]) (rest := []) (lenOf pd_0 rfl) rfl (by show 2 * 0 + _ ≤ _; exact Nat.le_of_eq rfl) (hb hby at_14) (fun _ _ => ⟨rfl, e101, (by decide : 0 + 0 ≤ _), (by decide : 0 + 0 ≤ _)⟩)
  dsimp only [Pt.U, Pt.locs, Pt.cells, Pt.slots] at X102 l102 y102 z102 st102 hQ102
  subst l102 y102 z102
  obtain ⟨rfl, Nq102, hh102⟩ := hQ102
  have N102 := Fr.app N101 Nq102
  refine OGo.st st102 ?_
  have e102 : T102.heap = h0 := hh102
  show OGo p.tables e below _ (T102.setTop (mkF m 17 #[.val (.int p0), .val (.int p1), .val (.int (p1 &&& (255 : Int32)))] [(.int (1 : Int32))]))
  refine OGo.st (fun t k => XS.ifNo X102.here hx rfl (hb hby at_17) rfl ((if0 _ _).trans (feq (by decide : ¬ ((1 : Int32) = (0 : Int32)))).1) k) ?_
  show OGo p.tables e below _ (T102.setTop (mkF m 20 #[.val (.int p0), .val (.int p1), .val (.int (p1 &&& (255 : Int32)))] []))
  refine OGo.st (fun t k => XS.iloadN X102.here hx rfl (hb hby at_20) rfl k) ?_
  show OGo p.tables e below _ (T102.setTop (mkF m 21 #[.val (.int p0), .val (.int p1), .val (.int (p1 &&& (255 : Int32)))] [(.int (p1 &&& (255 : Int32)))]))
  refine OGo.st (fun t k => XS.sipush X102.here hx rfl (hb hby at_21) k) ?_
  show OGo p.tables e below _ (T102.setTop (mkF m 24 #[.val (.int p0), .val (.int p1), .val (.int (p1 &&& (255 : Int32)))] [(.int (128 : Int32)), (.int (p1 &&& (255 : Int32)))]))
  refine OGo.st (fun t k => XS.isub X102.here hx rfl (hb hby at_24) rfl k) ?_
  show OGo p.tables e below _ (T102.setTop (mkF m 25 #[.val (.int p0), .val (.int p1), .val (.int (p1 &&& (255 : Int32)))] [(.int ((p1 &&& (255 : Int32)) - (128 : Int32)))]))
  obtain ⟨_, _, ⟨T103, L103, kk103, nn103⟩, -, X103, ⟨Lc103, hQ103, l103, y103, z103⟩, st103⟩ := Jvm.LawKit.callS X102 hx (y := (⟨"com/example/crossweave/crossweave/TypeIdsIsKindByNamePinLaw", "check", "(I)Z"⟩ : MethodName)) hown (mvT hZ (hw _ (List.mem_of_getElem? (i := 0) rfl))) (mvT hZ (hw _ (List.mem_of_getElem? (i := 1) rfl))) (mvT hZ (hw _ (List.mem_of_getElem? (i := 2) rfl))) (mvT hZ (hw _ (List.mem_of_getElem? (i := 3) rfl))) (by decide) (backOf (W := 0) (rm2 l Z ar hw [] ((p1 &&& (255 : Int32)) - (128 : Int32)) h0 n0 Z0 ) hZ (hw _ (List.mem_of_getElem? (i := 3) rfl)) (hw _ (List.mem_of_getElem? (i := 2) rfl)) (by decide) (by decide)) (g := (mkF m 25 #[.val (.int p0), .val (.int p1), .val (.int (p1 &&& (255 : Int32)))] [(.int ((p1 &&& (255 : Int32)) - (128 : Int32)))])) rfl (by rw [hml]; rfl) (argsL := [(.int ((p1 &&& (255 : Int32)) - (128 : Int32)))]) (rest := []) (lenOf pd_0 rfl) rfl (by show 2 * 0 + _ ≤ _; exact Nat.le_of_eq rfl) (hb hby at_25) (fun _ _ => ⟨rfl, e102, (by decide : 0 + 0 ≤ _), (by decide : 0 + 0 ≤ _)⟩)
  dsimp only [Pt.U, Pt.locs, Pt.cells, Pt.slots] at X103 l103 y103 z103 st103 hQ103
  subst l103 y103 z103
  obtain ⟨rfl, Nq103, hh103⟩ := hQ103
  have N103 := Fr.app N102 Nq103
  refine OGo.st st103 ?_
  have e103 : T103.heap = h0 := hh103
  show OGo p.tables e below _ (T103.setTop (mkF m 28 #[.val (.int p0), .val (.int p1), .val (.int (p1 &&& (255 : Int32)))] [(.int (1 : Int32))]))
  refine OGo.st (fun t k => XS.ifNo X103.here hx rfl (hb hby at_28) rfl ((if0 _ _).trans (feq (by decide : ¬ ((1 : Int32) = (0 : Int32)))).1) k) ?_
  show OGo p.tables e below _ (T103.setTop (mkF m 31 #[.val (.int p0), .val (.int p1), .val (.int (p1 &&& (255 : Int32)))] []))
  refine OGo.st (fun t k => XS.iconst X103.here hx rfl (hb hby at_31) k) ?_
  show OGo p.tables e below _ (T103.setTop (mkF m 32 #[.val (.int p0), .val (.int p1), .val (.int (p1 &&& (255 : Int32)))] [(.int (1 : Int32))]))
  refine OGo.st (fun t k => XS.goto X103.here hx rfl (pc0 := 32) (pc' := 36) rfl (hb hby at_32) (by decide) (by decide) k) ?_
  show OGo p.tables e below _ (T103.setTop (mkF m 36 #[.val (.int p0), .val (.int p1), .val (.int (p1 &&& (255 : Int32)))] [(.int (1 : Int32))]))
  obtain ⟨fs, hr, hrun, hended, hW, hsame⟩ := X103.leave (v := some (.int (1 : Int32))) (fun h => by rw [Bd.returns] at h; cases h)
  refine OGo.done (retN X103 hx (t := .boolean) Bd.returns (by simp) (hb hby at_36) hr) ⟨hrun, hended, _, _, rfl, ?_, ⟨_, rfl⟩, hW, hsame.mono (by decide) (by decide)⟩
  show Q3 Z p0 p1 h0 n0 _ T103.heap _
  rw [e103]
  exact ⟨rfl, N103⟩
set_option maxRecDepth 65536 in
set_option maxHeartbeats 40000000 in
theorem comes_1 {Post : Tables → Env → Array Value → State → Outcome → State → Prop} (hpost : ∀ tb e args s v u, (limb_1_1.after args s (.returned v) u = true ∧ limb_1_2.after args s (.returned v) u = true ∧ True) → FrameEnd s (.returned v) u (Jvm.fieldLocs frame_1_writes args s ++ Jvm.arrayLocs frame_1_arrays args s ++ Jvm.staticLocs frame_1_statics s) 0 0 → Post tb e args s (.returned v) u) :
    ArmFor flags0 classFile x code maxLocals ret World_1 tables_1 room_1 Calls_1 rest_1 Pre_1 Post := by
  intro l hfl _ _ p e ha hc hk s m args below hf hA hF happ hP
  obtain ⟨hcalls, hrest, hpre⟩ := hP
  obtain ⟨-, -, -, hnamed, -, -, -, hat⟩ := (Spec.applies_iff hf).mp happ
  obtain ⟨hg, hn⟩ := and_e (Cond.before_iff.mp (show (Jvm.Cond.and given_1 narrow_1).before args s = true from hpre))
  obtain ⟨gc, gr0⟩ := and_e hg
  obtain ⟨g_0, gr1⟩ := and_e gr0
  have g_1 := gr1
  obtain ⟨w0, w1, rfl⟩ : ∃ w0 w1 : Value, args = #[w0, w1] := by
    have hs : args.size = 2 := by simpa [Cond.value, given_1] using gc
    obtain ⟨L⟩ := args
    match L, hs with
    | [w0, w1], _ => exact ⟨w0, w1, rfl⟩
  have hw := fun d (hd : d ∈ tables_1) => atoms_spec (ws := Jvm.Cond.code x code maxLocals ret :: tables_1) hat d (List.mem_cons_of_mem _ hd)
  have hfit : Fit s := fun {y c} hc i hi => by
    obtain ⟨ha, rfl⟩ := Array.getElem?_eq_some_iff.mp hc
    have q := List.all_eq_true.mp ((Array.all_eq_true_iff_forall_mem.mp hF) _ (Array.getElem_mem ha)) i (List.mem_range.mpr hi)
    simpa [Array.getElem?_eq_getElem hi] using q
  obtain ⟨i0, ei0⟩ := is_v g_0
  obtain rfl : w0 = (.int i0) := Option.some.inj ei0
  obtain ⟨i1, ei1⟩ := is_v g_1
  obtain rfl : w1 = (.int i1) := Option.some.inj ei1
  obtain ⟨n, o, h1, h2, h3, _, L, rfl, ⟨rfl, N⟩, hq⟩ := rm3 l s _ hw tables_1 i0 i1 s.heap s.heap.size (Nat.le_refl _)  p e ha hc hk s m _ below hf ((Spec.applies_iff_loose hf).mp happ).1 ⟨rfl, State.Warmed39.refl s, rfl⟩ trivial
  refine ⟨n, _, h1, h2, h3, hpost _ _ _ _ _ _ ⟨Cond.after_iff.mpr rfl, Cond.after_iff.mpr (eq_i res_at (Term.int_eval (1)) rfl), trivial⟩ ⟨hq.1, hq.2.1, (hq.2.2.sift fun y hy => Or.inr (N y hy)).mono (by decide) (by decide)⟩⟩
theorem main_1_1 : Claimed_1_1 := comes_1 fun _ _ _ _ _ _ h hF => ⟨h.1, hF⟩
theorem main_1_2 : Claimed_1_2 := comes_1 fun _ _ _ _ _ _ h hF => ⟨h.2.1, hF⟩
end Jvm.Pilot.@@N@@
namespace Jvm.Pilot.@@N@@
open Jvm Jvm.ClassFile Sem Op Lib Jvm.Free Jvm.Stand Jvm.Pilot.@@N@@.Jvm.D
/-! MADE BY PROGRAM (witnessworld.py) out of the Statement's table words and the real class files: 9 classes; the members and pool entries that the words name. The judged class is class 1, her method 3. -/
namespace start1
open Jvm.ClassFile
def u (s : String) : CpInfo := .utf8 (stringToUtf16 s)
/-- a pool by its gaps: so many unusable entries, then the entry; so many at the end -/
def gap : Nat → List CpInfo → List CpInfo
  | 0, r => r
  | n + 1, r => .unusable :: gap n r
def poolList (es : List (Nat × CpInfo)) (last : Nat) : List CpInfo := es.foldr (fun e r => gap e.1 (e.2 :: r)) (gap last [])
def pool (es : List (Nat × CpInfo)) (last : Nat) : Array CpInfo := ⟨poolList es last⟩
def fileOf (pool : Array CpInfo) (this : Nat) (attrs : Array Attribute := #[]) (ms : Array MethodInfo := #[]) (fl : Nat := 33) (sup : Nat := 0) (ifs : Array Nat := #[]) (fds : Array FieldInfo := #[]) : ClassFile where
  minorVersion := 0
  majorVersion := 65
  constantPool := pool
  accessFlags := fl
  thisClass := this
  superClass := sup
  interfaces := ifs
  fields := fds
  methods := ms
  attributes := attrs
def plain (name : String) (sup : Option ClassId) : Class where
  name := name
  kind := .ordinary
  loader := none
  accessFlags := 33
  super := sup
  interfaces := #[]
  cf := none
  fields := #[]
  methods := #[]
  instanceTypes := #[]
  staticTypes := #[]
  resolved := #[]
  callSites := []
  init := .initialized
  statics := none
  mirror := none

def pool0 : Array CpInfo := pool [(5, u "<init>"), (0, u "()V"), (1, .class_ 10), (1, u "java/lang/Object")] 113

def k0m0 : Method := { name := "<init>", desc := "()V", sig := { parameters := [], returnType := none }, accessFlags := 1, code := none }
/-- java/lang/Object -/
def k0 : Class := { plain "java/lang/Object" none with
  accessFlags := 33
  interfaces := #[]
  cf := some (fileOf pool0 8 #[] #[{ accessFlags := 1, nameIndex := 5, descriptorIndex := 6, attributes := #[] }] 33 0 #[] #[])
  fields := #[]
  methods := #[k0m0]
  instanceTypes := #[]
  staticTypes := #[]
  resolved := Array.replicate 124 none
  statics := none }

def pool1 : Array CpInfo := pool [(2, .class_ 4), (1, u "java/lang/Object"), (0, u "<init>"), (0, u "()V"), (0, .class_ 8), (0, u "com/example/crossweave/crossweave/TypeIdsIsKindByNamePinLaw"), (0, .integer 1458176), (0, .methodref 11 12), (0, .class_ 13), (0, .nameAndType 14 15), (0, u "com/example/crossweave/crossweave/TypeIds"), (0, u "isKindByName"), (0, u "(I)Z"), (0, .methodref 7 17), (0, .nameAndType 18 15), (0, u "reference"), (0, .methodref 7 20), (0, .nameAndType 21 15), (0, u "check"), (0, u "NAMED_KINDS_MASK"), (0, u "I"), (4, u "law"), (0, u "(II)Z")] 2

def k1m0 : Method := { name := "<init>", desc := "()V", sig := { parameters := [], returnType := none }, accessFlags := 2, code := none }
def k1c1 : Code := { maxStack := 2, maxLocals := 1, code := method_2_code, exceptionTable := #[], attributes := #[] }
def k1m1 : Method := { name := "reference", desc := "(I)Z", sig := { parameters := [.int], returnType := some .boolean }, accessFlags := 10, code := some k1c1 }
def k1c2 : Code := { maxStack := 2, maxLocals := 1, code := method_3_code, exceptionTable := #[], attributes := #[] }
def k1m2 : Method := { name := "check", desc := "(I)Z", sig := { parameters := [.int], returnType := some .boolean }, accessFlags := 10, code := some k1c2 }
def k1c3 : Code := { maxStack := 2, maxLocals := 3, code := code, exceptionTable := #[], attributes := #[] }
def k1m3 : Method := { name := "law", desc := "(II)Z", sig := { parameters := [.int, .int], returnType := some .boolean }, accessFlags := 9, code := some k1c3 }
/-- com/example/crossweave/crossweave/TypeIdsIsKindByNamePinLaw -/
def k1 : Class := { plain "com/example/crossweave/crossweave/TypeIdsIsKindByNamePinLaw" (some 0) with
  accessFlags := 49
  interfaces := #[]
  cf := some (fileOf pool1 7 #[] #[{ accessFlags := 2, nameIndex := 5, descriptorIndex := 6, attributes := #[] }, { accessFlags := 10, nameIndex := 18, descriptorIndex := 15, attributes := #[] }, { accessFlags := 10, nameIndex := 21, descriptorIndex := 15, attributes := #[] }, { accessFlags := 9, nameIndex := 28, descriptorIndex := 29, attributes := #[] }] 49 2 #[] #[{ accessFlags := 26, nameIndex := 22, descriptorIndex := 23, attributes := #[] }])
  fields := #[{ name := "NAMED_KINDS_MASK", type := .int, accessFlags := 26, slot := 0, constantValue := 0 }]
  methods := #[k1m0, k1m1, k1m2, k1m3]
  instanceTypes := #[]
  staticTypes := #[.int]
  resolved := Array.replicate 32 none
  statics := none }

def pool2 : Array CpInfo := pool [(2, .class_ 4), (1, u "java/lang/Object"), (0, u "<init>"), (0, u "()V"), (0, .class_ 8), (0, u "com/example/crossweave/crossweave/TypeIds"), (12, u "(I)Z"), (1, u "UNKNOWN"), (0, u "I"), (2, u "BOOL"), (1, u "INT8"), (1, u "INT16"), (1, u "INT32"), (1, u "VAR_INT32"), (1, u "INT64"), (1, u "VAR_INT64"), (1, u "SLI_INT64"), (1, u "FLOAT16"), (1, u "FLOAT32"), (1, u "FLOAT64"), (1, u "STRING"), (1, u "ENUM"), (1, u "NAMED_ENUM"), (1, u "STRUCT"), (1, u "COMPATIBLE_STRUCT"), (1, u "NAMED_STRUCT"), (1, u "NAMED_COMPATIBLE_STRUCT"), (1, u "EXT"), (1, u "NAMED_EXT"), (1, u "LIST"), (1, u "SET"), (1, u "MAP"), (1, u "DURATION"), (1, u "TIMESTAMP"), (1, u "LOCAL_DATE"), (1, u "DECIMAL"), (1, u "BINARY"), (1, u "ARRAY"), (1, u "BOOL_ARRAY"), (1, u "INT8_ARRAY"), (1, u "INT16_ARRAY"), (1, u "INT32_ARRAY"), (1, u "INT64_ARRAY"), (1, u "FLOAT16_ARRAY"), (1, u "FLOAT32_ARRAY"), (1, u "FLOAT64_ARRAY"), (1, u "TENSOR"), (1, u "MAX_USER_ID"), (6, u "isKindByName")] 22

def k2m0 : Method := { name := "<init>", desc := "()V", sig := { parameters := [], returnType := none }, accessFlags := 2, code := none }
def k2c1 : Code := { maxStack := 2, maxLocals := 1, code := prog_59_method_4_code, exceptionTable := #[], attributes := #[] }
def k2m1 : Method := { name := "isKindByName", desc := "(I)Z", sig := { parameters := [.int], returnType := some .boolean }, accessFlags := 8, code := some k2c1 }
/-- com/example/crossweave/crossweave/TypeIds -/
def k2 : Class := { plain "com/example/crossweave/crossweave/TypeIds" (some 0) with
  accessFlags := 48
  interfaces := #[]
  cf := some (fileOf pool2 7 #[] #[{ accessFlags := 2, nameIndex := 5, descriptorIndex := 6, attributes := #[] }, { accessFlags := 8, nameIndex := 110, descriptorIndex := 21, attributes := #[] }] 48 2 #[] #[{ accessFlags := 24, nameIndex := 23, descriptorIndex := 24, attributes := #[] }, { accessFlags := 24, nameIndex := 27, descriptorIndex := 24, attributes := #[] }, { accessFlags := 24, nameIndex := 29, descriptorIndex := 24, attributes := #[] }, { accessFlags := 24, nameIndex := 31, descriptorIndex := 24, attributes := #[] }, { accessFlags := 24, nameIndex := 33, descriptorIndex := 24, attributes := #[] }, { accessFlags := 24, nameIndex := 35, descriptorIndex := 24, attributes := #[] }, { accessFlags := 24, nameIndex := 37, descriptorIndex := 24, attributes := #[] }, { accessFlags := 24, nameIndex := 39, descriptorIndex := 24, attributes := #[] }, { accessFlags := 24, nameIndex := 41, descriptorIndex := 24, attributes := #[] }, { accessFlags := 24, nameIndex := 43, descriptorIndex := 24, attributes := #[] }, { accessFlags := 24, nameIndex := 45, descriptorIndex := 24, attributes := #[] }, { accessFlags := 24, nameIndex := 47, descriptorIndex := 24, attributes := #[] }, { accessFlags := 24, nameIndex := 49, descriptorIndex := 24, attributes := #[] }, { accessFlags := 24, nameIndex := 51, descriptorIndex := 24, attributes := #[] }, { accessFlags := 24, nameIndex := 53, descriptorIndex := 24, attributes := #[] }, { accessFlags := 24, nameIndex := 55, descriptorIndex := 24, attributes := #[] }, { accessFlags := 24, nameIndex := 57, descriptorIndex := 24, attributes := #[] }, { accessFlags := 24, nameIndex := 59, descriptorIndex := 24, attributes := #[] }, { accessFlags := 24, nameIndex := 61, descriptorIndex := 24, attributes := #[] }, { accessFlags := 24, nameIndex := 63, descriptorIndex := 24, attributes := #[] }, { accessFlags := 24, nameIndex := 65, descriptorIndex := 24, attributes := #[] }, { accessFlags := 24, nameIndex := 67, descriptorIndex := 24, attributes := #[] }, { accessFlags := 24, nameIndex := 69, descriptorIndex := 24, attributes := #[] }, { accessFlags := 24, nameIndex := 71, descriptorIndex := 24, attributes := #[] }, { accessFlags := 24, nameIndex := 73, descriptorIndex := 24, attributes := #[] }, { accessFlags := 24, nameIndex := 75, descriptorIndex := 24, attributes := #[] }, { accessFlags := 24, nameIndex := 77, descriptorIndex := 24, attributes := #[] }, { accessFlags := 24, nameIndex := 79, descriptorIndex := 24, attributes := #[] }, { accessFlags := 24, nameIndex := 81, descriptorIndex := 24, attributes := #[] }, { accessFlags := 24, nameIndex := 83, descriptorIndex := 24, attributes := #[] }, { accessFlags := 24, nameIndex := 85, descriptorIndex := 24, attributes := #[] }, { accessFlags := 24, nameIndex := 87, descriptorIndex := 24, attributes := #[] }, { accessFlags := 24, nameIndex := 89, descriptorIndex := 24, attributes := #[] }, { accessFlags := 24, nameIndex := 91, descriptorIndex := 24, attributes := #[] }, { accessFlags := 24, nameIndex := 93, descriptorIndex := 24, attributes := #[] }, { accessFlags := 24, nameIndex := 95, descriptorIndex := 24, attributes := #[] }, { accessFlags := 24, nameIndex := 97, descriptorIndex := 24, attributes := #[] }, { accessFlags := 24, nameIndex := 99, descriptorIndex := 24, attributes := #[] }, { accessFlags := 24, nameIndex := 101, descriptorIndex := 24, attributes := #[] }, { accessFlags := 24, nameIndex := 103, descriptorIndex := 24, attributes := #[] }])
  fields := #[{ name := "UNKNOWN", type := .int, accessFlags := 24, slot := 0, constantValue := 0 }, { name := "BOOL", type := .int, accessFlags := 24, slot := 1, constantValue := 0 }, { name := "INT8", type := .int, accessFlags := 24, slot := 2, constantValue := 0 }, { name := "INT16", type := .int, accessFlags := 24, slot := 3, constantValue := 0 }, { name := "INT32", type := .int, accessFlags := 24, slot := 4, constantValue := 0 }, { name := "VAR_INT32", type := .int, accessFlags := 24, slot := 5, constantValue := 0 }, { name := "INT64", type := .int, accessFlags := 24, slot := 6, constantValue := 0 }, { name := "VAR_INT64", type := .int, accessFlags := 24, slot := 7, constantValue := 0 }, { name := "SLI_INT64", type := .int, accessFlags := 24, slot := 8, constantValue := 0 }, { name := "FLOAT16", type := .int, accessFlags := 24, slot := 9, constantValue := 0 }, { name := "FLOAT32", type := .int, accessFlags := 24, slot := 10, constantValue := 0 }, { name := "FLOAT64", type := .int, accessFlags := 24, slot := 11, constantValue := 0 }, { name := "STRING", type := .int, accessFlags := 24, slot := 12, constantValue := 0 }, { name := "ENUM", type := .int, accessFlags := 24, slot := 13, constantValue := 0 }, { name := "NAMED_ENUM", type := .int, accessFlags := 24, slot := 14, constantValue := 0 }, { name := "STRUCT", type := .int, accessFlags := 24, slot := 15, constantValue := 0 }, { name := "COMPATIBLE_STRUCT", type := .int, accessFlags := 24, slot := 16, constantValue := 0 }, { name := "NAMED_STRUCT", type := .int, accessFlags := 24, slot := 17, constantValue := 0 }, { name := "NAMED_COMPATIBLE_STRUCT", type := .int, accessFlags := 24, slot := 18, constantValue := 0 }, { name := "EXT", type := .int, accessFlags := 24, slot := 19, constantValue := 0 }, { name := "NAMED_EXT", type := .int, accessFlags := 24, slot := 20, constantValue := 0 }, { name := "LIST", type := .int, accessFlags := 24, slot := 21, constantValue := 0 }, { name := "SET", type := .int, accessFlags := 24, slot := 22, constantValue := 0 }, { name := "MAP", type := .int, accessFlags := 24, slot := 23, constantValue := 0 }, { name := "DURATION", type := .int, accessFlags := 24, slot := 24, constantValue := 0 }, { name := "TIMESTAMP", type := .int, accessFlags := 24, slot := 25, constantValue := 0 }, { name := "LOCAL_DATE", type := .int, accessFlags := 24, slot := 26, constantValue := 0 }, { name := "DECIMAL", type := .int, accessFlags := 24, slot := 27, constantValue := 0 }, { name := "BINARY", type := .int, accessFlags := 24, slot := 28, constantValue := 0 }, { name := "ARRAY", type := .int, accessFlags := 24, slot := 29, constantValue := 0 }, { name := "BOOL_ARRAY", type := .int, accessFlags := 24, slot := 30, constantValue := 0 }, { name := "INT8_ARRAY", type := .int, accessFlags := 24, slot := 31, constantValue := 0 }, { name := "INT16_ARRAY", type := .int, accessFlags := 24, slot := 32, constantValue := 0 }, { name := "INT32_ARRAY", type := .int, accessFlags := 24, slot := 33, constantValue := 0 }, { name := "INT64_ARRAY", type := .int, accessFlags := 24, slot := 34, constantValue := 0 }, { name := "FLOAT16_ARRAY", type := .int, accessFlags := 24, slot := 35, constantValue := 0 }, { name := "FLOAT32_ARRAY", type := .int, accessFlags := 24, slot := 36, constantValue := 0 }, { name := "FLOAT64_ARRAY", type := .int, accessFlags := 24, slot := 37, constantValue := 0 }, { name := "TENSOR", type := .int, accessFlags := 24, slot := 38, constantValue := 0 }, { name := "MAX_USER_ID", type := .int, accessFlags := 24, slot := 39, constantValue := 0 }]
  methods := #[k2m0, k2m1]
  instanceTypes := #[]
  staticTypes := #[.int, .int, .int, .int, .int, .int, .int, .int, .int, .int, .int, .int, .int, .int, .int, .int, .int, .int, .int, .int, .int, .int, .int, .int, .int, .int, .int, .int, .int, .int, .int, .int, .int, .int, .int, .int, .int, .int, .int, .int]
  resolved := Array.replicate 133 none
  statics := none }

def pool3 : Array CpInfo := pool [(1, u "java/lang/Cloneable"), (0, .class_ 1), (0, u "java/lang/Object"), (0, .class_ 3)] 3

/-- java/lang/Cloneable -/
def k3 : Class := { plain "java/lang/Cloneable" (some 0) with
  accessFlags := 1537
  interfaces := #[]
  cf := some (fileOf pool3 2 #[] #[] 1537 4 #[] #[])
  fields := #[]
  methods := #[]
  instanceTypes := #[]
  staticTypes := #[]
  resolved := Array.replicate 8 none
  statics := none }

def pool4 : Array CpInfo := pool [(1, u "java/io/Serializable"), (0, .class_ 1), (0, u "java/lang/Object"), (0, .class_ 3)] 3

/-- java/io/Serializable -/
def k4 : Class := { plain "java/io/Serializable" (some 0) with
  accessFlags := 1537
  interfaces := #[]
  cf := some (fileOf pool4 2 #[] #[] 1537 4 #[] #[])
  fields := #[]
  methods := #[]
  instanceTypes := #[]
  staticTypes := #[]
  resolved := Array.replicate 8 none
  statics := none }

/-- the primitive byte -/
def k5 : Class := { plain "byte" none with kind := .primitive 'B', accessFlags := 0x411 }
/-- [B -/
def k6 : Class := { plain "[B" (some 0) with kind := .array 5 .byte, interfaces := #[3, 4], accessFlags := 1041 }

/-- the primitive int -/
def k7 : Class := { plain "int" none with kind := .primitive 'I', accessFlags := 0x411 }
/-- [I -/
def k8 : Class := { plain "[I" (some 0) with kind := .array 7 .int, interfaces := #[3, 4], accessFlags := 1041 }

def heap : Heap := #[]
def classes : Array Class := #[k0, k1, k2, k3, k4, k5, k6, k7, k8]
def interned : List (Array UInt16 × Addr) := []
def slotsUsed : Nat := 0
def theMethod : MethodId := ⟨1, 3⟩
def args0 : Array Value := #[.int 5, .int 7]
def aboutOver (below : List Frame) : State where
  vm := { classes := classes, interned := interned.toArray }
  heap := heap
  slotsUsed := slotsUsed
  threads := #[{ frames := .invoking theMethod args0 :: below }]
def below0 : List Frame := [.native { method := ⟨0, 0⟩, args := #[] }]
def about1 : State := aboutOver below0
def p0 : Program := .bare "" "" ""
def e0 : Env := launch0.env 0 0 0
theorem w_frames : about1.frames = Frame.invoking theMethod args0 :: below0 := rfl
set_option maxRecDepth 65536 in
theorem w_args : argsFit about1.vm theMethod args0 = true := by decide +kernel
set_option maxRecDepth 65536 in
theorem w_heap : heapFits about1 = true := by decide +kernel
set_option maxRecDepth 65536 in
theorem w_runnable : about1.curStatus? = some .runnable := by decide +kernel
set_option maxRecDepth 65536 in
theorem w_alone : about1.alone = true := by decide +kernel
set_option maxRecDepth 65536 in
theorem w_named : about1.methodNamed? x = some theMethod := by decide +kernel
set_option maxRecDepth 65536 in
theorem w_hears : about1.hears theMethod below0 = true := by decide +kernel
set_option maxRecDepth 65536 in
theorem w_ripe : about1.ripe theMethod args0 below0 = true := by decide +kernel
theorem w_running : about1.status = .running := rfl
set_option maxRecDepth 65536 in
theorem w_room : about1.hasRoom e0.platform room_1 = true :=
  launch0.hasRoom_least _ room_1 (by decide +kernel) (by decide +kernel) (by decide +kernel) (by decide +kernel) (by decide +kernel) (by decide +kernel)
theorem allAtoms_all (ts : List Jvm.Cond) (a : Array Jvm.Value) (st : Jvm.State) : (allAtoms ts).before a st = ts.all (fun c => c.before a st) := by
  induction ts with
  | nil => rfl
  | cons c t ih =>
    show (Jvm.Cond.and c (allAtoms t)).before a st = _
    rw [Jvm.Cond.before_and, ih, List.all_cons]
def words1 : List Jvm.Cond := Jvm.Cond.code x code maxLocals ret :: tables_1
/-- a 'code' word, met by the world's own term for the bytes: nothing is compared byte by byte -/
theorem code_word {y : MethodName} {bytes : ByteArray} {mx : Nat} {rt : Option FieldType} {a : Array Value} {s : State} {m : MethodId} {meth : Method} {c : Code} (h1 : s.methodNamed? y = some m) (h2 : s.vm.method? m = some meth) (h3 : meth.code = some c) (h4 : c.code = bytes)
    (h5 : (c.maxLocals == mx && c.exceptionTable.isEmpty && decide (c.maxStack ≤ mostOperands) && decide (meth.sig.returnType = rt) && !meth.locks && decide (parseMethodDescriptor y.desc = some meth.sig)) = true) : (Jvm.Cond.code y bytes mx rt).before a s = true := by
  simp only [Bool.and_eq_true, beq_iff_eq, Bool.not_eq_true', decide_eq_true_eq] at h5
  obtain ⟨⟨⟨⟨⟨g1, g2⟩, g3⟩, g4⟩, g5⟩, g6⟩ := h5
  simp [Cond.before, Cond.holds, Cond.value, h1, h2, h3, h4, g1, g2, g3, g4, g5, g6]
def isCode : Jvm.Cond → Bool
  | .code _ _ _ _ => true
  | _ => false
theorem all_split {L : List Jvm.Cond} {P : Jvm.Cond → Bool} (h1 : L.all (fun c => isCode c || P c) = true) (h2 : ∀ c ∈ L.filter isCode, P c = true) : L.all P = true := by
  refine List.all_eq_true.mpr fun c hc => ?_
  have h := List.all_eq_true.mp h1 c hc
  rcases Bool.eq_false_or_eq_true (isCode c) with hi | hi
  · exact h2 c (List.mem_filter.mpr ⟨hc, hi⟩)
  · simpa [hi] using h
set_option maxRecDepth 65536 in
theorem w_c0 : (Jvm.Cond.code x code maxLocals ret).before args0 about1 = true := code_word (m := ⟨1, 3⟩) (meth := k1m3) (c := k1c3) (by decide +kernel) rfl rfl rfl (by decide +kernel)
set_option maxRecDepth 65536 in
theorem w_c1 : (Jvm.Cond.code ({ cls := "com/example/crossweave/crossweave/TypeIdsIsKindByNamePinLaw", name := "check", desc := "(I)Z" } : Jvm.MethodName) method_3_code (1 : Nat) (Option.some Jvm.ClassFile.FieldType.boolean)).before args0 about1 = true := code_word (m := ⟨1, 2⟩) (meth := k1m2) (c := k1c2) (by decide +kernel) rfl rfl rfl (by decide +kernel)
set_option maxRecDepth 65536 in
theorem w_c2 : (Jvm.Cond.code ({ cls := "com/example/crossweave/crossweave/TypeIds", name := "isKindByName", desc := "(I)Z" } : Jvm.MethodName) prog_59_method_4_code (1 : Nat) (Option.some Jvm.ClassFile.FieldType.boolean)).before args0 about1 = true := code_word (m := ⟨2, 1⟩) (meth := k2m1) (c := k2c1) (by decide +kernel) rfl rfl rfl (by decide +kernel)
set_option maxRecDepth 65536 in
theorem w_c3 : (Jvm.Cond.code ({ cls := "com/example/crossweave/crossweave/TypeIdsIsKindByNamePinLaw", name := "reference", desc := "(I)Z" } : Jvm.MethodName) method_2_code (1 : Nat) (Option.some Jvm.ClassFile.FieldType.boolean)).before args0 about1 = true := code_word (m := ⟨1, 1⟩) (meth := k1m1) (c := k1c1) (by decide +kernel) rfl rfl rfl (by decide +kernel)
def codes1 : List Jvm.Cond := [Jvm.Cond.code x code maxLocals ret, Jvm.Cond.code ({ cls := "com/example/crossweave/crossweave/TypeIdsIsKindByNamePinLaw", name := "check", desc := "(I)Z" } : Jvm.MethodName) method_3_code (1 : Nat) (Option.some Jvm.ClassFile.FieldType.boolean), Jvm.Cond.code ({ cls := "com/example/crossweave/crossweave/TypeIds", name := "isKindByName", desc := "(I)Z" } : Jvm.MethodName) prog_59_method_4_code (1 : Nat) (Option.some Jvm.ClassFile.FieldType.boolean), Jvm.Cond.code ({ cls := "com/example/crossweave/crossweave/TypeIdsIsKindByNamePinLaw", name := "reference", desc := "(I)Z" } : Jvm.MethodName) method_2_code (1 : Nat) (Option.some Jvm.ClassFile.FieldType.boolean)]
set_option maxRecDepth 65536 in
theorem codes_eq : words1.filter isCode = codes1 := rfl
theorem w_codes : ∀ c ∈ words1.filter isCode, c.before args0 about1 = true := by
  rw [codes_eq]
  intro c hc
  simp only [codes1, List.mem_cons, List.not_mem_nil, or_false] at hc
  rcases hc with rfl | rfl | rfl | rfl
  · exact w_c0
  · exact w_c1
  · exact w_c2
  · exact w_c3
set_option maxRecDepth 65536 in
theorem w_t1 : words1.all (fun c => isCode c || c.before args0 about1) = true := by decide +kernel
theorem w_tables : (allAtoms (Jvm.Cond.code x code maxLocals ret :: tables_1)).before args0 about1 = true := by
  rw [allAtoms_all]
  show words1.all (fun c => c.before args0 about1) = true
  refine all_split ?_ w_codes
  rw [w_t1]
set_option maxRecDepth 65536 in
theorem w_case : (Jvm.Cond.and given_1 narrow_1).before args0 about1 = true := by decide +kernel
theorem w_applies : (headSpec (Jvm.Cond.code x code maxLocals ret :: tables_1) room_1).applies x e0.platform about1 = true :=
  (Spec.applies_iff w_frames).mpr ⟨w_running, w_runnable, w_alone, w_named, w_hears, w_ripe, w_room, w_tables⟩
theorem atStart : AtStart classFile x code maxLocals ret World_1 tables_1 room_1 Calls_1 rest_1 Pre_1 launch0 p0 e0 about1 theMethod args0 below0 :=
  ⟨lists_1, trivial, launch0.admits_env _ _ _, launch0.least_env, fairChoices_fair.cas, fairChoices_fair.clock, w_frames, w_args, w_heap, w_applies, trivial, trivial, w_case⟩
end start1
theorem witness_1 : WitnessClaimed_1 := ⟨start1.p0, start1.e0, start1.about1, start1.theMethod, start1.args0, start1.below0, start1.atStart⟩
end Jvm.Pilot.@@N@@
