import JvmDerived
import JvmDerived.Pilot.@@N@@Statement
import JvmDerived.Pilot.@@N@@Code
set_option linter.unusedVariables false
set_option linter.unusedSimpArgs false
namespace Jvm.RoadKit
open Sem ClassFile Op Lib Jvm.Stand Jvm.Free Jvm.LawKit
section New
variable {p : Program} {l : Launch} {e : Env} {R : Room} {s : State} {m : MethodId} {args : Array Value} {below : List Frame} {meth : Method} {c : Code} {T : State} {locs : List Loc} {cells slots : Nat}
theorem retI (X : Stand p l e R s m args below meth c T locs cells slots) (hx : p.tables.exec = Jvm.exec) {pc : Nat} {Ls : Array Slot} {z : Int32} {rest : List Value} (hret : meth.sig.returnType = some .int) (hd : decode c.code pc = .ok (.ireturn, 1)) {fs : List Frame}
    (hl : ∀ (f : JFrame) (acts : List Action), f.method = m → f.locked = none → f.entered = [] → (doReturn e (T.setTop f) acts (some (.int z))).1 = T.setFrames fs) : Steps p.tables e below (T.setTop (mkF m pc Ls (.int z :: rest))) (T.setFrames fs) := by
  have hm' : T.vm.method? m = some meth := X.method'
  have hn : narrow .int (.int z) = .int z := rfl
  show Steps p.tables e below (T.setTop { method := m, pc := pc, locals := Ls, stack := _ :: rest, locked := none }) _
  jvm_step X.here [X.here.top, hx, hd, hm', hret, hn]
  first | (intro acts; rw [hl _ acts rfl rfl rfl]) | rw [hl _ _ rfl rfl rfl]
  exact Steps.refl _
theorem own_retL (X : Stand p l e R s m args below meth c T locs cells slots) (hx : p.tables.exec = Jvm.exec) {pc : Nat} {Ls : Array Slot} {z : Int64} {rest : List Value} (hret : meth.sig.returnType = some .long) (hd : decode c.code pc = .ok (.lreturn, 1)) {fs : List Frame}
    (hl : ∀ (f : JFrame) (acts : List Action), f.method = m → f.locked = none → f.entered = [] → (doReturn e (T.setTop f) acts (some (.long z))).1 = T.setFrames fs) : Steps p.tables e below (T.setTop (mkF m pc Ls (.long z :: rest))) (T.setFrames fs) := by
  have hm' : T.vm.method? m = some meth := X.method'
  have hn : narrow .long (.long z) = .long z := rfl
  show Steps p.tables e below (T.setTop { method := m, pc := pc, locals := Ls, stack := _ :: rest, locked := none }) _
  jvm_step X.here [X.here.top, hx, hd, hm', hret, hn]
  first | (intro acts; rw [hl _ acts rfl rfl rfl]) | rw [hl _ _ rfl rfl rfl]
  exact Steps.refl _
theorem own_retR (X : Stand p l e R s m args below meth c T locs cells slots) (hx : p.tables.exec = Jvm.exec) {pc : Nat} {Ls : Array Slot} {v : Value} {t : FieldType} {rest : List Value} (hret : meth.sig.returnType = some t) (ht : t.isReference = true) (hv : v.isRef = true) (hd : decode c.code pc = .ok (.areturn, 1)) {fs : List Frame}
    (hl : ∀ (f : JFrame) (acts : List Action), f.method = m → f.locked = none → f.entered = [] → (doReturn e (T.setTop f) acts (some v)).1 = T.setFrames fs) : Steps p.tables e below (T.setTop (mkF m pc Ls (v :: rest))) (T.setFrames fs) := by
  have hm' : T.vm.method? m = some meth := X.method'
  show Steps p.tables e below (T.setTop { method := m, pc := pc, locals := Ls, stack := _ :: rest, locked := none }) _
  rcases ref_cases hv with rfl | ⟨a, rfl⟩
  · jvm_step X.here [X.here.top, hx, hd, hm', hret, ht, Value.isRef]
    first | (intro acts; rw [hl _ acts rfl rfl rfl]) | rw [hl _ _ rfl rfl rfl]
    exact Steps.refl _
  · jvm_step X.here [X.here.top, hx, hd, hm', hret, ht, Value.isRef]
    first | (intro acts; rw [hl _ acts rfl rfl rfl]) | rw [hl _ _ rfl rfl rfl]
    exact Steps.refl _
end New
/-- an end that the run comes to from S, with what is said of it -/
def OGo (tb : Tables) (e : Env) (below : List Frame) (Φ : State → Outcome → Prop) (S : State) : Prop := ∃ t o, Steps tb e below S t ∧ Φ t o
section Own
variable {tb : Tables} {e : Env} {below : List Frame} {Φ : State → Outcome → Prop} {S S' t : State} {o : Outcome}
theorem OGo.start (pre : ∀ t, Steps tb e below S' t → Steps tb e below S t) (k : OGo tb e below Φ S') : ∃ t o, Steps tb e below S t ∧ Φ t o := by
  obtain ⟨t, o, h1, h2⟩ := k
  exact ⟨t, o, pre t h1, h2⟩
theorem OGo.st (h : ∀ t, Steps tb e below S' t → Steps tb e below S t) (k : OGo tb e below Φ S') : OGo tb e below Φ S := OGo.start h k
theorem OGo.tr (h : Steps tb e below S S') (k : OGo tb e below Φ S') : OGo tb e below Φ S := OGo.start (fun _ q => h.trans q) k
theorem OGo.done (h : Steps tb e below S t) (q : Φ t o) : OGo tb e below Φ S := ⟨t, o, h, q⟩
theorem OGo.join {α : Type} (P : α → Prop) (F : α → State) (h : ∀ v, P v → OGo tb e below Φ (F v)) (k : (∀ v, P v → OGo tb e below Φ (F v)) → OGo tb e below Φ S) : OGo tb e below Φ S := k h
theorem own_fld {Z : State} {h : Heap} {a : Addr} {C n d : String} {v w : Value} (F : Fld Z h a C n d v) (q : v = w) : Fld Z h a C n d w := q ▸ F
end Own
end Jvm.RoadKit
namespace Jvm.Pilot.@@N@@
open Jvm Jvm.ClassFile Sem Op Lib Jvm.Free Jvm.Stand Jvm.LawKit Jvm.RoadKit Bundle Jvm.Pilot.@@N@@.Jvm.D
def own_isText (x : Int32) : Int32 := if x = 9 then 1 else if x < 32 then 0 else if x = 127 then 0 else 1
theorem own_le (x : Int32) (h : ¬ (31 : Int32) < x) : x < 32 := by
  rw [Int32.lt_iff_toInt_lt] at *; have e1 : (31 : Int32).toInt = 31 := rfl; have e2 : (32 : Int32).toInt = 32 := rfl; omega
theorem own_gt (x : Int32) (h : (31 : Int32) < x) : ¬ x < 32 := by
  rw [Int32.lt_iff_toInt_lt] at *; have e1 : (31 : Int32).toInt = 31 := rfl; have e2 : (32 : Int32).toInt = 32 := rfl; omega
theorem d0_0 : decode prog_100_method_4_code 0 = .ok (.iload_n 0, 1) := by decide +kernel
theorem d0_1 : decode prog_100_method_4_code 1 = .ok (.bipush 9, 2) := by decide +kernel
theorem d0_3 : decode prog_100_method_4_code 3 = .ok (.if_icmp .eq 15, 3) := by decide +kernel
theorem d0_6 : decode prog_100_method_4_code 6 = .ok (.iload_n 0, 1) := by decide +kernel
theorem d0_7 : decode prog_100_method_4_code 7 = .ok (.bipush 32, 2) := by decide +kernel
theorem d0_9 : decode prog_100_method_4_code 9 = .ok (.if_icmp .lt 13, 3) := by decide +kernel
theorem d0_12 : decode prog_100_method_4_code 12 = .ok (.iload_n 0, 1) := by decide +kernel
theorem d0_13 : decode prog_100_method_4_code 13 = .ok (.bipush 127, 2) := by decide +kernel
theorem d0_15 : decode prog_100_method_4_code 15 = .ok (.if_icmp .eq 7, 3) := by decide +kernel
theorem d0_18 : decode prog_100_method_4_code 18 = .ok (.iconst 1, 1) := by decide +kernel
theorem d0_19 : decode prog_100_method_4_code 19 = .ok (.goto 4, 3) := by decide +kernel
theorem d0_22 : decode prog_100_method_4_code 22 = .ok (.iconst 0, 1) := by decide +kernel
theorem d0_23 : decode prog_100_method_4_code 23 = .ok (.ireturn, 1) := by decide +kernel
theorem pn_0 : plainName "com/example/portcullis/portcullis/server/Syntax" = true := by first | (simp [plainName, overriddenIn]; done) | decide +kernel
theorem ef_0 (m : MethodId) (x0 : Int32) : entryFrame m #[(.int x0)] 1 = mkF m 0 #[.val (.int x0)] [] := by first | (simp [entryFrame, mkF, argsToLocals, Value.category]; done) | rfl
def Q0 (Z : State) (p0 : Int32) (h0 : Heap) (n0 : Nat) (v : Option Value) (h : Heap) (L : List Loc) : Prop := v = some (.int (own_isText p0)) ∧ Fr n0 L ∧ h = h0
set_option maxRecDepth 65536 in
set_option maxHeartbeats 40000000 in
theorem rm0 (l : Launch) (Z : State) (ar : Array Value) (hw : ∀ d ∈ tables_1, d.before ar Z = true) (ws : List Jvm.Cond) (p0 : Int32) (h0 : Heap) (n0 : Nat) (Z0 : n0 ≤ h0.size)  :
    MetFree l (⟨"com/example/portcullis/portcullis/server/Syntax", "isText", "(I)Z"⟩ : MethodName) (head1 (Jvm.Cond.code (⟨"com/example/portcullis/portcullis/server/Syntax", "isText", "(I)Z"⟩ : MethodName) prog_100_method_4_code 1 (some .boolean) :: ws) ({ frames := 0, cells := 0, slots := 0, locals := 0 } : Room)) (fun a U => a = #[(.int p0)] ∧ Z.Warmed39 U.vm ∧ U.heap = h0) (fun _ _ _ _ _ => True) (fun _ U o U' => ∃ v L, o = .returned v ∧ Q0 Z p0 h0 n0 v U'.heap L ∧ FrameEnd U o U' L ({ frames := 0, cells := 0, slots := 0, locals := 0 } : Room).cells ({ frames := 0, cells := 0, slots := 0, locals := 0 } : Room).slots) := by
  refine MetFree.of_bodySF (plainFor_of_name pn_0) hisR ?_
  intro p e s m args below meth c s₁ Bd hml0 hP hK
  obtain ⟨rfl, hZ, hh⟩ := hP
  have hx := Bd.exec
  have hby := Bd.bytes
  have hml : c.maxLocals = 1 := hml0
  have hown : s.vm.findClass "com/example/portcullis/portcullis/server/Syntax" = some m.cls := findClass_of_methodNamed Bd.named
  have hnm := (name_of_methodNamed Bd.named Bd.method).1
  have X0 : Stand p l e ({ frames := 0, cells := 0, slots := 0, locals := 0 } : Room) s m #[(.int p0)] below meth c s₁ [] 0 0 := Stand.of_body Bd
  have e0 : s₁.heap = h0 := by rw [← hh, Bd.state]; rfl
  have N0 := Fr.nil n0
  have pre0 : ∀ t, Steps p.tables e below (s₁.setTop (mkF m 0 #[.val (.int p0)] [])) t → Steps p.tables e below (s₁.setTop (entryFrame m #[(.int p0)] 1)) t := fun t k => castTop (ef_0 m p0) k
  refine OGo.start pre0 ?_
  show OGo p.tables e below _ (s₁.setTop (mkF m 0 #[.val (.int p0)] []))
  refine OGo.st (fun t k => XS.iloadN X0.here hx rfl (hb hby d0_0) rfl k) ?_
  show OGo p.tables e below _ (s₁.setTop (mkF m 1 #[.val (.int p0)] [(.int p0)]))
  refine OGo.st (fun t k => XS.bipush X0.here hx rfl (hb hby d0_1) k) ?_
  show OGo p.tables e below _ (s₁.setTop (mkF m 3 #[.val (.int p0)] [(.int (9 : Int32)), (.int p0)]))
  by_cases hc3_101 : p0 = (9 : Int32)
  ·
    refine OGo.st (fun t k => XS.icmpYes X0.here hx rfl (pc0 := 3) (pc' := 18) rfl (hb hby d0_3) rfl (teq hc3_101).1 (by decide) (by decide) k) ?_
    show OGo p.tables e below _ (s₁.setTop (mkF m 18 #[.val (.int p0)] []))
    refine OGo.st (fun t k => XS.iconst X0.here hx rfl (hb hby d0_18) k) ?_
    show OGo p.tables e below _ (s₁.setTop (mkF m 19 #[.val (.int p0)] [(.int (1 : Int32))]))
    refine OGo.st (fun t k => XS.goto X0.here hx rfl (pc0 := 19) (pc' := 23) rfl (hb hby d0_19) (by decide) (by decide) k) ?_
    show OGo p.tables e below _ (s₁.setTop (mkF m 23 #[.val (.int p0)] [(.int (1 : Int32))]))
    obtain ⟨fs, hr, hrun, hended, hW, hsame⟩ := X0.leave (v := some (.int (1 : Int32))) (fun h => by rw [Bd.returns] at h; cases h)
    refine OGo.done (retN X0 hx (t := .boolean) Bd.returns (by simp) (hb hby d0_23) hr) ⟨hrun, hended, _, _, rfl, ?_, ⟨_, rfl⟩, hW, hsame.mono (by decide) (by decide)⟩
    show Q0 Z p0 h0 n0 _ s₁.heap _
    rw [e0]
    exact ⟨(congrArg (fun z => some (Value.int z)) (show (1 : Int32) = (own_isText p0) from by simp [own_isText, *])), N0, rfl⟩
  ·
    refine OGo.st (fun t k => XS.icmpNo X0.here hx rfl (hb hby d0_3) rfl (feq hc3_101).1 k) ?_
    show OGo p.tables e below _ (s₁.setTop (mkF m 6 #[.val (.int p0)] []))
    refine OGo.st (fun t k => XS.iloadN X0.here hx rfl (hb hby d0_6) rfl k) ?_
    show OGo p.tables e below _ (s₁.setTop (mkF m 7 #[.val (.int p0)] [(.int p0)]))
    refine OGo.st (fun t k => XS.bipush X0.here hx rfl (hb hby d0_7) k) ?_
    show OGo p.tables e below _ (s₁.setTop (mkF m 9 #[.val (.int p0)] [(.int (32 : Int32)), (.int p0)]))
    by_cases hc9_103 : p0 < (32 : Int32)
    ·
      refine OGo.st (fun t k => XS.icmpYes X0.here hx rfl (pc0 := 9) (pc' := 22) rfl (hb hby d0_9) rfl (tlt hc9_103).1 (by decide) (by decide) k) ?_
      show OGo p.tables e below _ (s₁.setTop (mkF m 22 #[.val (.int p0)] []))
      refine OGo.st (fun t k => XS.iconst X0.here hx rfl (hb hby d0_22) k) ?_
      show OGo p.tables e below _ (s₁.setTop (mkF m 23 #[.val (.int p0)] [(.int (0 : Int32))]))
      obtain ⟨fs, hr, hrun, hended, hW, hsame⟩ := X0.leave (v := some (.int (0 : Int32))) (fun h => by rw [Bd.returns] at h; cases h)
      refine OGo.done (retN X0 hx (t := .boolean) Bd.returns (by simp) (hb hby d0_23) hr) ⟨hrun, hended, _, _, rfl, ?_, ⟨_, rfl⟩, hW, hsame.mono (by decide) (by decide)⟩
      show Q0 Z p0 h0 n0 _ s₁.heap _
      rw [e0]
      exact ⟨(congrArg (fun z => some (Value.int z)) (show (0 : Int32) = (own_isText p0) from by simp [own_isText, *])), N0, rfl⟩
    ·
      refine OGo.st (fun t k => XS.icmpNo X0.here hx rfl (hb hby d0_9) rfl (flt hc9_103).1 k) ?_
      show OGo p.tables e below _ (s₁.setTop (mkF m 12 #[.val (.int p0)] []))
      refine OGo.st (fun t k => XS.iloadN X0.here hx rfl (hb hby d0_12) rfl k) ?_
      show OGo p.tables e below _ (s₁.setTop (mkF m 13 #[.val (.int p0)] [(.int p0)]))
      refine OGo.st (fun t k => XS.bipush X0.here hx rfl (hb hby d0_13) k) ?_
      show OGo p.tables e below _ (s₁.setTop (mkF m 15 #[.val (.int p0)] [(.int (127 : Int32)), (.int p0)]))
      by_cases hc15_105 : p0 = (127 : Int32)
      ·
        refine OGo.st (fun t k => XS.icmpYes X0.here hx rfl (pc0 := 15) (pc' := 22) rfl (hb hby d0_15) rfl (teq hc15_105).1 (by decide) (by decide) k) ?_
        show OGo p.tables e below _ (s₁.setTop (mkF m 22 #[.val (.int p0)] []))
        refine OGo.st (fun t k => XS.iconst X0.here hx rfl (hb hby d0_22) k) ?_
        show OGo p.tables e below _ (s₁.setTop (mkF m 23 #[.val (.int p0)] [(.int (0 : Int32))]))
        obtain ⟨fs, hr, hrun, hended, hW, hsame⟩ := X0.leave (v := some (.int (0 : Int32))) (fun h => by rw [Bd.returns] at h; cases h)
        refine OGo.done (retN X0 hx (t := .boolean) Bd.returns (by simp) (hb hby d0_23) hr) ⟨hrun, hended, _, _, rfl, ?_, ⟨_, rfl⟩, hW, hsame.mono (by decide) (by decide)⟩
        show Q0 Z p0 h0 n0 _ s₁.heap _
        rw [e0]
        exact ⟨(congrArg (fun z => some (Value.int z)) (show (0 : Int32) = (own_isText p0) from by simp [own_isText, *])), N0, rfl⟩
      ·
        refine OGo.st (fun t k => XS.icmpNo X0.here hx rfl (hb hby d0_15) rfl (feq hc15_105).1 k) ?_
        show OGo p.tables e below _ (s₁.setTop (mkF m 18 #[.val (.int p0)] []))
        refine OGo.st (fun t k => XS.iconst X0.here hx rfl (hb hby d0_18) k) ?_
        show OGo p.tables e below _ (s₁.setTop (mkF m 19 #[.val (.int p0)] [(.int (1 : Int32))]))
        refine OGo.st (fun t k => XS.goto X0.here hx rfl (pc0 := 19) (pc' := 23) rfl (hb hby d0_19) (by decide) (by decide) k) ?_
        show OGo p.tables e below _ (s₁.setTop (mkF m 23 #[.val (.int p0)] [(.int (1 : Int32))]))
        obtain ⟨fs, hr, hrun, hended, hW, hsame⟩ := X0.leave (v := some (.int (1 : Int32))) (fun h => by rw [Bd.returns] at h; cases h)
        refine OGo.done (retN X0 hx (t := .boolean) Bd.returns (by simp) (hb hby d0_23) hr) ⟨hrun, hended, _, _, rfl, ?_, ⟨_, rfl⟩, hW, hsame.mono (by decide) (by decide)⟩
        show Q0 Z p0 h0 n0 _ s₁.heap _
        rw [e0]
        exact ⟨(congrArg (fun z => some (Value.int z)) (show (1 : Int32) = (own_isText p0) from by simp [own_isText, *])), N0, rfl⟩
theorem pd_0 : parseMethodDescriptor "(I)Z" = some ⟨[.int], some .boolean⟩ := by decide +kernel
theorem pn_1 : plainName "com/example/portcullis/portcullis/server/SyntaxIsTextPinLaw" = true := by first | (simp [plainName, overriddenIn]; done) | decide +kernel
theorem ef_1 (m : MethodId) (x0 : Int32) : entryFrame m #[(.int x0)] maxLocals = mkF m 0 #[.val (.int x0), .unset, .unset, .unset] [] := by first | (simp [entryFrame, mkF, argsToLocals, Value.category, maxLocals]; done) | rfl
def Q1 (Z : State) (p0 : Int32) (h0 : Heap) (n0 : Nat) (v : Option Value) (h : Heap) (L : List Loc) : Prop := v = some (.int (1 : Int32)) ∧ Fr n0 L
set_option maxRecDepth 65536 in
set_option maxHeartbeats 40000000 in
theorem rm1 (l : Launch) (Z : State) (ar : Array Value) (hw : ∀ d ∈ tables_1, d.before ar Z = true) (ws : List Jvm.Cond) (p0 : Int32) (h0 : Heap) (n0 : Nat) (Z0 : n0 ≤ h0.size)  :
    MetFree l x (head1 (Jvm.Cond.code x code maxLocals ret :: ws) room_1) (fun a U => a = #[(.int p0)] ∧ Z.Warmed39 U.vm ∧ U.heap = h0) (fun _ _ _ _ _ => True) (fun _ U o U' => ∃ v L, o = .returned v ∧ Q1 Z p0 h0 n0 v U'.heap L ∧ FrameEnd U o U' L room_1.cells room_1.slots) := by
  refine MetFree.of_bodySF (plainFor_of_name pn_1) hisR ?_
  intro p e s m args below meth c s₁ Bd hml0 hP hK
  obtain ⟨rfl, hZ, hh⟩ := hP
  have hx := Bd.exec
  have hby := Bd.bytes
  have hml : c.maxLocals = 4 := hml0
  have hown : s.vm.findClass "com/example/portcullis/portcullis/server/SyntaxIsTextPinLaw" = some m.cls := findClass_of_methodNamed Bd.named
  have hnm := (name_of_methodNamed Bd.named Bd.method).1
  have X0 : Stand p l e room_1 s m #[(.int p0)] below meth c s₁ [] 0 0 := Stand.of_body Bd
  have e0 : s₁.heap = h0 := by rw [← hh, Bd.state]; rfl
  have N0 := Fr.nil n0
  have pre0 : ∀ t, Steps p.tables e below (s₁.setTop (mkF m 0 #[.val (.int p0), .unset, .unset, .unset] [])) t → Steps p.tables e below (s₁.setTop (entryFrame m #[(.int p0)] maxLocals)) t := fun t k => castTop (ef_1 m p0) k
  refine OGo.start pre0 ?_
  show OGo p.tables e below _ (s₁.setTop (mkF m 0 #[.val (.int p0), .unset, .unset, .unset] []))
  refine OGo.st (fun t k => XS.iloadN X0.here hx rfl (hb hby at_0) rfl k) ?_
  show OGo p.tables e below _ (s₁.setTop (mkF m 1 #[.val (.int p0), .unset, .unset, .unset] [(.int p0)]))
  refine OGo.st (fun t k => XS.sipush X0.here hx rfl (hb hby at_1) k) ?_
  show OGo p.tables e below _ (s₁.setTop (mkF m 4 #[.val (.int p0), .unset, .unset, .unset] [(.int (255 : Int32)), (.int p0)]))
  refine OGo.st (fun t k => XS.iand X0.here hx rfl (hb hby at_4) rfl k) ?_
  show OGo p.tables e below _ (s₁.setTop (mkF m 5 #[.val (.int p0), .unset, .unset, .unset] [(.int (p0 &&& (255 : Int32)))]))
  refine OGo.st (fun t k => XS.istoreN X0.here hx rfl (hb hby at_5) rfl (l' := #[.val (.int p0), .val (.int (p0 &&& (255 : Int32))), .unset, .unset]) rfl k) ?_
  show OGo p.tables e below _ (s₁.setTop (mkF m 6 #[.val (.int p0), .val (.int (p0 &&& (255 : Int32))), .unset, .unset] []))
  refine OGo.st (fun t k => XS.iloadN X0.here hx rfl (hb hby at_6) rfl k) ?_
  show OGo p.tables e below _ (s₁.setTop (mkF m 7 #[.val (.int p0), .val (.int (p0 &&& (255 : Int32))), .unset, .unset] [(.int (p0 &&& (255 : Int32)))]))
  refine OGo.st (fun t k => XS.bipush X0.here hx rfl (hb hby at_7) k) ?_
  show OGo p.tables e below _ (s₁.setTop (mkF m 9 #[.val (.int p0), .val (.int (p0 &&& (255 : Int32))), .unset, .unset] [(.int (31 : Int32)), (.int (p0 &&& (255 : Int32)))]))
  by_cases hc9_101 : (31 : Int32) < (p0 &&& (255 : Int32))
  ·
    refine OGo.st (fun t k => XS.icmpNo X0.here hx rfl (hb hby at_9) rfl (tlt hc9_101).2.2.2 k) ?_
    show OGo p.tables e below _ (s₁.setTop (mkF m 12 #[.val (.int p0), .val (.int (p0 &&& (255 : Int32))), .unset, .unset] []))
    refine OGo.st (fun t k => XS.iloadN X0.here hx rfl (hb hby at_12) rfl k) ?_
    show OGo p.tables e below _ (s₁.setTop (mkF m 13 #[.val (.int p0), .val (.int (p0 &&& (255 : Int32))), .unset, .unset] [(.int (p0 &&& (255 : Int32)))]))
    refine OGo.st (fun t k => XS.bipush X0.here hx rfl (hb hby at_13) k) ?_
    show OGo p.tables e below _ (s₁.setTop (mkF m 15 #[.val (.int p0), .val (.int (p0 &&& (255 : Int32))), .unset, .unset] [(.int (127 : Int32)), (.int (p0 &&& (255 : Int32)))]))
    by_cases hc15_102 : (p0 &&& (255 : Int32)) = (127 : Int32)
    ·
      refine OGo.st (fun t k => XS.icmpNo X0.here hx rfl (hb hby at_15) rfl (teq hc15_102).2 k) ?_
      show OGo p.tables e below _ (s₁.setTop (mkF m 18 #[.val (.int p0), .val (.int (p0 &&& (255 : Int32))), .unset, .unset] []))
      refine OGo.st (fun t k => XS.iconst X0.here hx rfl (hb hby at_18) k) ?_
      show OGo p.tables e below _ (s₁.setTop (mkF m 19 #[.val (.int p0), .val (.int (p0 &&& (255 : Int32))), .unset, .unset] [(.int (1 : Int32))]))
      refine OGo.st (fun t k => XS.goto X0.here hx rfl (pc0 := 19) (pc' := 23) rfl (hb hby at_19) (by decide) (by decide) k) ?_
      show OGo p.tables e below _ (s₁.setTop (mkF m 23 #[.val (.int p0), .val (.int (p0 &&& (255 : Int32))), .unset, .unset] [(.int (1 : Int32))]))
      refine OGo.st (fun t k => XS.istoreN X0.here hx rfl (hb hby at_23) rfl (l' := #[.val (.int p0), .val (.int (p0 &&& (255 : Int32))), .val (.int (1 : Int32)), .unset]) rfl k) ?_
      show OGo p.tables e below _ (s₁.setTop (mkF m 24 #[.val (.int p0), .val (.int (p0 &&& (255 : Int32))), .val (.int (1 : Int32)), .unset] []))
      refine OGo.st (fun t k => XS.iloadN X0.here hx rfl (hb hby at_24) rfl k) ?_
      show OGo p.tables e below _ (s₁.setTop (mkF m 25 #[.val (.int p0), .val (.int (p0 &&& (255 : Int32))), .val (.int (1 : Int32)), .unset] [(.int (p0 &&& (255 : Int32)))]))
      refine OGo.st (fun t k => XS.bipush X0.here hx rfl (hb hby at_25) k) ?_
      show OGo p.tables e below _ (s₁.setTop (mkF m 27 #[.val (.int p0), .val (.int (p0 &&& (255 : Int32))), .val (.int (1 : Int32)), .unset] [(.int (9 : Int32)), (.int (p0 &&& (255 : Int32)))]))
      by_cases hc27_103 : (p0 &&& (255 : Int32)) = (9 : Int32)
      ·
        refine OGo.st (fun t k => XS.icmpYes X0.here hx rfl (pc0 := 27) (pc' := 34) rfl (hb hby at_27) rfl (teq hc27_103).1 (by decide) (by decide) k) ?_
        show OGo p.tables e below _ (s₁.setTop (mkF m 34 #[.val (.int p0), .val (.int (p0 &&& (255 : Int32))), .val (.int (1 : Int32)), .unset] []))
        refine OGo.st (fun t k => XS.iconst X0.here hx rfl (hb hby at_34) k) ?_
        show OGo p.tables e below _ (s₁.setTop (mkF m 35 #[.val (.int p0), .val (.int (p0 &&& (255 : Int32))), .val (.int (1 : Int32)), .unset] [(.int (1 : Int32))]))
        refine OGo.st (fun t k => XS.goto X0.here hx rfl (pc0 := 35) (pc' := 39) rfl (hb hby at_35) (by decide) (by decide) k) ?_
        show OGo p.tables e below _ (s₁.setTop (mkF m 39 #[.val (.int p0), .val (.int (p0 &&& (255 : Int32))), .val (.int (1 : Int32)), .unset] [(.int (1 : Int32))]))
        refine OGo.st (fun t k => XS.istoreN X0.here hx rfl (hb hby at_39) rfl (l' := #[.val (.int p0), .val (.int (p0 &&& (255 : Int32))), .val (.int (1 : Int32)), .val (.int (1 : Int32))]) rfl k) ?_
        show OGo p.tables e below _ (s₁.setTop (mkF m 40 #[.val (.int p0), .val (.int (p0 &&& (255 : Int32))), .val (.int (1 : Int32)), .val (.int (1 : Int32))] []))
        refine OGo.st (fun t k => XS.iloadN X0.here hx rfl (hb hby at_40) rfl k) ?_
        show OGo p.tables e below _ (s₁.setTop (mkF m 41 #[.val (.int p0), .val (.int (p0 &&& (255 : Int32))), .val (.int (1 : Int32)), .val (.int (1 : Int32))] [(.int (p0 &&& (255 : Int32)))]))
        obtain ⟨_, _, ⟨T104, L104, kk104, nn104⟩, -, X104, ⟨Lc104, hQ104, l104, y104, z104⟩, st104⟩ := Jvm.LawKit.callS X0 hx (y := (⟨"com/example/portcullis/portcullis/server/Syntax", "isText", "(I)Z"⟩ : MethodName)) hown (mvT hZ (hw _ (List.mem_of_getElem? (i := 0) rfl))) (mvT hZ (hw _ (List.mem_of_getElem? (i := 1) rfl))) (mvT hZ (hw _ (List.mem_of_getElem? (i := 2) rfl))) (mvT hZ (hw _ (List.mem_of_getElem? (i := 3) rfl))) (by decide) (backOf (W := 0) (rm0 l Z ar hw [] (p0 &&& (255 : Int32)) h0 n0 Z0 ) hZ (hw _ (List.mem_of_getElem? (i := 3) rfl)) (hw _ (List.mem_of_getElem? (i := 2) rfl)) (by decide) (by decide)) (g := (mkF m 41 #[.val (.int p0), .val (.int (p0 &&& (255 : Int32))), .val (.int (1 : Int32)), .val (.int (1 : Int32))] [(.int (p0 &&& (255 : Int32)))])) rfl (by rw [hml]; rfl) (argsL := [(.int (p0 &&& (255 : Int32)))]) (rest := []) (lenOf pd_0 rfl) rfl (by show 2 * 0 + _ ≤ _; exact Nat.le_of_eq rfl) (hb hby at_41) (fun _ _ => ⟨rfl, e0, (by decide : 0 + 0 ≤ _), (by decide : 0 + 0 ≤ _)⟩)
        dsimp only [Pt.U, Pt.locs, Pt.cells, Pt.slots] at X104 l104 y104 z104 st104 hQ104
        subst l104 y104 z104
        obtain ⟨rfl, Nq104, hh104⟩ := hQ104
        have N104 := Fr.app N0 Nq104
        refine OGo.st st104 ?_
        have e104 : T104.heap = h0 := hh104
        show OGo p.tables e below _ (T104.setTop (mkF m 44 #[.val (.int p0), .val (.int (p0 &&& (255 : Int32))), .val (.int (1 : Int32)), .val (.int (1 : Int32))] [(.int (own_isText (p0 &&& (255 : Int32))))]))
        refine OGo.st (fun t k => XS.iloadN X104.here hx rfl (hb hby at_44) rfl k) ?_
        show OGo p.tables e below _ (T104.setTop (mkF m 45 #[.val (.int p0), .val (.int (p0 &&& (255 : Int32))), .val (.int (1 : Int32)), .val (.int (1 : Int32))] [(.int (1 : Int32)), (.int (own_isText (p0 &&& (255 : Int32))))]))
        by_cases hc45_105 : (own_isText (p0 &&& (255 : Int32))) = (1 : Int32)
        ·
          refine OGo.st (fun t k => XS.icmpNo X104.here hx rfl (hb hby at_45) rfl (teq hc45_105).2 k) ?_
          show OGo p.tables e below _ (T104.setTop (mkF m 48 #[.val (.int p0), .val (.int (p0 &&& (255 : Int32))), .val (.int (1 : Int32)), .val (.int (1 : Int32))] []))
          refine OGo.st (fun t k => XS.iconst X104.here hx rfl (hb hby at_48) k) ?_
          show OGo p.tables e below _ (T104.setTop (mkF m 49 #[.val (.int p0), .val (.int (p0 &&& (255 : Int32))), .val (.int (1 : Int32)), .val (.int (1 : Int32))] [(.int (1 : Int32))]))
          refine OGo.st (fun t k => XS.goto X104.here hx rfl (pc0 := 49) (pc' := 53) rfl (hb hby at_49) (by decide) (by decide) k) ?_
          show OGo p.tables e below _ (T104.setTop (mkF m 53 #[.val (.int p0), .val (.int (p0 &&& (255 : Int32))), .val (.int (1 : Int32)), .val (.int (1 : Int32))] [(.int (1 : Int32))]))
          obtain ⟨fs, hr, hrun, hended, hW, hsame⟩ := X104.leave (v := some (.int (1 : Int32))) (fun h => by rw [Bd.returns] at h; cases h)
          refine OGo.done (retN X104 hx (t := .boolean) Bd.returns (by simp) (hb hby at_53) hr) ⟨hrun, hended, _, _, rfl, ?_, ⟨_, rfl⟩, hW, hsame.mono (by decide) (by decide)⟩
          show Q1 Z p0 h0 n0 _ T104.heap _
          rw [e104]
          exact ⟨rfl, N104⟩
        ·
          exfalso
          generalize (p0 &&& (255 : Int32)) = z at *
          first
          | (have hq := own_le z (by assumption); by_cases h9 : z = 9 <;> simp_all [own_isText] <;> done)
          | (have hq := own_gt z (by assumption); by_cases h9 : z = 9 <;> simp_all [own_isText] <;> done)
      ·
        refine OGo.st (fun t k => XS.icmpNo X0.here hx rfl (hb hby at_27) rfl (feq hc27_103).1 k) ?_
        show OGo p.tables e below _ (s₁.setTop (mkF m 30 #[.val (.int p0), .val (.int (p0 &&& (255 : Int32))), .val (.int (1 : Int32)), .unset] []))
        refine OGo.st (fun t k => XS.iloadN X0.here hx rfl (hb hby at_30) rfl k) ?_
        show OGo p.tables e below _ (s₁.setTop (mkF m 31 #[.val (.int p0), .val (.int (p0 &&& (255 : Int32))), .val (.int (1 : Int32)), .unset] [(.int (1 : Int32))]))
        refine OGo.st (fun t k => XS.ifYes X0.here hx rfl (pc0 := 31) (pc' := 38) rfl (hb hby at_31) rfl ((if0 _ _).trans (feq (by decide : ¬ ((1 : Int32) = (0 : Int32)))).2) (by decide) (by decide) k) ?_
        show OGo p.tables e below _ (s₁.setTop (mkF m 38 #[.val (.int p0), .val (.int (p0 &&& (255 : Int32))), .val (.int (1 : Int32)), .unset] []))
        refine OGo.st (fun t k => XS.iconst X0.here hx rfl (hb hby at_38) k) ?_
        show OGo p.tables e below _ (s₁.setTop (mkF m 39 #[.val (.int p0), .val (.int (p0 &&& (255 : Int32))), .val (.int (1 : Int32)), .unset] [(.int (0 : Int32))]))
        refine OGo.st (fun t k => XS.istoreN X0.here hx rfl (hb hby at_39) rfl (l' := #[.val (.int p0), .val (.int (p0 &&& (255 : Int32))), .val (.int (1 : Int32)), .val (.int (0 : Int32))]) rfl k) ?_
        show OGo p.tables e below _ (s₁.setTop (mkF m 40 #[.val (.int p0), .val (.int (p0 &&& (255 : Int32))), .val (.int (1 : Int32)), .val (.int (0 : Int32))] []))
        refine OGo.st (fun t k => XS.iloadN X0.here hx rfl (hb hby at_40) rfl k) ?_
        show OGo p.tables e below _ (s₁.setTop (mkF m 41 #[.val (.int p0), .val (.int (p0 &&& (255 : Int32))), .val (.int (1 : Int32)), .val (.int (0 : Int32))] [(.int (p0 &&& (255 : Int32)))]))
        obtain ⟨_, _, ⟨T107, L107, kk107, nn107⟩, -, X107, ⟨Lc107, hQ107, l107, y107, z107⟩, st107⟩ := Jvm.LawKit.callS X0 hx (y := (⟨"com/example/portcullis/portcullis/server/Syntax", "isText", "(I)Z"⟩ : MethodName)) hown (mvT hZ (hw _ (List.mem_of_getElem? (i := 0) rfl))) (mvT hZ (hw _ (List.mem_of_getElem? (i := 1) rfl))) (mvT hZ (hw _ (List.mem_of_getElem? (i := 2) rfl))) (mvT hZ (hw _ (List.mem_of_getElem? (i := 3) rfl))) (by decide) (backOf (W := 0) (rm0 l Z ar hw [] (p0 &&& (255 : Int32)) h0 n0 Z0 ) hZ (hw _ (List.mem_of_getElem? (i := 3) rfl)) (hw _ (List.mem_of_getElem? (i := 2) rfl)) (by decide) (by decide)) (g := (mkF m 41 #[.val (.int p0), .val (.int (p0 &&& (255 : Int32))), .val (.int (1 : Int32)), .val (.int (0 : Int32))] [(.int (p0 &&& (255 : Int32)))])) rfl (by rw [hml]; rfl) (argsL := [(.int (p0 &&& (255 : Int32)))]) (rest := []) (lenOf pd_0 rfl) rfl (by show 2 * 0 + _ ≤ _; exact Nat.le_of_eq rfl) (hb hby at_41) (fun _ _ => ⟨rfl, e0, (by decide : 0 + 0 ≤ _), (by decide : 0 + 0 ≤ _)⟩)
        dsimp only [Pt.U, Pt.locs, Pt.cells, Pt.slots] at X107 l107 y107 z107 st107 hQ107
        subst l107 y107 z107
        obtain ⟨rfl, Nq107, hh107⟩ := hQ107
        have N107 := Fr.app N0 Nq107
        refine OGo.st st107 ?_
        have e107 : T107.heap = h0 := hh107
        show OGo p.tables e below _ (T107.setTop (mkF m 44 #[.val (.int p0), .val (.int (p0 &&& (255 : Int32))), .val (.int (1 : Int32)), .val (.int (0 : Int32))] [(.int (own_isText (p0 &&& (255 : Int32))))]))
        refine OGo.st (fun t k => XS.iloadN X107.here hx rfl (hb hby at_44) rfl k) ?_
        show OGo p.tables e below _ (T107.setTop (mkF m 45 #[.val (.int p0), .val (.int (p0 &&& (255 : Int32))), .val (.int (1 : Int32)), .val (.int (0 : Int32))] [(.int (0 : Int32)), (.int (own_isText (p0 &&& (255 : Int32))))]))
        by_cases hc45_108 : (own_isText (p0 &&& (255 : Int32))) = (0 : Int32)
        ·
          refine OGo.st (fun t k => XS.icmpNo X107.here hx rfl (hb hby at_45) rfl (teq hc45_108).2 k) ?_
          show OGo p.tables e below _ (T107.setTop (mkF m 48 #[.val (.int p0), .val (.int (p0 &&& (255 : Int32))), .val (.int (1 : Int32)), .val (.int (0 : Int32))] []))
          refine OGo.st (fun t k => XS.iconst X107.here hx rfl (hb hby at_48) k) ?_
          show OGo p.tables e below _ (T107.setTop (mkF m 49 #[.val (.int p0), .val (.int (p0 &&& (255 : Int32))), .val (.int (1 : Int32)), .val (.int (0 : Int32))] [(.int (1 : Int32))]))
          refine OGo.st (fun t k => XS.goto X107.here hx rfl (pc0 := 49) (pc' := 53) rfl (hb hby at_49) (by decide) (by decide) k) ?_
          show OGo p.tables e below _ (T107.setTop (mkF m 53 #[.val (.int p0), .val (.int (p0 &&& (255 : Int32))), .val (.int (1 : Int32)), .val (.int (0 : Int32))] [(.int (1 : Int32))]))
          obtain ⟨fs, hr, hrun, hended, hW, hsame⟩ := X107.leave (v := some (.int (1 : Int32))) (fun h => by rw [Bd.returns] at h; cases h)
          refine OGo.done (retN X107 hx (t := .boolean) Bd.returns (by simp) (hb hby at_53) hr) ⟨hrun, hended, _, _, rfl, ?_, ⟨_, rfl⟩, hW, hsame.mono (by decide) (by decide)⟩
          show Q1 Z p0 h0 n0 _ T107.heap _
          rw [e107]
          exact ⟨rfl, N107⟩
        ·
          exfalso
          generalize (p0 &&& (255 : Int32)) = z at *
          first
          | (have hq := own_le z (by assumption); by_cases h9 : z = 9 <;> simp_all [own_isText] <;> done)
          | (have hq := own_gt z (by assumption); by_cases h9 : z = 9 <;> simp_all [own_isText] <;> done)
    ·
      refine OGo.st (fun t k => XS.icmpYes X0.here hx rfl (pc0 := 15) (pc' := 22) rfl (hb hby at_15) rfl (feq hc15_102).2 (by decide) (by decide) k) ?_
      show OGo p.tables e below _ (s₁.setTop (mkF m 22 #[.val (.int p0), .val (.int (p0 &&& (255 : Int32))), .unset, .unset] []))
      refine OGo.st (fun t k => XS.iconst X0.here hx rfl (hb hby at_22) k) ?_
      show OGo p.tables e below _ (s₁.setTop (mkF m 23 #[.val (.int p0), .val (.int (p0 &&& (255 : Int32))), .unset, .unset] [(.int (0 : Int32))]))
      refine OGo.st (fun t k => XS.istoreN X0.here hx rfl (hb hby at_23) rfl (l' := #[.val (.int p0), .val (.int (p0 &&& (255 : Int32))), .val (.int (0 : Int32)), .unset]) rfl k) ?_
      show OGo p.tables e below _ (s₁.setTop (mkF m 24 #[.val (.int p0), .val (.int (p0 &&& (255 : Int32))), .val (.int (0 : Int32)), .unset] []))
      refine OGo.st (fun t k => XS.iloadN X0.here hx rfl (hb hby at_24) rfl k) ?_
      show OGo p.tables e below _ (s₁.setTop (mkF m 25 #[.val (.int p0), .val (.int (p0 &&& (255 : Int32))), .val (.int (0 : Int32)), .unset] [(.int (p0 &&& (255 : Int32)))]))
      refine OGo.st (fun t k => XS.bipush X0.here hx rfl (hb hby at_25) k) ?_
      show OGo p.tables e below _ (s₁.setTop (mkF m 27 #[.val (.int p0), .val (.int (p0 &&& (255 : Int32))), .val (.int (0 : Int32)), .unset] [(.int (9 : Int32)), (.int (p0 &&& (255 : Int32)))]))
      by_cases hc27_110 : (p0 &&& (255 : Int32)) = (9 : Int32)
      ·
        refine OGo.st (fun t k => XS.icmpYes X0.here hx rfl (pc0 := 27) (pc' := 34) rfl (hb hby at_27) rfl (teq hc27_110).1 (by decide) (by decide) k) ?_
        show OGo p.tables e below _ (s₁.setTop (mkF m 34 #[.val (.int p0), .val (.int (p0 &&& (255 : Int32))), .val (.int (0 : Int32)), .unset] []))
        refine OGo.st (fun t k => XS.iconst X0.here hx rfl (hb hby at_34) k) ?_
        show OGo p.tables e below _ (s₁.setTop (mkF m 35 #[.val (.int p0), .val (.int (p0 &&& (255 : Int32))), .val (.int (0 : Int32)), .unset] [(.int (1 : Int32))]))
        refine OGo.st (fun t k => XS.goto X0.here hx rfl (pc0 := 35) (pc' := 39) rfl (hb hby at_35) (by decide) (by decide) k) ?_
        show OGo p.tables e below _ (s₁.setTop (mkF m 39 #[.val (.int p0), .val (.int (p0 &&& (255 : Int32))), .val (.int (0 : Int32)), .unset] [(.int (1 : Int32))]))
        refine OGo.st (fun t k => XS.istoreN X0.here hx rfl (hb hby at_39) rfl (l' := #[.val (.int p0), .val (.int (p0 &&& (255 : Int32))), .val (.int (0 : Int32)), .val (.int (1 : Int32))]) rfl k) ?_
        show OGo p.tables e below _ (s₁.setTop (mkF m 40 #[.val (.int p0), .val (.int (p0 &&& (255 : Int32))), .val (.int (0 : Int32)), .val (.int (1 : Int32))] []))
        refine OGo.st (fun t k => XS.iloadN X0.here hx rfl (hb hby at_40) rfl k) ?_
        show OGo p.tables e below _ (s₁.setTop (mkF m 41 #[.val (.int p0), .val (.int (p0 &&& (255 : Int32))), .val (.int (0 : Int32)), .val (.int (1 : Int32))] [(.int (p0 &&& (255 : Int32)))]))
        obtain ⟨_, _, ⟨T111, L111, kk111, nn111⟩, -, X111, ⟨Lc111, hQ111, l111, y111, z111⟩, st111⟩ := Jvm.LawKit.callS X0 hx (y := (⟨"com/example/portcullis/portcullis/server/Syntax", "isText", "(I)Z"⟩ : MethodName)) hown (mvT hZ (hw _ (List.mem_of_getElem? (i := 0) rfl))) (mvT hZ (hw _ (List.mem_of_getElem? (i := 1) rfl))) (mvT hZ (hw _ (List.mem_of_getElem? (i := 2) rfl))) (mvT hZ (hw _ (List.mem_of_getElem? (i := 3) rfl))) (by decide) (backOf (W := 0) (rm0 l Z ar hw [] (p0 &&& (255 : Int32)) h0 n0 Z0 ) hZ (hw _ (List.mem_of_getElem? (i := 3) rfl)) (hw _ (List.mem_of_getElem? (i := 2) rfl)) (by decide) (by decide)) (g := (mkF m 41 #[.val (.int p0), .val (.int (p0 &&& (255 : Int32))), .val (.int (0 : Int32)), .val (.int (1 : Int32))] [(.int (p0 &&& (255 : Int32)))])) rfl (by rw [hml]; rfl) (argsL := [(.int (p0 &&& (255 : Int32)))]) (rest := []) (lenOf pd_0 rfl) rfl (by show 2 * 0 + _ ≤ _; exact Nat.le_of_eq rfl) (hb hby at_41) (fun _ _ => ⟨rfl, e0, (by decide : 0 + 0 ≤ _), (by decide : 0 + 0 ≤ _)⟩)
        dsimp only [Pt.U, Pt.locs, Pt.cells, Pt.slots] at X111 l111 y111 z111 st111 hQ111
        subst l111 y111 z111
        obtain ⟨rfl, Nq111, hh111⟩ := hQ111
        have N111 := Fr.app N0 Nq111
        refine OGo.st st111 ?_
        have e111 : T111.heap = h0 := hh111
        show OGo p.tables e below _ (T111.setTop (mkF m 44 #[.val (.int p0), .val (.int (p0 &&& (255 : Int32))), .val (.int (0 : Int32)), .val (.int (1 : Int32))] [(.int (own_isText (p0 &&& (255 : Int32))))]))
        refine OGo.st (fun t k => XS.iloadN X111.here hx rfl (hb hby at_44) rfl k) ?_
        show OGo p.tables e below _ (T111.setTop (mkF m 45 #[.val (.int p0), .val (.int (p0 &&& (255 : Int32))), .val (.int (0 : Int32)), .val (.int (1 : Int32))] [(.int (1 : Int32)), (.int (own_isText (p0 &&& (255 : Int32))))]))
        by_cases hc45_112 : (own_isText (p0 &&& (255 : Int32))) = (1 : Int32)
        ·
          refine OGo.st (fun t k => XS.icmpNo X111.here hx rfl (hb hby at_45) rfl (teq hc45_112).2 k) ?_
          show OGo p.tables e below _ (T111.setTop (mkF m 48 #[.val (.int p0), .val (.int (p0 &&& (255 : Int32))), .val (.int (0 : Int32)), .val (.int (1 : Int32))] []))
          refine OGo.st (fun t k => XS.iconst X111.here hx rfl (hb hby at_48) k) ?_
          show OGo p.tables e below _ (T111.setTop (mkF m 49 #[.val (.int p0), .val (.int (p0 &&& (255 : Int32))), .val (.int (0 : Int32)), .val (.int (1 : Int32))] [(.int (1 : Int32))]))
          refine OGo.st (fun t k => XS.goto X111.here hx rfl (pc0 := 49) (pc' := 53) rfl (hb hby at_49) (by decide) (by decide) k) ?_
          show OGo p.tables e below _ (T111.setTop (mkF m 53 #[.val (.int p0), .val (.int (p0 &&& (255 : Int32))), .val (.int (0 : Int32)), .val (.int (1 : Int32))] [(.int (1 : Int32))]))
          obtain ⟨fs, hr, hrun, hended, hW, hsame⟩ := X111.leave (v := some (.int (1 : Int32))) (fun h => by rw [Bd.returns] at h; cases h)
          refine OGo.done (retN X111 hx (t := .boolean) Bd.returns (by simp) (hb hby at_53) hr) ⟨hrun, hended, _, _, rfl, ?_, ⟨_, rfl⟩, hW, hsame.mono (by decide) (by decide)⟩
          show Q1 Z p0 h0 n0 _ T111.heap _
          rw [e111]
          exact ⟨rfl, N111⟩
        ·
          exfalso
          generalize (p0 &&& (255 : Int32)) = z at *
          first
          | (have hq := own_le z (by assumption); by_cases h9 : z = 9 <;> simp_all [own_isText] <;> done)
          | (have hq := own_gt z (by assumption); by_cases h9 : z = 9 <;> simp_all [own_isText] <;> done)
      ·
        refine OGo.st (fun t k => XS.icmpNo X0.here hx rfl (hb hby at_27) rfl (feq hc27_110).1 k) ?_
        show OGo p.tables e below _ (s₁.setTop (mkF m 30 #[.val (.int p0), .val (.int (p0 &&& (255 : Int32))), .val (.int (0 : Int32)), .unset] []))
        refine OGo.st (fun t k => XS.iloadN X0.here hx rfl (hb hby at_30) rfl k) ?_
        show OGo p.tables e below _ (s₁.setTop (mkF m 31 #[.val (.int p0), .val (.int (p0 &&& (255 : Int32))), .val (.int (0 : Int32)), .unset] [(.int (0 : Int32))]))
        refine OGo.st (fun t k => XS.ifNo X0.here hx rfl (hb hby at_31) rfl ((if0 _ _).trans (teq (by decide : (0 : Int32) = (0 : Int32))).2) k) ?_
        show OGo p.tables e below _ (s₁.setTop (mkF m 34 #[.val (.int p0), .val (.int (p0 &&& (255 : Int32))), .val (.int (0 : Int32)), .unset] []))
        refine OGo.st (fun t k => XS.iconst X0.here hx rfl (hb hby at_34) k) ?_
        show OGo p.tables e below _ (s₁.setTop (mkF m 35 #[.val (.int p0), .val (.int (p0 &&& (255 : Int32))), .val (.int (0 : Int32)), .unset] [(.int (1 : Int32))]))
        refine OGo.st (fun t k => XS.goto X0.here hx rfl (pc0 := 35) (pc' := 39) rfl (hb hby at_35) (by decide) (by decide) k) ?_
        show OGo p.tables e below _ (s₁.setTop (mkF m 39 #[.val (.int p0), .val (.int (p0 &&& (255 : Int32))), .val (.int (0 : Int32)), .unset] [(.int (1 : Int32))]))
        refine OGo.st (fun t k => XS.istoreN X0.here hx rfl (hb hby at_39) rfl (l' := #[.val (.int p0), .val (.int (p0 &&& (255 : Int32))), .val (.int (0 : Int32)), .val (.int (1 : Int32))]) rfl k) ?_
        show OGo p.tables e below _ (s₁.setTop (mkF m 40 #[.val (.int p0), .val (.int (p0 &&& (255 : Int32))), .val (.int (0 : Int32)), .val (.int (1 : Int32))] []))
        refine OGo.st (fun t k => XS.iloadN X0.here hx rfl (hb hby at_40) rfl k) ?_
        show OGo p.tables e below _ (s₁.setTop (mkF m 41 #[.val (.int p0), .val (.int (p0 &&& (255 : Int32))), .val (.int (0 : Int32)), .val (.int (1 : Int32))] [(.int (p0 &&& (255 : Int32)))]))
        obtain ⟨_, _, ⟨T114, L114, kk114, nn114⟩, -, X114, ⟨Lc114, hQ114, l114, y114, z114⟩, st114⟩ := Jvm.LawKit.callS X0 hx (y := (⟨"com/example/portcullis/portcullis/server/Syntax", "isText", "(I)Z"⟩ : MethodName)) hown (mvT hZ (hw _ (List.mem_of_getElem? (i := 0) rfl))) (mvT hZ (hw _ (List.mem_of_getElem? (i := 1) rfl))) (mvT hZ (hw _ (List.mem_of_getElem? (i := 2) rfl))) (mvT hZ (hw _ (List.mem_of_getElem? (i := 3) rfl))) (by decide) (backOf (W := 0) (rm0 l Z ar hw [] (p0 &&& (255 : Int32)) h0 n0 Z0 ) hZ (hw _ (List.mem_of_getElem? (i := 3) rfl)) (hw _ (List.mem_of_getElem? (i := 2) rfl)) (by decide) (by decide)) (g := (mkF m 41 #[.val (.int p0), .val (.int (p0 &&& (255 : Int32))), .val (.int (0 : Int32)), .val (.int (1 : Int32))] [(.int (p0 &&& (255 : Int32)))])) rfl (by rw [hml]; rfl) (argsL := [(.int (p0 &&& (255 : Int32)))]) (rest := []) (lenOf pd_0 rfl) rfl (by show 2 * 0 + _ ≤ _; exact Nat.le_of_eq rfl) (hb hby at_41) (fun _ _ => ⟨rfl, e0, (by decide : 0 + 0 ≤ _), (by decide : 0 + 0 ≤ _)⟩)
        dsimp only [Pt.U, Pt.locs, Pt.cells, Pt.slots] at X114 l114 y114 z114 st114 hQ114
        subst l114 y114 z114
        obtain ⟨rfl, Nq114, hh114⟩ := hQ114
        have N114 := Fr.app N0 Nq114
        refine OGo.st st114 ?_
        have e114 : T114.heap = h0 := hh114
        show OGo p.tables e below _ (T114.setTop (mkF m 44 #[.val (.int p0), .val (.int (p0 &&& (255 : Int32))), .val (.int (0 : Int32)), .val (.int (1 : Int32))] [(.int (own_isText (p0 &&& (255 : Int32))))]))
        refine OGo.st (fun t k => XS.iloadN X114.here hx rfl (hb hby at_44) rfl k) ?_
        show OGo p.tables e below _ (T114.setTop (mkF m 45 #[.val (.int p0), .val (.int (p0 &&& (255 : Int32))), .val (.int (0 : Int32)), .val (.int (1 : Int32))] [(.int (1 : Int32)), (.int (own_isText (p0 &&& (255 : Int32))))]))
        by_cases hc45_115 : (own_isText (p0 &&& (255 : Int32))) = (1 : Int32)
        ·
          refine OGo.st (fun t k => XS.icmpNo X114.here hx rfl (hb hby at_45) rfl (teq hc45_115).2 k) ?_
          show OGo p.tables e below _ (T114.setTop (mkF m 48 #[.val (.int p0), .val (.int (p0 &&& (255 : Int32))), .val (.int (0 : Int32)), .val (.int (1 : Int32))] []))
          refine OGo.st (fun t k => XS.iconst X114.here hx rfl (hb hby at_48) k) ?_
          show OGo p.tables e below _ (T114.setTop (mkF m 49 #[.val (.int p0), .val (.int (p0 &&& (255 : Int32))), .val (.int (0 : Int32)), .val (.int (1 : Int32))] [(.int (1 : Int32))]))
          refine OGo.st (fun t k => XS.goto X114.here hx rfl (pc0 := 49) (pc' := 53) rfl (hb hby at_49) (by decide) (by decide) k) ?_
          show OGo p.tables e below _ (T114.setTop (mkF m 53 #[.val (.int p0), .val (.int (p0 &&& (255 : Int32))), .val (.int (0 : Int32)), .val (.int (1 : Int32))] [(.int (1 : Int32))]))
          obtain ⟨fs, hr, hrun, hended, hW, hsame⟩ := X114.leave (v := some (.int (1 : Int32))) (fun h => by rw [Bd.returns] at h; cases h)
          refine OGo.done (retN X114 hx (t := .boolean) Bd.returns (by simp) (hb hby at_53) hr) ⟨hrun, hended, _, _, rfl, ?_, ⟨_, rfl⟩, hW, hsame.mono (by decide) (by decide)⟩
          show Q1 Z p0 h0 n0 _ T114.heap _
          rw [e114]
          exact ⟨rfl, N114⟩
        ·
          exfalso
          generalize (p0 &&& (255 : Int32)) = z at *
          first
          | (have hq := own_le z (by assumption); by_cases h9 : z = 9 <;> simp_all [own_isText] <;> done)
          | (have hq := own_gt z (by assumption); by_cases h9 : z = 9 <;> simp_all [own_isText] <;> done)
  ·
    refine OGo.st (fun t k => XS.icmpYes X0.here hx rfl (pc0 := 9) (pc' := 18) rfl (hb hby at_9) rfl (flt hc9_101).2.2.2 (by decide) (by decide) k) ?_
    show OGo p.tables e below _ (s₁.setTop (mkF m 18 #[.val (.int p0), .val (.int (p0 &&& (255 : Int32))), .unset, .unset] []))
    refine OGo.st (fun t k => XS.iconst X0.here hx rfl (hb hby at_18) k) ?_
    show OGo p.tables e below _ (s₁.setTop (mkF m 19 #[.val (.int p0), .val (.int (p0 &&& (255 : Int32))), .unset, .unset] [(.int (1 : Int32))]))
    refine OGo.st (fun t k => XS.goto X0.here hx rfl (pc0 := 19) (pc' := 23) rfl (hb hby at_19) (by decide) (by decide) k) ?_
    show OGo p.tables e below _ (s₁.setTop (mkF m 23 #[.val (.int p0), .val (.int (p0 &&& (255 : Int32))), .unset, .unset] [(.int (1 : Int32))]))
    refine OGo.st (fun t k => XS.istoreN X0.here hx rfl (hb hby at_23) rfl (l' := #[.val (.int p0), .val (.int (p0 &&& (255 : Int32))), .val (.int (1 : Int32)), .unset]) rfl k) ?_
    show OGo p.tables e below _ (s₁.setTop (mkF m 24 #[.val (.int p0), .val (.int (p0 &&& (255 : Int32))), .val (.int (1 : Int32)), .unset] []))
    refine OGo.st (fun t k => XS.iloadN X0.here hx rfl (hb hby at_24) rfl k) ?_
    show OGo p.tables e below _ (s₁.setTop (mkF m 25 #[.val (.int p0), .val (.int (p0 &&& (255 : Int32))), .val (.int (1 : Int32)), .unset] [(.int (p0 &&& (255 : Int32)))]))
    refine OGo.st (fun t k => XS.bipush X0.here hx rfl (hb hby at_25) k) ?_
    show OGo p.tables e below _ (s₁.setTop (mkF m 27 #[.val (.int p0), .val (.int (p0 &&& (255 : Int32))), .val (.int (1 : Int32)), .unset] [(.int (9 : Int32)), (.int (p0 &&& (255 : Int32)))]))
    by_cases hc27_117 : (p0 &&& (255 : Int32)) = (9 : Int32)
    ·
      refine OGo.st (fun t k => XS.icmpYes X0.here hx rfl (pc0 := 27) (pc' := 34) rfl (hb hby at_27) rfl (teq hc27_117).1 (by decide) (by decide) k) ?_
      show OGo p.tables e below _ (s₁.setTop (mkF m 34 #[.val (.int p0), .val (.int (p0 &&& (255 : Int32))), .val (.int (1 : Int32)), .unset] []))
      refine OGo.st (fun t k => XS.iconst X0.here hx rfl (hb hby at_34) k) ?_
      show OGo p.tables e below _ (s₁.setTop (mkF m 35 #[.val (.int p0), .val (.int (p0 &&& (255 : Int32))), .val (.int (1 : Int32)), .unset] [(.int (1 : Int32))]))
      refine OGo.st (fun t k => XS.goto X0.here hx rfl (pc0 := 35) (pc' := 39) rfl (hb hby at_35) (by decide) (by decide) k) ?_
      show OGo p.tables e below _ (s₁.setTop (mkF m 39 #[.val (.int p0), .val (.int (p0 &&& (255 : Int32))), .val (.int (1 : Int32)), .unset] [(.int (1 : Int32))]))
      refine OGo.st (fun t k => XS.istoreN X0.here hx rfl (hb hby at_39) rfl (l' := #[.val (.int p0), .val (.int (p0 &&& (255 : Int32))), .val (.int (1 : Int32)), .val (.int (1 : Int32))]) rfl k) ?_
      show OGo p.tables e below _ (s₁.setTop (mkF m 40 #[.val (.int p0), .val (.int (p0 &&& (255 : Int32))), .val (.int (1 : Int32)), .val (.int (1 : Int32))] []))
      refine OGo.st (fun t k => XS.iloadN X0.here hx rfl (hb hby at_40) rfl k) ?_
      show OGo p.tables e below _ (s₁.setTop (mkF m 41 #[.val (.int p0), .val (.int (p0 &&& (255 : Int32))), .val (.int (1 : Int32)), .val (.int (1 : Int32))] [(.int (p0 &&& (255 : Int32)))]))
      obtain ⟨_, _, ⟨T118, L118, kk118, nn118⟩, -, X118, ⟨Lc118, hQ118, l118, y118, z118⟩, st118⟩ := Jvm.LawKit.callS X0 hx (y := (⟨"com/example/portcullis/portcullis/server/Syntax", "isText", "(I)Z"⟩ : MethodName)) hown (mvT hZ (hw _ (List.mem_of_getElem? (i := 0) rfl))) (mvT hZ (hw _ (List.mem_of_getElem? (i := 1) rfl))) (mvT hZ (hw _ (List.mem_of_getElem? (i := 2) rfl))) (mvT hZ (hw _ (List.mem_of_getElem? (i := 3) rfl))) (by decide) (backOf (W := 0) (rm0 l Z ar hw [] (p0 &&& (255 : Int32)) h0 n0 Z0 ) hZ (hw _ (List.mem_of_getElem? (i := 3) rfl)) (hw _ (List.mem_of_getElem? (i := 2) rfl)) (by decide) (by decide)) (g := (mkF m 41 #[.val (.int p0), .val (.int (p0 &&& (255 : Int32))), .val (.int (1 : Int32)), .val (.int (1 : Int32))] [(.int (p0 &&& (255 : Int32)))])) rfl (by rw [hml]; rfl) (argsL := [(.int (p0 &&& (255 : Int32)))]) (rest := []) (lenOf pd_0 rfl) rfl (by show 2 * 0 + _ ≤ _; exact Nat.le_of_eq rfl) (hb hby at_41) (fun _ _ => ⟨rfl, e0, (by decide : 0 + 0 ≤ _), (by decide : 0 + 0 ≤ _)⟩)
      dsimp only [Pt.U, Pt.locs, Pt.cells, Pt.slots] at X118 l118 y118 z118 st118 hQ118
      subst l118 y118 z118
      obtain ⟨rfl, Nq118, hh118⟩ := hQ118
      have N118 := Fr.app N0 Nq118
      refine OGo.st st118 ?_
      have e118 : T118.heap = h0 := hh118
      show OGo p.tables e below _ (T118.setTop (mkF m 44 #[.val (.int p0), .val (.int (p0 &&& (255 : Int32))), .val (.int (1 : Int32)), .val (.int (1 : Int32))] [(.int (own_isText (p0 &&& (255 : Int32))))]))
      refine OGo.st (fun t k => XS.iloadN X118.here hx rfl (hb hby at_44) rfl k) ?_
      show OGo p.tables e below _ (T118.setTop (mkF m 45 #[.val (.int p0), .val (.int (p0 &&& (255 : Int32))), .val (.int (1 : Int32)), .val (.int (1 : Int32))] [(.int (1 : Int32)), (.int (own_isText (p0 &&& (255 : Int32))))]))
      by_cases hc45_119 : (own_isText (p0 &&& (255 : Int32))) = (1 : Int32)
      ·
        refine OGo.st (fun t k => XS.icmpNo X118.here hx rfl (hb hby at_45) rfl (teq hc45_119).2 k) ?_
        show OGo p.tables e below _ (T118.setTop (mkF m 48 #[.val (.int p0), .val (.int (p0 &&& (255 : Int32))), .val (.int (1 : Int32)), .val (.int (1 : Int32))] []))
        refine OGo.st (fun t k => XS.iconst X118.here hx rfl (hb hby at_48) k) ?_
        show OGo p.tables e below _ (T118.setTop (mkF m 49 #[.val (.int p0), .val (.int (p0 &&& (255 : Int32))), .val (.int (1 : Int32)), .val (.int (1 : Int32))] [(.int (1 : Int32))]))
        refine OGo.st (fun t k => XS.goto X118.here hx rfl (pc0 := 49) (pc' := 53) rfl (hb hby at_49) (by decide) (by decide) k) ?_
        show OGo p.tables e below _ (T118.setTop (mkF m 53 #[.val (.int p0), .val (.int (p0 &&& (255 : Int32))), .val (.int (1 : Int32)), .val (.int (1 : Int32))] [(.int (1 : Int32))]))
        obtain ⟨fs, hr, hrun, hended, hW, hsame⟩ := X118.leave (v := some (.int (1 : Int32))) (fun h => by rw [Bd.returns] at h; cases h)
        refine OGo.done (retN X118 hx (t := .boolean) Bd.returns (by simp) (hb hby at_53) hr) ⟨hrun, hended, _, _, rfl, ?_, ⟨_, rfl⟩, hW, hsame.mono (by decide) (by decide)⟩
        show Q1 Z p0 h0 n0 _ T118.heap _
        rw [e118]
        exact ⟨rfl, N118⟩
      ·
        exfalso
        generalize (p0 &&& (255 : Int32)) = z at *
        first
        | (have hq := own_le z (by assumption); by_cases h9 : z = 9 <;> simp_all [own_isText] <;> done)
        | (have hq := own_gt z (by assumption); by_cases h9 : z = 9 <;> simp_all [own_isText] <;> done)
    ·
      refine OGo.st (fun t k => XS.icmpNo X0.here hx rfl (hb hby at_27) rfl (feq hc27_117).1 k) ?_
      show OGo p.tables e below _ (s₁.setTop (mkF m 30 #[.val (.int p0), .val (.int (p0 &&& (255 : Int32))), .val (.int (1 : Int32)), .unset] []))
      refine OGo.st (fun t k => XS.iloadN X0.here hx rfl (hb hby at_30) rfl k) ?_
      show OGo p.tables e below _ (s₁.setTop (mkF m 31 #[.val (.int p0), .val (.int (p0 &&& (255 : Int32))), .val (.int (1 : Int32)), .unset] [(.int (1 : Int32))]))
      refine OGo.st (fun t k => XS.ifYes X0.here hx rfl (pc0 := 31) (pc' := 38) rfl (hb hby at_31) rfl ((if0 _ _).trans (feq (by decide : ¬ ((1 : Int32) = (0 : Int32)))).2) (by decide) (by decide) k) ?_
      show OGo p.tables e below _ (s₁.setTop (mkF m 38 #[.val (.int p0), .val (.int (p0 &&& (255 : Int32))), .val (.int (1 : Int32)), .unset] []))
      refine OGo.st (fun t k => XS.iconst X0.here hx rfl (hb hby at_38) k) ?_
      show OGo p.tables e below _ (s₁.setTop (mkF m 39 #[.val (.int p0), .val (.int (p0 &&& (255 : Int32))), .val (.int (1 : Int32)), .unset] [(.int (0 : Int32))]))
      refine OGo.st (fun t k => XS.istoreN X0.here hx rfl (hb hby at_39) rfl (l' := #[.val (.int p0), .val (.int (p0 &&& (255 : Int32))), .val (.int (1 : Int32)), .val (.int (0 : Int32))]) rfl k) ?_
      show OGo p.tables e below _ (s₁.setTop (mkF m 40 #[.val (.int p0), .val (.int (p0 &&& (255 : Int32))), .val (.int (1 : Int32)), .val (.int (0 : Int32))] []))
      refine OGo.st (fun t k => XS.iloadN X0.here hx rfl (hb hby at_40) rfl k) ?_
      show OGo p.tables e below _ (s₁.setTop (mkF m 41 #[.val (.int p0), .val (.int (p0 &&& (255 : Int32))), .val (.int (1 : Int32)), .val (.int (0 : Int32))] [(.int (p0 &&& (255 : Int32)))]))
      obtain ⟨_, _, ⟨T121, L121, kk121, nn121⟩, -, X121, ⟨Lc121, hQ121, l121, y121, z121⟩, st121⟩ := Jvm.LawKit.callS X0 hx (y := (⟨"com/example/portcullis/portcullis/server/Syntax", "isText", "(I)Z"⟩ : MethodName)) hown (mvT hZ (hw _ (List.mem_of_getElem? (i := 0) rfl))) (mvT hZ (hw _ (List.mem_of_getElem? (i := 1) rfl))) (mvT hZ (hw _ (List.mem_of_getElem? (i := 2) rfl))) (mvT hZ (hw _ (List.mem_of_getElem? (i := 3) rfl))) (by decide) (backOf (W := 0) (rm0 l Z ar hw [] (p0 &&& (255 : Int32)) h0 n0 Z0 ) hZ (hw _ (List.mem_of_getElem? (i := 3) rfl)) (hw _ (List.mem_of_getElem? (i := 2) rfl)) (by decide) (by decide)) (g := (mkF m 41 #[.val (.int p0), .val (.int (p0 &&& (255 : Int32))), .val (.int (1 : Int32)), .val (.int (0 : Int32))] [(.int (p0 &&& (255 : Int32)))])) rfl (by rw [hml]; rfl) (argsL := [(.int (p0 &&& (255 : Int32)))]) (rest := []) (lenOf pd_0 rfl) rfl (by show 2 * 0 + _ ≤ _; exact Nat.le_of_eq rfl) (hb hby at_41) (fun _ _ => ⟨rfl, e0, (by decide : 0 + 0 ≤ _), (by decide : 0 + 0 ≤ _)⟩)
      dsimp only [Pt.U, Pt.locs, Pt.cells, Pt.slots] at X121 l121 y121 z121 st121 hQ121
      subst l121 y121 z121
      obtain ⟨rfl, Nq121, hh121⟩ := hQ121
      have N121 := Fr.app N0 Nq121
      refine OGo.st st121 ?_
      have e121 : T121.heap = h0 := hh121
      show OGo p.tables e below _ (T121.setTop (mkF m 44 #[.val (.int p0), .val (.int (p0 &&& (255 : Int32))), .val (.int (1 : Int32)), .val (.int (0 : Int32))] [(.int (own_isText (p0 &&& (255 : Int32))))]))
      refine OGo.st (fun t k => XS.iloadN X121.here hx rfl (hb hby at_44) rfl k) ?_
      show OGo p.tables e below _ (T121.setTop (mkF m 45 #[.val (.int p0), .val (.int (p0 &&& (255 : Int32))), .val (.int (1 : Int32)), .val (.int (0 : Int32))] [(.int (0 : Int32)), (.int (own_isText (p0 &&& (255 : Int32))))]))
      by_cases hc45_122 : (own_isText (p0 &&& (255 : Int32))) = (0 : Int32)
      ·
        refine OGo.st (fun t k => XS.icmpNo X121.here hx rfl (hb hby at_45) rfl (teq hc45_122).2 k) ?_
        show OGo p.tables e below _ (T121.setTop (mkF m 48 #[.val (.int p0), .val (.int (p0 &&& (255 : Int32))), .val (.int (1 : Int32)), .val (.int (0 : Int32))] []))
        refine OGo.st (fun t k => XS.iconst X121.here hx rfl (hb hby at_48) k) ?_
        show OGo p.tables e below _ (T121.setTop (mkF m 49 #[.val (.int p0), .val (.int (p0 &&& (255 : Int32))), .val (.int (1 : Int32)), .val (.int (0 : Int32))] [(.int (1 : Int32))]))
        refine OGo.st (fun t k => XS.goto X121.here hx rfl (pc0 := 49) (pc' := 53) rfl (hb hby at_49) (by decide) (by decide) k) ?_
        show OGo p.tables e below _ (T121.setTop (mkF m 53 #[.val (.int p0), .val (.int (p0 &&& (255 : Int32))), .val (.int (1 : Int32)), .val (.int (0 : Int32))] [(.int (1 : Int32))]))
        obtain ⟨fs, hr, hrun, hended, hW, hsame⟩ := X121.leave (v := some (.int (1 : Int32))) (fun h => by rw [Bd.returns] at h; cases h)
        refine OGo.done (retN X121 hx (t := .boolean) Bd.returns (by simp) (hb hby at_53) hr) ⟨hrun, hended, _, _, rfl, ?_, ⟨_, rfl⟩, hW, hsame.mono (by decide) (by decide)⟩
        show Q1 Z p0 h0 n0 _ T121.heap _
        rw [e121]
        exact ⟨rfl, N121⟩
      ·
        exfalso
        generalize (p0 &&& (255 : Int32)) = z at *
        first
        | (have hq := own_le z (by assumption); by_cases h9 : z = 9 <;> simp_all [own_isText] <;> done)
        | (have hq := own_gt z (by assumption); by_cases h9 : z = 9 <;> simp_all [own_isText] <;> done)
set_option maxRecDepth 65536 in
set_option maxHeartbeats 40000000 in
theorem comes_1 {Post : Tables → Env → Array Value → State → Outcome → State → Prop} (hpost : ∀ tb e args s v u, (limb_1_1.after args s (.returned v) u = true ∧ limb_1_2.after args s (.returned v) u = true ∧ True) → FrameEnd s (.returned v) u (Jvm.fieldLocs frame_1_writes args s ++ Jvm.arrayLocs frame_1_arrays args s ++ Jvm.staticLocs frame_1_statics s) 0 0 → Post tb e args s (.returned v) u) :
    ArmFor flags0 classFile x code maxLocals ret World_1 tables_1 room_1 Calls_1 rest_1 Pre_1 Post := by
  intro l hfl _ _ p e ha hc hk s m args below hf hA hF happ hP
  obtain ⟨hcalls, hrest, hpre⟩ := hP
  obtain ⟨-, -, -, hnamed, -, -, -, hat⟩ := (Spec.applies_iff hf).mp happ
  obtain ⟨hg, hn⟩ := and_e (Cond.before_iff.mp (show (Jvm.Cond.and given_1 narrow_1).before args s = true from hpre))
  obtain ⟨gc, gr0⟩ := and_e hg
  have g_0 := gr0
  obtain ⟨w0, rfl⟩ : ∃ w0 : Value, args = #[w0] := by
    have hs : args.size = 1 := by simpa [Cond.value, given_1] using gc
    obtain ⟨L⟩ := args
    match L, hs with
    | [w0], _ => exact ⟨w0, rfl⟩
  have hw := fun d (hd : d ∈ tables_1) => atoms_spec (ws := Jvm.Cond.code x code maxLocals ret :: tables_1) hat d (List.mem_cons_of_mem _ hd)
  have hfit : Fit s := fun {y c} hc i hi => by
    obtain ⟨ha, rfl⟩ := Array.getElem?_eq_some_iff.mp hc
    have q := List.all_eq_true.mp ((Array.all_eq_true_iff_forall_mem.mp hF) _ (Array.getElem_mem ha)) i (List.mem_range.mpr hi)
    simpa [Array.getElem?_eq_getElem hi] using q
  obtain ⟨i0, ei0⟩ := is_v g_0
  obtain rfl : w0 = (.int i0) := Option.some.inj ei0
  obtain ⟨n, o, h1, h2, h3, _, L, rfl, ⟨rfl, N⟩, hq⟩ := rm1 l s _ hw tables_1 i0 s.heap s.heap.size (Nat.le_refl _)  p e ha hc hk s m _ below hf ((Spec.applies_iff_loose hf).mp happ).1 ⟨rfl, State.Warmed39.refl s, rfl⟩ trivial
  refine ⟨n, _, h1, h2, h3, hpost _ _ _ _ _ _ ⟨Cond.after_iff.mpr rfl, Cond.after_iff.mpr (eq_i res_at (Term.int_eval (1)) rfl), trivial⟩ ⟨hq.1, hq.2.1, (hq.2.2.sift fun y hy => Or.inr (N y hy)).mono (by decide) (by decide)⟩⟩
theorem main_1_1 : Claimed_1_1 := comes_1 fun _ _ _ _ _ _ h hF => ⟨h.1, hF⟩
theorem main_1_2 : Claimed_1_2 := comes_1 fun _ _ _ _ _ _ h hF => ⟨h.2.1, hF⟩
end Jvm.Pilot.@@N@@
namespace Jvm.Pilot.@@N@@
open Jvm Jvm.ClassFile Sem Op Lib Jvm.Free Jvm.Stand Jvm.Pilot.@@N@@.Jvm.D
/-! MADE BY PROGRAM (witnessworld.py) out of the Statement's table words and the real class files: 7 classes; the members and pool entries that the words name. The judged class is class 1, her method 1. -/
namespace start1
open Jvm.ClassFile
def u (s : String) : CpInfo := .utf8 (stringToUtf16 s)
/-- a pool by its gaps: so many unusable entries, then the entry; so many at the end -/
def gap : Nat → List CpInfo → List CpInfo
  | 0, r => r
  | n + 1, r => .unusable :: gap n r
def poolList (es : List (Nat × CpInfo)) (last : Nat) : List CpInfo := es.foldr (fun e r => gap e.1 (e.2 :: r)) (gap last [])
def pool (es : List (Nat × CpInfo)) (last : Nat) : Array CpInfo := ⟨poolList es last⟩
def fileOf (pool : Array CpInfo) (this : Nat) (attrs : Array Attribute := #[]) (ms : Array MethodInfo := #[]) (fl : Nat := 33) (sup : Nat := 0) (ifs : Array Nat := #[]) (fds : Array FieldInfo := #[]) : ClassFile where
  minorVersion := 0
  majorVersion := 65
  constantPool := pool
  accessFlags := fl
  thisClass := this
  superClass := sup
  interfaces := ifs
  fields := fds
  methods := ms
  attributes := attrs
def plain (name : String) (sup : Option ClassId) : Class where
  name := name
  kind := .ordinary
  loader := none
  accessFlags := 33
  super := sup
  interfaces := #[]
  cf := none
  fields := #[]
  methods := #[]
  instanceTypes := #[]
  staticTypes := #[]
  resolved := #[]
  callSites := []
  init := .initialized
  statics := none
  mirror := none

def pool0 : Array CpInfo := pool [(5, u "<init>"), (0, u "()V"), (1, .class_ 10), (1, u "java/lang/Object")] 113

def k0m0 : Method := { name := "<init>", desc := "()V", sig := { parameters := [], returnType := none }, accessFlags := 1, code := none }
/-- java/lang/Object -/
def k0 : Class := { plain "java/lang/Object" none with
  accessFlags := 33
  interfaces := #[]
  cf := some (fileOf pool0 8 #[] #[{ accessFlags := 1, nameIndex := 5, descriptorIndex := 6, attributes := #[] }] 33 0 #[] #[])
  fields := #[]
  methods := #[k0m0]
  instanceTypes := #[]
  staticTypes := #[]
  resolved := Array.replicate 124 none
  statics := none }

def pool1 : Array CpInfo := pool [(2, .class_ 4), (1, u "java/lang/Object"), (0, u "<init>"), (0, u "()V"), (0, .methodref 8 9), (0, .class_ 10), (0, .nameAndType 11 12), (0, u "com/example/portcullis/portcullis/server/Syntax"), (0, u "isText"), (0, u "(I)Z"), (0, .class_ 14), (0, u "com/example/portcullis/portcullis/server/SyntaxIsTextPinLaw"), (2, u "law")] 3

def k1m0 : Method := { name := "<init>", desc := "()V", sig := { parameters := [], returnType := none }, accessFlags := 2, code := none }
def k1c1 : Code := { maxStack := 2, maxLocals := 4, code := code, exceptionTable := #[], attributes := #[] }
def k1m1 : Method := { name := "law", desc := "(I)Z", sig := { parameters := [.int], returnType := some .boolean }, accessFlags := 9, code := some k1c1 }
/-- com/example/portcullis/portcullis/server/SyntaxIsTextPinLaw -/
def k1 : Class := { plain "com/example/portcullis/portcullis/server/SyntaxIsTextPinLaw" (some 0) with
  accessFlags := 49
  interfaces := #[]
  cf := some (fileOf pool1 13 #[] #[{ accessFlags := 2, nameIndex := 5, descriptorIndex := 6, attributes := #[] }, { accessFlags := 9, nameIndex := 17, descriptorIndex := 12, attributes := #[] }] 49 2 #[] #[])
  fields := #[]
  methods := #[k1m0, k1m1]
  instanceTypes := #[]
  staticTypes := #[]
  resolved := Array.replicate 21 none
  statics := none }

def pool2 : Array CpInfo := pool [(2, .class_ 4), (1, u "java/lang/Object"), (0, u "<init>"), (0, u "()V"), (15, .class_ 24), (1, u "com/example/portcullis/portcullis/server/Syntax"), (1, u "(I)Z"), (6, u "TOKEN_MARKS"), (0, u "Ljava/lang/String;"), (6, u "isText")] 2

def k2m0 : Method := { name := "<init>", desc := "()V", sig := { parameters := [], returnType := none }, accessFlags := 2, code := none }
def k2c1 : Code := { maxStack := 2, maxLocals := 1, code := prog_100_method_4_code, exceptionTable := #[], attributes := #[] }
def k2m1 : Method := { name := "isText", desc := "(I)Z", sig := { parameters := [.int], returnType := some .boolean }, accessFlags := 8, code := some k2c1 }
/-- com/example/portcullis/portcullis/server/Syntax -/
def k2 : Class := { plain "com/example/portcullis/portcullis/server/Syntax" (some 0) with
  accessFlags := 48
  interfaces := #[]
  cf := some (fileOf pool2 22 #[] #[{ accessFlags := 2, nameIndex := 5, descriptorIndex := 6, attributes := #[] }, { accessFlags := 8, nameIndex := 41, descriptorIndex := 26, attributes := #[] }] 48 2 #[] #[{ accessFlags := 26, nameIndex := 33, descriptorIndex := 34, attributes := #[] }])
  fields := #[{ name := "TOKEN_MARKS", type := (.object "java/lang/String"), accessFlags := 26, slot := 0, constantValue := 0 }]
  methods := #[k2m0, k2m1]
  instanceTypes := #[]
  staticTypes := #[(.object "java/lang/String")]
  resolved := Array.replicate 44 none
  statics := none }

def pool3 : Array CpInfo := pool [(1, u "java/lang/Cloneable"), (0, .class_ 1), (0, u "java/lang/Object"), (0, .class_ 3)] 3

/-- java/lang/Cloneable -/
def k3 : Class := { plain "java/lang/Cloneable" (some 0) with
  accessFlags := 1537
  interfaces := #[]
  cf := some (fileOf pool3 2 #[] #[] 1537 4 #[] #[])
  fields := #[]
  methods := #[]
  instanceTypes := #[]
  staticTypes := #[]
  resolved := Array.replicate 8 none
  statics := none }

def pool4 : Array CpInfo := pool [(1, u "java/io/Serializable"), (0, .class_ 1), (0, u "java/lang/Object"), (0, .class_ 3)] 3

/-- java/io/Serializable -/
def k4 : Class := { plain "java/io/Serializable" (some 0) with
  accessFlags := 1537
  interfaces := #[]
  cf := some (fileOf pool4 2 #[] #[] 1537 4 #[] #[])
  fields := #[]
  methods := #[]
  instanceTypes := #[]
  staticTypes := #[]
  resolved := Array.replicate 8 none
  statics := none }

/-- the primitive byte -/
def k5 : Class := { plain "byte" none with kind := .primitive 'B', accessFlags := 0x411 }
/-- [B -/
def k6 : Class := { plain "[B" (some 0) with kind := .array 5 .byte, interfaces := #[3, 4], accessFlags := 1041 }

def heap : Heap := #[]
def classes : Array Class := #[k0, k1, k2, k3, k4, k5, k6]
def interned : List (Array UInt16 × Addr) := []
def slotsUsed : Nat := 0
def theMethod : MethodId := ⟨1, 1⟩
def args0 : Array Value := #[.int 5]
def aboutOver (below : List Frame) : State where
  vm := { classes := classes, interned := interned.toArray }
  heap := heap
  slotsUsed := slotsUsed
  threads := #[{ frames := .invoking theMethod args0 :: below }]
def below0 : List Frame := [.native { method := ⟨0, 0⟩, args := #[] }]
def about1 : State := aboutOver below0
def p0 : Program := .bare "" "" ""
def e0 : Env := launch0.env 0 0 0
theorem w_frames : about1.frames = Frame.invoking theMethod args0 :: below0 := rfl
set_option maxRecDepth 65536 in
theorem w_args : argsFit about1.vm theMethod args0 = true := by decide +kernel
set_option maxRecDepth 65536 in
theorem w_heap : heapFits about1 = true := by decide +kernel
set_option maxRecDepth 65536 in
theorem w_runnable : about1.curStatus? = some .runnable := by decide +kernel
set_option maxRecDepth 65536 in
theorem w_alone : about1.alone = true := by decide +kernel
set_option maxRecDepth 65536 in
theorem w_named : about1.methodNamed? x = some theMethod := by decide +kernel
set_option maxRecDepth 65536 in
theorem w_hears : about1.hears theMethod below0 = true := by decide +kernel
set_option maxRecDepth 65536 in
theorem w_ripe : about1.ripe theMethod args0 below0 = true := by decide +kernel
theorem w_running : about1.status = .running := rfl
set_option maxRecDepth 65536 in
theorem w_room : about1.hasRoom e0.platform room_1 = true :=
  launch0.hasRoom_least _ room_1 (by decide +kernel) (by decide +kernel) (by decide +kernel) (by decide +kernel) (by decide +kernel) (by decide +kernel)
theorem allAtoms_all (ts : List Jvm.Cond) (a : Array Jvm.Value) (st : Jvm.State) : (allAtoms ts).before a st = ts.all (fun c => c.before a st) := by
  induction ts with
  | nil => rfl
  | cons c t ih =>
    show (Jvm.Cond.and c (allAtoms t)).before a st = _
    rw [Jvm.Cond.before_and, ih, List.all_cons]
def words1 : List Jvm.Cond := Jvm.Cond.code x code maxLocals ret :: tables_1
/-- a 'code' word, met by the world's own term for the bytes: nothing is compared byte by byte -/
theorem code_word {y : MethodName} {bytes : ByteArray} {mx : Nat} {rt : Option FieldType} {a : Array Value} {s : State} {m : MethodId} {meth : Method} {c : Code} (h1 : s.methodNamed? y = some m) (h2 : s.vm.method? m = some meth) (h3 : meth.code = some c) (h4 : c.code = bytes)
    (h5 : (c.maxLocals == mx && c.exceptionTable.isEmpty && decide (c.maxStack ≤ mostOperands) && decide (meth.sig.returnType = rt) && !meth.locks && decide (parseMethodDescriptor y.desc = some meth.sig)) = true) : (Jvm.Cond.code y bytes mx rt).before a s = true := by
  simp only [Bool.and_eq_true, beq_iff_eq, Bool.not_eq_true', decide_eq_true_eq] at h5
  obtain ⟨⟨⟨⟨⟨g1, g2⟩, g3⟩, g4⟩, g5⟩, g6⟩ := h5
  simp [Cond.before, Cond.holds, Cond.value, h1, h2, h3, h4, g1, g2, g3, g4, g5, g6]
def isCode : Jvm.Cond → Bool
  | .code _ _ _ _ => true
  | _ => false
theorem all_split {L : List Jvm.Cond} {P : Jvm.Cond → Bool} (h1 : L.all (fun c => isCode c || P c) = true) (h2 : ∀ c ∈ L.filter isCode, P c = true) : L.all P = true := by
  refine List.all_eq_true.mpr fun c hc => ?_
  have h := List.all_eq_true.mp h1 c hc
  rcases Bool.eq_false_or_eq_true (isCode c) with hi | hi
  · exact h2 c (List.mem_filter.mpr ⟨hc, hi⟩)
  · simpa [hi] using h
set_option maxRecDepth 65536 in
theorem w_c0 : (Jvm.Cond.code x code maxLocals ret).before args0 about1 = true := code_word (m := ⟨1, 1⟩) (meth := k1m1) (c := k1c1) (by decide +kernel) rfl rfl rfl (by decide +kernel)
set_option maxRecDepth 65536 in
theorem w_c1 : (Jvm.Cond.code ({ cls := "com/example/portcullis/portcullis/server/Syntax", name := "isText", desc := "(I)Z" } : Jvm.MethodName) prog_100_method_4_code (1 : Nat) (Option.some Jvm.ClassFile.FieldType.boolean)).before args0 about1 = true := code_word (m := ⟨2, 1⟩) (meth := k2m1) (c := k2c1) (by decide +kernel) rfl rfl rfl (by decide +kernel)
def codes1 : List Jvm.Cond := [Jvm.Cond.code x code maxLocals ret, Jvm.Cond.code ({ cls := "com/example/portcullis/portcullis/server/Syntax", name := "isText", desc := "(I)Z" } : Jvm.MethodName) prog_100_method_4_code (1 : Nat) (Option.some Jvm.ClassFile.FieldType.boolean)]
set_option maxRecDepth 65536 in
theorem codes_eq : words1.filter isCode = codes1 := rfl
theorem w_codes : ∀ c ∈ words1.filter isCode, c.before args0 about1 = true := by
  rw [codes_eq]
  intro c hc
  simp only [codes1, List.mem_cons, List.not_mem_nil, or_false] at hc
  rcases hc with rfl | rfl
  · exact w_c0
  · exact w_c1
set_option maxRecDepth 65536 in
theorem w_t1 : words1.all (fun c => isCode c || c.before args0 about1) = true := by decide +kernel
theorem w_tables : (allAtoms (Jvm.Cond.code x code maxLocals ret :: tables_1)).before args0 about1 = true := by
  rw [allAtoms_all]
  show words1.all (fun c => c.before args0 about1) = true
  refine all_split ?_ w_codes
  rw [w_t1]
set_option maxRecDepth 65536 in
theorem w_case : (Jvm.Cond.and given_1 narrow_1).before args0 about1 = true := by decide +kernel
theorem w_applies : (headSpec (Jvm.Cond.code x code maxLocals ret :: tables_1) room_1).applies x e0.platform about1 = true :=
  (Spec.applies_iff w_frames).mpr ⟨w_running, w_runnable, w_alone, w_named, w_hears, w_ripe, w_room, w_tables⟩
theorem atStart : AtStart classFile x code maxLocals ret World_1 tables_1 room_1 Calls_1 rest_1 Pre_1 launch0 p0 e0 about1 theMethod args0 below0 :=
  ⟨lists_1, trivial, launch0.admits_env _ _ _, launch0.least_env, fairChoices_fair.cas, fairChoices_fair.clock, w_frames, w_args, w_heap, w_applies, trivial, trivial, w_case⟩
end start1
theorem witness_1 : WitnessClaimed_1 := ⟨start1.p0, start1.e0, start1.about1, start1.theMethod, start1.args0, start1.below0, start1.atStart⟩
end Jvm.Pilot.@@N@@
