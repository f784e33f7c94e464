import JvmDerived
import JvmDerived.Pilot.@@N@@Statement
import JvmDerived.Pilot.@@N@@Code
set_option linter.unusedVariables false
set_option linter.unusedSimpArgs false
namespace Jvm.RoadKit
open Sem ClassFile Op Lib Jvm.Stand Jvm.Free Jvm.LawKit
section New
variable {p : Program} {l : Launch} {e : Env} {R : Room} {s : State} {m : MethodId} {args : Array Value} {below : List Frame} {meth : Method} {c : Code} {T : State} {locs : List Loc} {cells slots : Nat}
theorem retI (X : Stand p l e R s m args below meth c T locs cells slots) (hx : p.tables.exec = Jvm.exec) {pc : Nat} {Ls : Array Slot} {z : Int32} {rest : List Value} (hret : meth.sig.returnType = some .int) (hd : decode c.code pc = .ok (.ireturn, 1)) {fs : List Frame}
    (hl : ∀ (f : JFrame) (acts : List Action), f.method = m → f.locked = none → f.entered = [] → (doReturn e (T.setTop f) acts (some (.int z))).1 = T.setFrames fs) : Steps p.tables e below (T.setTop (mkF m pc Ls (.int z :: rest))) (T.setFrames fs) := by
  have hm' : T.vm.method? m = some meth := X.method'
  have hn : narrow .int (.int z) = .int z := rfl
  show Steps p.tables e below (T.setTop { method := m, pc := pc, locals := Ls, stack := _ :: rest, locked := none }) _
  jvm_step X.here [X.here.top, hx, hd, hm', hret, hn]
  first | (intro acts; rw [hl _ acts rfl rfl rfl]) | rw [hl _ _ rfl rfl rfl]
  exact Steps.refl _
theorem own_retL (X : Stand p l e R s m args below meth c T locs cells slots) (hx : p.tables.exec = Jvm.exec) {pc : Nat} {Ls : Array Slot} {z : Int64} {rest : List Value} (hret : meth.sig.returnType = some .long) (hd : decode c.code pc = .ok (.lreturn, 1)) {fs : List Frame}
    (hl : ∀ (f : JFrame) (acts : List Action), f.method = m → f.locked = none → f.entered = [] → (doReturn e (T.setTop f) acts (some (.long z))).1 = T.setFrames fs) : Steps p.tables e below (T.setTop (mkF m pc Ls (.long z :: rest))) (T.setFrames fs) := by
  have hm' : T.vm.method? m = some meth := X.method'
  have hn : narrow .long (.long z) = .long z := rfl
  show Steps p.tables e below (T.setTop { method := m, pc := pc, locals := Ls, stack := _ :: rest, locked := none }) _
  jvm_step X.here [X.here.top, hx, hd, hm', hret, hn]
  first | (intro acts; rw [hl _ acts rfl rfl rfl]) | rw [hl _ _ rfl rfl rfl]
  exact Steps.refl _
theorem own_retR (X : Stand p l e R s m args below meth c T locs cells slots) (hx : p.tables.exec = Jvm.exec) {pc : Nat} {Ls : Array Slot} {v : Value} {t : FieldType} {rest : List Value} (hret : meth.sig.returnType = some t) (ht : t.isReference = true) (hv : v.isRef = true) (hd : decode c.code pc = .ok (.areturn, 1)) {fs : List Frame}
    (hl : ∀ (f : JFrame) (acts : List Action), f.method = m → f.locked = none → f.entered = [] → (doReturn e (T.setTop f) acts (some v)).1 = T.setFrames fs) : Steps p.tables e below (T.setTop (mkF m pc Ls (v :: rest))) (T.setFrames fs) := by
  have hm' : T.vm.method? m = some meth := X.method'
  show Steps p.tables e below (T.setTop { method := m, pc := pc, locals := Ls, stack := _ :: rest, locked := none }) _
  rcases ref_cases hv with rfl | ⟨a, rfl⟩
  · jvm_step X.here [X.here.top, hx, hd, hm', hret, ht, Value.isRef]
    first | (intro acts; rw [hl _ acts rfl rfl rfl]) | rw [hl _ _ rfl rfl rfl]
    exact Steps.refl _
  · jvm_step X.here [X.here.top, hx, hd, hm', hret, ht, Value.isRef]
    first | (intro acts; rw [hl _ acts rfl rfl rfl]) | rw [hl _ _ rfl rfl rfl]
    exact Steps.refl _
end New
/-- an end that the run comes to from S, with what is said of it -/
def OGo (tb : Tables) (e : Env) (below : List Frame) (Φ : State → Outcome → Prop) (S : State) : Prop := ∃ t o, Steps tb e below S t ∧ Φ t o
section Own
variable {tb : Tables} {e : Env} {below : List Frame} {Φ : State → Outcome → Prop} {S S' t : State} {o : Outcome}
theorem OGo.start (pre : ∀ t, Steps tb e below S' t → Steps tb e below S t) (k : OGo tb e below Φ S') : ∃ t o, Steps tb e below S t ∧ Φ t o := by
  obtain ⟨t, o, h1, h2⟩ := k
  exact ⟨t, o, pre t h1, h2⟩
theorem OGo.st (h : ∀ t, Steps tb e below S' t → Steps tb e below S t) (k : OGo tb e below Φ S') : OGo tb e below Φ S := OGo.start h k
theorem OGo.tr (h : Steps tb e below S S') (k : OGo tb e below Φ S') : OGo tb e below Φ S := OGo.start (fun _ q => h.trans q) k
theorem OGo.done (h : Steps tb e below S t) (q : Φ t o) : OGo tb e below Φ S := ⟨t, o, h, q⟩
theorem OGo.join {α : Type} (P : α → Prop) (F : α → State) (h : ∀ v, P v → OGo tb e below Φ (F v)) (k : (∀ v, P v → OGo tb e below Φ (F v)) → OGo tb e below Φ S) : OGo tb e below Φ S := k h
theorem own_fld {Z : State} {h : Heap} {a : Addr} {C n d : String} {v w : Value} (F : Fld Z h a C n d v) (q : v = w) : Fld Z h a C n d w := q ▸ F
end Own
end Jvm.RoadKit
namespace Jvm.Pilot.@@N@@
open Jvm Jvm.ClassFile Sem Op Lib Jvm.Free Jvm.Stand Jvm.LawKit Jvm.RoadKit Bundle Jvm.Pilot.@@N@@.Jvm.D
section OwnWords
variable {args : Array Value} {s : State} {t : Term} {r : Addr}
theorem own_intv {n : Int32} (h : (Jvm.Cond.eq t (.int n)).value args s none s [] = some true) : t.eval args s none [] s = some (.int n) := by
  simp only [Cond.value, Term.eval] at h
  cases ht : t.eval args s none [] s with
  | none => simp [ht] at h
  | some x => cases x <;> simp [ht] at h ⊢ <;> exact h
theorem own_sym {RC SD : String} (et : t.eval args s none [] s = some (.ref r)) (h : (Jvm.Cond.exactly (.field t RC "symbol" SD) "java/lang/String").value args s none s [] = some true) :
    ∃ a, (Term.field t RC "symbol" SD).eval args s none [] s = some (.ref a) ∧ Fld s s.heap r RC "symbol" SD (.ref a) ∧ Exa s s.heap a "java/lang/String" := by
  obtain ⟨a, e⟩ := exa_v h
  exact ⟨a, e, Fld.start ((fld_at et).symm.trans e), Exa.start e h⟩
theorem own_val (et : t.eval args s none [] s = some (.ref r)) (h : (Jvm.Cond.arrayOf (.field t "java/lang/String" "value" "[B") .byte).value args s none s [] = some true) :
    ∃ b cl, (Term.field t "java/lang/String" "value" "[B").eval args s none [] s = some (.ref b) ∧ Fld s s.heap r "java/lang/String" "value" "[B" (.ref b) ∧ Arr s s.heap b cl .byte := by
  obtain ⟨b, e⟩ := arr_v h
  obtain ⟨cl, A⟩ := Arr.start e h
  exact ⟨b, cl, e, Fld.start ((fld_at et).symm.trans e), A⟩
theorem own_fint {C n d : String} {k : Int32} (et : t.eval args s none [] s = some (.ref r)) (h : (Jvm.Cond.eq (.field t C n d) (.int k)).value args s none s [] = some true) : Fld s s.heap r C n d (.int k) :=
  Fld.start ((fld_at et).symm.trans (own_intv h))
theorem own_lenv {cl : Cell} {n : Int32} (et : t.eval args s none [] s = some (.ref r)) (A : Arr s s.heap r cl .byte) (h : (Jvm.Cond.eq (.length t) (.int n)).value args s none s [] = some true) : cl.slots.size < 2 ^ 31 ∧ cl.slots.size.toInt32 = n := by
  have e := own_intv h
  have q := A.fin (Vm.Alike.refl _)
  have h31 := SBG.length_lt et q e
  obtain ⟨x, cc, e1, e2, e3⟩ := Term.length_spec e
  cases et.symm.trans e1
  cases q.symm.trans e2
  exact ⟨h31, (Value.int.inj e3).symm⟩
theorem own_elv {cl : Cell} {i k : Int32} (et : t.eval args s none [] s = some (.ref r)) (A : Arr s s.heap r cl .byte) (h : (Jvm.Cond.eq (.elem t (.int i)) (.int k)).value args s none s [] = some true) : cl.slots[i.toNatClampNeg]? = some (.int k) :=
  (elem_in (own_intv h) et (Term.int_eval i) A.1).2
end OwnWords
theorem own_and3 (x : Int32) : x &&& 3 = 0 ∨ x &&& 3 = 1 ∨ x &&& 3 = 2 ∨ x &&& 3 = 3 := by
  have h := c_mask x 3 2 (by decide) (by decide)
  have e : ((2 ^ 2 : Nat) : Int) = 4 := rfl
  rw [e] at h
  simp only [← Int32.toInt_inj]
  have e0 : (0 : Int32).toInt = 0 := rfl
  have e1 : (1 : Int32).toInt = 1 := rfl
  have e2 : (2 : Int32).toInt = 2 := rfl
  have e3 : (3 : Int32).toInt = 3 := rfl
  omega
theorem d0_0 : decode jdk_42_method_152_code 0 = .ok (.getstatic 38, 3) := by decide +kernel
theorem d0_3 : decode jdk_42_method_152_code 3 = .ok (.ifCond .eq 10, 3) := by decide +kernel
theorem d0_6 : decode jdk_42_method_152_code 6 = .ok (.aload_n 0, 1) := by decide +kernel
theorem d0_7 : decode jdk_42_method_152_code 7 = .ok (.getfield 15, 3) := by decide +kernel
theorem d0_10 : decode jdk_42_method_152_code 10 = .ok (.goto 4, 3) := by decide +kernel
theorem d0_14 : decode jdk_42_method_152_code 14 = .ok (.ireturn, 1) := by decide +kernel
theorem pn_0 : plainName "java/lang/String" = true := by first | (simp [plainName, overriddenIn]; done) | decide +kernel
theorem ef_0 (m : MethodId) (x0 : Addr) : entryFrame m #[(.ref x0)] 1 = mkF m 0 #[.val (.ref x0)] [] := by first | (simp [entryFrame, mkF, argsToLocals, Value.category]; done) | rfl
def Q0 (Z : State) (a0 : Addr) (cs : Int32) (h0 : Heap) (n0 : Nat) (v : Option Value) (h : Heap) (L : List Loc) : Prop := v = some (.int (0 : Int32)) ∧ Fr n0 L ∧ h = h0
set_option maxRecDepth 65536 in
set_option maxHeartbeats 40000000 in
theorem rm0 (l : Launch) (Z : State) (ar : Array Value) (hw : ∀ d ∈ tables_1, d.before ar Z = true) (ws : List Jvm.Cond) (a0 : Addr) (cs : Int32) (h0 : Heap) (n0 : Nat) (Z0 : n0 ≤ h0.size) (S_cs : Sta Z h0 "java/lang/String" "COMPACT_STRINGS" "Z" (.int cs)) (hcs : ¬ cs = (0 : Int32)) (F : Fld Z h0 a0 "java/lang/String" "coder" "B" (.int (0 : Int32))) :
    MetFree l (⟨"java/lang/String", "coder", "()B"⟩ : MethodName) (head1 (Jvm.Cond.code (⟨"java/lang/String", "coder", "()B"⟩ : MethodName) jdk_42_method_152_code 1 (some .byte) :: ws) ({ frames := 0, cells := 0, slots := 0, locals := 0 } : Room)) (fun a U => a = #[(.ref a0)] ∧ Z.Warmed39 U.vm ∧ U.heap = h0) (fun _ _ _ _ _ => True) (fun _ U o U' => ∃ v L, o = .returned v ∧ Q0 Z a0 cs h0 n0 v U'.heap L ∧ FrameEnd U o U' L ({ frames := 0, cells := 0, slots := 0, locals := 0 } : Room).cells ({ frames := 0, cells := 0, slots := 0, locals := 0 } : Room).slots) := by
  refine MetFree.of_bodySF (plainFor_of_name pn_0) hisR ?_
  intro p e s m args below meth c s₁ Bd hml0 hP hK
  obtain ⟨rfl, hZ, hh⟩ := hP
  have hx := Bd.exec
  have hby := Bd.bytes
  have hml : c.maxLocals = 1 := hml0
  have hown : s.vm.findClass "java/lang/String" = some m.cls := findClass_of_methodNamed Bd.named
  have hnm := (name_of_methodNamed Bd.named Bd.method).1
  have X0 : Stand p l e ({ frames := 0, cells := 0, slots := 0, locals := 0 } : Room) s m #[(.ref a0)] below meth c s₁ [] 0 0 := Stand.of_body Bd
  have e0 : s₁.heap = h0 := by rw [← hh, Bd.state]; rfl
  have N0 := Fr.nil n0
  have pre0 : ∀ t, Steps p.tables e below (s₁.setTop (mkF m 0 #[.val (.ref a0)] [])) t → Steps p.tables e below (s₁.setTop (entryFrame m #[(.ref a0)] 1)) t := fun t k => castTop (ef_0 m a0) k
  refine OGo.start pre0 ?_
  show OGo p.tables e below _ (s₁.setTop (mkF m 0 #[.val (.ref a0)] []))
  obtain ⟨T101, X101, e101, st101⟩ := getS2 X0 hx hZ hown (host := "") (Or.inl (hw _ (List.mem_of_getElem? (i := 38) rfl))) Via.refl e0 S_cs (g := (mkF m 0 #[.val (.ref a0)] [])) rfl (hb hby d0_0)
  refine OGo.st st101 ?_
  show OGo p.tables e below _ (T101.setTop (mkF m 3 #[.val (.ref a0)] [(.int cs)]))
  refine OGo.st (fun t k => XS.ifNo X101.here hx rfl (hb hby d0_3) rfl ((if0 _ _).trans (feq (hcs : ¬ (cs = (0 : Int32)))).1) k) ?_
  show OGo p.tables e below _ (T101.setTop (mkF m 6 #[.val (.ref a0)] []))
  refine OGo.st (fun t k => XS.aloadN X101.here hx rfl (hb hby d0_6) rfl rfl k) ?_
  show OGo p.tables e below _ (T101.setTop (mkF m 7 #[.val (.ref a0)] [(.ref a0)]))
  obtain ⟨T102, X102, e102, st102⟩ := getF X101 hx hZ hown (host := "") (Or.inl (hw _ (List.mem_of_getElem? (i := 39) rfl))) Via.refl e101 F (g := (mkF m 7 #[.val (.ref a0)] [(.ref a0)])) rfl rfl (hb hby d0_7)
  refine OGo.st st102 ?_
  show OGo p.tables e below _ (T102.setTop (mkF m 10 #[.val (.ref a0)] [(.int (0 : Int32))]))
  refine OGo.st (fun t k => XS.goto X102.here hx rfl (pc0 := 10) (pc' := 14) rfl (hb hby d0_10) (by decide) (by decide) k) ?_
  show OGo p.tables e below _ (T102.setTop (mkF m 14 #[.val (.ref a0)] [(.int (0 : Int32))]))
  obtain ⟨fs, hr, hrun, hended, hW, hsame⟩ := X102.leave (v := some (.int (0 : Int32))) (fun h => by rw [Bd.returns] at h; cases h)
  refine OGo.done (retN X102 hx (t := .byte) Bd.returns (by simp) (hb hby d0_14) hr) ⟨hrun, hended, _, _, rfl, ?_, ⟨_, rfl⟩, hW, hsame.mono (by decide) (by decide)⟩
  show Q0 Z a0 cs h0 n0 _ T102.heap _
  rw [e102]
  exact ⟨rfl, N0, rfl⟩
theorem d1_0 : decode jdk_42_method_154_code 0 = .ok (.getstatic 38, 3) := by decide +kernel
theorem d1_3 : decode jdk_42_method_154_code 3 = .ok (.ifCond .eq 14, 3) := by decide +kernel
theorem d1_6 : decode jdk_42_method_154_code 6 = .ok (.aload_n 0, 1) := by decide +kernel
theorem d1_7 : decode jdk_42_method_154_code 7 = .ok (.getfield 15, 3) := by decide +kernel
theorem d1_10 : decode jdk_42_method_154_code 10 = .ok (.ifCond .ne 7, 3) := by decide +kernel
theorem d1_13 : decode jdk_42_method_154_code 13 = .ok (.iconst 1, 1) := by decide +kernel
theorem d1_14 : decode jdk_42_method_154_code 14 = .ok (.goto 4, 3) := by decide +kernel
theorem d1_18 : decode jdk_42_method_154_code 18 = .ok (.ireturn, 1) := by decide +kernel
theorem ef_1 (m : MethodId) (x0 : Addr) : entryFrame m #[(.ref x0)] 1 = mkF m 0 #[.val (.ref x0)] [] := by first | (simp [entryFrame, mkF, argsToLocals, Value.category]; done) | rfl
def Q1 (Z : State) (a0 : Addr) (cs : Int32) (h0 : Heap) (n0 : Nat) (v : Option Value) (h : Heap) (L : List Loc) : Prop := v = some (.int (1 : Int32)) ∧ Fr n0 L ∧ h = h0
set_option maxRecDepth 65536 in
set_option maxHeartbeats 40000000 in
theorem rm1 (l : Launch) (Z : State) (ar : Array Value) (hw : ∀ d ∈ tables_1, d.before ar Z = true) (ws : List Jvm.Cond) (a0 : Addr) (cs : Int32) (h0 : Heap) (n0 : Nat) (Z0 : n0 ≤ h0.size) (S_cs : Sta Z h0 "java/lang/String" "COMPACT_STRINGS" "Z" (.int cs)) (hcs : ¬ cs = (0 : Int32)) (F : Fld Z h0 a0 "java/lang/String" "coder" "B" (.int (0 : Int32))) :
    MetFree l (⟨"java/lang/String", "isLatin1", "()Z"⟩ : MethodName) (head1 (Jvm.Cond.code (⟨"java/lang/String", "isLatin1", "()Z"⟩ : MethodName) jdk_42_method_154_code 1 (some .boolean) :: ws) ({ frames := 0, cells := 0, slots := 0, locals := 0 } : Room)) (fun a U => a = #[(.ref a0)] ∧ Z.Warmed39 U.vm ∧ U.heap = h0) (fun _ _ _ _ _ => True) (fun _ U o U' => ∃ v L, o = .returned v ∧ Q1 Z a0 cs h0 n0 v U'.heap L ∧ FrameEnd U o U' L ({ frames := 0, cells := 0, slots := 0, locals := 0 } : Room).cells ({ frames := 0, cells := 0, slots := 0, locals := 0 } : Room).slots) := by
  refine MetFree.of_bodySF (plainFor_of_name pn_0) hisR ?_
  intro p e s m args below meth c s₁ Bd hml0 hP hK
  obtain ⟨rfl, hZ, hh⟩ := hP
  have hx := Bd.exec
  have hby := Bd.bytes
  have hml : c.maxLocals = 1 := hml0
  have hown : s.vm.findClass "java/lang/String" = some m.cls := findClass_of_methodNamed Bd.named
  have hnm := (name_of_methodNamed Bd.named Bd.method).1
  have X0 : Stand p l e ({ frames := 0, cells := 0, slots := 0, locals := 0 } : Room) s m #[(.ref a0)] below meth c s₁ [] 0 0 := Stand.of_body Bd
  have e0 : s₁.heap = h0 := by rw [← hh, Bd.state]; rfl
  have N0 := Fr.nil n0
  have pre0 : ∀ t, Steps p.tables e below (s₁.setTop (mkF m 0 #[.val (.ref a0)] [])) t → Steps p.tables e below (s₁.setTop (entryFrame m #[(.ref a0)] 1)) t := fun t k => castTop (ef_1 m a0) k
  refine OGo.start pre0 ?_
  show OGo p.tables e below _ (s₁.setTop (mkF m 0 #[.val (.ref a0)] []))
  obtain ⟨T101, X101, e101, st101⟩ := getS2 X0 hx hZ hown (host := "") (Or.inl (hw _ (List.mem_of_getElem? (i := 38) rfl))) Via.refl e0 S_cs (g := (mkF m 0 #[.val (.ref a0)] [])) rfl (hb hby d1_0)
  refine OGo.st st101 ?_
  show OGo p.tables e below _ (T101.setTop (mkF m 3 #[.val (.ref a0)] [(.int cs)]))
  refine OGo.st (fun t k => XS.ifNo X101.here hx rfl (hb hby d1_3) rfl ((if0 _ _).trans (feq (hcs : ¬ (cs = (0 : Int32)))).1) k) ?_
  show OGo p.tables e below _ (T101.setTop (mkF m 6 #[.val (.ref a0)] []))
  refine OGo.st (fun t k => XS.aloadN X101.here hx rfl (hb hby d1_6) rfl rfl k) ?_
  show OGo p.tables e below _ (T101.setTop (mkF m 7 #[.val (.ref a0)] [(.ref a0)]))
  obtain ⟨T102, X102, e102, st102⟩ := getF X101 hx hZ hown (host := "") (Or.inl (hw _ (List.mem_of_getElem? (i := 39) rfl))) Via.refl e101 F (g := (mkF m 7 #[.val (.ref a0)] [(.ref a0)])) rfl rfl (hb hby d1_7)
  refine OGo.st st102 ?_
  show OGo p.tables e below _ (T102.setTop (mkF m 10 #[.val (.ref a0)] [(.int (0 : Int32))]))
  refine OGo.st (fun t k => XS.ifNo X102.here hx rfl (hb hby d1_10) rfl ((if0 _ _).trans (teq (by decide : (0 : Int32) = (0 : Int32))).2) k) ?_
  show OGo p.tables e below _ (T102.setTop (mkF m 13 #[.val (.ref a0)] []))
  refine OGo.st (fun t k => XS.iconst X102.here hx rfl (hb hby d1_13) k) ?_
  show OGo p.tables e below _ (T102.setTop (mkF m 14 #[.val (.ref a0)] [(.int (1 : Int32))]))
  refine OGo.st (fun t k => XS.goto X102.here hx rfl (pc0 := 14) (pc' := 18) rfl (hb hby d1_14) (by decide) (by decide) k) ?_
  show OGo p.tables e below _ (T102.setTop (mkF m 18 #[.val (.ref a0)] [(.int (1 : Int32))]))
  obtain ⟨fs, hr, hrun, hended, hW, hsame⟩ := X102.leave (v := some (.int (1 : Int32))) (fun h => by rw [Bd.returns] at h; cases h)
  refine OGo.done (retN X102 hx (t := .boolean) Bd.returns (by simp) (hb hby d1_18) hr) ⟨hrun, hended, _, _, rfl, ?_, ⟨_, rfl⟩, hW, hsame.mono (by decide) (by decide)⟩
  show Q1 Z a0 cs h0 n0 _ T102.heap _
  rw [e102]
  exact ⟨rfl, N0, rfl⟩
theorem pd_0 : parseMethodDescriptor "()B" = some ⟨[], some .byte⟩ := by decide +kernel
theorem d2_0 : decode jdk_42_method_54_code 0 = .ok (.aload_n 0, 1) := by decide +kernel
theorem d2_1 : decode jdk_42_method_54_code 1 = .ok (.getfield 9, 3) := by decide +kernel
theorem d2_4 : decode jdk_42_method_54_code 4 = .ok (.arraylength, 1) := by decide +kernel
theorem d2_5 : decode jdk_42_method_54_code 5 = .ok (.aload_n 0, 1) := by decide +kernel
theorem d2_6 : decode jdk_42_method_54_code 6 = .ok (.invokevirtual 335, 3) := by decide +kernel
theorem d2_9 : decode jdk_42_method_54_code 9 = .ok (.ishr, 1) := by decide +kernel
theorem d2_10 : decode jdk_42_method_54_code 10 = .ok (.ireturn, 1) := by decide +kernel
theorem ef_2 (m : MethodId) (x0 : Addr) : entryFrame m #[(.ref x0)] 1 = mkF m 0 #[.val (.ref x0)] [] := by first | (simp [entryFrame, mkF, argsToLocals, Value.category]; done) | rfl
def Q2 (Z : State) (a0 : Addr) (b : Addr) (k : ClassId) (cs : Int32) (h0 : Heap) (n0 : Nat) (v : Option Value) (h : Heap) (L : List Loc) : Prop := v = some (.int (1 : Int32)) ∧ Fr n0 L ∧ h = h0
set_option maxRecDepth 65536 in
set_option maxHeartbeats 40000000 in
theorem rm2 (l : Launch) (Z : State) (ar : Array Value) (hw : ∀ d ∈ tables_1, d.before ar Z = true) (ws : List Jvm.Cond) (a0 : Addr) (b : Addr) (k : ClassId) (cs : Int32) (h0 : Heap) (n0 : Nat) (Z0 : n0 ≤ h0.size) (F1 : Fld Z h0 a0 "java/lang/String" "value" "[B" (.ref b)) (F2 : Fld Z h0 a0 "java/lang/String" "coder" "B" (.int (0 : Int32))) (V0 : Arv Z h0 b k .byte (1 : Int32) [(.int (60 : Int32))] (.int (0 : Int32))) (E0 : Exa Z h0 a0 "java/lang/String") (S_cs : Sta Z h0 "java/lang/String" "COMPACT_STRINGS" "Z" (.int cs)) (hcs : ¬ cs = (0 : Int32)) :
    MetFree l (⟨"java/lang/String", "length", "()I"⟩ : MethodName) (head1 (Jvm.Cond.code (⟨"java/lang/String", "length", "()I"⟩ : MethodName) jdk_42_method_54_code 1 (some .int) :: ws) ({ frames := 1, cells := 0, slots := 0, locals := 13 } : Room)) (fun a U => a = #[(.ref a0)] ∧ Z.Warmed39 U.vm ∧ U.heap = h0) (fun _ _ _ _ _ => True) (fun _ U o U' => ∃ v L, o = .returned v ∧ Q2 Z a0 b k cs h0 n0 v U'.heap L ∧ FrameEnd U o U' L ({ frames := 1, cells := 0, slots := 0, locals := 13 } : Room).cells ({ frames := 1, cells := 0, slots := 0, locals := 13 } : Room).slots) := by
  refine MetFree.of_bodySF (plainFor_of_name pn_0) hisR ?_
  intro p e s m args below meth c s₁ Bd hml0 hP hK
  obtain ⟨rfl, hZ, hh⟩ := hP
  have hx := Bd.exec
  have hby := Bd.bytes
  have hml : c.maxLocals = 1 := hml0
  have hown : s.vm.findClass "java/lang/String" = some m.cls := findClass_of_methodNamed Bd.named
  have hnm := (name_of_methodNamed Bd.named Bd.method).1
  have X0 : Stand p l e ({ frames := 1, cells := 0, slots := 0, locals := 13 } : Room) s m #[(.ref a0)] below meth c s₁ [] 0 0 := Stand.of_body Bd
  have e0 : s₁.heap = h0 := by rw [← hh, Bd.state]; rfl
  have N0 := Fr.nil n0
  have pre0 : ∀ t, Steps p.tables e below (s₁.setTop (mkF m 0 #[.val (.ref a0)] [])) t → Steps p.tables e below (s₁.setTop (entryFrame m #[(.ref a0)] 1)) t := fun t k => castTop (ef_2 m a0) k
  refine OGo.start pre0 ?_
  show OGo p.tables e below _ (s₁.setTop (mkF m 0 #[.val (.ref a0)] []))
  refine OGo.st (fun t k => XS.aloadN X0.here hx rfl (hb hby d2_0) rfl rfl k) ?_
  show OGo p.tables e below _ (s₁.setTop (mkF m 1 #[.val (.ref a0)] [(.ref a0)]))
  obtain ⟨T101, X101, e101, st101⟩ := getF X0 hx hZ hown (host := "") (Or.inl (hw _ (List.mem_of_getElem? (i := 31) rfl))) Via.refl e0 F1 (g := (mkF m 1 #[.val (.ref a0)] [(.ref a0)])) rfl rfl (hb hby d2_1)
  refine OGo.st st101 ?_
  show OGo p.tables e below _ (T101.setTop (mkF m 4 #[.val (.ref a0)] [(.ref b)]))
  obtain ⟨cl102, Ar102, qc102, Sz102, Nz102, Hs102, Gs102⟩ := id V0
  refine OGo.st (fun t k => X101.arraylength hx (by rw [e101]; exact Ar102.1) (State.isArrayOf_alike hZ.alike Ar102.2.1) (g := (mkF m 4 #[.val (.ref a0)] [(.ref b)])) rfl rfl (hb hby d2_4) _ k) ?_
  rw [len_of Sz102 Nz102]
  show OGo p.tables e below _ (T101.setTop (mkF m 5 #[.val (.ref a0)] [(.int (1 : Int32))]))
  refine OGo.st (fun t k => XS.aloadN X101.here hx rfl (hb hby d2_5) rfl rfl k) ?_
  show OGo p.tables e below _ (T101.setTop (mkF m 6 #[.val (.ref a0)] [(.ref a0), (.int (1 : Int32))]))
  obtain ⟨cq103, kq103, q103a, q103b, q103c⟩ := isOf hZ e101 E0
  obtain ⟨_, _, ⟨T103, L103, kk103, nn103⟩, -, X103, ⟨Lc103, hQ103, l103, y103, z103⟩, st103⟩ := X101.virtualBack hx (y := (⟨"java/lang/String", "coder", "()B"⟩ : MethodName)) (z := (⟨"java/lang/String", "coder", "()B"⟩ : MethodName)) hown (mvT hZ (hw _ (List.mem_of_getElem? (i := 33) rfl))) (mvT hZ (hw _ (List.mem_of_getElem? (i := 34) rfl))) (notFace_of_selects (args := #[]) (mvT hZ (hw _ (List.mem_of_getElem? (i := 36) rfl)))) (mvT hZ (hw _ (List.mem_of_getElem? (i := 36) rfl))) (mvT hZ (hw _ (List.mem_of_getElem? (i := 35) rfl))) (by decide) (backOf (W := 1) (rm0 l Z ar hw [] a0 cs h0 n0 Z0 S_cs hcs F2) hZ (hw _ (List.mem_of_getElem? (i := 37) rfl)) (hw _ (List.mem_of_getElem? (i := 29) rfl)) (by decide) (by decide)) q103a q103c (g := (mkF m 6 #[.val (.ref a0)] [(.ref a0), (.int (1 : Int32))])) rfl (by rw [hml]; rfl) (Steps.refl _) (argsL := []) (rest := [(.int (1 : Int32))]) (lenOf pd_0 rfl) rfl (by show 2 * 0 + _ ≤ _; exact Nat.le_of_eq rfl) (hb hby d2_6) (fun _ _ => ⟨rfl, e101, (by decide : 0 + 0 ≤ _), (by decide : 0 + 0 ≤ _)⟩)
  dsimp only [Pt.U, Pt.locs, Pt.cells, Pt.slots] at X103 l103 y103 z103 st103 hQ103
  subst l103 y103 z103
  obtain ⟨rfl, Nq103, hh103⟩ := hQ103
  have N103 := Fr.app N0 Nq103
  refine OGo.st (fun t k => st103.trans k) ?_
  have e103 : T103.heap = h0 := hh103
  show OGo p.tables e below _ (T103.setTop (mkF m 9 #[.val (.ref a0)] [(.int (0 : Int32)), (.int (1 : Int32))]))
  refine OGo.st (fun t k => XS.ishr X103.here hx rfl (hb hby d2_9) rfl k) ?_
  show OGo p.tables e below _ (T103.setTop (mkF m 10 #[.val (.ref a0)] [(.int (1 : Int32))]))
  obtain ⟨fs, hr, hrun, hended, hW, hsame⟩ := X103.leave (v := some (.int (1 : Int32))) (fun h => by rw [Bd.returns] at h; cases h)
  refine OGo.done (retI X103 hx Bd.returns (hb hby d2_10) hr) ⟨hrun, hended, _, _, rfl, ?_, ⟨_, rfl⟩, hW, hsame.mono (by decide) (by decide)⟩
  show Q2 Z a0 b k cs h0 n0 _ T103.heap _
  rw [e103]
  exact ⟨rfl, N103, rfl⟩
theorem d3_0 : decode jdk_41_method_11_code 0 = .ok (.iload_n 0, 1) := by decide +kernel
theorem d3_1 : decode jdk_41_method_11_code 1 = .ok (.ifCond .lt 8, 3) := by decide +kernel
theorem d3_4 : decode jdk_41_method_11_code 4 = .ok (.iload_n 0, 1) := by decide +kernel
theorem d3_5 : decode jdk_41_method_11_code 5 = .ok (.iload_n 1, 1) := by decide +kernel
theorem d3_6 : decode jdk_41_method_11_code 6 = .ok (.if_icmp .lt 10, 3) := by decide +kernel
theorem d3_16 : decode jdk_41_method_11_code 16 = .ok (.iload_n 0, 1) := by decide +kernel
theorem d3_17 : decode jdk_41_method_11_code 17 = .ok (.ireturn, 1) := by decide +kernel
theorem pn_1 : plainName "jdk/internal/util/Preconditions" = true := by first | (simp [plainName, overriddenIn]; done) | decide +kernel
theorem ef_3 (m : MethodId)  : entryFrame m #[(.int (0 : Int32)), (.int (1 : Int32)), .null] 3 = mkF m 0 #[.val (.int (0 : Int32)), .val (.int (1 : Int32)), .val .null] [] := by first | (simp [entryFrame, mkF, argsToLocals, Value.category]; done) | rfl
def Q3 (Z : State)  (h0 : Heap) (n0 : Nat) (v : Option Value) (h : Heap) (L : List Loc) : Prop := v = some (.int (0 : Int32)) ∧ Fr n0 L ∧ h = h0
set_option maxRecDepth 65536 in
set_option maxHeartbeats 40000000 in
theorem rm3 (l : Launch) (Z : State) (ar : Array Value) (hw : ∀ d ∈ tables_1, d.before ar Z = true) (ws : List Jvm.Cond)  (h0 : Heap) (n0 : Nat) (Z0 : n0 ≤ h0.size)  :
    MetFree l (⟨"jdk/internal/util/Preconditions", "checkIndex", "(IILjava/util/function/BiFunction;)I"⟩ : MethodName) (head1 (Jvm.Cond.code (⟨"jdk/internal/util/Preconditions", "checkIndex", "(IILjava/util/function/BiFunction;)I"⟩ : MethodName) jdk_41_method_11_code 3 (some .int) :: ws) ({ frames := 0, cells := 0, slots := 0, locals := 0 } : Room)) (fun a U => a = #[(.int (0 : Int32)), (.int (1 : Int32)), .null] ∧ Z.Warmed39 U.vm ∧ U.heap = h0) (fun _ _ _ _ _ => True) (fun _ U o U' => ∃ v L, o = .returned v ∧ Q3 Z  h0 n0 v U'.heap L ∧ FrameEnd U o U' L ({ frames := 0, cells := 0, slots := 0, locals := 0 } : Room).cells ({ frames := 0, cells := 0, slots := 0, locals := 0 } : Room).slots) := by
  refine MetFree.of_bodySF (plainFor_of_name pn_1) hisR ?_
  intro p e s m args below meth c s₁ Bd hml0 hP hK
  obtain ⟨rfl, hZ, hh⟩ := hP
  have hx := Bd.exec
  have hby := Bd.bytes
  have hml : c.maxLocals = 3 := hml0
  have hown : s.vm.findClass "jdk/internal/util/Preconditions" = some m.cls := findClass_of_methodNamed Bd.named
  have hnm := (name_of_methodNamed Bd.named Bd.method).1
  have X0 : Stand p l e ({ frames := 0, cells := 0, slots := 0, locals := 0 } : Room) s m #[(.int (0 : Int32)), (.int (1 : Int32)), .null] below meth c s₁ [] 0 0 := Stand.of_body Bd
  have e0 : s₁.heap = h0 := by rw [← hh, Bd.state]; rfl
  have N0 := Fr.nil n0
  have pre0 : ∀ t, Steps p.tables e below (s₁.setTop (mkF m 0 #[.val (.int (0 : Int32)), .val (.int (1 : Int32)), .val .null] [])) t → Steps p.tables e below (s₁.setTop (entryFrame m #[(.int (0 : Int32)), (.int (1 : Int32)), .null] 3)) t := fun t k => castTop (ef_3 m ) k
  refine OGo.start pre0 ?_
  show OGo p.tables e below _ (s₁.setTop (mkF m 0 #[.val (.int (0 : Int32)), .val (.int (1 : Int32)), .val .null] []))
  refine OGo.st (fun t k => XS.iloadN X0.here hx rfl (hb hby d3_0) rfl k) ?_
  show OGo p.tables e below _ (s₁.setTop (mkF m 1 #[.val (.int (0 : Int32)), .val (.int (1 : Int32)), .val .null] [(.int (0 : Int32))]))
  refine OGo.st (fun t k => XS.ifNo X0.here hx rfl (hb hby d3_1) rfl ((if0 _ _).trans (flt (by decide : ¬ ((0 : Int32) < (0 : Int32)))).1) k) ?_
  show OGo p.tables e below _ (s₁.setTop (mkF m 4 #[.val (.int (0 : Int32)), .val (.int (1 : Int32)), .val .null] []))
  refine OGo.st (fun t k => XS.iloadN X0.here hx rfl (hb hby d3_4) rfl k) ?_
  show OGo p.tables e below _ (s₁.setTop (mkF m 5 #[.val (.int (0 : Int32)), .val (.int (1 : Int32)), .val .null] [(.int (0 : Int32))]))
  refine OGo.st (fun t k => XS.iloadN X0.here hx rfl (hb hby d3_5) rfl k) ?_
  show OGo p.tables e below _ (s₁.setTop (mkF m 6 #[.val (.int (0 : Int32)), .val (.int (1 : Int32)), .val .null] [(.int (1 : Int32)), (.int (0 : Int32))]))
  refine OGo.st (fun t k => XS.icmpYes X0.here hx rfl (pc0 := 6) (pc' := 16) rfl (hb hby d3_6) rfl (tlt (by decide : (0 : Int32) < (1 : Int32))).1 (by decide) (by decide) k) ?_
  show OGo p.tables e below _ (s₁.setTop (mkF m 16 #[.val (.int (0 : Int32)), .val (.int (1 : Int32)), .val .null] []))
  refine OGo.st (fun t k => XS.iloadN X0.here hx rfl (hb hby d3_16) rfl k) ?_
  show OGo p.tables e below _ (s₁.setTop (mkF m 17 #[.val (.int (0 : Int32)), .val (.int (1 : Int32)), .val .null] [(.int (0 : Int32))]))
  obtain ⟨fs, hr, hrun, hended, hW, hsame⟩ := X0.leave (v := some (.int (0 : Int32))) (fun h => by rw [Bd.returns] at h; cases h)
  refine OGo.done (retI X0 hx Bd.returns (hb hby d3_17) hr) ⟨hrun, hended, _, _, rfl, ?_, ⟨_, rfl⟩, hW, hsame.mono (by decide) (by decide)⟩
  show Q3 Z  h0 n0 _ s₁.heap _
  rw [e0]
  exact ⟨rfl, N0, rfl⟩
theorem d4_0 : decode jdk_41_method_11_code 0 = .ok (.iload_n 0, 1) := by decide +kernel
theorem d4_1 : decode jdk_41_method_11_code 1 = .ok (.ifCond .lt 8, 3) := by decide +kernel
theorem d4_4 : decode jdk_41_method_11_code 4 = .ok (.iload_n 0, 1) := by decide +kernel
theorem d4_5 : decode jdk_41_method_11_code 5 = .ok (.iload_n 1, 1) := by decide +kernel
theorem d4_6 : decode jdk_41_method_11_code 6 = .ok (.if_icmp .lt 10, 3) := by decide +kernel
theorem d4_16 : decode jdk_41_method_11_code 16 = .ok (.iload_n 0, 1) := by decide +kernel
theorem d4_17 : decode jdk_41_method_11_code 17 = .ok (.ireturn, 1) := by decide +kernel
theorem ef_4 (m : MethodId) (x2 : Addr) : entryFrame m #[(.int (0 : Int32)), (.int (1 : Int32)), (.ref x2)] 3 = mkF m 0 #[.val (.int (0 : Int32)), .val (.int (1 : Int32)), .val (.ref x2)] [] := by first | (simp [entryFrame, mkF, argsToLocals, Value.category]; done) | rfl
def Q4 (Z : State) (a2 : Addr) (h0 : Heap) (n0 : Nat) (v : Option Value) (h : Heap) (L : List Loc) : Prop := v = some (.int (0 : Int32)) ∧ Fr n0 L ∧ h = h0
set_option maxRecDepth 65536 in
set_option maxHeartbeats 40000000 in
theorem rm4 (l : Launch) (Z : State) (ar : Array Value) (hw : ∀ d ∈ tables_1, d.before ar Z = true) (ws : List Jvm.Cond) (a2 : Addr) (h0 : Heap) (n0 : Nat) (Z0 : n0 ≤ h0.size)  :
    MetFree l (⟨"jdk/internal/util/Preconditions", "checkIndex", "(IILjava/util/function/BiFunction;)I"⟩ : MethodName) (head1 (Jvm.Cond.code (⟨"jdk/internal/util/Preconditions", "checkIndex", "(IILjava/util/function/BiFunction;)I"⟩ : MethodName) jdk_41_method_11_code 3 (some .int) :: ws) ({ frames := 0, cells := 0, slots := 0, locals := 0 } : Room)) (fun a U => a = #[(.int (0 : Int32)), (.int (1 : Int32)), (.ref a2)] ∧ Z.Warmed39 U.vm ∧ U.heap = h0) (fun _ _ _ _ _ => True) (fun _ U o U' => ∃ v L, o = .returned v ∧ Q4 Z a2 h0 n0 v U'.heap L ∧ FrameEnd U o U' L ({ frames := 0, cells := 0, slots := 0, locals := 0 } : Room).cells ({ frames := 0, cells := 0, slots := 0, locals := 0 } : Room).slots) := by
  refine MetFree.of_bodySF (plainFor_of_name pn_1) hisR ?_
  intro p e s m args below meth c s₁ Bd hml0 hP hK
  obtain ⟨rfl, hZ, hh⟩ := hP
  have hx := Bd.exec
  have hby := Bd.bytes
  have hml : c.maxLocals = 3 := hml0
  have hown : s.vm.findClass "jdk/internal/util/Preconditions" = some m.cls := findClass_of_methodNamed Bd.named
  have hnm := (name_of_methodNamed Bd.named Bd.method).1
  have X0 : Stand p l e ({ frames := 0, cells := 0, slots := 0, locals := 0 } : Room) s m #[(.int (0 : Int32)), (.int (1 : Int32)), (.ref a2)] below meth c s₁ [] 0 0 := Stand.of_body Bd
  have e0 : s₁.heap = h0 := by rw [← hh, Bd.state]; rfl
  have N0 := Fr.nil n0
  have pre0 : ∀ t, Steps p.tables e below (s₁.setTop (mkF m 0 #[.val (.int (0 : Int32)), .val (.int (1 : Int32)), .val (.ref a2)] [])) t → Steps p.tables e below (s₁.setTop (entryFrame m #[(.int (0 : Int32)), (.int (1 : Int32)), (.ref a2)] 3)) t := fun t k => castTop (ef_4 m a2) k
  refine OGo.start pre0 ?_
  show OGo p.tables e below _ (s₁.setTop (mkF m 0 #[.val (.int (0 : Int32)), .val (.int (1 : Int32)), .val (.ref a2)] []))
  refine OGo.st (fun t k => XS.iloadN X0.here hx rfl (hb hby d4_0) rfl k) ?_
  show OGo p.tables e below _ (s₁.setTop (mkF m 1 #[.val (.int (0 : Int32)), .val (.int (1 : Int32)), .val (.ref a2)] [(.int (0 : Int32))]))
  refine OGo.st (fun t k => XS.ifNo X0.here hx rfl (hb hby d4_1) rfl ((if0 _ _).trans (flt (by decide : ¬ ((0 : Int32) < (0 : Int32)))).1) k) ?_
  show OGo p.tables e below _ (s₁.setTop (mkF m 4 #[.val (.int (0 : Int32)), .val (.int (1 : Int32)), .val (.ref a2)] []))
  refine OGo.st (fun t k => XS.iloadN X0.here hx rfl (hb hby d4_4) rfl k) ?_
  show OGo p.tables e below _ (s₁.setTop (mkF m 5 #[.val (.int (0 : Int32)), .val (.int (1 : Int32)), .val (.ref a2)] [(.int (0 : Int32))]))
  refine OGo.st (fun t k => XS.iloadN X0.here hx rfl (hb hby d4_5) rfl k) ?_
  show OGo p.tables e below _ (s₁.setTop (mkF m 6 #[.val (.int (0 : Int32)), .val (.int (1 : Int32)), .val (.ref a2)] [(.int (1 : Int32)), (.int (0 : Int32))]))
  refine OGo.st (fun t k => XS.icmpYes X0.here hx rfl (pc0 := 6) (pc' := 16) rfl (hb hby d4_6) rfl (tlt (by decide : (0 : Int32) < (1 : Int32))).1 (by decide) (by decide) k) ?_
  show OGo p.tables e below _ (s₁.setTop (mkF m 16 #[.val (.int (0 : Int32)), .val (.int (1 : Int32)), .val (.ref a2)] []))
  refine OGo.st (fun t k => XS.iloadN X0.here hx rfl (hb hby d4_16) rfl k) ?_
  show OGo p.tables e below _ (s₁.setTop (mkF m 17 #[.val (.int (0 : Int32)), .val (.int (1 : Int32)), .val (.ref a2)] [(.int (0 : Int32))]))
  obtain ⟨fs, hr, hrun, hended, hW, hsame⟩ := X0.leave (v := some (.int (0 : Int32))) (fun h => by rw [Bd.returns] at h; cases h)
  refine OGo.done (retI X0 hx Bd.returns (hb hby d4_17) hr) ⟨hrun, hended, _, _, rfl, ?_, ⟨_, rfl⟩, hW, hsame.mono (by decide) (by decide)⟩
  show Q4 Z a2 h0 n0 _ s₁.heap _
  rw [e0]
  exact ⟨rfl, N0, rfl⟩
theorem pd_1 : parseMethodDescriptor "(IILjava/util/function/BiFunction;)I" = some ⟨[.int, .int, (.object "java/util/function/BiFunction")], some .int⟩ := by decide +kernel
theorem d5_0 : decode jdk_42_method_155_code 0 = .ok (.iload_n 0, 1) := by decide +kernel
theorem d5_1 : decode jdk_42_method_155_code 1 = .ok (.iload_n 1, 1) := by decide +kernel
theorem d5_2 : decode jdk_42_method_155_code 2 = .ok (.getstatic 1053, 3) := by decide +kernel
theorem d5_5 : decode jdk_42_method_155_code 5 = .ok (.invokestatic 1059, 3) := by decide +kernel
theorem d5_8 : decode jdk_42_method_155_code 8 = .ok (.pop, 1) := by decide +kernel
theorem d5_9 : decode jdk_42_method_155_code 9 = .ok (.return_, 1) := by decide +kernel
theorem ef_5 (m : MethodId)  : entryFrame m #[(.int (0 : Int32)), (.int (1 : Int32))] 2 = mkF m 0 #[.val (.int (0 : Int32)), .val (.int (1 : Int32))] [] := by first | (simp [entryFrame, mkF, argsToLocals, Value.category]; done) | rfl
def Q5 (Z : State) (fv : Value) (h0 : Heap) (n0 : Nat) (v : Option Value) (h : Heap) (L : List Loc) : Prop := v = none ∧ Fr n0 L ∧ h = h0
set_option maxRecDepth 65536 in
set_option maxHeartbeats 40000000 in
theorem rm5 (l : Launch) (Z : State) (ar : Array Value) (hw : ∀ d ∈ tables_1, d.before ar Z = true) (ws : List Jvm.Cond) (fv : Value) (h0 : Heap) (n0 : Nat) (Z0 : n0 ≤ h0.size) (S_fv : Sta Z h0 "jdk/internal/util/Preconditions" "SIOOBE_FORMATTER" "Ljava/util/function/BiFunction;" fv) (hfv : fv.isRef = true) :
    MetFree l (⟨"java/lang/String", "checkIndex", "(II)V"⟩ : MethodName) (head1 (Jvm.Cond.code (⟨"java/lang/String", "checkIndex", "(II)V"⟩ : MethodName) jdk_42_method_155_code 2 none :: ws) ({ frames := 1, cells := 0, slots := 0, locals := 14 } : Room)) (fun a U => a = #[(.int (0 : Int32)), (.int (1 : Int32))] ∧ Z.Warmed39 U.vm ∧ U.heap = h0) (fun _ _ _ _ _ => True) (fun _ U o U' => ∃ v L, o = .returned v ∧ Q5 Z fv h0 n0 v U'.heap L ∧ FrameEnd U o U' L ({ frames := 1, cells := 0, slots := 0, locals := 14 } : Room).cells ({ frames := 1, cells := 0, slots := 0, locals := 14 } : Room).slots) := by
  refine MetFree.of_bodySF (plainFor_of_name pn_0) hisR ?_
  intro p e s m args below meth c s₁ Bd hml0 hP hK
  obtain ⟨rfl, hZ, hh⟩ := hP
  have hx := Bd.exec
  have hby := Bd.bytes
  have hml : c.maxLocals = 2 := hml0
  have hown : s.vm.findClass "java/lang/String" = some m.cls := findClass_of_methodNamed Bd.named
  have hnm := (name_of_methodNamed Bd.named Bd.method).1
  have X0 : Stand p l e ({ frames := 1, cells := 0, slots := 0, locals := 14 } : Room) s m #[(.int (0 : Int32)), (.int (1 : Int32))] below meth c s₁ [] 0 0 := Stand.of_body Bd
  have e0 : s₁.heap = h0 := by rw [← hh, Bd.state]; rfl
  have N0 := Fr.nil n0
  have pre0 : ∀ t, Steps p.tables e below (s₁.setTop (mkF m 0 #[.val (.int (0 : Int32)), .val (.int (1 : Int32))] [])) t → Steps p.tables e below (s₁.setTop (entryFrame m #[(.int (0 : Int32)), (.int (1 : Int32))] 2)) t := fun t k => castTop (ef_5 m ) k
  refine OGo.start pre0 ?_
  show OGo p.tables e below _ (s₁.setTop (mkF m 0 #[.val (.int (0 : Int32)), .val (.int (1 : Int32))] []))
  rcases ref_cases hfv with hq | ⟨fa, hq⟩
  ·
    have Sx : Sta Z h0 "jdk/internal/util/Preconditions" "SIOOBE_FORMATTER" "Ljava/util/function/BiFunction;" .null := hq ▸ S_fv
    refine OGo.st (fun t k => XS.iloadN X0.here hx rfl (hb hby d5_0) rfl k) ?_
    show OGo p.tables e below _ (s₁.setTop (mkF m 1 #[.val (.int (0 : Int32)), .val (.int (1 : Int32))] [(.int (0 : Int32))]))
    refine OGo.st (fun t k => XS.iloadN X0.here hx rfl (hb hby d5_1) rfl k) ?_
    show OGo p.tables e below _ (s₁.setTop (mkF m 2 #[.val (.int (0 : Int32)), .val (.int (1 : Int32))] [(.int (1 : Int32)), (.int (0 : Int32))]))
    obtain ⟨T101, X101, e101, st101⟩ := getS2 X0 hx hZ hown (host := "") (Or.inl (hw _ (List.mem_of_getElem? (i := 58) rfl))) Via.refl e0 Sx (g := (mkF m 2 #[.val (.int (0 : Int32)), .val (.int (1 : Int32))] [(.int (1 : Int32)), (.int (0 : Int32))])) rfl (hb hby d5_2)
    refine OGo.st st101 ?_
    show OGo p.tables e below _ (T101.setTop (mkF m 5 #[.val (.int (0 : Int32)), .val (.int (1 : Int32))] [.null, (.int (1 : Int32)), (.int (0 : Int32))]))
    obtain ⟨_, _, ⟨T102, L102, kk102, nn102⟩, -, X102, ⟨Lc102, hQ102, l102, y102, z102⟩, st102⟩ := Jvm.LawKit.callS X101 hx (y := (⟨"jdk/internal/util/Preconditions", "checkIndex", "(IILjava/util/function/BiFunction;)I"⟩ : MethodName)) hown (mvT hZ (hw _ (List.mem_of_getElem? (i := 60) rfl))) (mvT hZ (hw _ (List.mem_of_getElem? (i := 61) rfl))) (mvT hZ (hw _ (List.mem_of_getElem? (i := 59) rfl))) (mvT hZ (hw _ (List.mem_of_getElem? (i := 62) rfl))) (by decide) (backOf (W := 0) (rm3 l Z ar hw []  h0 n0 Z0 ) hZ (hw _ (List.mem_of_getElem? (i := 62) rfl)) (hw _ (List.mem_of_getElem? (i := 59) rfl)) (by decide) (by decide)) (g := (mkF m 5 #[.val (.int (0 : Int32)), .val (.int (1 : Int32))] [.null, (.int (1 : Int32)), (.int (0 : Int32))])) rfl (by rw [hml]; rfl) (argsL := [(.int (0 : Int32)), (.int (1 : Int32)), .null]) (rest := []) (lenOf pd_1 rfl) rfl (by show 2 * 0 + _ ≤ _; exact Nat.le_of_eq rfl) (hb hby d5_5) (fun _ _ => ⟨rfl, e101, (by decide : 0 + 0 ≤ _), (by decide : 0 + 0 ≤ _)⟩)
    dsimp only [Pt.U, Pt.locs, Pt.cells, Pt.slots] at X102 l102 y102 z102 st102 hQ102
    subst l102 y102 z102
    obtain ⟨rfl, Nq102, hh102⟩ := hQ102
    have N102 := Fr.app N0 Nq102
    refine OGo.st st102 ?_
    have e102 : T102.heap = h0 := hh102
    show OGo p.tables e below _ (T102.setTop (mkF m 8 #[.val (.int (0 : Int32)), .val (.int (1 : Int32))] [(.int (0 : Int32))]))
    refine OGo.st (fun t k => XS.pop X102.here hx rfl (hb hby d5_8) rfl rfl k) ?_
    show OGo p.tables e below _ (T102.setTop (mkF m 9 #[.val (.int (0 : Int32)), .val (.int (1 : Int32))] []))
    obtain ⟨fs, hr, hrun, hended, hW, hsame⟩ := X102.leave (v := none) (fun _ => rfl)
    refine OGo.done (X102.returnOut hx Bd.returns (hb hby d5_9) hr) ⟨hrun, hended, _, _, rfl, ?_, ⟨_, rfl⟩, hW, hsame.mono (by decide) (by decide)⟩
    show Q5 Z fv h0 n0 _ T102.heap _
    rw [e102]
    exact ⟨rfl, N102, rfl⟩
  ·
    have Sx : Sta Z h0 "jdk/internal/util/Preconditions" "SIOOBE_FORMATTER" "Ljava/util/function/BiFunction;" (.ref fa) := hq ▸ S_fv
    refine OGo.st (fun t k => XS.iloadN X0.here hx rfl (hb hby d5_0) rfl k) ?_
    show OGo p.tables e below _ (s₁.setTop (mkF m 1 #[.val (.int (0 : Int32)), .val (.int (1 : Int32))] [(.int (0 : Int32))]))
    refine OGo.st (fun t k => XS.iloadN X0.here hx rfl (hb hby d5_1) rfl k) ?_
    show OGo p.tables e below _ (s₁.setTop (mkF m 2 #[.val (.int (0 : Int32)), .val (.int (1 : Int32))] [(.int (1 : Int32)), (.int (0 : Int32))]))
    obtain ⟨T104, X104, e104, st104⟩ := getS2 X0 hx hZ hown (host := "") (Or.inl (hw _ (List.mem_of_getElem? (i := 58) rfl))) Via.refl e0 Sx (g := (mkF m 2 #[.val (.int (0 : Int32)), .val (.int (1 : Int32))] [(.int (1 : Int32)), (.int (0 : Int32))])) rfl (hb hby d5_2)
    refine OGo.st st104 ?_
    show OGo p.tables e below _ (T104.setTop (mkF m 5 #[.val (.int (0 : Int32)), .val (.int (1 : Int32))] [(.ref fa), (.int (1 : Int32)), (.int (0 : Int32))]))
    obtain ⟨_, _, ⟨T105, L105, kk105, nn105⟩, -, X105, ⟨Lc105, hQ105, l105, y105, z105⟩, st105⟩ := Jvm.LawKit.callS X104 hx (y := (⟨"jdk/internal/util/Preconditions", "checkIndex", "(IILjava/util/function/BiFunction;)I"⟩ : MethodName)) hown (mvT hZ (hw _ (List.mem_of_getElem? (i := 60) rfl))) (mvT hZ (hw _ (List.mem_of_getElem? (i := 61) rfl))) (mvT hZ (hw _ (List.mem_of_getElem? (i := 59) rfl))) (mvT hZ (hw _ (List.mem_of_getElem? (i := 62) rfl))) (by decide) (backOf (W := 0) (rm4 l Z ar hw [] fa h0 n0 Z0 ) hZ (hw _ (List.mem_of_getElem? (i := 62) rfl)) (hw _ (List.mem_of_getElem? (i := 59) rfl)) (by decide) (by decide)) (g := (mkF m 5 #[.val (.int (0 : Int32)), .val (.int (1 : Int32))] [(.ref fa), (.int (1 : Int32)), (.int (0 : Int32))])) rfl (by rw [hml]; rfl) (argsL := [(.int (0 : Int32)), (.int (1 : Int32)), (.ref fa)]) (rest := []) (lenOf pd_1 rfl) rfl (by show 2 * 0 + _ ≤ _; exact Nat.le_of_eq rfl) (hb hby d5_5) (fun _ _ => ⟨rfl, e104, (by decide : 0 + 0 ≤ _), (by decide : 0 + 0 ≤ _)⟩)
    dsimp only [Pt.U, Pt.locs, Pt.cells, Pt.slots] at X105 l105 y105 z105 st105 hQ105
    subst l105 y105 z105
    obtain ⟨rfl, Nq105, hh105⟩ := hQ105
    have N105 := Fr.app N0 Nq105
    refine OGo.st st105 ?_
    have e105 : T105.heap = h0 := hh105
    show OGo p.tables e below _ (T105.setTop (mkF m 8 #[.val (.int (0 : Int32)), .val (.int (1 : Int32))] [(.int (0 : Int32))]))
    refine OGo.st (fun t k => XS.pop X105.here hx rfl (hb hby d5_8) rfl rfl k) ?_
    show OGo p.tables e below _ (T105.setTop (mkF m 9 #[.val (.int (0 : Int32)), .val (.int (1 : Int32))] []))
    obtain ⟨fs, hr, hrun, hended, hW, hsame⟩ := X105.leave (v := none) (fun _ => rfl)
    refine OGo.done (X105.returnOut hx Bd.returns (hb hby d5_9) hr) ⟨hrun, hended, _, _, rfl, ?_, ⟨_, rfl⟩, hW, hsame.mono (by decide) (by decide)⟩
    show Q5 Z fv h0 n0 _ T105.heap _
    rw [e105]
    exact ⟨rfl, N105, rfl⟩
theorem pd_2 : parseMethodDescriptor "(II)V" = some ⟨[.int, .int], none⟩ := by decide +kernel
theorem d6_0 : decode jdk_43_method_2_code 0 = .ok (.iload_n 1, 1) := by decide +kernel
theorem d6_1 : decode jdk_43_method_2_code 1 = .ok (.aload_n 0, 1) := by decide +kernel
theorem d6_2 : decode jdk_43_method_2_code 2 = .ok (.arraylength, 1) := by decide +kernel
theorem d6_3 : decode jdk_43_method_2_code 3 = .ok (.invokestatic 9, 3) := by decide +kernel
theorem d6_6 : decode jdk_43_method_2_code 6 = .ok (.aload_n 0, 1) := by decide +kernel
theorem d6_7 : decode jdk_43_method_2_code 7 = .ok (.iload_n 1, 1) := by decide +kernel
theorem d6_8 : decode jdk_43_method_2_code 8 = .ok (.baload, 1) := by decide +kernel
theorem d6_9 : decode jdk_43_method_2_code 9 = .ok (.sipush 255, 3) := by decide +kernel
theorem d6_12 : decode jdk_43_method_2_code 12 = .ok (.iand, 1) := by decide +kernel
theorem d6_13 : decode jdk_43_method_2_code 13 = .ok (.i2c, 1) := by decide +kernel
theorem d6_14 : decode jdk_43_method_2_code 14 = .ok (.ireturn, 1) := by decide +kernel
theorem pn_2 : plainName "java/lang/StringLatin1" = true := by first | (simp [plainName, overriddenIn]; done) | decide +kernel
theorem ef_6 (m : MethodId) (x0 : Addr) : entryFrame m #[(.ref x0), (.int (0 : Int32))] 2 = mkF m 0 #[.val (.ref x0), .val (.int (0 : Int32))] [] := by first | (simp [entryFrame, mkF, argsToLocals, Value.category]; done) | rfl
def Q6 (Z : State) (a0 : Addr) (k : ClassId) (fv : Value) (h0 : Heap) (n0 : Nat) (v : Option Value) (h : Heap) (L : List Loc) : Prop := v = some (.int (60 : Int32)) ∧ Fr n0 L ∧ h = h0
set_option maxRecDepth 65536 in
set_option maxHeartbeats 40000000 in
theorem rm6 (l : Launch) (Z : State) (ar : Array Value) (hw : ∀ d ∈ tables_1, d.before ar Z = true) (ws : List Jvm.Cond) (a0 : Addr) (k : ClassId) (fv : Value) (h0 : Heap) (n0 : Nat) (Z0 : n0 ≤ h0.size) (V0 : Arv Z h0 a0 k .byte (1 : Int32) [(.int (60 : Int32))] (.int (0 : Int32))) (S_fv : Sta Z h0 "jdk/internal/util/Preconditions" "SIOOBE_FORMATTER" "Ljava/util/function/BiFunction;" fv) (hfv : fv.isRef = true) :
    MetFree l (⟨"java/lang/StringLatin1", "charAt", "([BI)C"⟩ : MethodName) (head1 (Jvm.Cond.code (⟨"java/lang/StringLatin1", "charAt", "([BI)C"⟩ : MethodName) jdk_43_method_2_code 2 (some .char) :: ws) ({ frames := 2, cells := 0, slots := 0, locals := 27 } : Room)) (fun a U => a = #[(.ref a0), (.int (0 : Int32))] ∧ Z.Warmed39 U.vm ∧ U.heap = h0) (fun _ _ _ _ _ => True) (fun _ U o U' => ∃ v L, o = .returned v ∧ Q6 Z a0 k fv h0 n0 v U'.heap L ∧ FrameEnd U o U' L ({ frames := 2, cells := 0, slots := 0, locals := 27 } : Room).cells ({ frames := 2, cells := 0, slots := 0, locals := 27 } : Room).slots) := by
  refine MetFree.of_bodySF (plainFor_of_name pn_2) hisR ?_
  intro p e s m args below meth c s₁ Bd hml0 hP hK
  obtain ⟨rfl, hZ, hh⟩ := hP
  have hx := Bd.exec
  have hby := Bd.bytes
  have hml : c.maxLocals = 2 := hml0
  have hown : s.vm.findClass "java/lang/StringLatin1" = some m.cls := findClass_of_methodNamed Bd.named
  have hnm := (name_of_methodNamed Bd.named Bd.method).1
  have X0 : Stand p l e ({ frames := 2, cells := 0, slots := 0, locals := 27 } : Room) s m #[(.ref a0), (.int (0 : Int32))] below meth c s₁ [] 0 0 := Stand.of_body Bd
  have e0 : s₁.heap = h0 := by rw [← hh, Bd.state]; rfl
  have N0 := Fr.nil n0
  have pre0 : ∀ t, Steps p.tables e below (s₁.setTop (mkF m 0 #[.val (.ref a0), .val (.int (0 : Int32))] [])) t → Steps p.tables e below (s₁.setTop (entryFrame m #[(.ref a0), (.int (0 : Int32))] 2)) t := fun t k => castTop (ef_6 m a0) k
  refine OGo.start pre0 ?_
  show OGo p.tables e below _ (s₁.setTop (mkF m 0 #[.val (.ref a0), .val (.int (0 : Int32))] []))
  refine OGo.st (fun t k => XS.iloadN X0.here hx rfl (hb hby d6_0) rfl k) ?_
  show OGo p.tables e below _ (s₁.setTop (mkF m 1 #[.val (.ref a0), .val (.int (0 : Int32))] [(.int (0 : Int32))]))
  refine OGo.st (fun t k => XS.aloadN X0.here hx rfl (hb hby d6_1) rfl rfl k) ?_
  show OGo p.tables e below _ (s₁.setTop (mkF m 2 #[.val (.ref a0), .val (.int (0 : Int32))] [(.ref a0), (.int (0 : Int32))]))
  obtain ⟨cl101, Ar101, qc101, Sz101, Nz101, Hs101, Gs101⟩ := id V0
  refine OGo.st (fun t k => X0.arraylength hx (by rw [e0]; exact Ar101.1) (State.isArrayOf_alike hZ.alike Ar101.2.1) (g := (mkF m 2 #[.val (.ref a0), .val (.int (0 : Int32))] [(.ref a0), (.int (0 : Int32))])) rfl rfl (hb hby d6_2) _ k) ?_
  rw [len_of Sz101 Nz101]
  show OGo p.tables e below _ (s₁.setTop (mkF m 3 #[.val (.ref a0), .val (.int (0 : Int32))] [(.int (1 : Int32)), (.int (0 : Int32))]))
  obtain ⟨_, _, ⟨T102, L102, kk102, nn102⟩, -, X102, ⟨Lc102, hQ102, l102, y102, z102⟩, st102⟩ := Jvm.LawKit.callS X0 hx (y := (⟨"java/lang/String", "checkIndex", "(II)V"⟩ : MethodName)) hown (mvT hZ (hw _ (List.mem_of_getElem? (i := 55) rfl))) (mvT hZ (hw _ (List.mem_of_getElem? (i := 56) rfl))) (mvT hZ (hw _ (List.mem_of_getElem? (i := 29) rfl))) (mvT hZ (hw _ (List.mem_of_getElem? (i := 57) rfl))) (by decide) (backOf (W := 0) (rm5 l Z ar hw [] fv h0 n0 Z0 S_fv hfv) hZ (hw _ (List.mem_of_getElem? (i := 57) rfl)) (hw _ (List.mem_of_getElem? (i := 29) rfl)) (by decide) (by decide)) (g := (mkF m 3 #[.val (.ref a0), .val (.int (0 : Int32))] [(.int (1 : Int32)), (.int (0 : Int32))])) rfl (by rw [hml]; rfl) (argsL := [(.int (0 : Int32)), (.int (1 : Int32))]) (rest := []) (lenOf pd_2 rfl) rfl (by show 2 * 0 + _ ≤ _; exact Nat.le_of_eq rfl) (hb hby d6_3) (fun _ _ => ⟨rfl, e0, (by decide : 0 + 0 ≤ _), (by decide : 0 + 0 ≤ _)⟩)
  dsimp only [Pt.U, Pt.locs, Pt.cells, Pt.slots] at X102 l102 y102 z102 st102 hQ102
  subst l102 y102 z102
  obtain ⟨rfl, Nq102, hh102⟩ := hQ102
  have N102 := Fr.app N0 Nq102
  refine OGo.st st102 ?_
  have e102 : T102.heap = h0 := hh102
  show OGo p.tables e below _ (T102.setTop (mkF m 6 #[.val (.ref a0), .val (.int (0 : Int32))] []))
  refine OGo.st (fun t k => XS.aloadN X102.here hx rfl (hb hby d6_6) rfl rfl k) ?_
  show OGo p.tables e below _ (T102.setTop (mkF m 7 #[.val (.ref a0), .val (.int (0 : Int32))] [(.ref a0)]))
  refine OGo.st (fun t k => XS.iloadN X102.here hx rfl (hb hby d6_7) rfl k) ?_
  show OGo p.tables e below _ (T102.setTop (mkF m 8 #[.val (.ref a0), .val (.int (0 : Int32))] [(.int (0 : Int32)), (.ref a0)]))
  obtain ⟨cl103, Ar103, qc103, Sz103, Nz103, Hs103, Gs103⟩ := id V0
  have hin103 : ¬ ((0 : Int32) < 0 ∨ cl103.slots.size ≤ ((0 : Int32)).toNatClampNeg) := inb_of Sz103 ⟨by decide, by decide⟩
  have hat103 : cl103.slots[((0 : Int32)).toNatClampNeg]? = some (.int (60 : Int32)) := Has.at Hs103 hin103 rfl
  refine OGo.st (fun t k => X102.baloadBytes hx (j := (0 : Int32)) (v := (.int (60 : Int32))) (by rw [e102]; exact Ar103.1) (State.isArrayOf_alike hZ.alike Ar103.2.1) Ar103.2.2 hin103 hat103 (g := (mkF m 8 #[.val (.ref a0), .val (.int (0 : Int32))] [(.int (0 : Int32)), (.ref a0)])) rfl rfl (hb hby d6_8) _ k) ?_
  show OGo p.tables e below _ (T102.setTop (mkF m 9 #[.val (.ref a0), .val (.int (0 : Int32))] [(.int (60 : Int32))]))
  refine OGo.st (fun t k => XS.sipush X102.here hx rfl (hb hby d6_9) k) ?_
  show OGo p.tables e below _ (T102.setTop (mkF m 12 #[.val (.ref a0), .val (.int (0 : Int32))] [(.int (255 : Int32)), (.int (60 : Int32))]))
  refine OGo.st (fun t k => XS.iand X102.here hx rfl (hb hby d6_12) rfl k) ?_
  show OGo p.tables e below _ (T102.setTop (mkF m 13 #[.val (.ref a0), .val (.int (0 : Int32))] [(.int (60 : Int32))]))
  refine OGo.st (fun t k => XS.i2c X102.here hx rfl (hb hby d6_13) rfl k) ?_
  show OGo p.tables e below _ (T102.setTop (mkF m 14 #[.val (.ref a0), .val (.int (0 : Int32))] [(.int (60 : Int32))]))
  obtain ⟨fs, hr, hrun, hended, hW, hsame⟩ := X102.leave (v := some (.int (60 : Int32))) (fun h => by rw [Bd.returns] at h; cases h)
  refine OGo.done (retN X102 hx (t := .char) Bd.returns (by simp) (hb hby d6_14) hr) ⟨hrun, hended, _, _, rfl, ?_, ⟨_, rfl⟩, hW, hsame.mono (by decide) (by decide)⟩
  show Q6 Z a0 k fv h0 n0 _ T102.heap _
  rw [e102]
  exact ⟨rfl, N102, rfl⟩
theorem pd_3 : parseMethodDescriptor "()Z" = some ⟨[], some .boolean⟩ := by decide +kernel
theorem pd_4 : parseMethodDescriptor "([BI)C" = some ⟨[(.array .byte), .int], some .char⟩ := by decide +kernel
theorem d7_0 : decode jdk_42_method_56_code 0 = .ok (.aload_n 0, 1) := by decide +kernel
theorem d7_1 : decode jdk_42_method_56_code 1 = .ok (.invokevirtual 492, 3) := by decide +kernel
theorem d7_4 : decode jdk_42_method_56_code 4 = .ok (.ifCond .eq 12, 3) := by decide +kernel
theorem d7_7 : decode jdk_42_method_56_code 7 = .ok (.aload_n 0, 1) := by decide +kernel
theorem d7_8 : decode jdk_42_method_56_code 8 = .ok (.getfield 9, 3) := by decide +kernel
theorem d7_11 : decode jdk_42_method_56_code 11 = .ok (.iload_n 1, 1) := by decide +kernel
theorem d7_12 : decode jdk_42_method_56_code 12 = .ok (.invokestatic 495, 3) := by decide +kernel
theorem d7_15 : decode jdk_42_method_56_code 15 = .ok (.ireturn, 1) := by decide +kernel
theorem ef_7 (m : MethodId) (x0 : Addr) : entryFrame m #[(.ref x0), (.int (0 : Int32))] 2 = mkF m 0 #[.val (.ref x0), .val (.int (0 : Int32))] [] := by first | (simp [entryFrame, mkF, argsToLocals, Value.category]; done) | rfl
def Q7 (Z : State) (a0 : Addr) (b : Addr) (k : ClassId) (cs : Int32) (fv : Value) (h0 : Heap) (n0 : Nat) (v : Option Value) (h : Heap) (L : List Loc) : Prop := v = some (.int (60 : Int32)) ∧ Fr n0 L ∧ h = h0
set_option maxRecDepth 65536 in
set_option maxHeartbeats 40000000 in
theorem rm7 (l : Launch) (Z : State) (ar : Array Value) (hw : ∀ d ∈ tables_1, d.before ar Z = true) (ws : List Jvm.Cond) (a0 : Addr) (b : Addr) (k : ClassId) (cs : Int32) (fv : Value) (h0 : Heap) (n0 : Nat) (Z0 : n0 ≤ h0.size) (F1 : Fld Z h0 a0 "java/lang/String" "value" "[B" (.ref b)) (F2 : Fld Z h0 a0 "java/lang/String" "coder" "B" (.int (0 : Int32))) (V0 : Arv Z h0 b k .byte (1 : Int32) [(.int (60 : Int32))] (.int (0 : Int32))) (E0 : Exa Z h0 a0 "java/lang/String") (S_cs : Sta Z h0 "java/lang/String" "COMPACT_STRINGS" "Z" (.int cs)) (hcs : ¬ cs = (0 : Int32)) (S_fv : Sta Z h0 "jdk/internal/util/Preconditions" "SIOOBE_FORMATTER" "Ljava/util/function/BiFunction;" fv) (hfv : fv.isRef = true) :
    MetFree l (⟨"java/lang/String", "charAt", "(I)C"⟩ : MethodName) (head1 (Jvm.Cond.code (⟨"java/lang/String", "charAt", "(I)C"⟩ : MethodName) jdk_42_method_56_code 2 (some .char) :: ws) ({ frames := 3, cells := 0, slots := 0, locals := 40 } : Room)) (fun a U => a = #[(.ref a0), (.int (0 : Int32))] ∧ Z.Warmed39 U.vm ∧ U.heap = h0) (fun _ _ _ _ _ => True) (fun _ U o U' => ∃ v L, o = .returned v ∧ Q7 Z a0 b k cs fv h0 n0 v U'.heap L ∧ FrameEnd U o U' L ({ frames := 3, cells := 0, slots := 0, locals := 40 } : Room).cells ({ frames := 3, cells := 0, slots := 0, locals := 40 } : Room).slots) := by
  refine MetFree.of_bodySF (plainFor_of_name pn_0) hisR ?_
  intro p e s m args below meth c s₁ Bd hml0 hP hK
  obtain ⟨rfl, hZ, hh⟩ := hP
  have hx := Bd.exec
  have hby := Bd.bytes
  have hml : c.maxLocals = 2 := hml0
  have hown : s.vm.findClass "java/lang/String" = some m.cls := findClass_of_methodNamed Bd.named
  have hnm := (name_of_methodNamed Bd.named Bd.method).1
  have X0 : Stand p l e ({ frames := 3, cells := 0, slots := 0, locals := 40 } : Room) s m #[(.ref a0), (.int (0 : Int32))] below meth c s₁ [] 0 0 := Stand.of_body Bd
  have e0 : s₁.heap = h0 := by rw [← hh, Bd.state]; rfl
  have N0 := Fr.nil n0
  have pre0 : ∀ t, Steps p.tables e below (s₁.setTop (mkF m 0 #[.val (.ref a0), .val (.int (0 : Int32))] [])) t → Steps p.tables e below (s₁.setTop (entryFrame m #[(.ref a0), (.int (0 : Int32))] 2)) t := fun t k => castTop (ef_7 m a0) k
  refine OGo.start pre0 ?_
  show OGo p.tables e below _ (s₁.setTop (mkF m 0 #[.val (.ref a0), .val (.int (0 : Int32))] []))
  refine OGo.st (fun t k => XS.aloadN X0.here hx rfl (hb hby d7_0) rfl rfl k) ?_
  show OGo p.tables e below _ (s₁.setTop (mkF m 1 #[.val (.ref a0), .val (.int (0 : Int32))] [(.ref a0)]))
  obtain ⟨cq101, kq101, q101a, q101b, q101c⟩ := isOf hZ e0 E0
  obtain ⟨_, _, ⟨T101, L101, kk101, nn101⟩, -, X101, ⟨Lc101, hQ101, l101, y101, z101⟩, st101⟩ := X0.virtualBack hx (y := (⟨"java/lang/String", "isLatin1", "()Z"⟩ : MethodName)) (z := (⟨"java/lang/String", "isLatin1", "()Z"⟩ : MethodName)) hown (mvT hZ (hw _ (List.mem_of_getElem? (i := 46) rfl))) (mvT hZ (hw _ (List.mem_of_getElem? (i := 47) rfl))) (notFace_of_selects (args := #[]) (mvT hZ (hw _ (List.mem_of_getElem? (i := 49) rfl)))) (mvT hZ (hw _ (List.mem_of_getElem? (i := 49) rfl))) (mvT hZ (hw _ (List.mem_of_getElem? (i := 48) rfl))) (by decide) (backOf (W := 0) (rm1 l Z ar hw [] a0 cs h0 n0 Z0 S_cs hcs F2) hZ (hw _ (List.mem_of_getElem? (i := 50) rfl)) (hw _ (List.mem_of_getElem? (i := 29) rfl)) (by decide) (by decide)) q101a q101c (g := (mkF m 1 #[.val (.ref a0), .val (.int (0 : Int32))] [(.ref a0)])) rfl (by rw [hml]; rfl) (Steps.refl _) (argsL := []) (rest := []) (lenOf pd_3 rfl) rfl (by show 2 * 0 + _ ≤ _; exact Nat.le_of_eq rfl) (hb hby d7_1) (fun _ _ => ⟨rfl, e0, (by decide : 0 + 0 ≤ _), (by decide : 0 + 0 ≤ _)⟩)
  dsimp only [Pt.U, Pt.locs, Pt.cells, Pt.slots] at X101 l101 y101 z101 st101 hQ101
  subst l101 y101 z101
  obtain ⟨rfl, Nq101, hh101⟩ := hQ101
  have N101 := Fr.app N0 Nq101
  refine OGo.st (fun t k => st101.trans k) ?_
  have e101 : T101.heap = h0 := hh101
  show OGo p.tables e below _ (T101.setTop (mkF m 4 #[.val (.ref a0), .val (.int (0 : Int32))] [(.int (1 : Int32))]))
  refine OGo.st (fun t k => XS.ifNo X101.here hx rfl (hb hby d7_4) rfl ((if0 _ _).trans (feq (by decide : ¬ ((1 : Int32) = (0 : Int32)))).1) k) ?_
  show OGo p.tables e below _ (T101.setTop (mkF m 7 #[.val (.ref a0), .val (.int (0 : Int32))] []))
  refine OGo.st (fun t k => XS.aloadN X101.here hx rfl (hb hby d7_7) rfl rfl k) ?_
  show OGo p.tables e below _ (T101.setTop (mkF m 8 #[.val (.ref a0), .val (.int (0 : Int32))] [(.ref a0)]))
  obtain ⟨T102, X102, e102, st102⟩ := getF X101 hx hZ hown (host := "") (Or.inl (hw _ (List.mem_of_getElem? (i := 31) rfl))) Via.refl e101 F1 (g := (mkF m 8 #[.val (.ref a0), .val (.int (0 : Int32))] [(.ref a0)])) rfl rfl (hb hby d7_8)
  refine OGo.st st102 ?_
  show OGo p.tables e below _ (T102.setTop (mkF m 11 #[.val (.ref a0), .val (.int (0 : Int32))] [(.ref b)]))
  refine OGo.st (fun t k => XS.iloadN X102.here hx rfl (hb hby d7_11) rfl k) ?_
  show OGo p.tables e below _ (T102.setTop (mkF m 12 #[.val (.ref a0), .val (.int (0 : Int32))] [(.int (0 : Int32)), (.ref b)]))
  obtain ⟨_, _, ⟨T103, L103, kk103, nn103⟩, -, X103, ⟨Lc103, hQ103, l103, y103, z103⟩, st103⟩ := Jvm.LawKit.callS X102 hx (y := (⟨"java/lang/StringLatin1", "charAt", "([BI)C"⟩ : MethodName)) hown (mvT hZ (hw _ (List.mem_of_getElem? (i := 51) rfl))) (mvT hZ (hw _ (List.mem_of_getElem? (i := 52) rfl))) (mvT hZ (hw _ (List.mem_of_getElem? (i := 53) rfl))) (mvT hZ (hw _ (List.mem_of_getElem? (i := 54) rfl))) (by decide) (backOf (W := 0) (rm6 l Z ar hw [] b k fv h0 n0 Z0 V0 S_fv hfv) hZ (hw _ (List.mem_of_getElem? (i := 54) rfl)) (hw _ (List.mem_of_getElem? (i := 53) rfl)) (by decide) (by decide)) (g := (mkF m 12 #[.val (.ref a0), .val (.int (0 : Int32))] [(.int (0 : Int32)), (.ref b)])) rfl (by rw [hml]; rfl) (argsL := [(.ref b), (.int (0 : Int32))]) (rest := []) (lenOf pd_4 rfl) rfl (by show 2 * 0 + _ ≤ _; exact Nat.le_of_eq rfl) (hb hby d7_12) (fun _ _ => ⟨rfl, e102, (by decide : 0 + 0 ≤ _), (by decide : 0 + 0 ≤ _)⟩)
  dsimp only [Pt.U, Pt.locs, Pt.cells, Pt.slots] at X103 l103 y103 z103 st103 hQ103
  subst l103 y103 z103
  obtain ⟨rfl, Nq103, hh103⟩ := hQ103
  have N103 := Fr.app N101 Nq103
  refine OGo.st st103 ?_
  have e103 : T103.heap = h0 := hh103
  show OGo p.tables e below _ (T103.setTop (mkF m 15 #[.val (.ref a0), .val (.int (0 : Int32))] [(.int (60 : Int32))]))
  obtain ⟨fs, hr, hrun, hended, hW, hsame⟩ := X103.leave (v := some (.int (60 : Int32))) (fun h => by rw [Bd.returns] at h; cases h)
  refine OGo.done (retN X103 hx (t := .char) Bd.returns (by simp) (hb hby d7_15) hr) ⟨hrun, hended, _, _, rfl, ?_, ⟨_, rfl⟩, hW, hsame.mono (by decide) (by decide)⟩
  show Q7 Z a0 b k cs fv h0 n0 _ T103.heap _
  rw [e103]
  exact ⟨rfl, N103, rfl⟩
theorem d8_0 : decode jdk_42_method_54_code 0 = .ok (.aload_n 0, 1) := by decide +kernel
theorem d8_1 : decode jdk_42_method_54_code 1 = .ok (.getfield 9, 3) := by decide +kernel
theorem d8_4 : decode jdk_42_method_54_code 4 = .ok (.arraylength, 1) := by decide +kernel
theorem d8_5 : decode jdk_42_method_54_code 5 = .ok (.aload_n 0, 1) := by decide +kernel
theorem d8_6 : decode jdk_42_method_54_code 6 = .ok (.invokevirtual 335, 3) := by decide +kernel
theorem d8_9 : decode jdk_42_method_54_code 9 = .ok (.ishr, 1) := by decide +kernel
theorem d8_10 : decode jdk_42_method_54_code 10 = .ok (.ireturn, 1) := by decide +kernel
theorem ef_8 (m : MethodId) (x0 : Addr) : entryFrame m #[(.ref x0)] 1 = mkF m 0 #[.val (.ref x0)] [] := by first | (simp [entryFrame, mkF, argsToLocals, Value.category]; done) | rfl
def Q8 (Z : State) (a0 : Addr) (b : Addr) (k : ClassId) (cs : Int32) (h0 : Heap) (n0 : Nat) (v : Option Value) (h : Heap) (L : List Loc) : Prop := v = some (.int (2 : Int32)) ∧ Fr n0 L ∧ h = h0
set_option maxRecDepth 65536 in
set_option maxHeartbeats 40000000 in
theorem rm8 (l : Launch) (Z : State) (ar : Array Value) (hw : ∀ d ∈ tables_1, d.before ar Z = true) (ws : List Jvm.Cond) (a0 : Addr) (b : Addr) (k : ClassId) (cs : Int32) (h0 : Heap) (n0 : Nat) (Z0 : n0 ≤ h0.size) (F1 : Fld Z h0 a0 "java/lang/String" "value" "[B" (.ref b)) (F2 : Fld Z h0 a0 "java/lang/String" "coder" "B" (.int (0 : Int32))) (V0 : Arv Z h0 b k .byte (2 : Int32) [(.int (60 : Int32)), (.int (61 : Int32))] (.int (0 : Int32))) (E0 : Exa Z h0 a0 "java/lang/String") (S_cs : Sta Z h0 "java/lang/String" "COMPACT_STRINGS" "Z" (.int cs)) (hcs : ¬ cs = (0 : Int32)) :
    MetFree l (⟨"java/lang/String", "length", "()I"⟩ : MethodName) (head1 (Jvm.Cond.code (⟨"java/lang/String", "length", "()I"⟩ : MethodName) jdk_42_method_54_code 1 (some .int) :: ws) ({ frames := 1, cells := 0, slots := 0, locals := 13 } : Room)) (fun a U => a = #[(.ref a0)] ∧ Z.Warmed39 U.vm ∧ U.heap = h0) (fun _ _ _ _ _ => True) (fun _ U o U' => ∃ v L, o = .returned v ∧ Q8 Z a0 b k cs h0 n0 v U'.heap L ∧ FrameEnd U o U' L ({ frames := 1, cells := 0, slots := 0, locals := 13 } : Room).cells ({ frames := 1, cells := 0, slots := 0, locals := 13 } : Room).slots) := by
  refine MetFree.of_bodySF (plainFor_of_name pn_0) hisR ?_
  intro p e s m args below meth c s₁ Bd hml0 hP hK
  obtain ⟨rfl, hZ, hh⟩ := hP
  have hx := Bd.exec
  have hby := Bd.bytes
  have hml : c.maxLocals = 1 := hml0
  have hown : s.vm.findClass "java/lang/String" = some m.cls := findClass_of_methodNamed Bd.named
  have hnm := (name_of_methodNamed Bd.named Bd.method).1
  have X0 : Stand p l e ({ frames := 1, cells := 0, slots := 0, locals := 13 } : Room) s m #[(.ref a0)] below meth c s₁ [] 0 0 := Stand.of_body Bd
  have e0 : s₁.heap = h0 := by rw [← hh, Bd.state]; rfl
  have N0 := Fr.nil n0
  have pre0 : ∀ t, Steps p.tables e below (s₁.setTop (mkF m 0 #[.val (.ref a0)] [])) t → Steps p.tables e below (s₁.setTop (entryFrame m #[(.ref a0)] 1)) t := fun t k => castTop (ef_8 m a0) k
  refine OGo.start pre0 ?_
  show OGo p.tables e below _ (s₁.setTop (mkF m 0 #[.val (.ref a0)] []))
  refine OGo.st (fun t k => XS.aloadN X0.here hx rfl (hb hby d8_0) rfl rfl k) ?_
  show OGo p.tables e below _ (s₁.setTop (mkF m 1 #[.val (.ref a0)] [(.ref a0)]))
  obtain ⟨T101, X101, e101, st101⟩ := getF X0 hx hZ hown (host := "") (Or.inl (hw _ (List.mem_of_getElem? (i := 31) rfl))) Via.refl e0 F1 (g := (mkF m 1 #[.val (.ref a0)] [(.ref a0)])) rfl rfl (hb hby d8_1)
  refine OGo.st st101 ?_
  show OGo p.tables e below _ (T101.setTop (mkF m 4 #[.val (.ref a0)] [(.ref b)]))
  obtain ⟨cl102, Ar102, qc102, Sz102, Nz102, Hs102, Gs102⟩ := id V0
  refine OGo.st (fun t k => X101.arraylength hx (by rw [e101]; exact Ar102.1) (State.isArrayOf_alike hZ.alike Ar102.2.1) (g := (mkF m 4 #[.val (.ref a0)] [(.ref b)])) rfl rfl (hb hby d8_4) _ k) ?_
  rw [len_of Sz102 Nz102]
  show OGo p.tables e below _ (T101.setTop (mkF m 5 #[.val (.ref a0)] [(.int (2 : Int32))]))
  refine OGo.st (fun t k => XS.aloadN X101.here hx rfl (hb hby d8_5) rfl rfl k) ?_
  show OGo p.tables e below _ (T101.setTop (mkF m 6 #[.val (.ref a0)] [(.ref a0), (.int (2 : Int32))]))
  obtain ⟨cq103, kq103, q103a, q103b, q103c⟩ := isOf hZ e101 E0
  obtain ⟨_, _, ⟨T103, L103, kk103, nn103⟩, -, X103, ⟨Lc103, hQ103, l103, y103, z103⟩, st103⟩ := X101.virtualBack hx (y := (⟨"java/lang/String", "coder", "()B"⟩ : MethodName)) (z := (⟨"java/lang/String", "coder", "()B"⟩ : MethodName)) hown (mvT hZ (hw _ (List.mem_of_getElem? (i := 33) rfl))) (mvT hZ (hw _ (List.mem_of_getElem? (i := 34) rfl))) (notFace_of_selects (args := #[]) (mvT hZ (hw _ (List.mem_of_getElem? (i := 36) rfl)))) (mvT hZ (hw _ (List.mem_of_getElem? (i := 36) rfl))) (mvT hZ (hw _ (List.mem_of_getElem? (i := 35) rfl))) (by decide) (backOf (W := 1) (rm0 l Z ar hw [] a0 cs h0 n0 Z0 S_cs hcs F2) hZ (hw _ (List.mem_of_getElem? (i := 37) rfl)) (hw _ (List.mem_of_getElem? (i := 29) rfl)) (by decide) (by decide)) q103a q103c (g := (mkF m 6 #[.val (.ref a0)] [(.ref a0), (.int (2 : Int32))])) rfl (by rw [hml]; rfl) (Steps.refl _) (argsL := []) (rest := [(.int (2 : Int32))]) (lenOf pd_0 rfl) rfl (by show 2 * 0 + _ ≤ _; exact Nat.le_of_eq rfl) (hb hby d8_6) (fun _ _ => ⟨rfl, e101, (by decide : 0 + 0 ≤ _), (by decide : 0 + 0 ≤ _)⟩)
  dsimp only [Pt.U, Pt.locs, Pt.cells, Pt.slots] at X103 l103 y103 z103 st103 hQ103
  subst l103 y103 z103
  obtain ⟨rfl, Nq103, hh103⟩ := hQ103
  have N103 := Fr.app N0 Nq103
  refine OGo.st (fun t k => st103.trans k) ?_
  have e103 : T103.heap = h0 := hh103
  show OGo p.tables e below _ (T103.setTop (mkF m 9 #[.val (.ref a0)] [(.int (0 : Int32)), (.int (2 : Int32))]))
  refine OGo.st (fun t k => XS.ishr X103.here hx rfl (hb hby d8_9) rfl k) ?_
  show OGo p.tables e below _ (T103.setTop (mkF m 10 #[.val (.ref a0)] [(.int (2 : Int32))]))
  obtain ⟨fs, hr, hrun, hended, hW, hsame⟩ := X103.leave (v := some (.int (2 : Int32))) (fun h => by rw [Bd.returns] at h; cases h)
  refine OGo.done (retI X103 hx Bd.returns (hb hby d8_10) hr) ⟨hrun, hended, _, _, rfl, ?_, ⟨_, rfl⟩, hW, hsame.mono (by decide) (by decide)⟩
  show Q8 Z a0 b k cs h0 n0 _ T103.heap _
  rw [e103]
  exact ⟨rfl, N103, rfl⟩
theorem d9_0 : decode jdk_41_method_11_code 0 = .ok (.iload_n 0, 1) := by decide +kernel
theorem d9_1 : decode jdk_41_method_11_code 1 = .ok (.ifCond .lt 8, 3) := by decide +kernel
theorem d9_4 : decode jdk_41_method_11_code 4 = .ok (.iload_n 0, 1) := by decide +kernel
theorem d9_5 : decode jdk_41_method_11_code 5 = .ok (.iload_n 1, 1) := by decide +kernel
theorem d9_6 : decode jdk_41_method_11_code 6 = .ok (.if_icmp .lt 10, 3) := by decide +kernel
theorem d9_16 : decode jdk_41_method_11_code 16 = .ok (.iload_n 0, 1) := by decide +kernel
theorem d9_17 : decode jdk_41_method_11_code 17 = .ok (.ireturn, 1) := by decide +kernel
theorem ef_9 (m : MethodId)  : entryFrame m #[(.int (0 : Int32)), (.int (2 : Int32)), .null] 3 = mkF m 0 #[.val (.int (0 : Int32)), .val (.int (2 : Int32)), .val .null] [] := by first | (simp [entryFrame, mkF, argsToLocals, Value.category]; done) | rfl
def Q9 (Z : State)  (h0 : Heap) (n0 : Nat) (v : Option Value) (h : Heap) (L : List Loc) : Prop := v = some (.int (0 : Int32)) ∧ Fr n0 L ∧ h = h0
set_option maxRecDepth 65536 in
set_option maxHeartbeats 40000000 in
theorem rm9 (l : Launch) (Z : State) (ar : Array Value) (hw : ∀ d ∈ tables_1, d.before ar Z = true) (ws : List Jvm.Cond)  (h0 : Heap) (n0 : Nat) (Z0 : n0 ≤ h0.size)  :
    MetFree l (⟨"jdk/internal/util/Preconditions", "checkIndex", "(IILjava/util/function/BiFunction;)I"⟩ : MethodName) (head1 (Jvm.Cond.code (⟨"jdk/internal/util/Preconditions", "checkIndex", "(IILjava/util/function/BiFunction;)I"⟩ : MethodName) jdk_41_method_11_code 3 (some .int) :: ws) ({ frames := 0, cells := 0, slots := 0, locals := 0 } : Room)) (fun a U => a = #[(.int (0 : Int32)), (.int (2 : Int32)), .null] ∧ Z.Warmed39 U.vm ∧ U.heap = h0) (fun _ _ _ _ _ => True) (fun _ U o U' => ∃ v L, o = .returned v ∧ Q9 Z  h0 n0 v U'.heap L ∧ FrameEnd U o U' L ({ frames := 0, cells := 0, slots := 0, locals := 0 } : Room).cells ({ frames := 0, cells := 0, slots := 0, locals := 0 } : Room).slots) := by
  refine MetFree.of_bodySF (plainFor_of_name pn_1) hisR ?_
  intro p e s m args below meth c s₁ Bd hml0 hP hK
  obtain ⟨rfl, hZ, hh⟩ := hP
  have hx := Bd.exec
  have hby := Bd.bytes
  have hml : c.maxLocals = 3 := hml0
  have hown : s.vm.findClass "jdk/internal/util/Preconditions" = some m.cls := findClass_of_methodNamed Bd.named
  have hnm := (name_of_methodNamed Bd.named Bd.method).1
  have X0 : Stand p l e ({ frames := 0, cells := 0, slots := 0, locals := 0 } : Room) s m #[(.int (0 : Int32)), (.int (2 : Int32)), .null] below meth c s₁ [] 0 0 := Stand.of_body Bd
  have e0 : s₁.heap = h0 := by rw [← hh, Bd.state]; rfl
  have N0 := Fr.nil n0
  have pre0 : ∀ t, Steps p.tables e below (s₁.setTop (mkF m 0 #[.val (.int (0 : Int32)), .val (.int (2 : Int32)), .val .null] [])) t → Steps p.tables e below (s₁.setTop (entryFrame m #[(.int (0 : Int32)), (.int (2 : Int32)), .null] 3)) t := fun t k => castTop (ef_9 m ) k
  refine OGo.start pre0 ?_
  show OGo p.tables e below _ (s₁.setTop (mkF m 0 #[.val (.int (0 : Int32)), .val (.int (2 : Int32)), .val .null] []))
  refine OGo.st (fun t k => XS.iloadN X0.here hx rfl (hb hby d9_0) rfl k) ?_
  show OGo p.tables e below _ (s₁.setTop (mkF m 1 #[.val (.int (0 : Int32)), .val (.int (2 : Int32)), .val .null] [(.int (0 : Int32))]))
  refine OGo.st (fun t k => XS.ifNo X0.here hx rfl (hb hby d9_1) rfl ((if0 _ _).trans (flt (by decide : ¬ ((0 : Int32) < (0 : Int32)))).1) k) ?_
  show OGo p.tables e below _ (s₁.setTop (mkF m 4 #[.val (.int (0 : Int32)), .val (.int (2 : Int32)), .val .null] []))
  refine OGo.st (fun t k => XS.iloadN X0.here hx rfl (hb hby d9_4) rfl k) ?_
  show OGo p.tables e below _ (s₁.setTop (mkF m 5 #[.val (.int (0 : Int32)), .val (.int (2 : Int32)), .val .null] [(.int (0 : Int32))]))
  refine OGo.st (fun t k => XS.iloadN X0.here hx rfl (hb hby d9_5) rfl k) ?_
  show OGo p.tables e below _ (s₁.setTop (mkF m 6 #[.val (.int (0 : Int32)), .val (.int (2 : Int32)), .val .null] [(.int (2 : Int32)), (.int (0 : Int32))]))
  refine OGo.st (fun t k => XS.icmpYes X0.here hx rfl (pc0 := 6) (pc' := 16) rfl (hb hby d9_6) rfl (tlt (by decide : (0 : Int32) < (2 : Int32))).1 (by decide) (by decide) k) ?_
  show OGo p.tables e below _ (s₁.setTop (mkF m 16 #[.val (.int (0 : Int32)), .val (.int (2 : Int32)), .val .null] []))
  refine OGo.st (fun t k => XS.iloadN X0.here hx rfl (hb hby d9_16) rfl k) ?_
  show OGo p.tables e below _ (s₁.setTop (mkF m 17 #[.val (.int (0 : Int32)), .val (.int (2 : Int32)), .val .null] [(.int (0 : Int32))]))
  obtain ⟨fs, hr, hrun, hended, hW, hsame⟩ := X0.leave (v := some (.int (0 : Int32))) (fun h => by rw [Bd.returns] at h; cases h)
  refine OGo.done (retI X0 hx Bd.returns (hb hby d9_17) hr) ⟨hrun, hended, _, _, rfl, ?_, ⟨_, rfl⟩, hW, hsame.mono (by decide) (by decide)⟩
  show Q9 Z  h0 n0 _ s₁.heap _
  rw [e0]
  exact ⟨rfl, N0, rfl⟩
theorem d10_0 : decode jdk_41_method_11_code 0 = .ok (.iload_n 0, 1) := by decide +kernel
theorem d10_1 : decode jdk_41_method_11_code 1 = .ok (.ifCond .lt 8, 3) := by decide +kernel
theorem d10_4 : decode jdk_41_method_11_code 4 = .ok (.iload_n 0, 1) := by decide +kernel
theorem d10_5 : decode jdk_41_method_11_code 5 = .ok (.iload_n 1, 1) := by decide +kernel
theorem d10_6 : decode jdk_41_method_11_code 6 = .ok (.if_icmp .lt 10, 3) := by decide +kernel
theorem d10_16 : decode jdk_41_method_11_code 16 = .ok (.iload_n 0, 1) := by decide +kernel
theorem d10_17 : decode jdk_41_method_11_code 17 = .ok (.ireturn, 1) := by decide +kernel
theorem ef_10 (m : MethodId) (x2 : Addr) : entryFrame m #[(.int (0 : Int32)), (.int (2 : Int32)), (.ref x2)] 3 = mkF m 0 #[.val (.int (0 : Int32)), .val (.int (2 : Int32)), .val (.ref x2)] [] := by first | (simp [entryFrame, mkF, argsToLocals, Value.category]; done) | rfl
def Q10 (Z : State) (a2 : Addr) (h0 : Heap) (n0 : Nat) (v : Option Value) (h : Heap) (L : List Loc) : Prop := v = some (.int (0 : Int32)) ∧ Fr n0 L ∧ h = h0
set_option maxRecDepth 65536 in
set_option maxHeartbeats 40000000 in
theorem rm10 (l : Launch) (Z : State) (ar : Array Value) (hw : ∀ d ∈ tables_1, d.before ar Z = true) (ws : List Jvm.Cond) (a2 : Addr) (h0 : Heap) (n0 : Nat) (Z0 : n0 ≤ h0.size)  :
    MetFree l (⟨"jdk/internal/util/Preconditions", "checkIndex", "(IILjava/util/function/BiFunction;)I"⟩ : MethodName) (head1 (Jvm.Cond.code (⟨"jdk/internal/util/Preconditions", "checkIndex", "(IILjava/util/function/BiFunction;)I"⟩ : MethodName) jdk_41_method_11_code 3 (some .int) :: ws) ({ frames := 0, cells := 0, slots := 0, locals := 0 } : Room)) (fun a U => a = #[(.int (0 : Int32)), (.int (2 : Int32)), (.ref a2)] ∧ Z.Warmed39 U.vm ∧ U.heap = h0) (fun _ _ _ _ _ => True) (fun _ U o U' => ∃ v L, o = .returned v ∧ Q10 Z a2 h0 n0 v U'.heap L ∧ FrameEnd U o U' L ({ frames := 0, cells := 0, slots := 0, locals := 0 } : Room).cells ({ frames := 0, cells := 0, slots := 0, locals := 0 } : Room).slots) := by
  refine MetFree.of_bodySF (plainFor_of_name pn_1) hisR ?_
  intro p e s m args below meth c s₁ Bd hml0 hP hK
  obtain ⟨rfl, hZ, hh⟩ := hP
  have hx := Bd.exec
  have hby := Bd.bytes
  have hml : c.maxLocals = 3 := hml0
  have hown : s.vm.findClass "jdk/internal/util/Preconditions" = some m.cls := findClass_of_methodNamed Bd.named
  have hnm := (name_of_methodNamed Bd.named Bd.method).1
  have X0 : Stand p l e ({ frames := 0, cells := 0, slots := 0, locals := 0 } : Room) s m #[(.int (0 : Int32)), (.int (2 : Int32)), (.ref a2)] below meth c s₁ [] 0 0 := Stand.of_body Bd
  have e0 : s₁.heap = h0 := by rw [← hh, Bd.state]; rfl
  have N0 := Fr.nil n0
  have pre0 : ∀ t, Steps p.tables e below (s₁.setTop (mkF m 0 #[.val (.int (0 : Int32)), .val (.int (2 : Int32)), .val (.ref a2)] [])) t → Steps p.tables e below (s₁.setTop (entryFrame m #[(.int (0 : Int32)), (.int (2 : Int32)), (.ref a2)] 3)) t := fun t k => castTop (ef_10 m a2) k
  refine OGo.start pre0 ?_
  show OGo p.tables e below _ (s₁.setTop (mkF m 0 #[.val (.int (0 : Int32)), .val (.int (2 : Int32)), .val (.ref a2)] []))
  refine OGo.st (fun t k => XS.iloadN X0.here hx rfl (hb hby d10_0) rfl k) ?_
  show OGo p.tables e below _ (s₁.setTop (mkF m 1 #[.val (.int (0 : Int32)), .val (.int (2 : Int32)), .val (.ref a2)] [(.int (0 : Int32))]))
  refine OGo.st (fun t k => XS.ifNo X0.here hx rfl (hb hby d10_1) rfl ((if0 _ _).trans (flt (by decide : ¬ ((0 : Int32) < (0 : Int32)))).1) k) ?_
  show OGo p.tables e below _ (s₁.setTop (mkF m 4 #[.val (.int (0 : Int32)), .val (.int (2 : Int32)), .val (.ref a2)] []))
  refine OGo.st (fun t k => XS.iloadN X0.here hx rfl (hb hby d10_4) rfl k) ?_
  show OGo p.tables e below _ (s₁.setTop (mkF m 5 #[.val (.int (0 : Int32)), .val (.int (2 : Int32)), .val (.ref a2)] [(.int (0 : Int32))]))
  refine OGo.st (fun t k => XS.iloadN X0.here hx rfl (hb hby d10_5) rfl k) ?_
  show OGo p.tables e below _ (s₁.setTop (mkF m 6 #[.val (.int (0 : Int32)), .val (.int (2 : Int32)), .val (.ref a2)] [(.int (2 : Int32)), (.int (0 : Int32))]))
  refine OGo.st (fun t k => XS.icmpYes X0.here hx rfl (pc0 := 6) (pc' := 16) rfl (hb hby d10_6) rfl (tlt (by decide : (0 : Int32) < (2 : Int32))).1 (by decide) (by decide) k) ?_
  show OGo p.tables e below _ (s₁.setTop (mkF m 16 #[.val (.int (0 : Int32)), .val (.int (2 : Int32)), .val (.ref a2)] []))
  refine OGo.st (fun t k => XS.iloadN X0.here hx rfl (hb hby d10_16) rfl k) ?_
  show OGo p.tables e below _ (s₁.setTop (mkF m 17 #[.val (.int (0 : Int32)), .val (.int (2 : Int32)), .val (.ref a2)] [(.int (0 : Int32))]))
  obtain ⟨fs, hr, hrun, hended, hW, hsame⟩ := X0.leave (v := some (.int (0 : Int32))) (fun h => by rw [Bd.returns] at h; cases h)
  refine OGo.done (retI X0 hx Bd.returns (hb hby d10_17) hr) ⟨hrun, hended, _, _, rfl, ?_, ⟨_, rfl⟩, hW, hsame.mono (by decide) (by decide)⟩
  show Q10 Z a2 h0 n0 _ s₁.heap _
  rw [e0]
  exact ⟨rfl, N0, rfl⟩
theorem d11_0 : decode jdk_42_method_155_code 0 = .ok (.iload_n 0, 1) := by decide +kernel
theorem d11_1 : decode jdk_42_method_155_code 1 = .ok (.iload_n 1, 1) := by decide +kernel
theorem d11_2 : decode jdk_42_method_155_code 2 = .ok (.getstatic 1053, 3) := by decide +kernel
theorem d11_5 : decode jdk_42_method_155_code 5 = .ok (.invokestatic 1059, 3) := by decide +kernel
theorem d11_8 : decode jdk_42_method_155_code 8 = .ok (.pop, 1) := by decide +kernel
theorem d11_9 : decode jdk_42_method_155_code 9 = .ok (.return_, 1) := by decide +kernel
theorem ef_11 (m : MethodId)  : entryFrame m #[(.int (0 : Int32)), (.int (2 : Int32))] 2 = mkF m 0 #[.val (.int (0 : Int32)), .val (.int (2 : Int32))] [] := by first | (simp [entryFrame, mkF, argsToLocals, Value.category]; done) | rfl
def Q11 (Z : State) (fv : Value) (h0 : Heap) (n0 : Nat) (v : Option Value) (h : Heap) (L : List Loc) : Prop := v = none ∧ Fr n0 L ∧ h = h0
set_option maxRecDepth 65536 in
set_option maxHeartbeats 40000000 in
theorem rm11 (l : Launch) (Z : State) (ar : Array Value) (hw : ∀ d ∈ tables_1, d.before ar Z = true) (ws : List Jvm.Cond) (fv : Value) (h0 : Heap) (n0 : Nat) (Z0 : n0 ≤ h0.size) (S_fv : Sta Z h0 "jdk/internal/util/Preconditions" "SIOOBE_FORMATTER" "Ljava/util/function/BiFunction;" fv) (hfv : fv.isRef = true) :
    MetFree l (⟨"java/lang/String", "checkIndex", "(II)V"⟩ : MethodName) (head1 (Jvm.Cond.code (⟨"java/lang/String", "checkIndex", "(II)V"⟩ : MethodName) jdk_42_method_155_code 2 none :: ws) ({ frames := 1, cells := 0, slots := 0, locals := 14 } : Room)) (fun a U => a = #[(.int (0 : Int32)), (.int (2 : Int32))] ∧ Z.Warmed39 U.vm ∧ U.heap = h0) (fun _ _ _ _ _ => True) (fun _ U o U' => ∃ v L, o = .returned v ∧ Q11 Z fv h0 n0 v U'.heap L ∧ FrameEnd U o U' L ({ frames := 1, cells := 0, slots := 0, locals := 14 } : Room).cells ({ frames := 1, cells := 0, slots := 0, locals := 14 } : Room).slots) := by
  refine MetFree.of_bodySF (plainFor_of_name pn_0) hisR ?_
  intro p e s m args below meth c s₁ Bd hml0 hP hK
  obtain ⟨rfl, hZ, hh⟩ := hP
  have hx := Bd.exec
  have hby := Bd.bytes
  have hml : c.maxLocals = 2 := hml0
  have hown : s.vm.findClass "java/lang/String" = some m.cls := findClass_of_methodNamed Bd.named
  have hnm := (name_of_methodNamed Bd.named Bd.method).1
  have X0 : Stand p l e ({ frames := 1, cells := 0, slots := 0, locals := 14 } : Room) s m #[(.int (0 : Int32)), (.int (2 : Int32))] below meth c s₁ [] 0 0 := Stand.of_body Bd
  have e0 : s₁.heap = h0 := by rw [← hh, Bd.state]; rfl
  have N0 := Fr.nil n0
  have pre0 : ∀ t, Steps p.tables e below (s₁.setTop (mkF m 0 #[.val (.int (0 : Int32)), .val (.int (2 : Int32))] [])) t → Steps p.tables e below (s₁.setTop (entryFrame m #[(.int (0 : Int32)), (.int (2 : Int32))] 2)) t := fun t k => castTop (ef_11 m ) k
  refine OGo.start pre0 ?_
  show OGo p.tables e below _ (s₁.setTop (mkF m 0 #[.val (.int (0 : Int32)), .val (.int (2 : Int32))] []))
  rcases ref_cases hfv with hq | ⟨fa, hq⟩
  ·
    have Sx : Sta Z h0 "jdk/internal/util/Preconditions" "SIOOBE_FORMATTER" "Ljava/util/function/BiFunction;" .null := hq ▸ S_fv
    refine OGo.st (fun t k => XS.iloadN X0.here hx rfl (hb hby d11_0) rfl k) ?_
    show OGo p.tables e below _ (s₁.setTop (mkF m 1 #[.val (.int (0 : Int32)), .val (.int (2 : Int32))] [(.int (0 : Int32))]))
    refine OGo.st (fun t k => XS.iloadN X0.here hx rfl (hb hby d11_1) rfl k) ?_
    show OGo p.tables e below _ (s₁.setTop (mkF m 2 #[.val (.int (0 : Int32)), .val (.int (2 : Int32))] [(.int (2 : Int32)), (.int (0 : Int32))]))
    obtain ⟨T101, X101, e101, st101⟩ := getS2 X0 hx hZ hown (host := "") (Or.inl (hw _ (List.mem_of_getElem? (i := 58) rfl))) Via.refl e0 Sx (g := (mkF m 2 #[.val (.int (0 : Int32)), .val (.int (2 : Int32))] [(.int (2 : Int32)), (.int (0 : Int32))])) rfl (hb hby d11_2)
    refine OGo.st st101 ?_
    show OGo p.tables e below _ (T101.setTop (mkF m 5 #[.val (.int (0 : Int32)), .val (.int (2 : Int32))] [.null, (.int (2 : Int32)), (.int (0 : Int32))]))
    obtain ⟨_, _, ⟨T102, L102, kk102, nn102⟩, -, X102, ⟨Lc102, hQ102, l102, y102, z102⟩, st102⟩ := Jvm.LawKit.callS X101 hx (y := (⟨"jdk/internal/util/Preconditions", "checkIndex", "(IILjava/util/function/BiFunction;)I"⟩ : MethodName)) hown (mvT hZ (hw _ (List.mem_of_getElem? (i := 60) rfl))) (mvT hZ (hw _ (List.mem_of_getElem? (i := 61) rfl))) (mvT hZ (hw _ (List.mem_of_getElem? (i := 59) rfl))) (mvT hZ (hw _ (List.mem_of_getElem? (i := 62) rfl))) (by decide) (backOf (W := 0) (rm9 l Z ar hw []  h0 n0 Z0 ) hZ (hw _ (List.mem_of_getElem? (i := 62) rfl)) (hw _ (List.mem_of_getElem? (i := 59) rfl)) (by decide) (by decide)) (g := (mkF m 5 #[.val (.int (0 : Int32)), .val (.int (2 : Int32))] [.null, (.int (2 : Int32)), (.int (0 : Int32))])) rfl (by rw [hml]; rfl) (argsL := [(.int (0 : Int32)), (.int (2 : Int32)), .null]) (rest := []) (lenOf pd_1 rfl) rfl (by show 2 * 0 + _ ≤ _; exact Nat.le_of_eq rfl) (hb hby d11_5) (fun _ _ => ⟨rfl, e101, (by decide : 0 + 0 ≤ _), (by decide : 0 + 0 ≤ _)⟩)
    dsimp only [Pt.U, Pt.locs, Pt.cells, Pt.slots] at X102 l102 y102 z102 st102 hQ102
    subst l102 y102 z102
    obtain ⟨rfl, Nq102, hh102⟩ := hQ102
    have N102 := Fr.app N0 Nq102
    refine OGo.st st102 ?_
    have e102 : T102.heap = h0 := hh102
    show OGo p.tables e below _ (T102.setTop (mkF m 8 #[.val (.int (0 : Int32)), .val (.int (2 : Int32))] [(.int (0 : Int32))]))
    refine OGo.st (fun t k => XS.pop X102.here hx rfl (hb hby d11_8) rfl rfl k) ?_
    show OGo p.tables e below _ (T102.setTop (mkF m 9 #[.val (.int (0 : Int32)), .val (.int (2 : Int32))] []))
    obtain ⟨fs, hr, hrun, hended, hW, hsame⟩ := X102.leave (v := none) (fun _ => rfl)
    refine OGo.done (X102.returnOut hx Bd.returns (hb hby d11_9) hr) ⟨hrun, hended, _, _, rfl, ?_, ⟨_, rfl⟩, hW, hsame.mono (by decide) (by decide)⟩
    show Q11 Z fv h0 n0 _ T102.heap _
    rw [e102]
    exact ⟨rfl, N102, rfl⟩
  ·
    have Sx : Sta Z h0 "jdk/internal/util/Preconditions" "SIOOBE_FORMATTER" "Ljava/util/function/BiFunction;" (.ref fa) := hq ▸ S_fv
    refine OGo.st (fun t k => XS.iloadN X0.here hx rfl (hb hby d11_0) rfl k) ?_
    show OGo p.tables e below _ (s₁.setTop (mkF m 1 #[.val (.int (0 : Int32)), .val (.int (2 : Int32))] [(.int (0 : Int32))]))
    refine OGo.st (fun t k => XS.iloadN X0.here hx rfl (hb hby d11_1) rfl k) ?_
    show OGo p.tables e below _ (s₁.setTop (mkF m 2 #[.val (.int (0 : Int32)), .val (.int (2 : Int32))] [(.int (2 : Int32)), (.int (0 : Int32))]))
    obtain ⟨T104, X104, e104, st104⟩ := getS2 X0 hx hZ hown (host := "") (Or.inl (hw _ (List.mem_of_getElem? (i := 58) rfl))) Via.refl e0 Sx (g := (mkF m 2 #[.val (.int (0 : Int32)), .val (.int (2 : Int32))] [(.int (2 : Int32)), (.int (0 : Int32))])) rfl (hb hby d11_2)
    refine OGo.st st104 ?_
    show OGo p.tables e below _ (T104.setTop (mkF m 5 #[.val (.int (0 : Int32)), .val (.int (2 : Int32))] [(.ref fa), (.int (2 : Int32)), (.int (0 : Int32))]))
    obtain ⟨_, _, ⟨T105, L105, kk105, nn105⟩, -, X105, ⟨Lc105, hQ105, l105, y105, z105⟩, st105⟩ := Jvm.LawKit.callS X104 hx (y := (⟨"jdk/internal/util/Preconditions", "checkIndex", "(IILjava/util/function/BiFunction;)I"⟩ : MethodName)) hown (mvT hZ (hw _ (List.mem_of_getElem? (i := 60) rfl))) (mvT hZ (hw _ (List.mem_of_getElem? (i := 61) rfl))) (mvT hZ (hw _ (List.mem_of_getElem? (i := 59) rfl))) (mvT hZ (hw _ (List.mem_of_getElem? (i := 62) rfl))) (by decide) (backOf (W := 0) (rm10 l Z ar hw [] fa h0 n0 Z0 ) hZ (hw _ (List.mem_of_getElem? (i := 62) rfl)) (hw _ (List.mem_of_getElem? (i := 59) rfl)) (by decide) (by decide)) (g := (mkF m 5 #[.val (.int (0 : Int32)), .val (.int (2 : Int32))] [(.ref fa), (.int (2 : Int32)), (.int (0 : Int32))])) rfl (by rw [hml]; rfl) (argsL := [(.int (0 : Int32)), (.int (2 : Int32)), (.ref fa)]) (rest := []) (lenOf pd_1 rfl) rfl (by show 2 * 0 + _ ≤ _; exact Nat.le_of_eq rfl) (hb hby d11_5) (fun _ _ => ⟨rfl, e104, (by decide : 0 + 0 ≤ _), (by decide : 0 + 0 ≤ _)⟩)
    dsimp only [Pt.U, Pt.locs, Pt.cells, Pt.slots] at X105 l105 y105 z105 st105 hQ105
    subst l105 y105 z105
    obtain ⟨rfl, Nq105, hh105⟩ := hQ105
    have N105 := Fr.app N0 Nq105
    refine OGo.st st105 ?_
    have e105 : T105.heap = h0 := hh105
    show OGo p.tables e below _ (T105.setTop (mkF m 8 #[.val (.int (0 : Int32)), .val (.int (2 : Int32))] [(.int (0 : Int32))]))
    refine OGo.st (fun t k => XS.pop X105.here hx rfl (hb hby d11_8) rfl rfl k) ?_
    show OGo p.tables e below _ (T105.setTop (mkF m 9 #[.val (.int (0 : Int32)), .val (.int (2 : Int32))] []))
    obtain ⟨fs, hr, hrun, hended, hW, hsame⟩ := X105.leave (v := none) (fun _ => rfl)
    refine OGo.done (X105.returnOut hx Bd.returns (hb hby d11_9) hr) ⟨hrun, hended, _, _, rfl, ?_, ⟨_, rfl⟩, hW, hsame.mono (by decide) (by decide)⟩
    show Q11 Z fv h0 n0 _ T105.heap _
    rw [e105]
    exact ⟨rfl, N105, rfl⟩
theorem d12_0 : decode jdk_43_method_2_code 0 = .ok (.iload_n 1, 1) := by decide +kernel
theorem d12_1 : decode jdk_43_method_2_code 1 = .ok (.aload_n 0, 1) := by decide +kernel
theorem d12_2 : decode jdk_43_method_2_code 2 = .ok (.arraylength, 1) := by decide +kernel
theorem d12_3 : decode jdk_43_method_2_code 3 = .ok (.invokestatic 9, 3) := by decide +kernel
theorem d12_6 : decode jdk_43_method_2_code 6 = .ok (.aload_n 0, 1) := by decide +kernel
theorem d12_7 : decode jdk_43_method_2_code 7 = .ok (.iload_n 1, 1) := by decide +kernel
theorem d12_8 : decode jdk_43_method_2_code 8 = .ok (.baload, 1) := by decide +kernel
theorem d12_9 : decode jdk_43_method_2_code 9 = .ok (.sipush 255, 3) := by decide +kernel
theorem d12_12 : decode jdk_43_method_2_code 12 = .ok (.iand, 1) := by decide +kernel
theorem d12_13 : decode jdk_43_method_2_code 13 = .ok (.i2c, 1) := by decide +kernel
theorem d12_14 : decode jdk_43_method_2_code 14 = .ok (.ireturn, 1) := by decide +kernel
theorem ef_12 (m : MethodId) (x0 : Addr) : entryFrame m #[(.ref x0), (.int (0 : Int32))] 2 = mkF m 0 #[.val (.ref x0), .val (.int (0 : Int32))] [] := by first | (simp [entryFrame, mkF, argsToLocals, Value.category]; done) | rfl
def Q12 (Z : State) (a0 : Addr) (k : ClassId) (fv : Value) (h0 : Heap) (n0 : Nat) (v : Option Value) (h : Heap) (L : List Loc) : Prop := v = some (.int (60 : Int32)) ∧ Fr n0 L ∧ h = h0
set_option maxRecDepth 65536 in
set_option maxHeartbeats 40000000 in
theorem rm12 (l : Launch) (Z : State) (ar : Array Value) (hw : ∀ d ∈ tables_1, d.before ar Z = true) (ws : List Jvm.Cond) (a0 : Addr) (k : ClassId) (fv : Value) (h0 : Heap) (n0 : Nat) (Z0 : n0 ≤ h0.size) (V0 : Arv Z h0 a0 k .byte (2 : Int32) [(.int (60 : Int32)), (.int (61 : Int32))] (.int (0 : Int32))) (S_fv : Sta Z h0 "jdk/internal/util/Preconditions" "SIOOBE_FORMATTER" "Ljava/util/function/BiFunction;" fv) (hfv : fv.isRef = true) :
    MetFree l (⟨"java/lang/StringLatin1", "charAt", "([BI)C"⟩ : MethodName) (head1 (Jvm.Cond.code (⟨"java/lang/StringLatin1", "charAt", "([BI)C"⟩ : MethodName) jdk_43_method_2_code 2 (some .char) :: ws) ({ frames := 2, cells := 0, slots := 0, locals := 27 } : Room)) (fun a U => a = #[(.ref a0), (.int (0 : Int32))] ∧ Z.Warmed39 U.vm ∧ U.heap = h0) (fun _ _ _ _ _ => True) (fun _ U o U' => ∃ v L, o = .returned v ∧ Q12 Z a0 k fv h0 n0 v U'.heap L ∧ FrameEnd U o U' L ({ frames := 2, cells := 0, slots := 0, locals := 27 } : Room).cells ({ frames := 2, cells := 0, slots := 0, locals := 27 } : Room).slots) := by
  refine MetFree.of_bodySF (plainFor_of_name pn_2) hisR ?_
  intro p e s m args below meth c s₁ Bd hml0 hP hK
  obtain ⟨rfl, hZ, hh⟩ := hP
  have hx := Bd.exec
  have hby := Bd.bytes
  have hml : c.maxLocals = 2 := hml0
  have hown : s.vm.findClass "java/lang/StringLatin1" = some m.cls := findClass_of_methodNamed Bd.named
  have hnm := (name_of_methodNamed Bd.named Bd.method).1
  have X0 : Stand p l e ({ frames := 2, cells := 0, slots := 0, locals := 27 } : Room) s m #[(.ref a0), (.int (0 : Int32))] below meth c s₁ [] 0 0 := Stand.of_body Bd
  have e0 : s₁.heap = h0 := by rw [← hh, Bd.state]; rfl
  have N0 := Fr.nil n0
  have pre0 : ∀ t, Steps p.tables e below (s₁.setTop (mkF m 0 #[.val (.ref a0), .val (.int (0 : Int32))] [])) t → Steps p.tables e below (s₁.setTop (entryFrame m #[(.ref a0), (.int (0 : Int32))] 2)) t := fun t k => castTop (ef_12 m a0) k
  refine OGo.start pre0 ?_
  show OGo p.tables e below _ (s₁.setTop (mkF m 0 #[.val (.ref a0), .val (.int (0 : Int32))] []))
  refine OGo.st (fun t k => XS.iloadN X0.here hx rfl (hb hby d12_0) rfl k) ?_
  show OGo p.tables e below _ (s₁.setTop (mkF m 1 #[.val (.ref a0), .val (.int (0 : Int32))] [(.int (0 : Int32))]))
  refine OGo.st (fun t k => XS.aloadN X0.here hx rfl (hb hby d12_1) rfl rfl k) ?_
  show OGo p.tables e below _ (s₁.setTop (mkF m 2 #[.val (.ref a0), .val (.int (0 : Int32))] [(.ref a0), (.int (0 : Int32))]))
  obtain ⟨cl101, Ar101, qc101, Sz101, Nz101, Hs101, Gs101⟩ := id V0
  refine OGo.st (fun t k => X0.arraylength hx (by rw [e0]; exact Ar101.1) (State.isArrayOf_alike hZ.alike Ar101.2.1) (g := (mkF m 2 #[.val (.ref a0), .val (.int (0 : Int32))] [(.ref a0), (.int (0 : Int32))])) rfl rfl (hb hby d12_2) _ k) ?_
  rw [len_of Sz101 Nz101]
  show OGo p.tables e below _ (s₁.setTop (mkF m 3 #[.val (.ref a0), .val (.int (0 : Int32))] [(.int (2 : Int32)), (.int (0 : Int32))]))
  obtain ⟨_, _, ⟨T102, L102, kk102, nn102⟩, -, X102, ⟨Lc102, hQ102, l102, y102, z102⟩, st102⟩ := Jvm.LawKit.callS X0 hx (y := (⟨"java/lang/String", "checkIndex", "(II)V"⟩ : MethodName)) hown (mvT hZ (hw _ (List.mem_of_getElem? (i := 55) rfl))) (mvT hZ (hw _ (List.mem_of_getElem? (i := 56) rfl))) (mvT hZ (hw _ (List.mem_of_getElem? (i := 29) rfl))) (mvT hZ (hw _ (List.mem_of_getElem? (i := 57) rfl))) (by decide) (backOf (W := 0) (rm11 l Z ar hw [] fv h0 n0 Z0 S_fv hfv) hZ (hw _ (List.mem_of_getElem? (i := 57) rfl)) (hw _ (List.mem_of_getElem? (i := 29) rfl)) (by decide) (by decide)) (g := (mkF m 3 #[.val (.ref a0), .val (.int (0 : Int32))] [(.int (2 : Int32)), (.int (0 : Int32))])) rfl (by rw [hml]; rfl) (argsL := [(.int (0 : Int32)), (.int (2 : Int32))]) (rest := []) (lenOf pd_2 rfl) rfl (by show 2 * 0 + _ ≤ _; exact Nat.le_of_eq rfl) (hb hby d12_3) (fun _ _ => ⟨rfl, e0, (by decide : 0 + 0 ≤ _), (by decide : 0 + 0 ≤ _)⟩)
  dsimp only [Pt.U, Pt.locs, Pt.cells, Pt.slots] at X102 l102 y102 z102 st102 hQ102
  subst l102 y102 z102
  obtain ⟨rfl, Nq102, hh102⟩ := hQ102
  have N102 := Fr.app N0 Nq102
  refine OGo.st st102 ?_
  have e102 : T102.heap = h0 := hh102
  show OGo p.tables e below _ (T102.setTop (mkF m 6 #[.val (.ref a0), .val (.int (0 : Int32))] []))
  refine OGo.st (fun t k => XS.aloadN X102.here hx rfl (hb hby d12_6) rfl rfl k) ?_
  show OGo p.tables e below _ (T102.setTop (mkF m 7 #[.val (.ref a0), .val (.int (0 : Int32))] [(.ref a0)]))
  refine OGo.st (fun t k => XS.iloadN X102.here hx rfl (hb hby d12_7) rfl k) ?_
  show OGo p.tables e below _ (T102.setTop (mkF m 8 #[.val (.ref a0), .val (.int (0 : Int32))] [(.int (0 : Int32)), (.ref a0)]))
  obtain ⟨cl103, Ar103, qc103, Sz103, Nz103, Hs103, Gs103⟩ := id V0
  have hin103 : ¬ ((0 : Int32) < 0 ∨ cl103.slots.size ≤ ((0 : Int32)).toNatClampNeg) := inb_of Sz103 ⟨by decide, by decide⟩
  have hat103 : cl103.slots[((0 : Int32)).toNatClampNeg]? = some (.int (60 : Int32)) := Has.at Hs103 hin103 rfl
  refine OGo.st (fun t k => X102.baloadBytes hx (j := (0 : Int32)) (v := (.int (60 : Int32))) (by rw [e102]; exact Ar103.1) (State.isArrayOf_alike hZ.alike Ar103.2.1) Ar103.2.2 hin103 hat103 (g := (mkF m 8 #[.val (.ref a0), .val (.int (0 : Int32))] [(.int (0 : Int32)), (.ref a0)])) rfl rfl (hb hby d12_8) _ k) ?_
  show OGo p.tables e below _ (T102.setTop (mkF m 9 #[.val (.ref a0), .val (.int (0 : Int32))] [(.int (60 : Int32))]))
  refine OGo.st (fun t k => XS.sipush X102.here hx rfl (hb hby d12_9) k) ?_
  show OGo p.tables e below _ (T102.setTop (mkF m 12 #[.val (.ref a0), .val (.int (0 : Int32))] [(.int (255 : Int32)), (.int (60 : Int32))]))
  refine OGo.st (fun t k => XS.iand X102.here hx rfl (hb hby d12_12) rfl k) ?_
  show OGo p.tables e below _ (T102.setTop (mkF m 13 #[.val (.ref a0), .val (.int (0 : Int32))] [(.int (60 : Int32))]))
  refine OGo.st (fun t k => XS.i2c X102.here hx rfl (hb hby d12_13) rfl k) ?_
  show OGo p.tables e below _ (T102.setTop (mkF m 14 #[.val (.ref a0), .val (.int (0 : Int32))] [(.int (60 : Int32))]))
  obtain ⟨fs, hr, hrun, hended, hW, hsame⟩ := X102.leave (v := some (.int (60 : Int32))) (fun h => by rw [Bd.returns] at h; cases h)
  refine OGo.done (retN X102 hx (t := .char) Bd.returns (by simp) (hb hby d12_14) hr) ⟨hrun, hended, _, _, rfl, ?_, ⟨_, rfl⟩, hW, hsame.mono (by decide) (by decide)⟩
  show Q12 Z a0 k fv h0 n0 _ T102.heap _
  rw [e102]
  exact ⟨rfl, N102, rfl⟩
theorem d13_0 : decode jdk_42_method_56_code 0 = .ok (.aload_n 0, 1) := by decide +kernel
theorem d13_1 : decode jdk_42_method_56_code 1 = .ok (.invokevirtual 492, 3) := by decide +kernel
theorem d13_4 : decode jdk_42_method_56_code 4 = .ok (.ifCond .eq 12, 3) := by decide +kernel
theorem d13_7 : decode jdk_42_method_56_code 7 = .ok (.aload_n 0, 1) := by decide +kernel
theorem d13_8 : decode jdk_42_method_56_code 8 = .ok (.getfield 9, 3) := by decide +kernel
theorem d13_11 : decode jdk_42_method_56_code 11 = .ok (.iload_n 1, 1) := by decide +kernel
theorem d13_12 : decode jdk_42_method_56_code 12 = .ok (.invokestatic 495, 3) := by decide +kernel
theorem d13_15 : decode jdk_42_method_56_code 15 = .ok (.ireturn, 1) := by decide +kernel
theorem ef_13 (m : MethodId) (x0 : Addr) : entryFrame m #[(.ref x0), (.int (0 : Int32))] 2 = mkF m 0 #[.val (.ref x0), .val (.int (0 : Int32))] [] := by first | (simp [entryFrame, mkF, argsToLocals, Value.category]; done) | rfl
def Q13 (Z : State) (a0 : Addr) (b : Addr) (k : ClassId) (cs : Int32) (fv : Value) (h0 : Heap) (n0 : Nat) (v : Option Value) (h : Heap) (L : List Loc) : Prop := v = some (.int (60 : Int32)) ∧ Fr n0 L ∧ h = h0
set_option maxRecDepth 65536 in
set_option maxHeartbeats 40000000 in
theorem rm13 (l : Launch) (Z : State) (ar : Array Value) (hw : ∀ d ∈ tables_1, d.before ar Z = true) (ws : List Jvm.Cond) (a0 : Addr) (b : Addr) (k : ClassId) (cs : Int32) (fv : Value) (h0 : Heap) (n0 : Nat) (Z0 : n0 ≤ h0.size) (F1 : Fld Z h0 a0 "java/lang/String" "value" "[B" (.ref b)) (F2 : Fld Z h0 a0 "java/lang/String" "coder" "B" (.int (0 : Int32))) (V0 : Arv Z h0 b k .byte (2 : Int32) [(.int (60 : Int32)), (.int (61 : Int32))] (.int (0 : Int32))) (E0 : Exa Z h0 a0 "java/lang/String") (S_cs : Sta Z h0 "java/lang/String" "COMPACT_STRINGS" "Z" (.int cs)) (hcs : ¬ cs = (0 : Int32)) (S_fv : Sta Z h0 "jdk/internal/util/Preconditions" "SIOOBE_FORMATTER" "Ljava/util/function/BiFunction;" fv) (hfv : fv.isRef = true) :
    MetFree l (⟨"java/lang/String", "charAt", "(I)C"⟩ : MethodName) (head1 (Jvm.Cond.code (⟨"java/lang/String", "charAt", "(I)C"⟩ : MethodName) jdk_42_method_56_code 2 (some .char) :: ws) ({ frames := 3, cells := 0, slots := 0, locals := 40 } : Room)) (fun a U => a = #[(.ref a0), (.int (0 : Int32))] ∧ Z.Warmed39 U.vm ∧ U.heap = h0) (fun _ _ _ _ _ => True) (fun _ U o U' => ∃ v L, o = .returned v ∧ Q13 Z a0 b k cs fv h0 n0 v U'.heap L ∧ FrameEnd U o U' L ({ frames := 3, cells := 0, slots := 0, locals := 40 } : Room).cells ({ frames := 3, cells := 0, slots := 0, locals := 40 } : Room).slots) := by
  refine MetFree.of_bodySF (plainFor_of_name pn_0) hisR ?_
  intro p e s m args below meth c s₁ Bd hml0 hP hK
  obtain ⟨rfl, hZ, hh⟩ := hP
  have hx := Bd.exec
  have hby := Bd.bytes
  have hml : c.maxLocals = 2 := hml0
  have hown : s.vm.findClass "java/lang/String" = some m.cls := findClass_of_methodNamed Bd.named
  have hnm := (name_of_methodNamed Bd.named Bd.method).1
  have X0 : Stand p l e ({ frames := 3, cells := 0, slots := 0, locals := 40 } : Room) s m #[(.ref a0), (.int (0 : Int32))] below meth c s₁ [] 0 0 := Stand.of_body Bd
  have e0 : s₁.heap = h0 := by rw [← hh, Bd.state]; rfl
  have N0 := Fr.nil n0
  have pre0 : ∀ t, Steps p.tables e below (s₁.setTop (mkF m 0 #[.val (.ref a0), .val (.int (0 : Int32))] [])) t → Steps p.tables e below (s₁.setTop (entryFrame m #[(.ref a0), (.int (0 : Int32))] 2)) t := fun t k => castTop (ef_13 m a0) k
  refine OGo.start pre0 ?_
  show OGo p.tables e below _ (s₁.setTop (mkF m 0 #[.val (.ref a0), .val (.int (0 : Int32))] []))
  refine OGo.st (fun t k => XS.aloadN X0.here hx rfl (hb hby d13_0) rfl rfl k) ?_
  show OGo p.tables e below _ (s₁.setTop (mkF m 1 #[.val (.ref a0), .val (.int (0 : Int32))] [(.ref a0)]))
  obtain ⟨cq101, kq101, q101a, q101b, q101c⟩ := isOf hZ e0 E0
  obtain ⟨_, _, ⟨T101, L101, kk101, nn101⟩, -, X101, ⟨Lc101, hQ101, l101, y101, z101⟩, st101⟩ := X0.virtualBack hx (y := (⟨"java/lang/String", "isLatin1", "()Z"⟩ : MethodName)) (z := (⟨"java/lang/String", "isLatin1", "()Z"⟩ : MethodName)) hown (mvT hZ (hw _ (List.mem_of_getElem? (i := 46) rfl))) (mvT hZ (hw _ (List.mem_of_getElem? (i := 47) rfl))) (notFace_of_selects (args := #[]) (mvT hZ (hw _ (List.mem_of_getElem? (i := 49) rfl)))) (mvT hZ (hw _ (List.mem_of_getElem? (i := 49) rfl))) (mvT hZ (hw _ (List.mem_of_getElem? (i := 48) rfl))) (by decide) (backOf (W := 0) (rm1 l Z ar hw [] a0 cs h0 n0 Z0 S_cs hcs F2) hZ (hw _ (List.mem_of_getElem? (i := 50) rfl)) (hw _ (List.mem_of_getElem? (i := 29) rfl)) (by decide) (by decide)) q101a q101c (g := (mkF m 1 #[.val (.ref a0), .val (.int (0 : Int32))] [(.ref a0)])) rfl (by rw [hml]; rfl) (Steps.refl _) (argsL := []) (rest := []) (lenOf pd_3 rfl) rfl (by show 2 * 0 + _ ≤ _; exact Nat.le_of_eq rfl) (hb hby d13_1) (fun _ _ => ⟨rfl, e0, (by decide : 0 + 0 ≤ _), (by decide : 0 + 0 ≤ _)⟩)
  dsimp only [Pt.U, Pt.locs, Pt.cells, Pt.slots] at X101 l101 y101 z101 st101 hQ101
  subst l101 y101 z101
  obtain ⟨rfl, Nq101, hh101⟩ := hQ101
  have N101 := Fr.app N0 Nq101
  refine OGo.st (fun t k => st101.trans k) ?_
  have e101 : T101.heap = h0 := hh101
  show OGo p.tables e below _ (T101.setTop (mkF m 4 #[.val (.ref a0), .val (.int (0 : Int32))] [(.int (1 : Int32))]))
  refine OGo.st (fun t k => XS.ifNo X101.here hx rfl (hb hby d13_4) rfl ((if0 _ _).trans (feq (by decide : ¬ ((1 : Int32) = (0 : Int32)))).1) k) ?_
  show OGo p.tables e below _ (T101.setTop (mkF m 7 #[.val (.ref a0), .val (.int (0 : Int32))] []))
  refine OGo.st (fun t k => XS.aloadN X101.here hx rfl (hb hby d13_7) rfl rfl k) ?_
  show OGo p.tables e below _ (T101.setTop (mkF m 8 #[.val (.ref a0), .val (.int (0 : Int32))] [(.ref a0)]))
  obtain ⟨T102, X102, e102, st102⟩ := getF X101 hx hZ hown (host := "") (Or.inl (hw _ (List.mem_of_getElem? (i := 31) rfl))) Via.refl e101 F1 (g := (mkF m 8 #[.val (.ref a0), .val (.int (0 : Int32))] [(.ref a0)])) rfl rfl (hb hby d13_8)
  refine OGo.st st102 ?_
  show OGo p.tables e below _ (T102.setTop (mkF m 11 #[.val (.ref a0), .val (.int (0 : Int32))] [(.ref b)]))
  refine OGo.st (fun t k => XS.iloadN X102.here hx rfl (hb hby d13_11) rfl k) ?_
  show OGo p.tables e below _ (T102.setTop (mkF m 12 #[.val (.ref a0), .val (.int (0 : Int32))] [(.int (0 : Int32)), (.ref b)]))
  obtain ⟨_, _, ⟨T103, L103, kk103, nn103⟩, -, X103, ⟨Lc103, hQ103, l103, y103, z103⟩, st103⟩ := Jvm.LawKit.callS X102 hx (y := (⟨"java/lang/StringLatin1", "charAt", "([BI)C"⟩ : MethodName)) hown (mvT hZ (hw _ (List.mem_of_getElem? (i := 51) rfl))) (mvT hZ (hw _ (List.mem_of_getElem? (i := 52) rfl))) (mvT hZ (hw _ (List.mem_of_getElem? (i := 53) rfl))) (mvT hZ (hw _ (List.mem_of_getElem? (i := 54) rfl))) (by decide) (backOf (W := 0) (rm12 l Z ar hw [] b k fv h0 n0 Z0 V0 S_fv hfv) hZ (hw _ (List.mem_of_getElem? (i := 54) rfl)) (hw _ (List.mem_of_getElem? (i := 53) rfl)) (by decide) (by decide)) (g := (mkF m 12 #[.val (.ref a0), .val (.int (0 : Int32))] [(.int (0 : Int32)), (.ref b)])) rfl (by rw [hml]; rfl) (argsL := [(.ref b), (.int (0 : Int32))]) (rest := []) (lenOf pd_4 rfl) rfl (by show 2 * 0 + _ ≤ _; exact Nat.le_of_eq rfl) (hb hby d13_12) (fun _ _ => ⟨rfl, e102, (by decide : 0 + 0 ≤ _), (by decide : 0 + 0 ≤ _)⟩)
  dsimp only [Pt.U, Pt.locs, Pt.cells, Pt.slots] at X103 l103 y103 z103 st103 hQ103
  subst l103 y103 z103
  obtain ⟨rfl, Nq103, hh103⟩ := hQ103
  have N103 := Fr.app N101 Nq103
  refine OGo.st st103 ?_
  have e103 : T103.heap = h0 := hh103
  show OGo p.tables e below _ (T103.setTop (mkF m 15 #[.val (.ref a0), .val (.int (0 : Int32))] [(.int (60 : Int32))]))
  obtain ⟨fs, hr, hrun, hended, hW, hsame⟩ := X103.leave (v := some (.int (60 : Int32))) (fun h => by rw [Bd.returns] at h; cases h)
  refine OGo.done (retN X103 hx (t := .char) Bd.returns (by simp) (hb hby d13_15) hr) ⟨hrun, hended, _, _, rfl, ?_, ⟨_, rfl⟩, hW, hsame.mono (by decide) (by decide)⟩
  show Q13 Z a0 b k cs fv h0 n0 _ T103.heap _
  rw [e103]
  exact ⟨rfl, N103, rfl⟩
theorem d14_0 : decode jdk_42_method_54_code 0 = .ok (.aload_n 0, 1) := by decide +kernel
theorem d14_1 : decode jdk_42_method_54_code 1 = .ok (.getfield 9, 3) := by decide +kernel
theorem d14_4 : decode jdk_42_method_54_code 4 = .ok (.arraylength, 1) := by decide +kernel
theorem d14_5 : decode jdk_42_method_54_code 5 = .ok (.aload_n 0, 1) := by decide +kernel
theorem d14_6 : decode jdk_42_method_54_code 6 = .ok (.invokevirtual 335, 3) := by decide +kernel
theorem d14_9 : decode jdk_42_method_54_code 9 = .ok (.ishr, 1) := by decide +kernel
theorem d14_10 : decode jdk_42_method_54_code 10 = .ok (.ireturn, 1) := by decide +kernel
theorem ef_14 (m : MethodId) (x0 : Addr) : entryFrame m #[(.ref x0)] 1 = mkF m 0 #[.val (.ref x0)] [] := by first | (simp [entryFrame, mkF, argsToLocals, Value.category]; done) | rfl
def Q14 (Z : State) (a0 : Addr) (b : Addr) (k : ClassId) (cs : Int32) (h0 : Heap) (n0 : Nat) (v : Option Value) (h : Heap) (L : List Loc) : Prop := v = some (.int (2 : Int32)) ∧ Fr n0 L ∧ h = h0
set_option maxRecDepth 65536 in
set_option maxHeartbeats 40000000 in
theorem rm14 (l : Launch) (Z : State) (ar : Array Value) (hw : ∀ d ∈ tables_1, d.before ar Z = true) (ws : List Jvm.Cond) (a0 : Addr) (b : Addr) (k : ClassId) (cs : Int32) (h0 : Heap) (n0 : Nat) (Z0 : n0 ≤ h0.size) (F1 : Fld Z h0 a0 "java/lang/String" "value" "[B" (.ref b)) (F2 : Fld Z h0 a0 "java/lang/String" "coder" "B" (.int (0 : Int32))) (V0 : Arv Z h0 b k .byte (2 : Int32) [(.int (62 : Int32)), (.int (61 : Int32))] (.int (0 : Int32))) (E0 : Exa Z h0 a0 "java/lang/String") (S_cs : Sta Z h0 "java/lang/String" "COMPACT_STRINGS" "Z" (.int cs)) (hcs : ¬ cs = (0 : Int32)) :
    MetFree l (⟨"java/lang/String", "length", "()I"⟩ : MethodName) (head1 (Jvm.Cond.code (⟨"java/lang/String", "length", "()I"⟩ : MethodName) jdk_42_method_54_code 1 (some .int) :: ws) ({ frames := 1, cells := 0, slots := 0, locals := 13 } : Room)) (fun a U => a = #[(.ref a0)] ∧ Z.Warmed39 U.vm ∧ U.heap = h0) (fun _ _ _ _ _ => True) (fun _ U o U' => ∃ v L, o = .returned v ∧ Q14 Z a0 b k cs h0 n0 v U'.heap L ∧ FrameEnd U o U' L ({ frames := 1, cells := 0, slots := 0, locals := 13 } : Room).cells ({ frames := 1, cells := 0, slots := 0, locals := 13 } : Room).slots) := by
  refine MetFree.of_bodySF (plainFor_of_name pn_0) hisR ?_
  intro p e s m args below meth c s₁ Bd hml0 hP hK
  obtain ⟨rfl, hZ, hh⟩ := hP
  have hx := Bd.exec
  have hby := Bd.bytes
  have hml : c.maxLocals = 1 := hml0
  have hown : s.vm.findClass "java/lang/String" = some m.cls := findClass_of_methodNamed Bd.named
  have hnm := (name_of_methodNamed Bd.named Bd.method).1
  have X0 : Stand p l e ({ frames := 1, cells := 0, slots := 0, locals := 13 } : Room) s m #[(.ref a0)] below meth c s₁ [] 0 0 := Stand.of_body Bd
  have e0 : s₁.heap = h0 := by rw [← hh, Bd.state]; rfl
  have N0 := Fr.nil n0
  have pre0 : ∀ t, Steps p.tables e below (s₁.setTop (mkF m 0 #[.val (.ref a0)] [])) t → Steps p.tables e below (s₁.setTop (entryFrame m #[(.ref a0)] 1)) t := fun t k => castTop (ef_14 m a0) k
  refine OGo.start pre0 ?_
  show OGo p.tables e below _ (s₁.setTop (mkF m 0 #[.val (.ref a0)] []))
  refine OGo.st (fun t k => XS.aloadN X0.here hx rfl (hb hby d14_0) rfl rfl k) ?_
  show OGo p.tables e below _ (s₁.setTop (mkF m 1 #[.val (.ref a0)] [(.ref a0)]))
  obtain ⟨T101, X101, e101, st101⟩ := getF X0 hx hZ hown (host := "") (Or.inl (hw _ (List.mem_of_getElem? (i := 31) rfl))) Via.refl e0 F1 (g := (mkF m 1 #[.val (.ref a0)] [(.ref a0)])) rfl rfl (hb hby d14_1)
  refine OGo.st st101 ?_
  show OGo p.tables e below _ (T101.setTop (mkF m 4 #[.val (.ref a0)] [(.ref b)]))
  obtain ⟨cl102, Ar102, qc102, Sz102, Nz102, Hs102, Gs102⟩ := id V0
  refine OGo.st (fun t k => X101.arraylength hx (by rw [e101]; exact Ar102.1) (State.isArrayOf_alike hZ.alike Ar102.2.1) (g := (mkF m 4 #[.val (.ref a0)] [(.ref b)])) rfl rfl (hb hby d14_4) _ k) ?_
  rw [len_of Sz102 Nz102]
  show OGo p.tables e below _ (T101.setTop (mkF m 5 #[.val (.ref a0)] [(.int (2 : Int32))]))
  refine OGo.st (fun t k => XS.aloadN X101.here hx rfl (hb hby d14_5) rfl rfl k) ?_
  show OGo p.tables e below _ (T101.setTop (mkF m 6 #[.val (.ref a0)] [(.ref a0), (.int (2 : Int32))]))
  obtain ⟨cq103, kq103, q103a, q103b, q103c⟩ := isOf hZ e101 E0
  obtain ⟨_, _, ⟨T103, L103, kk103, nn103⟩, -, X103, ⟨Lc103, hQ103, l103, y103, z103⟩, st103⟩ := X101.virtualBack hx (y := (⟨"java/lang/String", "coder", "()B"⟩ : MethodName)) (z := (⟨"java/lang/String", "coder", "()B"⟩ : MethodName)) hown (mvT hZ (hw _ (List.mem_of_getElem? (i := 33) rfl))) (mvT hZ (hw _ (List.mem_of_getElem? (i := 34) rfl))) (notFace_of_selects (args := #[]) (mvT hZ (hw _ (List.mem_of_getElem? (i := 36) rfl)))) (mvT hZ (hw _ (List.mem_of_getElem? (i := 36) rfl))) (mvT hZ (hw _ (List.mem_of_getElem? (i := 35) rfl))) (by decide) (backOf (W := 1) (rm0 l Z ar hw [] a0 cs h0 n0 Z0 S_cs hcs F2) hZ (hw _ (List.mem_of_getElem? (i := 37) rfl)) (hw _ (List.mem_of_getElem? (i := 29) rfl)) (by decide) (by decide)) q103a q103c (g := (mkF m 6 #[.val (.ref a0)] [(.ref a0), (.int (2 : Int32))])) rfl (by rw [hml]; rfl) (Steps.refl _) (argsL := []) (rest := [(.int (2 : Int32))]) (lenOf pd_0 rfl) rfl (by show 2 * 0 + _ ≤ _; exact Nat.le_of_eq rfl) (hb hby d14_6) (fun _ _ => ⟨rfl, e101, (by decide : 0 + 0 ≤ _), (by decide : 0 + 0 ≤ _)⟩)
  dsimp only [Pt.U, Pt.locs, Pt.cells, Pt.slots] at X103 l103 y103 z103 st103 hQ103
  subst l103 y103 z103
  obtain ⟨rfl, Nq103, hh103⟩ := hQ103
  have N103 := Fr.app N0 Nq103
  refine OGo.st (fun t k => st103.trans k) ?_
  have e103 : T103.heap = h0 := hh103
  show OGo p.tables e below _ (T103.setTop (mkF m 9 #[.val (.ref a0)] [(.int (0 : Int32)), (.int (2 : Int32))]))
  refine OGo.st (fun t k => XS.ishr X103.here hx rfl (hb hby d14_9) rfl k) ?_
  show OGo p.tables e below _ (T103.setTop (mkF m 10 #[.val (.ref a0)] [(.int (2 : Int32))]))
  obtain ⟨fs, hr, hrun, hended, hW, hsame⟩ := X103.leave (v := some (.int (2 : Int32))) (fun h => by rw [Bd.returns] at h; cases h)
  refine OGo.done (retI X103 hx Bd.returns (hb hby d14_10) hr) ⟨hrun, hended, _, _, rfl, ?_, ⟨_, rfl⟩, hW, hsame.mono (by decide) (by decide)⟩
  show Q14 Z a0 b k cs h0 n0 _ T103.heap _
  rw [e103]
  exact ⟨rfl, N103, rfl⟩
theorem d15_0 : decode jdk_43_method_2_code 0 = .ok (.iload_n 1, 1) := by decide +kernel
theorem d15_1 : decode jdk_43_method_2_code 1 = .ok (.aload_n 0, 1) := by decide +kernel
theorem d15_2 : decode jdk_43_method_2_code 2 = .ok (.arraylength, 1) := by decide +kernel
theorem d15_3 : decode jdk_43_method_2_code 3 = .ok (.invokestatic 9, 3) := by decide +kernel
theorem d15_6 : decode jdk_43_method_2_code 6 = .ok (.aload_n 0, 1) := by decide +kernel
theorem d15_7 : decode jdk_43_method_2_code 7 = .ok (.iload_n 1, 1) := by decide +kernel
theorem d15_8 : decode jdk_43_method_2_code 8 = .ok (.baload, 1) := by decide +kernel
theorem d15_9 : decode jdk_43_method_2_code 9 = .ok (.sipush 255, 3) := by decide +kernel
theorem d15_12 : decode jdk_43_method_2_code 12 = .ok (.iand, 1) := by decide +kernel
theorem d15_13 : decode jdk_43_method_2_code 13 = .ok (.i2c, 1) := by decide +kernel
theorem d15_14 : decode jdk_43_method_2_code 14 = .ok (.ireturn, 1) := by decide +kernel
theorem ef_15 (m : MethodId) (x0 : Addr) : entryFrame m #[(.ref x0), (.int (0 : Int32))] 2 = mkF m 0 #[.val (.ref x0), .val (.int (0 : Int32))] [] := by first | (simp [entryFrame, mkF, argsToLocals, Value.category]; done) | rfl
def Q15 (Z : State) (a0 : Addr) (k : ClassId) (fv : Value) (h0 : Heap) (n0 : Nat) (v : Option Value) (h : Heap) (L : List Loc) : Prop := v = some (.int (62 : Int32)) ∧ Fr n0 L ∧ h = h0
set_option maxRecDepth 65536 in
set_option maxHeartbeats 40000000 in
theorem rm15 (l : Launch) (Z : State) (ar : Array Value) (hw : ∀ d ∈ tables_1, d.before ar Z = true) (ws : List Jvm.Cond) (a0 : Addr) (k : ClassId) (fv : Value) (h0 : Heap) (n0 : Nat) (Z0 : n0 ≤ h0.size) (V0 : Arv Z h0 a0 k .byte (2 : Int32) [(.int (62 : Int32)), (.int (61 : Int32))] (.int (0 : Int32))) (S_fv : Sta Z h0 "jdk/internal/util/Preconditions" "SIOOBE_FORMATTER" "Ljava/util/function/BiFunction;" fv) (hfv : fv.isRef = true) :
    MetFree l (⟨"java/lang/StringLatin1", "charAt", "([BI)C"⟩ : MethodName) (head1 (Jvm.Cond.code (⟨"java/lang/StringLatin1", "charAt", "([BI)C"⟩ : MethodName) jdk_43_method_2_code 2 (some .char) :: ws) ({ frames := 2, cells := 0, slots := 0, locals := 27 } : Room)) (fun a U => a = #[(.ref a0), (.int (0 : Int32))] ∧ Z.Warmed39 U.vm ∧ U.heap = h0) (fun _ _ _ _ _ => True) (fun _ U o U' => ∃ v L, o = .returned v ∧ Q15 Z a0 k fv h0 n0 v U'.heap L ∧ FrameEnd U o U' L ({ frames := 2, cells := 0, slots := 0, locals := 27 } : Room).cells ({ frames := 2, cells := 0, slots := 0, locals := 27 } : Room).slots) := by
  refine MetFree.of_bodySF (plainFor_of_name pn_2) hisR ?_
  intro p e s m args below meth c s₁ Bd hml0 hP hK
  obtain ⟨rfl, hZ, hh⟩ := hP
  have hx := Bd.exec
  have hby := Bd.bytes
  have hml : c.maxLocals = 2 := hml0
  have hown : s.vm.findClass "java/lang/StringLatin1" = some m.cls := findClass_of_methodNamed Bd.named
  have hnm := (name_of_methodNamed Bd.named Bd.method).1
  have X0 : Stand p l e ({ frames := 2, cells := 0, slots := 0, locals := 27 } : Room) s m #[(.ref a0), (.int (0 : Int32))] below meth c s₁ [] 0 0 := Stand.of_body Bd
  have e0 : s₁.heap = h0 := by rw [← hh, Bd.state]; rfl
  have N0 := Fr.nil n0
  have pre0 : ∀ t, Steps p.tables e below (s₁.setTop (mkF m 0 #[.val (.ref a0), .val (.int (0 : Int32))] [])) t → Steps p.tables e below (s₁.setTop (entryFrame m #[(.ref a0), (.int (0 : Int32))] 2)) t := fun t k => castTop (ef_15 m a0) k
  refine OGo.start pre0 ?_
  show OGo p.tables e below _ (s₁.setTop (mkF m 0 #[.val (.ref a0), .val (.int (0 : Int32))] []))
  refine OGo.st (fun t k => XS.iloadN X0.here hx rfl (hb hby d15_0) rfl k) ?_
  show OGo p.tables e below _ (s₁.setTop (mkF m 1 #[.val (.ref a0), .val (.int (0 : Int32))] [(.int (0 : Int32))]))
  refine OGo.st (fun t k => XS.aloadN X0.here hx rfl (hb hby d15_1) rfl rfl k) ?_
  show OGo p.tables e below _ (s₁.setTop (mkF m 2 #[.val (.ref a0), .val (.int (0 : Int32))] [(.ref a0), (.int (0 : Int32))]))
  obtain ⟨cl101, Ar101, qc101, Sz101, Nz101, Hs101, Gs101⟩ := id V0
  refine OGo.st (fun t k => X0.arraylength hx (by rw [e0]; exact Ar101.1) (State.isArrayOf_alike hZ.alike Ar101.2.1) (g := (mkF m 2 #[.val (.ref a0), .val (.int (0 : Int32))] [(.ref a0), (.int (0 : Int32))])) rfl rfl (hb hby d15_2) _ k) ?_
  rw [len_of Sz101 Nz101]
  show OGo p.tables e below _ (s₁.setTop (mkF m 3 #[.val (.ref a0), .val (.int (0 : Int32))] [(.int (2 : Int32)), (.int (0 : Int32))]))
  obtain ⟨_, _, ⟨T102, L102, kk102, nn102⟩, -, X102, ⟨Lc102, hQ102, l102, y102, z102⟩, st102⟩ := Jvm.LawKit.callS X0 hx (y := (⟨"java/lang/String", "checkIndex", "(II)V"⟩ : MethodName)) hown (mvT hZ (hw _ (List.mem_of_getElem? (i := 55) rfl))) (mvT hZ (hw _ (List.mem_of_getElem? (i := 56) rfl))) (mvT hZ (hw _ (List.mem_of_getElem? (i := 29) rfl))) (mvT hZ (hw _ (List.mem_of_getElem? (i := 57) rfl))) (by decide) (backOf (W := 0) (rm11 l Z ar hw [] fv h0 n0 Z0 S_fv hfv) hZ (hw _ (List.mem_of_getElem? (i := 57) rfl)) (hw _ (List.mem_of_getElem? (i := 29) rfl)) (by decide) (by decide)) (g := (mkF m 3 #[.val (.ref a0), .val (.int (0 : Int32))] [(.int (2 : Int32)), (.int (0 : Int32))])) rfl (by rw [hml]; rfl) (argsL := [(.int (0 : Int32)), (.int (2 : Int32))]) (rest := []) (lenOf pd_2 rfl) rfl (by show 2 * 0 + _ ≤ _; exact Nat.le_of_eq rfl) (hb hby d15_3) (fun _ _ => ⟨rfl, e0, (by decide : 0 + 0 ≤ _), (by decide : 0 + 0 ≤ _)⟩)
  dsimp only [Pt.U, Pt.locs, Pt.cells, Pt.slots] at X102 l102 y102 z102 st102 hQ102
  subst l102 y102 z102
  obtain ⟨rfl, Nq102, hh102⟩ := hQ102
  have N102 := Fr.app N0 Nq102
  refine OGo.st st102 ?_
  have e102 : T102.heap = h0 := hh102
  show OGo p.tables e below _ (T102.setTop (mkF m 6 #[.val (.ref a0), .val (.int (0 : Int32))] []))
  refine OGo.st (fun t k => XS.aloadN X102.here hx rfl (hb hby d15_6) rfl rfl k) ?_
  show OGo p.tables e below _ (T102.setTop (mkF m 7 #[.val (.ref a0), .val (.int (0 : Int32))] [(.ref a0)]))
  refine OGo.st (fun t k => XS.iloadN X102.here hx rfl (hb hby d15_7) rfl k) ?_
  show OGo p.tables e below _ (T102.setTop (mkF m 8 #[.val (.ref a0), .val (.int (0 : Int32))] [(.int (0 : Int32)), (.ref a0)]))
  obtain ⟨cl103, Ar103, qc103, Sz103, Nz103, Hs103, Gs103⟩ := id V0
  have hin103 : ¬ ((0 : Int32) < 0 ∨ cl103.slots.size ≤ ((0 : Int32)).toNatClampNeg) := inb_of Sz103 ⟨by decide, by decide⟩
  have hat103 : cl103.slots[((0 : Int32)).toNatClampNeg]? = some (.int (62 : Int32)) := Has.at Hs103 hin103 rfl
  refine OGo.st (fun t k => X102.baloadBytes hx (j := (0 : Int32)) (v := (.int (62 : Int32))) (by rw [e102]; exact Ar103.1) (State.isArrayOf_alike hZ.alike Ar103.2.1) Ar103.2.2 hin103 hat103 (g := (mkF m 8 #[.val (.ref a0), .val (.int (0 : Int32))] [(.int (0 : Int32)), (.ref a0)])) rfl rfl (hb hby d15_8) _ k) ?_
  show OGo p.tables e below _ (T102.setTop (mkF m 9 #[.val (.ref a0), .val (.int (0 : Int32))] [(.int (62 : Int32))]))
  refine OGo.st (fun t k => XS.sipush X102.here hx rfl (hb hby d15_9) k) ?_
  show OGo p.tables e below _ (T102.setTop (mkF m 12 #[.val (.ref a0), .val (.int (0 : Int32))] [(.int (255 : Int32)), (.int (62 : Int32))]))
  refine OGo.st (fun t k => XS.iand X102.here hx rfl (hb hby d15_12) rfl k) ?_
  show OGo p.tables e below _ (T102.setTop (mkF m 13 #[.val (.ref a0), .val (.int (0 : Int32))] [(.int (62 : Int32))]))
  refine OGo.st (fun t k => XS.i2c X102.here hx rfl (hb hby d15_13) rfl k) ?_
  show OGo p.tables e below _ (T102.setTop (mkF m 14 #[.val (.ref a0), .val (.int (0 : Int32))] [(.int (62 : Int32))]))
  obtain ⟨fs, hr, hrun, hended, hW, hsame⟩ := X102.leave (v := some (.int (62 : Int32))) (fun h => by rw [Bd.returns] at h; cases h)
  refine OGo.done (retN X102 hx (t := .char) Bd.returns (by simp) (hb hby d15_14) hr) ⟨hrun, hended, _, _, rfl, ?_, ⟨_, rfl⟩, hW, hsame.mono (by decide) (by decide)⟩
  show Q15 Z a0 k fv h0 n0 _ T102.heap _
  rw [e102]
  exact ⟨rfl, N102, rfl⟩
theorem d16_0 : decode jdk_42_method_56_code 0 = .ok (.aload_n 0, 1) := by decide +kernel
theorem d16_1 : decode jdk_42_method_56_code 1 = .ok (.invokevirtual 492, 3) := by decide +kernel
theorem d16_4 : decode jdk_42_method_56_code 4 = .ok (.ifCond .eq 12, 3) := by decide +kernel
theorem d16_7 : decode jdk_42_method_56_code 7 = .ok (.aload_n 0, 1) := by decide +kernel
theorem d16_8 : decode jdk_42_method_56_code 8 = .ok (.getfield 9, 3) := by decide +kernel
theorem d16_11 : decode jdk_42_method_56_code 11 = .ok (.iload_n 1, 1) := by decide +kernel
theorem d16_12 : decode jdk_42_method_56_code 12 = .ok (.invokestatic 495, 3) := by decide +kernel
theorem d16_15 : decode jdk_42_method_56_code 15 = .ok (.ireturn, 1) := by decide +kernel
theorem ef_16 (m : MethodId) (x0 : Addr) : entryFrame m #[(.ref x0), (.int (0 : Int32))] 2 = mkF m 0 #[.val (.ref x0), .val (.int (0 : Int32))] [] := by first | (simp [entryFrame, mkF, argsToLocals, Value.category]; done) | rfl
def Q16 (Z : State) (a0 : Addr) (b : Addr) (k : ClassId) (cs : Int32) (fv : Value) (h0 : Heap) (n0 : Nat) (v : Option Value) (h : Heap) (L : List Loc) : Prop := v = some (.int (62 : Int32)) ∧ Fr n0 L ∧ h = h0
set_option maxRecDepth 65536 in
set_option maxHeartbeats 40000000 in
theorem rm16 (l : Launch) (Z : State) (ar : Array Value) (hw : ∀ d ∈ tables_1, d.before ar Z = true) (ws : List Jvm.Cond) (a0 : Addr) (b : Addr) (k : ClassId) (cs : Int32) (fv : Value) (h0 : Heap) (n0 : Nat) (Z0 : n0 ≤ h0.size) (F1 : Fld Z h0 a0 "java/lang/String" "value" "[B" (.ref b)) (F2 : Fld Z h0 a0 "java/lang/String" "coder" "B" (.int (0 : Int32))) (V0 : Arv Z h0 b k .byte (2 : Int32) [(.int (62 : Int32)), (.int (61 : Int32))] (.int (0 : Int32))) (E0 : Exa Z h0 a0 "java/lang/String") (S_cs : Sta Z h0 "java/lang/String" "COMPACT_STRINGS" "Z" (.int cs)) (hcs : ¬ cs = (0 : Int32)) (S_fv : Sta Z h0 "jdk/internal/util/Preconditions" "SIOOBE_FORMATTER" "Ljava/util/function/BiFunction;" fv) (hfv : fv.isRef = true) :
    MetFree l (⟨"java/lang/String", "charAt", "(I)C"⟩ : MethodName) (head1 (Jvm.Cond.code (⟨"java/lang/String", "charAt", "(I)C"⟩ : MethodName) jdk_42_method_56_code 2 (some .char) :: ws) ({ frames := 3, cells := 0, slots := 0, locals := 40 } : Room)) (fun a U => a = #[(.ref a0), (.int (0 : Int32))] ∧ Z.Warmed39 U.vm ∧ U.heap = h0) (fun _ _ _ _ _ => True) (fun _ U o U' => ∃ v L, o = .returned v ∧ Q16 Z a0 b k cs fv h0 n0 v U'.heap L ∧ FrameEnd U o U' L ({ frames := 3, cells := 0, slots := 0, locals := 40 } : Room).cells ({ frames := 3, cells := 0, slots := 0, locals := 40 } : Room).slots) := by
  refine MetFree.of_bodySF (plainFor_of_name pn_0) hisR ?_
  intro p e s m args below meth c s₁ Bd hml0 hP hK
  obtain ⟨rfl, hZ, hh⟩ := hP
  have hx := Bd.exec
  have hby := Bd.bytes
  have hml : c.maxLocals = 2 := hml0
  have hown : s.vm.findClass "java/lang/String" = some m.cls := findClass_of_methodNamed Bd.named
  have hnm := (name_of_methodNamed Bd.named Bd.method).1
  have X0 : Stand p l e ({ frames := 3, cells := 0, slots := 0, locals := 40 } : Room) s m #[(.ref a0), (.int (0 : Int32))] below meth c s₁ [] 0 0 := Stand.of_body Bd
  have e0 : s₁.heap = h0 := by rw [← hh, Bd.state]; rfl
  have N0 := Fr.nil n0
  have pre0 : ∀ t, Steps p.tables e below (s₁.setTop (mkF m 0 #[.val (.ref a0), .val (.int (0 : Int32))] [])) t → Steps p.tables e below (s₁.setTop (entryFrame m #[(.ref a0), (.int (0 : Int32))] 2)) t := fun t k => castTop (ef_16 m a0) k
  refine OGo.start pre0 ?_
  show OGo p.tables e below _ (s₁.setTop (mkF m 0 #[.val (.ref a0), .val (.int (0 : Int32))] []))
  refine OGo.st (fun t k => XS.aloadN X0.here hx rfl (hb hby d16_0) rfl rfl k) ?_
  show OGo p.tables e below _ (s₁.setTop (mkF m 1 #[.val (.ref a0), .val (.int (0 : Int32))] [(.ref a0)]))
  obtain ⟨cq101, kq101, q101a, q101b, q101c⟩ := isOf hZ e0 E0
  obtain ⟨_, _, ⟨T101, L101, kk101, nn101⟩, -, X101, ⟨Lc101, hQ101, l101, y101, z101⟩, st101⟩ := X0.virtualBack hx (y := (⟨"java/lang/String", "isLatin1", "()Z"⟩ : MethodName)) (z := (⟨"java/lang/String", "isLatin1", "()Z"⟩ : MethodName)) hown (mvT hZ (hw _ (List.mem_of_getElem? (i := 46) rfl))) (mvT hZ (hw _ (List.mem_of_getElem? (i := 47) rfl))) (notFace_of_selects (args := #[]) (mvT hZ (hw _ (List.mem_of_getElem? (i := 49) rfl)))) (mvT hZ (hw _ (List.mem_of_getElem? (i := 49) rfl))) (mvT hZ (hw _ (List.mem_of_getElem? (i := 48) rfl))) (by decide) (backOf (W := 0) (rm1 l Z ar hw [] a0 cs h0 n0 Z0 S_cs hcs F2) hZ (hw _ (List.mem_of_getElem? (i := 50) rfl)) (hw _ (List.mem_of_getElem? (i := 29) rfl)) (by decide) (by decide)) q101a q101c (g := (mkF m 1 #[.val (.ref a0), .val (.int (0 : Int32))] [(.ref a0)])) rfl (by rw [hml]; rfl) (Steps.refl _) (argsL := []) (rest := []) (lenOf pd_3 rfl) rfl (by show 2 * 0 + _ ≤ _; exact Nat.le_of_eq rfl) (hb hby d16_1) (fun _ _ => ⟨rfl, e0, (by decide : 0 + 0 ≤ _), (by decide : 0 + 0 ≤ _)⟩)
  dsimp only [Pt.U, Pt.locs, Pt.cells, Pt.slots] at X101 l101 y101 z101 st101 hQ101
  subst l101 y101 z101
  obtain ⟨rfl, Nq101, hh101⟩ := hQ101
  have N101 := Fr.app N0 Nq101
  refine OGo.st (fun t k => st101.trans k) ?_
  have e101 : T101.heap = h0 := hh101
  show OGo p.tables e below _ (T101.setTop (mkF m 4 #[.val (.ref a0), .val (.int (0 : Int32))] [(.int (1 : Int32))]))
  refine OGo.st (fun t k => XS.ifNo X101.here hx rfl (hb hby d16_4) rfl ((if0 _ _).trans (feq (by decide : ¬ ((1 : Int32) = (0 : Int32)))).1) k) ?_
  show OGo p.tables e below _ (T101.setTop (mkF m 7 #[.val (.ref a0), .val (.int (0 : Int32))] []))
  refine OGo.st (fun t k => XS.aloadN X101.here hx rfl (hb hby d16_7) rfl rfl k) ?_
  show OGo p.tables e below _ (T101.setTop (mkF m 8 #[.val (.ref a0), .val (.int (0 : Int32))] [(.ref a0)]))
  obtain ⟨T102, X102, e102, st102⟩ := getF X101 hx hZ hown (host := "") (Or.inl (hw _ (List.mem_of_getElem? (i := 31) rfl))) Via.refl e101 F1 (g := (mkF m 8 #[.val (.ref a0), .val (.int (0 : Int32))] [(.ref a0)])) rfl rfl (hb hby d16_8)
  refine OGo.st st102 ?_
  show OGo p.tables e below _ (T102.setTop (mkF m 11 #[.val (.ref a0), .val (.int (0 : Int32))] [(.ref b)]))
  refine OGo.st (fun t k => XS.iloadN X102.here hx rfl (hb hby d16_11) rfl k) ?_
  show OGo p.tables e below _ (T102.setTop (mkF m 12 #[.val (.ref a0), .val (.int (0 : Int32))] [(.int (0 : Int32)), (.ref b)]))
  obtain ⟨_, _, ⟨T103, L103, kk103, nn103⟩, -, X103, ⟨Lc103, hQ103, l103, y103, z103⟩, st103⟩ := Jvm.LawKit.callS X102 hx (y := (⟨"java/lang/StringLatin1", "charAt", "([BI)C"⟩ : MethodName)) hown (mvT hZ (hw _ (List.mem_of_getElem? (i := 51) rfl))) (mvT hZ (hw _ (List.mem_of_getElem? (i := 52) rfl))) (mvT hZ (hw _ (List.mem_of_getElem? (i := 53) rfl))) (mvT hZ (hw _ (List.mem_of_getElem? (i := 54) rfl))) (by decide) (backOf (W := 0) (rm15 l Z ar hw [] b k fv h0 n0 Z0 V0 S_fv hfv) hZ (hw _ (List.mem_of_getElem? (i := 54) rfl)) (hw _ (List.mem_of_getElem? (i := 53) rfl)) (by decide) (by decide)) (g := (mkF m 12 #[.val (.ref a0), .val (.int (0 : Int32))] [(.int (0 : Int32)), (.ref b)])) rfl (by rw [hml]; rfl) (argsL := [(.ref b), (.int (0 : Int32))]) (rest := []) (lenOf pd_4 rfl) rfl (by show 2 * 0 + _ ≤ _; exact Nat.le_of_eq rfl) (hb hby d16_12) (fun _ _ => ⟨rfl, e102, (by decide : 0 + 0 ≤ _), (by decide : 0 + 0 ≤ _)⟩)
  dsimp only [Pt.U, Pt.locs, Pt.cells, Pt.slots] at X103 l103 y103 z103 st103 hQ103
  subst l103 y103 z103
  obtain ⟨rfl, Nq103, hh103⟩ := hQ103
  have N103 := Fr.app N101 Nq103
  refine OGo.st st103 ?_
  have e103 : T103.heap = h0 := hh103
  show OGo p.tables e below _ (T103.setTop (mkF m 15 #[.val (.ref a0), .val (.int (0 : Int32))] [(.int (62 : Int32))]))
  obtain ⟨fs, hr, hrun, hended, hW, hsame⟩ := X103.leave (v := some (.int (62 : Int32))) (fun h => by rw [Bd.returns] at h; cases h)
  refine OGo.done (retN X103 hx (t := .char) Bd.returns (by simp) (hb hby d16_15) hr) ⟨hrun, hended, _, _, rfl, ?_, ⟨_, rfl⟩, hW, hsame.mono (by decide) (by decide)⟩
  show Q16 Z a0 b k cs fv h0 n0 _ T103.heap _
  rw [e103]
  exact ⟨rfl, N103, rfl⟩
theorem d17_0 : decode jdk_42_method_54_code 0 = .ok (.aload_n 0, 1) := by decide +kernel
theorem d17_1 : decode jdk_42_method_54_code 1 = .ok (.getfield 9, 3) := by decide +kernel
theorem d17_4 : decode jdk_42_method_54_code 4 = .ok (.arraylength, 1) := by decide +kernel
theorem d17_5 : decode jdk_42_method_54_code 5 = .ok (.aload_n 0, 1) := by decide +kernel
theorem d17_6 : decode jdk_42_method_54_code 6 = .ok (.invokevirtual 335, 3) := by decide +kernel
theorem d17_9 : decode jdk_42_method_54_code 9 = .ok (.ishr, 1) := by decide +kernel
theorem d17_10 : decode jdk_42_method_54_code 10 = .ok (.ireturn, 1) := by decide +kernel
theorem ef_17 (m : MethodId) (x0 : Addr) : entryFrame m #[(.ref x0)] 1 = mkF m 0 #[.val (.ref x0)] [] := by first | (simp [entryFrame, mkF, argsToLocals, Value.category]; done) | rfl
def Q17 (Z : State) (a0 : Addr) (b : Addr) (k : ClassId) (cs : Int32) (h0 : Heap) (n0 : Nat) (v : Option Value) (h : Heap) (L : List Loc) : Prop := v = some (.int (1 : Int32)) ∧ Fr n0 L ∧ h = h0
set_option maxRecDepth 65536 in
set_option maxHeartbeats 40000000 in
theorem rm17 (l : Launch) (Z : State) (ar : Array Value) (hw : ∀ d ∈ tables_1, d.before ar Z = true) (ws : List Jvm.Cond) (a0 : Addr) (b : Addr) (k : ClassId) (cs : Int32) (h0 : Heap) (n0 : Nat) (Z0 : n0 ≤ h0.size) (F1 : Fld Z h0 a0 "java/lang/String" "value" "[B" (.ref b)) (F2 : Fld Z h0 a0 "java/lang/String" "coder" "B" (.int (0 : Int32))) (V0 : Arv Z h0 b k .byte (1 : Int32) [(.int (62 : Int32))] (.int (0 : Int32))) (E0 : Exa Z h0 a0 "java/lang/String") (S_cs : Sta Z h0 "java/lang/String" "COMPACT_STRINGS" "Z" (.int cs)) (hcs : ¬ cs = (0 : Int32)) :
    MetFree l (⟨"java/lang/String", "length", "()I"⟩ : MethodName) (head1 (Jvm.Cond.code (⟨"java/lang/String", "length", "()I"⟩ : MethodName) jdk_42_method_54_code 1 (some .int) :: ws) ({ frames := 1, cells := 0, slots := 0, locals := 13 } : Room)) (fun a U => a = #[(.ref a0)] ∧ Z.Warmed39 U.vm ∧ U.heap = h0) (fun _ _ _ _ _ => True) (fun _ U o U' => ∃ v L, o = .returned v ∧ Q17 Z a0 b k cs h0 n0 v U'.heap L ∧ FrameEnd U o U' L ({ frames := 1, cells := 0, slots := 0, locals := 13 } : Room).cells ({ frames := 1, cells := 0, slots := 0, locals := 13 } : Room).slots) := by
  refine MetFree.of_bodySF (plainFor_of_name pn_0) hisR ?_
  intro p e s m args below meth c s₁ Bd hml0 hP hK
  obtain ⟨rfl, hZ, hh⟩ := hP
  have hx := Bd.exec
  have hby := Bd.bytes
  have hml : c.maxLocals = 1 := hml0
  have hown : s.vm.findClass "java/lang/String" = some m.cls := findClass_of_methodNamed Bd.named
  have hnm := (name_of_methodNamed Bd.named Bd.method).1
  have X0 : Stand p l e ({ frames := 1, cells := 0, slots := 0, locals := 13 } : Room) s m #[(.ref a0)] below meth c s₁ [] 0 0 := Stand.of_body Bd
  have e0 : s₁.heap = h0 := by rw [← hh, Bd.state]; rfl
  have N0 := Fr.nil n0
  have pre0 : ∀ t, Steps p.tables e below (s₁.setTop (mkF m 0 #[.val (.ref a0)] [])) t → Steps p.tables e below (s₁.setTop (entryFrame m #[(.ref a0)] 1)) t := fun t k => castTop (ef_17 m a0) k
  refine OGo.start pre0 ?_
  show OGo p.tables e below _ (s₁.setTop (mkF m 0 #[.val (.ref a0)] []))
  refine OGo.st (fun t k => XS.aloadN X0.here hx rfl (hb hby d17_0) rfl rfl k) ?_
  show OGo p.tables e below _ (s₁.setTop (mkF m 1 #[.val (.ref a0)] [(.ref a0)]))
  obtain ⟨T101, X101, e101, st101⟩ := getF X0 hx hZ hown (host := "") (Or.inl (hw _ (List.mem_of_getElem? (i := 31) rfl))) Via.refl e0 F1 (g := (mkF m 1 #[.val (.ref a0)] [(.ref a0)])) rfl rfl (hb hby d17_1)
  refine OGo.st st101 ?_
  show OGo p.tables e below _ (T101.setTop (mkF m 4 #[.val (.ref a0)] [(.ref b)]))
  obtain ⟨cl102, Ar102, qc102, Sz102, Nz102, Hs102, Gs102⟩ := id V0
  refine OGo.st (fun t k => X101.arraylength hx (by rw [e101]; exact Ar102.1) (State.isArrayOf_alike hZ.alike Ar102.2.1) (g := (mkF m 4 #[.val (.ref a0)] [(.ref b)])) rfl rfl (hb hby d17_4) _ k) ?_
  rw [len_of Sz102 Nz102]
  show OGo p.tables e below _ (T101.setTop (mkF m 5 #[.val (.ref a0)] [(.int (1 : Int32))]))
  refine OGo.st (fun t k => XS.aloadN X101.here hx rfl (hb hby d17_5) rfl rfl k) ?_
  show OGo p.tables e below _ (T101.setTop (mkF m 6 #[.val (.ref a0)] [(.ref a0), (.int (1 : Int32))]))
  obtain ⟨cq103, kq103, q103a, q103b, q103c⟩ := isOf hZ e101 E0
  obtain ⟨_, _, ⟨T103, L103, kk103, nn103⟩, -, X103, ⟨Lc103, hQ103, l103, y103, z103⟩, st103⟩ := X101.virtualBack hx (y := (⟨"java/lang/String", "coder", "()B"⟩ : MethodName)) (z := (⟨"java/lang/String", "coder", "()B"⟩ : MethodName)) hown (mvT hZ (hw _ (List.mem_of_getElem? (i := 33) rfl))) (mvT hZ (hw _ (List.mem_of_getElem? (i := 34) rfl))) (notFace_of_selects (args := #[]) (mvT hZ (hw _ (List.mem_of_getElem? (i := 36) rfl)))) (mvT hZ (hw _ (List.mem_of_getElem? (i := 36) rfl))) (mvT hZ (hw _ (List.mem_of_getElem? (i := 35) rfl))) (by decide) (backOf (W := 1) (rm0 l Z ar hw [] a0 cs h0 n0 Z0 S_cs hcs F2) hZ (hw _ (List.mem_of_getElem? (i := 37) rfl)) (hw _ (List.mem_of_getElem? (i := 29) rfl)) (by decide) (by decide)) q103a q103c (g := (mkF m 6 #[.val (.ref a0)] [(.ref a0), (.int (1 : Int32))])) rfl (by rw [hml]; rfl) (Steps.refl _) (argsL := []) (rest := [(.int (1 : Int32))]) (lenOf pd_0 rfl) rfl (by show 2 * 0 + _ ≤ _; exact Nat.le_of_eq rfl) (hb hby d17_6) (fun _ _ => ⟨rfl, e101, (by decide : 0 + 0 ≤ _), (by decide : 0 + 0 ≤ _)⟩)
  dsimp only [Pt.U, Pt.locs, Pt.cells, Pt.slots] at X103 l103 y103 z103 st103 hQ103
  subst l103 y103 z103
  obtain ⟨rfl, Nq103, hh103⟩ := hQ103
  have N103 := Fr.app N0 Nq103
  refine OGo.st (fun t k => st103.trans k) ?_
  have e103 : T103.heap = h0 := hh103
  show OGo p.tables e below _ (T103.setTop (mkF m 9 #[.val (.ref a0)] [(.int (0 : Int32)), (.int (1 : Int32))]))
  refine OGo.st (fun t k => XS.ishr X103.here hx rfl (hb hby d17_9) rfl k) ?_
  show OGo p.tables e below _ (T103.setTop (mkF m 10 #[.val (.ref a0)] [(.int (1 : Int32))]))
  obtain ⟨fs, hr, hrun, hended, hW, hsame⟩ := X103.leave (v := some (.int (1 : Int32))) (fun h => by rw [Bd.returns] at h; cases h)
  refine OGo.done (retI X103 hx Bd.returns (hb hby d17_10) hr) ⟨hrun, hended, _, _, rfl, ?_, ⟨_, rfl⟩, hW, hsame.mono (by decide) (by decide)⟩
  show Q17 Z a0 b k cs h0 n0 _ T103.heap _
  rw [e103]
  exact ⟨rfl, N103, rfl⟩
theorem d18_0 : decode jdk_43_method_2_code 0 = .ok (.iload_n 1, 1) := by decide +kernel
theorem d18_1 : decode jdk_43_method_2_code 1 = .ok (.aload_n 0, 1) := by decide +kernel
theorem d18_2 : decode jdk_43_method_2_code 2 = .ok (.arraylength, 1) := by decide +kernel
theorem d18_3 : decode jdk_43_method_2_code 3 = .ok (.invokestatic 9, 3) := by decide +kernel
theorem d18_6 : decode jdk_43_method_2_code 6 = .ok (.aload_n 0, 1) := by decide +kernel
theorem d18_7 : decode jdk_43_method_2_code 7 = .ok (.iload_n 1, 1) := by decide +kernel
theorem d18_8 : decode jdk_43_method_2_code 8 = .ok (.baload, 1) := by decide +kernel
theorem d18_9 : decode jdk_43_method_2_code 9 = .ok (.sipush 255, 3) := by decide +kernel
theorem d18_12 : decode jdk_43_method_2_code 12 = .ok (.iand, 1) := by decide +kernel
theorem d18_13 : decode jdk_43_method_2_code 13 = .ok (.i2c, 1) := by decide +kernel
theorem d18_14 : decode jdk_43_method_2_code 14 = .ok (.ireturn, 1) := by decide +kernel
theorem ef_18 (m : MethodId) (x0 : Addr) : entryFrame m #[(.ref x0), (.int (0 : Int32))] 2 = mkF m 0 #[.val (.ref x0), .val (.int (0 : Int32))] [] := by first | (simp [entryFrame, mkF, argsToLocals, Value.category]; done) | rfl
def Q18 (Z : State) (a0 : Addr) (k : ClassId) (fv : Value) (h0 : Heap) (n0 : Nat) (v : Option Value) (h : Heap) (L : List Loc) : Prop := v = some (.int (62 : Int32)) ∧ Fr n0 L ∧ h = h0
set_option maxRecDepth 65536 in
set_option maxHeartbeats 40000000 in
theorem rm18 (l : Launch) (Z : State) (ar : Array Value) (hw : ∀ d ∈ tables_1, d.before ar Z = true) (ws : List Jvm.Cond) (a0 : Addr) (k : ClassId) (fv : Value) (h0 : Heap) (n0 : Nat) (Z0 : n0 ≤ h0.size) (V0 : Arv Z h0 a0 k .byte (1 : Int32) [(.int (62 : Int32))] (.int (0 : Int32))) (S_fv : Sta Z h0 "jdk/internal/util/Preconditions" "SIOOBE_FORMATTER" "Ljava/util/function/BiFunction;" fv) (hfv : fv.isRef = true) :
    MetFree l (⟨"java/lang/StringLatin1", "charAt", "([BI)C"⟩ : MethodName) (head1 (Jvm.Cond.code (⟨"java/lang/StringLatin1", "charAt", "([BI)C"⟩ : MethodName) jdk_43_method_2_code 2 (some .char) :: ws) ({ frames := 2, cells := 0, slots := 0, locals := 27 } : Room)) (fun a U => a = #[(.ref a0), (.int (0 : Int32))] ∧ Z.Warmed39 U.vm ∧ U.heap = h0) (fun _ _ _ _ _ => True) (fun _ U o U' => ∃ v L, o = .returned v ∧ Q18 Z a0 k fv h0 n0 v U'.heap L ∧ FrameEnd U o U' L ({ frames := 2, cells := 0, slots := 0, locals := 27 } : Room).cells ({ frames := 2, cells := 0, slots := 0, locals := 27 } : Room).slots) := by
  refine MetFree.of_bodySF (plainFor_of_name pn_2) hisR ?_
  intro p e s m args below meth c s₁ Bd hml0 hP hK
  obtain ⟨rfl, hZ, hh⟩ := hP
  have hx := Bd.exec
  have hby := Bd.bytes
  have hml : c.maxLocals = 2 := hml0
  have hown : s.vm.findClass "java/lang/StringLatin1" = some m.cls := findClass_of_methodNamed Bd.named
  have hnm := (name_of_methodNamed Bd.named Bd.method).1
  have X0 : Stand p l e ({ frames := 2, cells := 0, slots := 0, locals := 27 } : Room) s m #[(.ref a0), (.int (0 : Int32))] below meth c s₁ [] 0 0 := Stand.of_body Bd
  have e0 : s₁.heap = h0 := by rw [← hh, Bd.state]; rfl
  have N0 := Fr.nil n0
  have pre0 : ∀ t, Steps p.tables e below (s₁.setTop (mkF m 0 #[.val (.ref a0), .val (.int (0 : Int32))] [])) t → Steps p.tables e below (s₁.setTop (entryFrame m #[(.ref a0), (.int (0 : Int32))] 2)) t := fun t k => castTop (ef_18 m a0) k
  refine OGo.start pre0 ?_
  show OGo p.tables e below _ (s₁.setTop (mkF m 0 #[.val (.ref a0), .val (.int (0 : Int32))] []))
  refine OGo.st (fun t k => XS.iloadN X0.here hx rfl (hb hby d18_0) rfl k) ?_
  show OGo p.tables e below _ (s₁.setTop (mkF m 1 #[.val (.ref a0), .val (.int (0 : Int32))] [(.int (0 : Int32))]))
  refine OGo.st (fun t k => XS.aloadN X0.here hx rfl (hb hby d18_1) rfl rfl k) ?_
  show OGo p.tables e below _ (s₁.setTop (mkF m 2 #[.val (.ref a0), .val (.int (0 : Int32))] [(.ref a0), (.int (0 : Int32))]))
  obtain ⟨cl101, Ar101, qc101, Sz101, Nz101, Hs101, Gs101⟩ := id V0
  refine OGo.st (fun t k => X0.arraylength hx (by rw [e0]; exact Ar101.1) (State.isArrayOf_alike hZ.alike Ar101.2.1) (g := (mkF m 2 #[.val (.ref a0), .val (.int (0 : Int32))] [(.ref a0), (.int (0 : Int32))])) rfl rfl (hb hby d18_2) _ k) ?_
  rw [len_of Sz101 Nz101]
  show OGo p.tables e below _ (s₁.setTop (mkF m 3 #[.val (.ref a0), .val (.int (0 : Int32))] [(.int (1 : Int32)), (.int (0 : Int32))]))
  obtain ⟨_, _, ⟨T102, L102, kk102, nn102⟩, -, X102, ⟨Lc102, hQ102, l102, y102, z102⟩, st102⟩ := Jvm.LawKit.callS X0 hx (y := (⟨"java/lang/String", "checkIndex", "(II)V"⟩ : MethodName)) hown (mvT hZ (hw _ (List.mem_of_getElem? (i := 55) rfl))) (mvT hZ (hw _ (List.mem_of_getElem? (i := 56) rfl))) (mvT hZ (hw _ (List.mem_of_getElem? (i := 29) rfl))) (mvT hZ (hw _ (List.mem_of_getElem? (i := 57) rfl))) (by decide) (backOf (W := 0) (rm5 l Z ar hw [] fv h0 n0 Z0 S_fv hfv) hZ (hw _ (List.mem_of_getElem? (i := 57) rfl)) (hw _ (List.mem_of_getElem? (i := 29) rfl)) (by decide) (by decide)) (g := (mkF m 3 #[.val (.ref a0), .val (.int (0 : Int32))] [(.int (1 : Int32)), (.int (0 : Int32))])) rfl (by rw [hml]; rfl) (argsL := [(.int (0 : Int32)), (.int (1 : Int32))]) (rest := []) (lenOf pd_2 rfl) rfl (by show 2 * 0 + _ ≤ _; exact Nat.le_of_eq rfl) (hb hby d18_3) (fun _ _ => ⟨rfl, e0, (by decide : 0 + 0 ≤ _), (by decide : 0 + 0 ≤ _)⟩)
  dsimp only [Pt.U, Pt.locs, Pt.cells, Pt.slots] at X102 l102 y102 z102 st102 hQ102
  subst l102 y102 z102
  obtain ⟨rfl, Nq102, hh102⟩ := hQ102
  have N102 := Fr.app N0 Nq102
  refine OGo.st st102 ?_
  have e102 : T102.heap = h0 := hh102
  show OGo p.tables e below _ (T102.setTop (mkF m 6 #[.val (.ref a0), .val (.int (0 : Int32))] []))
  refine OGo.st (fun t k => XS.aloadN X102.here hx rfl (hb hby d18_6) rfl rfl k) ?_
  show OGo p.tables e below _ (T102.setTop (mkF m 7 #[.val (.ref a0), .val (.int (0 : Int32))] [(.ref a0)]))
  refine OGo.st (fun t k => XS.iloadN X102.here hx rfl (hb hby d18_7) rfl k) ?_
  show OGo p.tables e below _ (T102.setTop (mkF m 8 #[.val (.ref a0), .val (.int (0 : Int32))] [(.int (0 : Int32)), (.ref a0)]))
  obtain ⟨cl103, Ar103, qc103, Sz103, Nz103, Hs103, Gs103⟩ := id V0
  have hin103 : ¬ ((0 : Int32) < 0 ∨ cl103.slots.size ≤ ((0 : Int32)).toNatClampNeg) := inb_of Sz103 ⟨by decide, by decide⟩
  have hat103 : cl103.slots[((0 : Int32)).toNatClampNeg]? = some (.int (62 : Int32)) := Has.at Hs103 hin103 rfl
  refine OGo.st (fun t k => X102.baloadBytes hx (j := (0 : Int32)) (v := (.int (62 : Int32))) (by rw [e102]; exact Ar103.1) (State.isArrayOf_alike hZ.alike Ar103.2.1) Ar103.2.2 hin103 hat103 (g := (mkF m 8 #[.val (.ref a0), .val (.int (0 : Int32))] [(.int (0 : Int32)), (.ref a0)])) rfl rfl (hb hby d18_8) _ k) ?_
  show OGo p.tables e below _ (T102.setTop (mkF m 9 #[.val (.ref a0), .val (.int (0 : Int32))] [(.int (62 : Int32))]))
  refine OGo.st (fun t k => XS.sipush X102.here hx rfl (hb hby d18_9) k) ?_
  show OGo p.tables e below _ (T102.setTop (mkF m 12 #[.val (.ref a0), .val (.int (0 : Int32))] [(.int (255 : Int32)), (.int (62 : Int32))]))
  refine OGo.st (fun t k => XS.iand X102.here hx rfl (hb hby d18_12) rfl k) ?_
  show OGo p.tables e below _ (T102.setTop (mkF m 13 #[.val (.ref a0), .val (.int (0 : Int32))] [(.int (62 : Int32))]))
  refine OGo.st (fun t k => XS.i2c X102.here hx rfl (hb hby d18_13) rfl k) ?_
  show OGo p.tables e below _ (T102.setTop (mkF m 14 #[.val (.ref a0), .val (.int (0 : Int32))] [(.int (62 : Int32))]))
  obtain ⟨fs, hr, hrun, hended, hW, hsame⟩ := X102.leave (v := some (.int (62 : Int32))) (fun h => by rw [Bd.returns] at h; cases h)
  refine OGo.done (retN X102 hx (t := .char) Bd.returns (by simp) (hb hby d18_14) hr) ⟨hrun, hended, _, _, rfl, ?_, ⟨_, rfl⟩, hW, hsame.mono (by decide) (by decide)⟩
  show Q18 Z a0 k fv h0 n0 _ T102.heap _
  rw [e102]
  exact ⟨rfl, N102, rfl⟩
theorem d19_0 : decode jdk_42_method_56_code 0 = .ok (.aload_n 0, 1) := by decide +kernel
theorem d19_1 : decode jdk_42_method_56_code 1 = .ok (.invokevirtual 492, 3) := by decide +kernel
theorem d19_4 : decode jdk_42_method_56_code 4 = .ok (.ifCond .eq 12, 3) := by decide +kernel
theorem d19_7 : decode jdk_42_method_56_code 7 = .ok (.aload_n 0, 1) := by decide +kernel
theorem d19_8 : decode jdk_42_method_56_code 8 = .ok (.getfield 9, 3) := by decide +kernel
theorem d19_11 : decode jdk_42_method_56_code 11 = .ok (.iload_n 1, 1) := by decide +kernel
theorem d19_12 : decode jdk_42_method_56_code 12 = .ok (.invokestatic 495, 3) := by decide +kernel
theorem d19_15 : decode jdk_42_method_56_code 15 = .ok (.ireturn, 1) := by decide +kernel
theorem ef_19 (m : MethodId) (x0 : Addr) : entryFrame m #[(.ref x0), (.int (0 : Int32))] 2 = mkF m 0 #[.val (.ref x0), .val (.int (0 : Int32))] [] := by first | (simp [entryFrame, mkF, argsToLocals, Value.category]; done) | rfl
def Q19 (Z : State) (a0 : Addr) (b : Addr) (k : ClassId) (cs : Int32) (fv : Value) (h0 : Heap) (n0 : Nat) (v : Option Value) (h : Heap) (L : List Loc) : Prop := v = some (.int (62 : Int32)) ∧ Fr n0 L ∧ h = h0
set_option maxRecDepth 65536 in
set_option maxHeartbeats 40000000 in
theorem rm19 (l : Launch) (Z : State) (ar : Array Value) (hw : ∀ d ∈ tables_1, d.before ar Z = true) (ws : List Jvm.Cond) (a0 : Addr) (b : Addr) (k : ClassId) (cs : Int32) (fv : Value) (h0 : Heap) (n0 : Nat) (Z0 : n0 ≤ h0.size) (F1 : Fld Z h0 a0 "java/lang/String" "value" "[B" (.ref b)) (F2 : Fld Z h0 a0 "java/lang/String" "coder" "B" (.int (0 : Int32))) (V0 : Arv Z h0 b k .byte (1 : Int32) [(.int (62 : Int32))] (.int (0 : Int32))) (E0 : Exa Z h0 a0 "java/lang/String") (S_cs : Sta Z h0 "java/lang/String" "COMPACT_STRINGS" "Z" (.int cs)) (hcs : ¬ cs = (0 : Int32)) (S_fv : Sta Z h0 "jdk/internal/util/Preconditions" "SIOOBE_FORMATTER" "Ljava/util/function/BiFunction;" fv) (hfv : fv.isRef = true) :
    MetFree l (⟨"java/lang/String", "charAt", "(I)C"⟩ : MethodName) (head1 (Jvm.Cond.code (⟨"java/lang/String", "charAt", "(I)C"⟩ : MethodName) jdk_42_method_56_code 2 (some .char) :: ws) ({ frames := 3, cells := 0, slots := 0, locals := 40 } : Room)) (fun a U => a = #[(.ref a0), (.int (0 : Int32))] ∧ Z.Warmed39 U.vm ∧ U.heap = h0) (fun _ _ _ _ _ => True) (fun _ U o U' => ∃ v L, o = .returned v ∧ Q19 Z a0 b k cs fv h0 n0 v U'.heap L ∧ FrameEnd U o U' L ({ frames := 3, cells := 0, slots := 0, locals := 40 } : Room).cells ({ frames := 3, cells := 0, slots := 0, locals := 40 } : Room).slots) := by
  refine MetFree.of_bodySF (plainFor_of_name pn_0) hisR ?_
  intro p e s m args below meth c s₁ Bd hml0 hP hK
  obtain ⟨rfl, hZ, hh⟩ := hP
  have hx := Bd.exec
  have hby := Bd.bytes
  have hml : c.maxLocals = 2 := hml0
  have hown : s.vm.findClass "java/lang/String" = some m.cls := findClass_of_methodNamed Bd.named
  have hnm := (name_of_methodNamed Bd.named Bd.method).1
  have X0 : Stand p l e ({ frames := 3, cells := 0, slots := 0, locals := 40 } : Room) s m #[(.ref a0), (.int (0 : Int32))] below meth c s₁ [] 0 0 := Stand.of_body Bd
  have e0 : s₁.heap = h0 := by rw [← hh, Bd.state]; rfl
  have N0 := Fr.nil n0
  have pre0 : ∀ t, Steps p.tables e below (s₁.setTop (mkF m 0 #[.val (.ref a0), .val (.int (0 : Int32))] [])) t → Steps p.tables e below (s₁.setTop (entryFrame m #[(.ref a0), (.int (0 : Int32))] 2)) t := fun t k => castTop (ef_19 m a0) k
  refine OGo.start pre0 ?_
  show OGo p.tables e below _ (s₁.setTop (mkF m 0 #[.val (.ref a0), .val (.int (0 : Int32))] []))
  refine OGo.st (fun t k => XS.aloadN X0.here hx rfl (hb hby d19_0) rfl rfl k) ?_
  show OGo p.tables e below _ (s₁.setTop (mkF m 1 #[.val (.ref a0), .val (.int (0 : Int32))] [(.ref a0)]))
  obtain ⟨cq101, kq101, q101a, q101b, q101c⟩ := isOf hZ e0 E0
  obtain ⟨_, _, ⟨T101, L101, kk101, nn101⟩, -, X101, ⟨Lc101, hQ101, l101, y101, z101⟩, st101⟩ := X0.virtualBack hx (y := (⟨"java/lang/String", "isLatin1", "()Z"⟩ : MethodName)) (z := (⟨"java/lang/String", "isLatin1", "()Z"⟩ : MethodName)) hown (mvT hZ (hw _ (List.mem_of_getElem? (i := 46) rfl))) (mvT hZ (hw _ (List.mem_of_getElem? (i := 47) rfl))) (notFace_of_selects (args := #[]) (mvT hZ (hw _ (List.mem_of_getElem? (i := 49) rfl)))) (mvT hZ (hw _ (List.mem_of_getElem? (i := 49) rfl))) (mvT hZ (hw _ (List.mem_of_getElem? (i := 48) rfl))) (by decide) (backOf (W := 0) (rm1 l Z ar hw [] a0 cs h0 n0 Z0 S_cs hcs F2) hZ (hw _ (List.mem_of_getElem? (i := 50) rfl)) (hw _ (List.mem_of_getElem? (i := 29) rfl)) (by decide) (by decide)) q101a q101c (g := (mkF m 1 #[.val (.ref a0), .val (.int (0 : Int32))] [(.ref a0)])) rfl (by rw [hml]; rfl) (Steps.refl _) (argsL := []) (rest := []) (lenOf pd_3 rfl) rfl (by show 2 * 0 + _ ≤ _; exact Nat.le_of_eq rfl) (hb hby d19_1) (fun _ _ => ⟨rfl, e0, (by decide : 0 + 0 ≤ _), (by decide : 0 + 0 ≤ _)⟩)
  dsimp only [Pt.U, Pt.locs, Pt.cells, Pt.slots] at X101 l101 y101 z101 st101 hQ101
  subst l101 y101 z101
  obtain ⟨rfl, Nq101, hh101⟩ := hQ101
  have N101 := Fr.app N0 Nq101
  refine OGo.st (fun t k => st101.trans k) ?_
  have e101 : T101.heap = h0 := hh101
  show OGo p.tables e below _ (T101.setTop (mkF m 4 #[.val (.ref a0), .val (.int (0 : Int32))] [(.int (1 : Int32))]))
  refine OGo.st (fun t k => XS.ifNo X101.here hx rfl (hb hby d19_4) rfl ((if0 _ _).trans (feq (by decide : ¬ ((1 : Int32) = (0 : Int32)))).1) k) ?_
  show OGo p.tables e below _ (T101.setTop (mkF m 7 #[.val (.ref a0), .val (.int (0 : Int32))] []))
  refine OGo.st (fun t k => XS.aloadN X101.here hx rfl (hb hby d19_7) rfl rfl k) ?_
  show OGo p.tables e below _ (T101.setTop (mkF m 8 #[.val (.ref a0), .val (.int (0 : Int32))] [(.ref a0)]))
  obtain ⟨T102, X102, e102, st102⟩ := getF X101 hx hZ hown (host := "") (Or.inl (hw _ (List.mem_of_getElem? (i := 31) rfl))) Via.refl e101 F1 (g := (mkF m 8 #[.val (.ref a0), .val (.int (0 : Int32))] [(.ref a0)])) rfl rfl (hb hby d19_8)
  refine OGo.st st102 ?_
  show OGo p.tables e below _ (T102.setTop (mkF m 11 #[.val (.ref a0), .val (.int (0 : Int32))] [(.ref b)]))
  refine OGo.st (fun t k => XS.iloadN X102.here hx rfl (hb hby d19_11) rfl k) ?_
  show OGo p.tables e below _ (T102.setTop (mkF m 12 #[.val (.ref a0), .val (.int (0 : Int32))] [(.int (0 : Int32)), (.ref b)]))
  obtain ⟨_, _, ⟨T103, L103, kk103, nn103⟩, -, X103, ⟨Lc103, hQ103, l103, y103, z103⟩, st103⟩ := Jvm.LawKit.callS X102 hx (y := (⟨"java/lang/StringLatin1", "charAt", "([BI)C"⟩ : MethodName)) hown (mvT hZ (hw _ (List.mem_of_getElem? (i := 51) rfl))) (mvT hZ (hw _ (List.mem_of_getElem? (i := 52) rfl))) (mvT hZ (hw _ (List.mem_of_getElem? (i := 53) rfl))) (mvT hZ (hw _ (List.mem_of_getElem? (i := 54) rfl))) (by decide) (backOf (W := 0) (rm18 l Z ar hw [] b k fv h0 n0 Z0 V0 S_fv hfv) hZ (hw _ (List.mem_of_getElem? (i := 54) rfl)) (hw _ (List.mem_of_getElem? (i := 53) rfl)) (by decide) (by decide)) (g := (mkF m 12 #[.val (.ref a0), .val (.int (0 : Int32))] [(.int (0 : Int32)), (.ref b)])) rfl (by rw [hml]; rfl) (argsL := [(.ref b), (.int (0 : Int32))]) (rest := []) (lenOf pd_4 rfl) rfl (by show 2 * 0 + _ ≤ _; exact Nat.le_of_eq rfl) (hb hby d19_12) (fun _ _ => ⟨rfl, e102, (by decide : 0 + 0 ≤ _), (by decide : 0 + 0 ≤ _)⟩)
  dsimp only [Pt.U, Pt.locs, Pt.cells, Pt.slots] at X103 l103 y103 z103 st103 hQ103
  subst l103 y103 z103
  obtain ⟨rfl, Nq103, hh103⟩ := hQ103
  have N103 := Fr.app N101 Nq103
  refine OGo.st st103 ?_
  have e103 : T103.heap = h0 := hh103
  show OGo p.tables e below _ (T103.setTop (mkF m 15 #[.val (.ref a0), .val (.int (0 : Int32))] [(.int (62 : Int32))]))
  obtain ⟨fs, hr, hrun, hended, hW, hsame⟩ := X103.leave (v := some (.int (62 : Int32))) (fun h => by rw [Bd.returns] at h; cases h)
  refine OGo.done (retN X103 hx (t := .char) Bd.returns (by simp) (hb hby d19_15) hr) ⟨hrun, hended, _, _, rfl, ?_, ⟨_, rfl⟩, hW, hsame.mono (by decide) (by decide)⟩
  show Q19 Z a0 b k cs fv h0 n0 _ T103.heap _
  rw [e103]
  exact ⟨rfl, N103, rfl⟩
theorem d20_0 : decode prog_74_method_4_code 0 = .ok (.aload_n 0, 1) := by decide +kernel
theorem d20_1 : decode prog_74_method_4_code 1 = .ok (.getfield 35, 3) := by decide +kernel
theorem d20_4 : decode prog_74_method_4_code 4 = .ok (.areturn, 1) := by decide +kernel
theorem pn_3 : plainName "com/example/palamedes/palamedes/req/Relation" = true := by first | (simp [plainName, overriddenIn]; done) | decide +kernel
theorem ef_20 (m : MethodId) (x0 : Addr) : entryFrame m #[(.ref x0)] 1 = mkF m 0 #[.val (.ref x0)] [] := by first | (simp [entryFrame, mkF, argsToLocals, Value.category]; done) | rfl
def Q20 (Z : State) (a0 : Addr) (sy : Addr) (h0 : Heap) (n0 : Nat) (v : Option Value) (h : Heap) (L : List Loc) : Prop := v = some (.ref sy) ∧ Fr n0 L ∧ h = h0
set_option maxRecDepth 65536 in
set_option maxHeartbeats 40000000 in
theorem rm20 (l : Launch) (Z : State) (ar : Array Value) (hw : ∀ d ∈ tables_1, d.before ar Z = true) (ws : List Jvm.Cond) (a0 : Addr) (sy : Addr) (h0 : Heap) (n0 : Nat) (Z0 : n0 ≤ h0.size) (F : Fld Z h0 a0 "com/example/palamedes/palamedes/req/Relation" "symbol" "Ljava/lang/String;" (.ref sy)) :
    MetFree l (⟨"com/example/palamedes/palamedes/req/Relation", "symbol", "()Ljava/lang/String;"⟩ : MethodName) (head1 (Jvm.Cond.code (⟨"com/example/palamedes/palamedes/req/Relation", "symbol", "()Ljava/lang/String;"⟩ : MethodName) prog_74_method_4_code 1 (some (.object "java/lang/String")) :: ws) ({ frames := 0, cells := 0, slots := 0, locals := 0 } : Room)) (fun a U => a = #[(.ref a0)] ∧ Z.Warmed39 U.vm ∧ U.heap = h0) (fun _ _ _ _ _ => True) (fun _ U o U' => ∃ v L, o = .returned v ∧ Q20 Z a0 sy h0 n0 v U'.heap L ∧ FrameEnd U o U' L ({ frames := 0, cells := 0, slots := 0, locals := 0 } : Room).cells ({ frames := 0, cells := 0, slots := 0, locals := 0 } : Room).slots) := by
  refine MetFree.of_bodySF (plainFor_of_name pn_3) hisR ?_
  intro p e s m args below meth c s₁ Bd hml0 hP hK
  obtain ⟨rfl, hZ, hh⟩ := hP
  have hx := Bd.exec
  have hby := Bd.bytes
  have hml : c.maxLocals = 1 := hml0
  have hown : s.vm.findClass "com/example/palamedes/palamedes/req/Relation" = some m.cls := findClass_of_methodNamed Bd.named
  have hnm := (name_of_methodNamed Bd.named Bd.method).1
  have X0 : Stand p l e ({ frames := 0, cells := 0, slots := 0, locals := 0 } : Room) s m #[(.ref a0)] below meth c s₁ [] 0 0 := Stand.of_body Bd
  have e0 : s₁.heap = h0 := by rw [← hh, Bd.state]; rfl
  have N0 := Fr.nil n0
  have pre0 : ∀ t, Steps p.tables e below (s₁.setTop (mkF m 0 #[.val (.ref a0)] [])) t → Steps p.tables e below (s₁.setTop (entryFrame m #[(.ref a0)] 1)) t := fun t k => castTop (ef_20 m a0) k
  refine OGo.start pre0 ?_
  show OGo p.tables e below _ (s₁.setTop (mkF m 0 #[.val (.ref a0)] []))
  refine OGo.st (fun t k => XS.aloadN X0.here hx rfl (hb hby d20_0) rfl rfl k) ?_
  show OGo p.tables e below _ (s₁.setTop (mkF m 1 #[.val (.ref a0)] [(.ref a0)]))
  obtain ⟨T101, X101, e101, st101⟩ := getF X0 hx hZ hown (host := "") (Or.inl (hw _ (List.mem_of_getElem? (i := 23) rfl))) Via.refl e0 F (g := (mkF m 1 #[.val (.ref a0)] [(.ref a0)])) rfl rfl (hb hby d20_1)
  refine OGo.st st101 ?_
  show OGo p.tables e below _ (T101.setTop (mkF m 4 #[.val (.ref a0)] [(.ref sy)]))
  obtain ⟨fs, hr, hrun, hended, hW, hsame⟩ := X101.leave (v := some (.ref sy)) (fun h => by rw [Bd.returns] at h; cases h)
  refine OGo.done (own_retR X101 hx Bd.returns rfl rfl (hb hby d20_4) hr) ⟨hrun, hended, _, _, rfl, ?_, ⟨_, rfl⟩, hW, hsame.mono (by decide) (by decide)⟩
  show Q20 Z a0 sy h0 n0 _ T101.heap _
  rw [e101]
  exact ⟨rfl, N0, rfl⟩
theorem d21_0 : decode prog_74_method_5_code 0 = .ok (.aload_n 0, 1) := by decide +kernel
theorem d21_1 : decode prog_74_method_5_code 1 = .ok (.getstatic 3, 3) := by decide +kernel
theorem d21_4 : decode prog_74_method_5_code 4 = .ok (.if_acmp .eq 10, 3) := by decide +kernel
theorem d21_14 : decode prog_74_method_5_code 14 = .ok (.iconst 1, 1) := by decide +kernel
theorem d21_15 : decode prog_74_method_5_code 15 = .ok (.goto 4, 3) := by decide +kernel
theorem d21_19 : decode prog_74_method_5_code 19 = .ok (.ireturn, 1) := by decide +kernel
theorem ef_21 (m : MethodId) (x0 : Addr) : entryFrame m #[(.ref x0)] 1 = mkF m 0 #[.val (.ref x0)] [] := by first | (simp [entryFrame, mkF, argsToLocals, Value.category]; done) | rfl
def Q21 (Z : State) (r0 : Addr) (h0 : Heap) (n0 : Nat) (v : Option Value) (h : Heap) (L : List Loc) : Prop := v = some (.int (1 : Int32)) ∧ Fr n0 L ∧ h = h0
set_option maxRecDepth 65536 in
set_option maxHeartbeats 40000000 in
theorem rm21 (l : Launch) (Z : State) (ar : Array Value) (hw : ∀ d ∈ tables_1, d.before ar Z = true) (ws : List Jvm.Cond) (r0 : Addr) (h0 : Heap) (n0 : Nat) (Z0 : n0 ≤ h0.size) (SL : Sta Z h0 "com/example/palamedes/palamedes/req/Relation" "LESS" "Lcom/example/palamedes/palamedes/req/Relation;" (.ref r0)) :
    MetFree l (⟨"com/example/palamedes/palamedes/req/Relation", "upper", "()Z"⟩ : MethodName) (head1 (Jvm.Cond.code (⟨"com/example/palamedes/palamedes/req/Relation", "upper", "()Z"⟩ : MethodName) prog_74_method_5_code 1 (some .boolean) :: ws) ({ frames := 0, cells := 0, slots := 0, locals := 0 } : Room)) (fun a U => a = #[(.ref r0)] ∧ Z.Warmed39 U.vm ∧ U.heap = h0) (fun _ _ _ _ _ => True) (fun _ U o U' => ∃ v L, o = .returned v ∧ Q21 Z r0 h0 n0 v U'.heap L ∧ FrameEnd U o U' L ({ frames := 0, cells := 0, slots := 0, locals := 0 } : Room).cells ({ frames := 0, cells := 0, slots := 0, locals := 0 } : Room).slots) := by
  refine MetFree.of_bodySF (plainFor_of_name pn_3) hisR ?_
  intro p e s m args below meth c s₁ Bd hml0 hP hK
  obtain ⟨rfl, hZ, hh⟩ := hP
  have hx := Bd.exec
  have hby := Bd.bytes
  have hml : c.maxLocals = 1 := hml0
  have hown : s.vm.findClass "com/example/palamedes/palamedes/req/Relation" = some m.cls := findClass_of_methodNamed Bd.named
  have hnm := (name_of_methodNamed Bd.named Bd.method).1
  have X0 : Stand p l e ({ frames := 0, cells := 0, slots := 0, locals := 0 } : Room) s m #[(.ref r0)] below meth c s₁ [] 0 0 := Stand.of_body Bd
  have e0 : s₁.heap = h0 := by rw [← hh, Bd.state]; rfl
  have N0 := Fr.nil n0
  have pre0 : ∀ t, Steps p.tables e below (s₁.setTop (mkF m 0 #[.val (.ref r0)] [])) t → Steps p.tables e below (s₁.setTop (entryFrame m #[(.ref r0)] 1)) t := fun t k => castTop (ef_21 m r0) k
  refine OGo.start pre0 ?_
  show OGo p.tables e below _ (s₁.setTop (mkF m 0 #[.val (.ref r0)] []))
  refine OGo.st (fun t k => XS.aloadN X0.here hx rfl (hb hby d21_0) rfl rfl k) ?_
  show OGo p.tables e below _ (s₁.setTop (mkF m 1 #[.val (.ref r0)] [(.ref r0)]))
  obtain ⟨T101, X101, e101, st101⟩ := getS2 X0 hx hZ hown (host := "") (Or.inl (hw _ (List.mem_of_getElem? (i := 17) rfl))) Via.refl e0 SL (g := (mkF m 1 #[.val (.ref r0)] [(.ref r0)])) rfl (hb hby d21_1)
  refine OGo.st st101 ?_
  show OGo p.tables e below _ (T101.setTop (mkF m 4 #[.val (.ref r0)] [(.ref r0), (.ref r0)]))
  refine OGo.st (fun t k => Jvm.RoadKit.acmp (g := (mkF m 4 #[.val (.ref r0)] [(.ref r0), (.ref r0)])) X101 hx rfl rfl rfl (pc0 := 4) (pc' := 14) (same := true) rfl (hb hby d21_4) rfl (decide_eq_true rfl) (by decide) (by decide) k) ?_
  show OGo p.tables e below _ (T101.setTop (mkF m 14 #[.val (.ref r0)] []))
  refine OGo.st (fun t k => XS.iconst X101.here hx rfl (hb hby d21_14) k) ?_
  show OGo p.tables e below _ (T101.setTop (mkF m 15 #[.val (.ref r0)] [(.int (1 : Int32))]))
  refine OGo.st (fun t k => XS.goto X101.here hx rfl (pc0 := 15) (pc' := 19) rfl (hb hby d21_15) (by decide) (by decide) k) ?_
  show OGo p.tables e below _ (T101.setTop (mkF m 19 #[.val (.ref r0)] [(.int (1 : Int32))]))
  obtain ⟨fs, hr, hrun, hended, hW, hsame⟩ := X101.leave (v := some (.int (1 : Int32))) (fun h => by rw [Bd.returns] at h; cases h)
  refine OGo.done (retN X101 hx (t := .boolean) Bd.returns (by simp) (hb hby d21_19) hr) ⟨hrun, hended, _, _, rfl, ?_, ⟨_, rfl⟩, hW, hsame.mono (by decide) (by decide)⟩
  show Q21 Z r0 h0 n0 _ T101.heap _
  rw [e101]
  exact ⟨rfl, N0, rfl⟩
theorem d22_0 : decode prog_74_method_5_code 0 = .ok (.aload_n 0, 1) := by decide +kernel
theorem d22_1 : decode prog_74_method_5_code 1 = .ok (.getstatic 3, 3) := by decide +kernel
theorem d22_4 : decode prog_74_method_5_code 4 = .ok (.if_acmp .eq 10, 3) := by decide +kernel
theorem d22_7 : decode prog_74_method_5_code 7 = .ok (.aload_n 0, 1) := by decide +kernel
theorem d22_8 : decode prog_74_method_5_code 8 = .ok (.getstatic 7, 3) := by decide +kernel
theorem d22_11 : decode prog_74_method_5_code 11 = .ok (.if_acmp .ne 7, 3) := by decide +kernel
theorem d22_14 : decode prog_74_method_5_code 14 = .ok (.iconst 1, 1) := by decide +kernel
theorem d22_15 : decode prog_74_method_5_code 15 = .ok (.goto 4, 3) := by decide +kernel
theorem d22_19 : decode prog_74_method_5_code 19 = .ok (.ireturn, 1) := by decide +kernel
theorem ef_22 (m : MethodId) (x0 : Addr) : entryFrame m #[(.ref x0)] 1 = mkF m 0 #[.val (.ref x0)] [] := by first | (simp [entryFrame, mkF, argsToLocals, Value.category]; done) | rfl
def Q22 (Z : State) (r1 : Addr) (r0 : Addr) (h0 : Heap) (n0 : Nat) (v : Option Value) (h : Heap) (L : List Loc) : Prop := v = some (.int (1 : Int32)) ∧ Fr n0 L ∧ h = h0
set_option maxRecDepth 65536 in
set_option maxHeartbeats 40000000 in
theorem rm22 (l : Launch) (Z : State) (ar : Array Value) (hw : ∀ d ∈ tables_1, d.before ar Z = true) (ws : List Jvm.Cond) (r1 : Addr) (r0 : Addr) (h0 : Heap) (n0 : Nat) (Z0 : n0 ≤ h0.size) (SL : Sta Z h0 "com/example/palamedes/palamedes/req/Relation" "LESS" "Lcom/example/palamedes/palamedes/req/Relation;" (.ref r0)) (SE : Sta Z h0 "com/example/palamedes/palamedes/req/Relation" "LESS_OR_EQUAL" "Lcom/example/palamedes/palamedes/req/Relation;" (.ref r1)) (n : r0 ≠ r1) :
    MetFree l (⟨"com/example/palamedes/palamedes/req/Relation", "upper", "()Z"⟩ : MethodName) (head1 (Jvm.Cond.code (⟨"com/example/palamedes/palamedes/req/Relation", "upper", "()Z"⟩ : MethodName) prog_74_method_5_code 1 (some .boolean) :: ws) ({ frames := 0, cells := 0, slots := 0, locals := 0 } : Room)) (fun a U => a = #[(.ref r1)] ∧ Z.Warmed39 U.vm ∧ U.heap = h0) (fun _ _ _ _ _ => True) (fun _ U o U' => ∃ v L, o = .returned v ∧ Q22 Z r1 r0 h0 n0 v U'.heap L ∧ FrameEnd U o U' L ({ frames := 0, cells := 0, slots := 0, locals := 0 } : Room).cells ({ frames := 0, cells := 0, slots := 0, locals := 0 } : Room).slots) := by
  refine MetFree.of_bodySF (plainFor_of_name pn_3) hisR ?_
  intro p e s m args below meth c s₁ Bd hml0 hP hK
  obtain ⟨rfl, hZ, hh⟩ := hP
  have hx := Bd.exec
  have hby := Bd.bytes
  have hml : c.maxLocals = 1 := hml0
  have hown : s.vm.findClass "com/example/palamedes/palamedes/req/Relation" = some m.cls := findClass_of_methodNamed Bd.named
  have hnm := (name_of_methodNamed Bd.named Bd.method).1
  have X0 : Stand p l e ({ frames := 0, cells := 0, slots := 0, locals := 0 } : Room) s m #[(.ref r1)] below meth c s₁ [] 0 0 := Stand.of_body Bd
  have e0 : s₁.heap = h0 := by rw [← hh, Bd.state]; rfl
  have N0 := Fr.nil n0
  have pre0 : ∀ t, Steps p.tables e below (s₁.setTop (mkF m 0 #[.val (.ref r1)] [])) t → Steps p.tables e below (s₁.setTop (entryFrame m #[(.ref r1)] 1)) t := fun t k => castTop (ef_22 m r1) k
  refine OGo.start pre0 ?_
  show OGo p.tables e below _ (s₁.setTop (mkF m 0 #[.val (.ref r1)] []))
  refine OGo.st (fun t k => XS.aloadN X0.here hx rfl (hb hby d22_0) rfl rfl k) ?_
  show OGo p.tables e below _ (s₁.setTop (mkF m 1 #[.val (.ref r1)] [(.ref r1)]))
  obtain ⟨T101, X101, e101, st101⟩ := getS2 X0 hx hZ hown (host := "") (Or.inl (hw _ (List.mem_of_getElem? (i := 17) rfl))) Via.refl e0 SL (g := (mkF m 1 #[.val (.ref r1)] [(.ref r1)])) rfl (hb hby d22_1)
  refine OGo.st st101 ?_
  show OGo p.tables e below _ (T101.setTop (mkF m 4 #[.val (.ref r1)] [(.ref r0), (.ref r1)]))
  refine OGo.st (fun t k => Jvm.RoadKit.acmp (g := (mkF m 4 #[.val (.ref r1)] [(.ref r0), (.ref r1)])) X101 hx rfl rfl rfl (pc0 := 4) (pc' := 7) (same := false) rfl (hb hby d22_4) rfl (decide_eq_false fun q => (Ne.symm n) (Value.ref.inj q)) (by decide) (by decide) k) ?_
  show OGo p.tables e below _ (T101.setTop (mkF m 7 #[.val (.ref r1)] []))
  refine OGo.st (fun t k => XS.aloadN X101.here hx rfl (hb hby d22_7) rfl rfl k) ?_
  show OGo p.tables e below _ (T101.setTop (mkF m 8 #[.val (.ref r1)] [(.ref r1)]))
  obtain ⟨T102, X102, e102, st102⟩ := getS2 X101 hx hZ hown (host := "") (Or.inl (hw _ (List.mem_of_getElem? (i := 63) rfl))) Via.refl e101 SE (g := (mkF m 8 #[.val (.ref r1)] [(.ref r1)])) rfl (hb hby d22_8)
  refine OGo.st st102 ?_
  show OGo p.tables e below _ (T102.setTop (mkF m 11 #[.val (.ref r1)] [(.ref r1), (.ref r1)]))
  refine OGo.st (fun t k => Jvm.RoadKit.acmp (g := (mkF m 11 #[.val (.ref r1)] [(.ref r1), (.ref r1)])) X102 hx rfl rfl rfl (pc0 := 11) (pc' := 14) (same := true) rfl (hb hby d22_11) rfl (decide_eq_true rfl) (by decide) (by decide) k) ?_
  show OGo p.tables e below _ (T102.setTop (mkF m 14 #[.val (.ref r1)] []))
  refine OGo.st (fun t k => XS.iconst X102.here hx rfl (hb hby d22_14) k) ?_
  show OGo p.tables e below _ (T102.setTop (mkF m 15 #[.val (.ref r1)] [(.int (1 : Int32))]))
  refine OGo.st (fun t k => XS.goto X102.here hx rfl (pc0 := 15) (pc' := 19) rfl (hb hby d22_15) (by decide) (by decide) k) ?_
  show OGo p.tables e below _ (T102.setTop (mkF m 19 #[.val (.ref r1)] [(.int (1 : Int32))]))
  obtain ⟨fs, hr, hrun, hended, hW, hsame⟩ := X102.leave (v := some (.int (1 : Int32))) (fun h => by rw [Bd.returns] at h; cases h)
  refine OGo.done (retN X102 hx (t := .boolean) Bd.returns (by simp) (hb hby d22_19) hr) ⟨hrun, hended, _, _, rfl, ?_, ⟨_, rfl⟩, hW, hsame.mono (by decide) (by decide)⟩
  show Q22 Z r1 r0 h0 n0 _ T102.heap _
  rw [e102]
  exact ⟨rfl, N0, rfl⟩
theorem d23_0 : decode prog_74_method_5_code 0 = .ok (.aload_n 0, 1) := by decide +kernel
theorem d23_1 : decode prog_74_method_5_code 1 = .ok (.getstatic 3, 3) := by decide +kernel
theorem d23_4 : decode prog_74_method_5_code 4 = .ok (.if_acmp .eq 10, 3) := by decide +kernel
theorem d23_7 : decode prog_74_method_5_code 7 = .ok (.aload_n 0, 1) := by decide +kernel
theorem d23_8 : decode prog_74_method_5_code 8 = .ok (.getstatic 7, 3) := by decide +kernel
theorem d23_11 : decode prog_74_method_5_code 11 = .ok (.if_acmp .ne 7, 3) := by decide +kernel
theorem d23_18 : decode prog_74_method_5_code 18 = .ok (.iconst 0, 1) := by decide +kernel
theorem d23_19 : decode prog_74_method_5_code 19 = .ok (.ireturn, 1) := by decide +kernel
theorem ef_23 (m : MethodId) (x0 : Addr) : entryFrame m #[(.ref x0)] 1 = mkF m 0 #[.val (.ref x0)] [] := by first | (simp [entryFrame, mkF, argsToLocals, Value.category]; done) | rfl
def Q23 (Z : State) (a0 : Addr) (r0 : Addr) (r1 : Addr) (h0 : Heap) (n0 : Nat) (v : Option Value) (h : Heap) (L : List Loc) : Prop := v = some (.int (0 : Int32)) ∧ Fr n0 L ∧ h = h0
set_option maxRecDepth 65536 in
set_option maxHeartbeats 40000000 in
theorem rm23 (l : Launch) (Z : State) (ar : Array Value) (hw : ∀ d ∈ tables_1, d.before ar Z = true) (ws : List Jvm.Cond) (a0 : Addr) (r0 : Addr) (r1 : Addr) (h0 : Heap) (n0 : Nat) (Z0 : n0 ≤ h0.size) (SL : Sta Z h0 "com/example/palamedes/palamedes/req/Relation" "LESS" "Lcom/example/palamedes/palamedes/req/Relation;" (.ref r0)) (SE : Sta Z h0 "com/example/palamedes/palamedes/req/Relation" "LESS_OR_EQUAL" "Lcom/example/palamedes/palamedes/req/Relation;" (.ref r1)) (n1 : a0 ≠ r0) (n2 : a0 ≠ r1) :
    MetFree l (⟨"com/example/palamedes/palamedes/req/Relation", "upper", "()Z"⟩ : MethodName) (head1 (Jvm.Cond.code (⟨"com/example/palamedes/palamedes/req/Relation", "upper", "()Z"⟩ : MethodName) prog_74_method_5_code 1 (some .boolean) :: ws) ({ frames := 0, cells := 0, slots := 0, locals := 0 } : Room)) (fun a U => a = #[(.ref a0)] ∧ Z.Warmed39 U.vm ∧ U.heap = h0) (fun _ _ _ _ _ => True) (fun _ U o U' => ∃ v L, o = .returned v ∧ Q23 Z a0 r0 r1 h0 n0 v U'.heap L ∧ FrameEnd U o U' L ({ frames := 0, cells := 0, slots := 0, locals := 0 } : Room).cells ({ frames := 0, cells := 0, slots := 0, locals := 0 } : Room).slots) := by
  refine MetFree.of_bodySF (plainFor_of_name pn_3) hisR ?_
  intro p e s m args below meth c s₁ Bd hml0 hP hK
  obtain ⟨rfl, hZ, hh⟩ := hP
  have hx := Bd.exec
  have hby := Bd.bytes
  have hml : c.maxLocals = 1 := hml0
  have hown : s.vm.findClass "com/example/palamedes/palamedes/req/Relation" = some m.cls := findClass_of_methodNamed Bd.named
  have hnm := (name_of_methodNamed Bd.named Bd.method).1
  have X0 : Stand p l e ({ frames := 0, cells := 0, slots := 0, locals := 0 } : Room) s m #[(.ref a0)] below meth c s₁ [] 0 0 := Stand.of_body Bd
  have e0 : s₁.heap = h0 := by rw [← hh, Bd.state]; rfl
  have N0 := Fr.nil n0
  have pre0 : ∀ t, Steps p.tables e below (s₁.setTop (mkF m 0 #[.val (.ref a0)] [])) t → Steps p.tables e below (s₁.setTop (entryFrame m #[(.ref a0)] 1)) t := fun t k => castTop (ef_23 m a0) k
  refine OGo.start pre0 ?_
  show OGo p.tables e below _ (s₁.setTop (mkF m 0 #[.val (.ref a0)] []))
  refine OGo.st (fun t k => XS.aloadN X0.here hx rfl (hb hby d23_0) rfl rfl k) ?_
  show OGo p.tables e below _ (s₁.setTop (mkF m 1 #[.val (.ref a0)] [(.ref a0)]))
  obtain ⟨T101, X101, e101, st101⟩ := getS2 X0 hx hZ hown (host := "") (Or.inl (hw _ (List.mem_of_getElem? (i := 17) rfl))) Via.refl e0 SL (g := (mkF m 1 #[.val (.ref a0)] [(.ref a0)])) rfl (hb hby d23_1)
  refine OGo.st st101 ?_
  show OGo p.tables e below _ (T101.setTop (mkF m 4 #[.val (.ref a0)] [(.ref r0), (.ref a0)]))
  refine OGo.st (fun t k => Jvm.RoadKit.acmp (g := (mkF m 4 #[.val (.ref a0)] [(.ref r0), (.ref a0)])) X101 hx rfl rfl rfl (pc0 := 4) (pc' := 7) (same := false) rfl (hb hby d23_4) rfl (decide_eq_false fun q => n1 (Value.ref.inj q)) (by decide) (by decide) k) ?_
  show OGo p.tables e below _ (T101.setTop (mkF m 7 #[.val (.ref a0)] []))
  refine OGo.st (fun t k => XS.aloadN X101.here hx rfl (hb hby d23_7) rfl rfl k) ?_
  show OGo p.tables e below _ (T101.setTop (mkF m 8 #[.val (.ref a0)] [(.ref a0)]))
  obtain ⟨T102, X102, e102, st102⟩ := getS2 X101 hx hZ hown (host := "") (Or.inl (hw _ (List.mem_of_getElem? (i := 63) rfl))) Via.refl e101 SE (g := (mkF m 8 #[.val (.ref a0)] [(.ref a0)])) rfl (hb hby d23_8)
  refine OGo.st st102 ?_
  show OGo p.tables e below _ (T102.setTop (mkF m 11 #[.val (.ref a0)] [(.ref r1), (.ref a0)]))
  refine OGo.st (fun t k => Jvm.RoadKit.acmp (g := (mkF m 11 #[.val (.ref a0)] [(.ref r1), (.ref a0)])) X102 hx rfl rfl rfl (pc0 := 11) (pc' := 18) (same := false) rfl (hb hby d23_11) rfl (decide_eq_false fun q => n2 (Value.ref.inj q)) (by decide) (by decide) k) ?_
  show OGo p.tables e below _ (T102.setTop (mkF m 18 #[.val (.ref a0)] []))
  refine OGo.st (fun t k => XS.iconst X102.here hx rfl (hb hby d23_18) k) ?_
  show OGo p.tables e below _ (T102.setTop (mkF m 19 #[.val (.ref a0)] [(.int (0 : Int32))]))
  obtain ⟨fs, hr, hrun, hended, hW, hsame⟩ := X102.leave (v := some (.int (0 : Int32))) (fun h => by rw [Bd.returns] at h; cases h)
  refine OGo.done (retN X102 hx (t := .boolean) Bd.returns (by simp) (hb hby d23_19) hr) ⟨hrun, hended, _, _, rfl, ?_, ⟨_, rfl⟩, hW, hsame.mono (by decide) (by decide)⟩
  show Q23 Z a0 r0 r1 h0 n0 _ T102.heap _
  rw [e102]
  exact ⟨rfl, N0, rfl⟩
theorem pd_5 : parseMethodDescriptor "()Ljava/lang/String;" = some ⟨[], some (.object "java/lang/String")⟩ := by decide +kernel
theorem pd_6 : parseMethodDescriptor "()I" = some ⟨[], some .int⟩ := by decide +kernel
theorem pd_7 : parseMethodDescriptor "(I)C" = some ⟨[.int], some .char⟩ := by decide +kernel
theorem pn_4 : plainName "com/example/palamedes/palamedes/req/RelationUpperPinLaw" = true := by first | (simp [plainName, overriddenIn]; done) | decide +kernel
theorem ef_24 (m : MethodId) (x0 : Int32) : entryFrame m #[(.int x0)] maxLocals = mkF m 0 #[.val (.int x0), .unset, .unset, .unset, .unset, .unset, .unset, .unset] [] := by first | (simp [entryFrame, mkF, argsToLocals, Value.category, maxLocals]; done) | rfl
def Q24 (Z : State) (p0 : Int32) (r0 : Addr) (r1 : Addr) (r2 : Addr) (r3 : Addr) (s0 : Addr) (s1 : Addr) (s2 : Addr) (s3 : Addr) (b0 : Addr) (b1 : Addr) (b2 : Addr) (b3 : Addr) (k0 : ClassId) (k1 : ClassId) (k2 : ClassId) (k3 : ClassId) (cs : Int32) (fv : Value) (h0 : Heap) (n0 : Nat) (v : Option Value) (h : Heap) (L : List Loc) : Prop := v = some (.int (1 : Int32)) ∧ Fr n0 L
set_option maxRecDepth 65536 in
set_option maxHeartbeats 40000000 in
theorem rm24 (l : Launch) (Z : State) (ar : Array Value) (hw : ∀ d ∈ tables_1, d.before ar Z = true) (ws : List Jvm.Cond) (p0 : Int32) (r0 : Addr) (r1 : Addr) (r2 : Addr) (r3 : Addr) (s0 : Addr) (s1 : Addr) (s2 : Addr) (s3 : Addr) (b0 : Addr) (b1 : Addr) (b2 : Addr) (b3 : Addr) (k0 : ClassId) (k1 : ClassId) (k2 : ClassId) (k3 : ClassId) (cs : Int32) (fv : Value) (h0 : Heap) (n0 : Nat) (Z0 : n0 ≤ h0.size) (S_cs : Sta Z h0 "java/lang/String" "COMPACT_STRINGS" "Z" (.int cs)) (hcs : ¬ cs = (0 : Int32)) (S_fv : Sta Z h0 "jdk/internal/util/Preconditions" "SIOOBE_FORMATTER" "Ljava/util/function/BiFunction;" fv) (hfv : fv.isRef = true) (S0 : Sta Z h0 "com/example/palamedes/palamedes/req/Relation" "LESS" "Lcom/example/palamedes/palamedes/req/Relation;" (.ref r0)) (ER0 : Exa Z h0 r0 "com/example/palamedes/palamedes/req/Relation") (FS0 : Fld Z h0 r0 "com/example/palamedes/palamedes/req/Relation" "symbol" "Ljava/lang/String;" (.ref s0)) (ES0 : Exa Z h0 s0 "java/lang/String") (FV0 : Fld Z h0 s0 "java/lang/String" "value" "[B" (.ref b0)) (FC0 : Fld Z h0 s0 "java/lang/String" "coder" "B" (.int (0 : Int32))) (AV0 : Arv Z h0 b0 k0 .byte (1 : Int32) [(.int (60 : Int32))] (.int (0 : Int32))) (S1 : Sta Z h0 "com/example/palamedes/palamedes/req/Relation" "LESS_OR_EQUAL" "Lcom/example/palamedes/palamedes/req/Relation;" (.ref r1)) (ER1 : Exa Z h0 r1 "com/example/palamedes/palamedes/req/Relation") (FS1 : Fld Z h0 r1 "com/example/palamedes/palamedes/req/Relation" "symbol" "Ljava/lang/String;" (.ref s1)) (ES1 : Exa Z h0 s1 "java/lang/String") (FV1 : Fld Z h0 s1 "java/lang/String" "value" "[B" (.ref b1)) (FC1 : Fld Z h0 s1 "java/lang/String" "coder" "B" (.int (0 : Int32))) (AV1 : Arv Z h0 b1 k1 .byte (2 : Int32) [(.int (60 : Int32)), (.int (61 : Int32))] (.int (0 : Int32))) (S2 : Sta Z h0 "com/example/palamedes/palamedes/req/Relation" "GREATER_OR_EQUAL" "Lcom/example/palamedes/palamedes/req/Relation;" (.ref r2)) (ER2 : Exa Z h0 r2 "com/example/palamedes/palamedes/req/Relation") (FS2 : Fld Z h0 r2 "com/example/palamedes/palamedes/req/Relation" "symbol" "Ljava/lang/String;" (.ref s2)) (ES2 : Exa Z h0 s2 "java/lang/String") (FV2 : Fld Z h0 s2 "java/lang/String" "value" "[B" (.ref b2)) (FC2 : Fld Z h0 s2 "java/lang/String" "coder" "B" (.int (0 : Int32))) (AV2 : Arv Z h0 b2 k2 .byte (2 : Int32) [(.int (62 : Int32)), (.int (61 : Int32))] (.int (0 : Int32))) (S3 : Sta Z h0 "com/example/palamedes/palamedes/req/Relation" "GREATER" "Lcom/example/palamedes/palamedes/req/Relation;" (.ref r3)) (ER3 : Exa Z h0 r3 "com/example/palamedes/palamedes/req/Relation") (FS3 : Fld Z h0 r3 "com/example/palamedes/palamedes/req/Relation" "symbol" "Ljava/lang/String;" (.ref s3)) (ES3 : Exa Z h0 s3 "java/lang/String") (FV3 : Fld Z h0 s3 "java/lang/String" "value" "[B" (.ref b3)) (FC3 : Fld Z h0 s3 "java/lang/String" "coder" "B" (.int (0 : Int32))) (AV3 : Arv Z h0 b3 k3 .byte (1 : Int32) [(.int (62 : Int32))] (.int (0 : Int32))) (nr01 : r0 ≠ r1) (nr02 : r0 ≠ r2) (nr03 : r0 ≠ r3) (nr12 : r1 ≠ r2) (nr13 : r1 ≠ r3) (nr23 : r2 ≠ r3) :
    MetFree l x (head1 (Jvm.Cond.code x code maxLocals ret :: ws) room_1) (fun a U => a = #[(.int p0)] ∧ Z.Warmed39 U.vm ∧ U.heap = h0) (fun _ _ _ _ _ => True) (fun _ U o U' => ∃ v L, o = .returned v ∧ Q24 Z p0 r0 r1 r2 r3 s0 s1 s2 s3 b0 b1 b2 b3 k0 k1 k2 k3 cs fv h0 n0 v U'.heap L ∧ FrameEnd U o U' L room_1.cells room_1.slots) := by
  refine MetFree.of_bodySF (plainFor_of_name pn_4) hisR ?_
  intro p e s m args below meth c s₁ Bd hml0 hP hK
  obtain ⟨rfl, hZ, hh⟩ := hP
  have hx := Bd.exec
  have hby := Bd.bytes
  have hml : c.maxLocals = 8 := hml0
  have hown : s.vm.findClass "com/example/palamedes/palamedes/req/RelationUpperPinLaw" = some m.cls := findClass_of_methodNamed Bd.named
  have hnm := (name_of_methodNamed Bd.named Bd.method).1
  have X0 : Stand p l e room_1 s m #[(.int p0)] below meth c s₁ [] 0 0 := Stand.of_body Bd
  have e0 : s₁.heap = h0 := by rw [← hh, Bd.state]; rfl
  have N0 := Fr.nil n0
  have pre0 : ∀ t, Steps p.tables e below (s₁.setTop (mkF m 0 #[.val (.int p0), .unset, .unset, .unset, .unset, .unset, .unset, .unset] [])) t → Steps p.tables e below (s₁.setTop (entryFrame m #[(.int p0)] maxLocals)) t := fun t k => castTop (ef_24 m p0) k
  refine OGo.start pre0 ?_
  show OGo p.tables e below _ (s₁.setTop (mkF m 0 #[.val (.int p0), .unset, .unset, .unset, .unset, .unset, .unset, .unset] []))
  refine OGo.st (fun t k => XS.iconst X0.here hx rfl (hb hby at_0) k) ?_
  show OGo p.tables e below _ (s₁.setTop (mkF m 1 #[.val (.int p0), .unset, .unset, .unset, .unset, .unset, .unset, .unset] [(.int (4 : Int32))]))
  obtain ⟨T101, h101, k101, X101, e101, E101, A101, O101, st101⟩ := newR X0 hx hZ hown (hw _ (List.mem_of_getElem? (i := 0) rfl)) (hw _ (List.mem_of_getElem? (i := 1) rfl)) e0 (g := (mkF m 1 #[.val (.int p0), .unset, .unset, .unset, .unset, .unset, .unset, .unset] [(.int (4 : Int32))])) rfl (hb hby at_1) rfl (by decide) (cap := 4) (by decide) (by decide) (by decide) (by decide)
  obtain ⟨b101, g101⟩ : ∃ z, z = h0.size := ⟨_, rfl⟩
  rw [← g101] at A101 st101
  have ge_b101 : n0 ≤ b101 := Nat.le_trans Z0 (Nat.le_of_eq g101.symm)
  have sz_b101 : h0.size ≤ b101 := Nat.le_trans (Nat.le_refl h0.size) (Nat.le_of_eq g101.symm)
  have ne_r0_b101 : r0 ≠ b101 := Nat.ne_of_lt (Nat.lt_of_lt_of_le ER0.lt (Nat.le_of_eq g101.symm))
  have ne_s0_b101 : s0 ≠ b101 := Nat.ne_of_lt (Nat.lt_of_lt_of_le ES0.lt (Nat.le_of_eq g101.symm))
  have ne_b0_b101 : b0 ≠ b101 := Nat.ne_of_lt (Nat.lt_of_lt_of_le AV0.lt (Nat.le_of_eq g101.symm))
  have ne_r1_b101 : r1 ≠ b101 := Nat.ne_of_lt (Nat.lt_of_lt_of_le ER1.lt (Nat.le_of_eq g101.symm))
  have ne_s1_b101 : s1 ≠ b101 := Nat.ne_of_lt (Nat.lt_of_lt_of_le ES1.lt (Nat.le_of_eq g101.symm))
  have ne_b1_b101 : b1 ≠ b101 := Nat.ne_of_lt (Nat.lt_of_lt_of_le AV1.lt (Nat.le_of_eq g101.symm))
  have ne_r2_b101 : r2 ≠ b101 := Nat.ne_of_lt (Nat.lt_of_lt_of_le ER2.lt (Nat.le_of_eq g101.symm))
  have ne_s2_b101 : s2 ≠ b101 := Nat.ne_of_lt (Nat.lt_of_lt_of_le ES2.lt (Nat.le_of_eq g101.symm))
  have ne_b2_b101 : b2 ≠ b101 := Nat.ne_of_lt (Nat.lt_of_lt_of_le AV2.lt (Nat.le_of_eq g101.symm))
  have ne_r3_b101 : r3 ≠ b101 := Nat.ne_of_lt (Nat.lt_of_lt_of_le ER3.lt (Nat.le_of_eq g101.symm))
  have ne_s3_b101 : s3 ≠ b101 := Nat.ne_of_lt (Nat.lt_of_lt_of_le ES3.lt (Nat.le_of_eq g101.symm))
  have ne_b3_b101 : b3 ≠ b101 := Nat.ne_of_lt (Nat.lt_of_lt_of_le AV3.lt (Nat.le_of_eq g101.symm))
  have V101 : Arv Z h101 b101 k101 (.object "com/example/palamedes/palamedes/req/Relation") (4 : Int32) [.null, .null, .null, .null] .null := (Arv.new A101 (by decide)).pad (pad_rep [] .null 4)
  refine OGo.st st101 ?_
  show OGo p.tables e below _ (T101.setTop (mkF m 4 #[.val (.int p0), .unset, .unset, .unset, .unset, .unset, .unset, .unset] [(.ref b101)]))
  refine OGo.st (fun t k => XS.dup X101.here hx rfl (hb hby at_4) rfl rfl k) ?_
  show OGo p.tables e below _ (T101.setTop (mkF m 5 #[.val (.int p0), .unset, .unset, .unset, .unset, .unset, .unset, .unset] [(.ref b101), (.ref b101)]))
  refine OGo.st (fun t k => XS.iconst X101.here hx rfl (hb hby at_5) k) ?_
  show OGo p.tables e below _ (T101.setTop (mkF m 6 #[.val (.int p0), .unset, .unset, .unset, .unset, .unset, .unset, .unset] [(.int (0 : Int32)), (.ref b101), (.ref b101)]))
  have G102 : Sta Z h101 "com/example/palamedes/palamedes/req/Relation" "LESS" "Lcom/example/palamedes/palamedes/req/Relation;" (.ref r0) := (Sta.ext E101 S0)
  obtain ⟨T103, X103, e103, st103⟩ := getS2 X101 hx hZ hown (host := "") (Or.inl (hw _ (List.mem_of_getElem? (i := 2) rfl))) Via.refl e101 G102 (g := (mkF m 6 #[.val (.int p0), .unset, .unset, .unset, .unset, .unset, .unset, .unset] [(.int (0 : Int32)), (.ref b101), (.ref b101)])) rfl (hb hby at_6)
  refine OGo.st st103 ?_
  show OGo p.tables e below _ (T103.setTop (mkF m 9 #[.val (.int p0), .unset, .unset, .unset, .unset, .unset, .unset, .unset] [(.ref r0), (.int (0 : Int32)), (.ref b101), (.ref b101)]))
  obtain ⟨cl104, Ar104, qc104, Sz104, Nz104, Hs104, Gs104⟩ := id V101
  have hin104 : ¬ ((0 : Int32) < 0 ∨ cl104.slots.size ≤ ((0 : Int32)).toNatClampNeg) := inb_of Sz104 ⟨by decide, by decide⟩
  have G105 : Exa Z h101 r0 "com/example/palamedes/palamedes/req/Relation" := (Exa.ext E101 ER0)
  obtain ⟨T106, h106, X106, e106, W106, st106⟩ := stR X103 hx hZ e103 Ar104 (j := (0 : Int32)) hin104 rfl (Sto.ofV Ar104 qc104 O101 (Ins.self G105)) (g := (mkF m 9 #[.val (.int p0), .unset, .unset, .unset, .unset, .unset, .unset, .unset] [(.ref r0), (.int (0 : Int32)), (.ref b101), (.ref b101)])) rfl rfl (hb hby at_9)
  refine OGo.st st106 ?_
  have N106 := Fr.snoc X106 N0 ge_b101
  have V106 : Arv Z h106 b101 k101 (.object "com/example/palamedes/palamedes/req/Relation") (4 : Int32) [(.ref r0), .null, .null, .null] .null := Arv.set Ar104 qc104 Sz104 Nz104 Hs104 Gs104 rfl W106 0 rfl (Nat.le_of_ble_eq_true rfl)
  show OGo p.tables e below _ (T106.setTop (mkF m 10 #[.val (.int p0), .unset, .unset, .unset, .unset, .unset, .unset, .unset] [(.ref b101)]))
  refine OGo.st (fun t k => XS.dup X106.here hx rfl (hb hby at_10) rfl rfl k) ?_
  show OGo p.tables e below _ (T106.setTop (mkF m 11 #[.val (.int p0), .unset, .unset, .unset, .unset, .unset, .unset, .unset] [(.ref b101), (.ref b101)]))
  refine OGo.st (fun t k => XS.iconst X106.here hx rfl (hb hby at_11) k) ?_
  show OGo p.tables e below _ (T106.setTop (mkF m 12 #[.val (.int p0), .unset, .unset, .unset, .unset, .unset, .unset, .unset] [(.int (1 : Int32)), (.ref b101), (.ref b101)]))
  have G107 : Sta Z h106 "com/example/palamedes/palamedes/req/Relation" "LESS_OR_EQUAL" "Lcom/example/palamedes/palamedes/req/Relation;" (.ref r1) := (Sta.wr W106 (Sta.ext E101 S1))
  obtain ⟨T108, X108, e108, st108⟩ := getS2 X106 hx hZ hown (host := "") (Or.inl (hw _ (List.mem_of_getElem? (i := 6) rfl))) Via.refl e106 G107 (g := (mkF m 12 #[.val (.int p0), .unset, .unset, .unset, .unset, .unset, .unset, .unset] [(.int (1 : Int32)), (.ref b101), (.ref b101)])) rfl (hb hby at_12)
  refine OGo.st st108 ?_
  show OGo p.tables e below _ (T108.setTop (mkF m 15 #[.val (.int p0), .unset, .unset, .unset, .unset, .unset, .unset, .unset] [(.ref r1), (.int (1 : Int32)), (.ref b101), (.ref b101)]))
  obtain ⟨cl109, Ar109, qc109, Sz109, Nz109, Hs109, Gs109⟩ := id V106
  have hin109 : ¬ ((1 : Int32) < 0 ∨ cl109.slots.size ≤ ((1 : Int32)).toNatClampNeg) := inb_of Sz109 ⟨by decide, by decide⟩
  have G110 : Exa Z h106 r1 "com/example/palamedes/palamedes/req/Relation" := (Exa.wr W106 (Exa.ext E101 ER1))
  obtain ⟨T111, h111, X111, e111, W111, st111⟩ := stR X108 hx hZ e108 Ar109 (j := (1 : Int32)) hin109 rfl (Sto.ofV Ar109 qc109 O101 (Ins.self G110)) (g := (mkF m 15 #[.val (.int p0), .unset, .unset, .unset, .unset, .unset, .unset, .unset] [(.ref r1), (.int (1 : Int32)), (.ref b101), (.ref b101)])) rfl rfl (hb hby at_15)
  refine OGo.st st111 ?_
  have N111 := Fr.snoc X111 N106 ge_b101
  have V111 : Arv Z h111 b101 k101 (.object "com/example/palamedes/palamedes/req/Relation") (4 : Int32) [(.ref r0), (.ref r1), .null, .null] .null := Arv.set Ar109 qc109 Sz109 Nz109 Hs109 Gs109 rfl W111 1 rfl (Nat.le_of_ble_eq_true rfl)
  show OGo p.tables e below _ (T111.setTop (mkF m 16 #[.val (.int p0), .unset, .unset, .unset, .unset, .unset, .unset, .unset] [(.ref b101)]))
  refine OGo.st (fun t k => XS.dup X111.here hx rfl (hb hby at_16) rfl rfl k) ?_
  show OGo p.tables e below _ (T111.setTop (mkF m 17 #[.val (.int p0), .unset, .unset, .unset, .unset, .unset, .unset, .unset] [(.ref b101), (.ref b101)]))
  refine OGo.st (fun t k => XS.iconst X111.here hx rfl (hb hby at_17) k) ?_
  show OGo p.tables e below _ (T111.setTop (mkF m 18 #[.val (.int p0), .unset, .unset, .unset, .unset, .unset, .unset, .unset] [(.int (2 : Int32)), (.ref b101), (.ref b101)]))
  have G112 : Sta Z h111 "com/example/palamedes/palamedes/req/Relation" "GREATER_OR_EQUAL" "Lcom/example/palamedes/palamedes/req/Relation;" (.ref r2) := (Sta.wr W111 (Sta.wr W106 (Sta.ext E101 S2)))
  obtain ⟨T113, X113, e113, st113⟩ := getS2 X111 hx hZ hown (host := "") (Or.inl (hw _ (List.mem_of_getElem? (i := 8) rfl))) Via.refl e111 G112 (g := (mkF m 18 #[.val (.int p0), .unset, .unset, .unset, .unset, .unset, .unset, .unset] [(.int (2 : Int32)), (.ref b101), (.ref b101)])) rfl (hb hby at_18)
  refine OGo.st st113 ?_
  show OGo p.tables e below _ (T113.setTop (mkF m 21 #[.val (.int p0), .unset, .unset, .unset, .unset, .unset, .unset, .unset] [(.ref r2), (.int (2 : Int32)), (.ref b101), (.ref b101)]))
  obtain ⟨cl114, Ar114, qc114, Sz114, Nz114, Hs114, Gs114⟩ := id V111
  have hin114 : ¬ ((2 : Int32) < 0 ∨ cl114.slots.size ≤ ((2 : Int32)).toNatClampNeg) := inb_of Sz114 ⟨by decide, by decide⟩
  have G115 : Exa Z h111 r2 "com/example/palamedes/palamedes/req/Relation" := (Exa.wr W111 (Exa.wr W106 (Exa.ext E101 ER2)))
  obtain ⟨T116, h116, X116, e116, W116, st116⟩ := stR X113 hx hZ e113 Ar114 (j := (2 : Int32)) hin114 rfl (Sto.ofV Ar114 qc114 O101 (Ins.self G115)) (g := (mkF m 21 #[.val (.int p0), .unset, .unset, .unset, .unset, .unset, .unset, .unset] [(.ref r2), (.int (2 : Int32)), (.ref b101), (.ref b101)])) rfl rfl (hb hby at_21)
  refine OGo.st st116 ?_
  have N116 := Fr.snoc X116 N111 ge_b101
  have V116 : Arv Z h116 b101 k101 (.object "com/example/palamedes/palamedes/req/Relation") (4 : Int32) [(.ref r0), (.ref r1), (.ref r2), .null] .null := Arv.set Ar114 qc114 Sz114 Nz114 Hs114 Gs114 rfl W116 2 rfl (Nat.le_of_ble_eq_true rfl)
  show OGo p.tables e below _ (T116.setTop (mkF m 22 #[.val (.int p0), .unset, .unset, .unset, .unset, .unset, .unset, .unset] [(.ref b101)]))
  refine OGo.st (fun t k => XS.dup X116.here hx rfl (hb hby at_22) rfl rfl k) ?_
  show OGo p.tables e below _ (T116.setTop (mkF m 23 #[.val (.int p0), .unset, .unset, .unset, .unset, .unset, .unset, .unset] [(.ref b101), (.ref b101)]))
  refine OGo.st (fun t k => XS.iconst X116.here hx rfl (hb hby at_23) k) ?_
  show OGo p.tables e below _ (T116.setTop (mkF m 24 #[.val (.int p0), .unset, .unset, .unset, .unset, .unset, .unset, .unset] [(.int (3 : Int32)), (.ref b101), (.ref b101)]))
  have G117 : Sta Z h116 "com/example/palamedes/palamedes/req/Relation" "GREATER" "Lcom/example/palamedes/palamedes/req/Relation;" (.ref r3) := (Sta.wr W116 (Sta.wr W111 (Sta.wr W106 (Sta.ext E101 S3))))
  obtain ⟨T118, X118, e118, st118⟩ := getS2 X116 hx hZ hown (host := "") (Or.inl (hw _ (List.mem_of_getElem? (i := 10) rfl))) Via.refl e116 G117 (g := (mkF m 24 #[.val (.int p0), .unset, .unset, .unset, .unset, .unset, .unset, .unset] [(.int (3 : Int32)), (.ref b101), (.ref b101)])) rfl (hb hby at_24)
  refine OGo.st st118 ?_
  show OGo p.tables e below _ (T118.setTop (mkF m 27 #[.val (.int p0), .unset, .unset, .unset, .unset, .unset, .unset, .unset] [(.ref r3), (.int (3 : Int32)), (.ref b101), (.ref b101)]))
  obtain ⟨cl119, Ar119, qc119, Sz119, Nz119, Hs119, Gs119⟩ := id V116
  have hin119 : ¬ ((3 : Int32) < 0 ∨ cl119.slots.size ≤ ((3 : Int32)).toNatClampNeg) := inb_of Sz119 ⟨by decide, by decide⟩
  have G120 : Exa Z h116 r3 "com/example/palamedes/palamedes/req/Relation" := (Exa.wr W116 (Exa.wr W111 (Exa.wr W106 (Exa.ext E101 ER3))))
  obtain ⟨T121, h121, X121, e121, W121, st121⟩ := stR X118 hx hZ e118 Ar119 (j := (3 : Int32)) hin119 rfl (Sto.ofV Ar119 qc119 O101 (Ins.self G120)) (g := (mkF m 27 #[.val (.int p0), .unset, .unset, .unset, .unset, .unset, .unset, .unset] [(.ref r3), (.int (3 : Int32)), (.ref b101), (.ref b101)])) rfl rfl (hb hby at_27)
  refine OGo.st st121 ?_
  have N121 := Fr.snoc X121 N116 ge_b101
  have V121 : Arv Z h121 b101 k101 (.object "com/example/palamedes/palamedes/req/Relation") (4 : Int32) [(.ref r0), (.ref r1), (.ref r2), (.ref r3)] .null := Arv.set Ar119 qc119 Sz119 Nz119 Hs119 Gs119 rfl W121 3 rfl (Nat.le_of_ble_eq_true rfl)
  show OGo p.tables e below _ (T121.setTop (mkF m 28 #[.val (.int p0), .unset, .unset, .unset, .unset, .unset, .unset, .unset] [(.ref b101)]))
  refine OGo.st (fun t k => XS.astoreN X121.here hx rfl (hb hby at_28) rfl rfl (l' := #[.val (.int p0), .val (.ref b101), .unset, .unset, .unset, .unset, .unset, .unset]) rfl k) ?_
  show OGo p.tables e below _ (T121.setTop (mkF m 29 #[.val (.int p0), .val (.ref b101), .unset, .unset, .unset, .unset, .unset, .unset] []))
  refine OGo.st (fun t k => XS.iloadN X121.here hx rfl (hb hby at_29) rfl k) ?_
  show OGo p.tables e below _ (T121.setTop (mkF m 30 #[.val (.int p0), .val (.ref b101), .unset, .unset, .unset, .unset, .unset, .unset] [(.int p0)]))
  refine OGo.st (fun t k => XS.iconst X121.here hx rfl (hb hby at_30) k) ?_
  show OGo p.tables e below _ (T121.setTop (mkF m 31 #[.val (.int p0), .val (.ref b101), .unset, .unset, .unset, .unset, .unset, .unset] [(.int (3 : Int32)), (.int p0)]))
  refine OGo.st (fun t k => XS.iand X121.here hx rfl (hb hby at_31) rfl k) ?_
  show OGo p.tables e below _ (T121.setTop (mkF m 32 #[.val (.int p0), .val (.ref b101), .unset, .unset, .unset, .unset, .unset, .unset] [(.int (p0 &&& (3 : Int32)))]))
  refine OGo.st (fun t k => XS.istoreN X121.here hx rfl (hb hby at_32) rfl (l' := #[.val (.int p0), .val (.ref b101), .val (.int (p0 &&& (3 : Int32))), .unset, .unset, .unset, .unset, .unset]) rfl k) ?_
  show OGo p.tables e below _ (T121.setTop (mkF m 33 #[.val (.int p0), .val (.ref b101), .val (.int (p0 &&& (3 : Int32))), .unset, .unset, .unset, .unset, .unset] []))
  rcases own_and3 p0 with hn | hn | hn | hn
  ·
    rw [hn]
    show OGo p.tables e below _ (T121.setTop (mkF m 33 #[.val (.int p0), .val (.ref b101), .val (.int (0 : Int32)), .unset, .unset, .unset, .unset, .unset] []))
    refine OGo.st (fun t k => XS.aloadN X121.here hx rfl (hb hby at_33) rfl rfl k) ?_
    show OGo p.tables e below _ (T121.setTop (mkF m 34 #[.val (.int p0), .val (.ref b101), .val (.int (0 : Int32)), .unset, .unset, .unset, .unset, .unset] [(.ref b101)]))
    refine OGo.st (fun t k => XS.iloadN X121.here hx rfl (hb hby at_34) rfl k) ?_
    show OGo p.tables e below _ (T121.setTop (mkF m 35 #[.val (.int p0), .val (.ref b101), .val (.int (0 : Int32)), .unset, .unset, .unset, .unset, .unset] [(.int (0 : Int32)), (.ref b101)]))
    obtain ⟨cl122, Ar122, qc122, Sz122, Nz122, Hs122, Gs122⟩ := id V121
    have hin122 : ¬ ((0 : Int32) < 0 ∨ cl122.slots.size ≤ ((0 : Int32)).toNatClampNeg) := inb_of Sz122 ⟨by decide, by decide⟩
    have hat122 : cl122.slots[((0 : Int32)).toNatClampNeg]? = some (.ref r0) := Has.at Hs122 hin122 rfl
    refine OGo.st (fun t k => X121.aaload hx (j := (0 : Int32)) (v := (.ref r0)) (by rw [e121]; exact Ar122.1) (State.isArrayOf_alike hZ.alike Ar122.2.1) rfl Ar122.2.2 hin122 hat122 (g := (mkF m 35 #[.val (.int p0), .val (.ref b101), .val (.int (0 : Int32)), .unset, .unset, .unset, .unset, .unset] [(.int (0 : Int32)), (.ref b101)])) rfl rfl (hb hby at_35) _ k) ?_
    show OGo p.tables e below _ (T121.setTop (mkF m 36 #[.val (.int p0), .val (.ref b101), .val (.int (0 : Int32)), .unset, .unset, .unset, .unset, .unset] [(.ref r0)]))
    refine OGo.st (fun t k => XS.astoreN X121.here hx rfl (hb hby at_36) rfl rfl (l' := #[.val (.int p0), .val (.ref b101), .val (.int (0 : Int32)), .val (.ref r0), .unset, .unset, .unset, .unset]) rfl k) ?_
    show OGo p.tables e below _ (T121.setTop (mkF m 37 #[.val (.int p0), .val (.ref b101), .val (.int (0 : Int32)), .val (.ref r0), .unset, .unset, .unset, .unset] []))
    refine OGo.st (fun t k => XS.aloadN X121.here hx rfl (hb hby at_37) rfl rfl k) ?_
    show OGo p.tables e below _ (T121.setTop (mkF m 38 #[.val (.int p0), .val (.ref b101), .val (.int (0 : Int32)), .val (.ref r0), .unset, .unset, .unset, .unset] [(.ref r0)]))
    have G123 : Sta Z h121 "com/example/palamedes/palamedes/req/Relation" "LESS" "Lcom/example/palamedes/palamedes/req/Relation;" (.ref r0) := (Sta.wr W121 (Sta.wr W116 (Sta.wr W111 (Sta.wr W106 G102))))
    have G125 : Exa Z h121 r0 "com/example/palamedes/palamedes/req/Relation" := (Exa.wr W121 (Exa.wr W116 (Exa.wr W111 (Exa.wr W106 G105))))
    obtain ⟨cq124, kq124, q124a, q124b, q124c⟩ := isOf hZ e121 G125
    obtain ⟨_, _, ⟨T124, L124, kk124, nn124⟩, -, X124, ⟨Lc124, hQ124, l124, y124, z124⟩, st124⟩ := X121.virtualBack hx (y := (⟨"com/example/palamedes/palamedes/req/Relation", "upper", "()Z"⟩ : MethodName)) (z := (⟨"com/example/palamedes/palamedes/req/Relation", "upper", "()Z"⟩ : MethodName)) hown (mvT hZ (hw _ (List.mem_of_getElem? (i := 12) rfl))) (mvT hZ (hw _ (List.mem_of_getElem? (i := 13) rfl))) (notFace_of_selects (args := #[]) (mvT hZ (hw _ (List.mem_of_getElem? (i := 15) rfl)))) (mvT hZ (hw _ (List.mem_of_getElem? (i := 15) rfl))) (mvT hZ (hw _ (List.mem_of_getElem? (i := 14) rfl))) (by decide) (backOf (W := 0) (rm21 l Z ar hw [] r0 h121 n0 (Nat.le_trans (Nat.le_trans (Nat.le_trans (Nat.le_trans (Nat.le_trans Z0 E101.1) (Keep.of_wr W106).1) (Keep.of_wr W111).1) (Keep.of_wr W116).1) (Keep.of_wr W121).1) G123) hZ (hw _ (List.mem_of_getElem? (i := 16) rfl)) (hw _ (List.mem_of_getElem? (i := 3) rfl)) (by decide) (by decide)) q124a q124c (g := (mkF m 38 #[.val (.int p0), .val (.ref b101), .val (.int (0 : Int32)), .val (.ref r0), .unset, .unset, .unset, .unset] [(.ref r0)])) rfl (by rw [hml]; rfl) (Steps.refl _) (argsL := []) (rest := []) (lenOf pd_3 rfl) rfl (by show 2 * 0 + _ ≤ _; exact Nat.le_of_eq rfl) (hb hby at_38) (fun _ _ => ⟨rfl, e121, (by decide : 1 + 0 ≤ _), (by decide : 4 + 0 ≤ _)⟩)
    dsimp only [Pt.U, Pt.locs, Pt.cells, Pt.slots] at X124 l124 y124 z124 st124 hQ124
    subst l124 y124 z124
    obtain ⟨rfl, Nq124, hh124⟩ := hQ124
    have N124 := Fr.app N121 Nq124
    refine OGo.st (fun t k => st124.trans k) ?_
    have e124 : T124.heap = h121 := hh124
    show OGo p.tables e below _ (T124.setTop (mkF m 41 #[.val (.int p0), .val (.ref b101), .val (.int (0 : Int32)), .val (.ref r0), .unset, .unset, .unset, .unset] [(.int (1 : Int32))]))
    refine OGo.st (fun t k => XS.istore X124.here hx rfl (hb hby at_41) rfl (l' := #[.val (.int p0), .val (.ref b101), .val (.int (0 : Int32)), .val (.ref r0), .val (.int (1 : Int32)), .unset, .unset, .unset]) rfl k) ?_
    show OGo p.tables e below _ (T124.setTop (mkF m 43 #[.val (.int p0), .val (.ref b101), .val (.int (0 : Int32)), .val (.ref r0), .val (.int (1 : Int32)), .unset, .unset, .unset] []))
    refine OGo.st (fun t k => XS.aloadN X124.here hx rfl (hb hby at_43) rfl rfl k) ?_
    show OGo p.tables e below _ (T124.setTop (mkF m 44 #[.val (.int p0), .val (.ref b101), .val (.int (0 : Int32)), .val (.ref r0), .val (.int (1 : Int32)), .unset, .unset, .unset] [(.ref r0)]))
    have G126 : Fld Z h121 r0 "com/example/palamedes/palamedes/req/Relation" "symbol" "Ljava/lang/String;" (.ref s0) := (Fld.other W121 (Fld.other W116 (Fld.other W111 (Fld.other W106 (Fld.ext E101 FS0) (Or.inl ne_r0_b101)) (Or.inl ne_r0_b101)) (Or.inl ne_r0_b101)) (Or.inl ne_r0_b101))
    obtain ⟨cq127, kq127, q127a, q127b, q127c⟩ := isOf hZ e124 G125
    obtain ⟨_, _, ⟨T127, L127, kk127, nn127⟩, -, X127, ⟨Lc127, hQ127, l127, y127, z127⟩, st127⟩ := X124.virtualBack hx (y := (⟨"com/example/palamedes/palamedes/req/Relation", "symbol", "()Ljava/lang/String;"⟩ : MethodName)) (z := (⟨"com/example/palamedes/palamedes/req/Relation", "symbol", "()Ljava/lang/String;"⟩ : MethodName)) hown (mvT hZ (hw _ (List.mem_of_getElem? (i := 18) rfl))) (mvT hZ (hw _ (List.mem_of_getElem? (i := 19) rfl))) (notFace_of_selects (args := #[]) (mvT hZ (hw _ (List.mem_of_getElem? (i := 21) rfl)))) (mvT hZ (hw _ (List.mem_of_getElem? (i := 21) rfl))) (mvT hZ (hw _ (List.mem_of_getElem? (i := 20) rfl))) (by decide) (backOf (W := 0) (rm20 l Z ar hw [] r0 s0 h121 n0 (Nat.le_trans (Nat.le_trans (Nat.le_trans (Nat.le_trans (Nat.le_trans Z0 E101.1) (Keep.of_wr W106).1) (Keep.of_wr W111).1) (Keep.of_wr W116).1) (Keep.of_wr W121).1) G126) hZ (hw _ (List.mem_of_getElem? (i := 22) rfl)) (hw _ (List.mem_of_getElem? (i := 3) rfl)) (by decide) (by decide)) q127a q127c (g := (mkF m 44 #[.val (.int p0), .val (.ref b101), .val (.int (0 : Int32)), .val (.ref r0), .val (.int (1 : Int32)), .unset, .unset, .unset] [(.ref r0)])) rfl (by rw [hml]; rfl) (Steps.refl _) (argsL := []) (rest := []) (lenOf pd_5 rfl) rfl (by show 2 * 0 + _ ≤ _; exact Nat.le_of_eq rfl) (hb hby at_44) (fun _ _ => ⟨rfl, e124, (by decide : 1 + 0 ≤ _), (by decide : 4 + 0 ≤ _)⟩)
    dsimp only [Pt.U, Pt.locs, Pt.cells, Pt.slots] at X127 l127 y127 z127 st127 hQ127
    subst l127 y127 z127
    obtain ⟨rfl, Nq127, hh127⟩ := hQ127
    have N127 := Fr.app N124 Nq127
    refine OGo.st (fun t k => st127.trans k) ?_
    have e127 : T127.heap = h121 := hh127
    show OGo p.tables e below _ (T127.setTop (mkF m 47 #[.val (.int p0), .val (.ref b101), .val (.int (0 : Int32)), .val (.ref r0), .val (.int (1 : Int32)), .unset, .unset, .unset] [(.ref s0)]))
    refine OGo.st (fun t k => XS.astore X127.here hx rfl (hb hby at_47) rfl rfl (l' := #[.val (.int p0), .val (.ref b101), .val (.int (0 : Int32)), .val (.ref r0), .val (.int (1 : Int32)), .val (.ref s0), .unset, .unset]) rfl k) ?_
    show OGo p.tables e below _ (T127.setTop (mkF m 49 #[.val (.int p0), .val (.ref b101), .val (.int (0 : Int32)), .val (.ref r0), .val (.int (1 : Int32)), .val (.ref s0), .unset, .unset] []))
    refine OGo.st (fun t k => XS.aload X127.here hx rfl (hb hby at_49) rfl rfl k) ?_
    show OGo p.tables e below _ (T127.setTop (mkF m 51 #[.val (.int p0), .val (.ref b101), .val (.int (0 : Int32)), .val (.ref r0), .val (.int (1 : Int32)), .val (.ref s0), .unset, .unset] [(.ref s0)]))
    have G128 : Fld Z h121 s0 "java/lang/String" "value" "[B" (.ref b0) := (Fld.other W121 (Fld.other W116 (Fld.other W111 (Fld.other W106 (Fld.ext E101 FV0) (Or.inl ne_s0_b101)) (Or.inl ne_s0_b101)) (Or.inl ne_s0_b101)) (Or.inl ne_s0_b101))
    have G129 : Fld Z h121 s0 "java/lang/String" "coder" "B" (.int (0 : Int32)) := (Fld.other W121 (Fld.other W116 (Fld.other W111 (Fld.other W106 (Fld.ext E101 FC0) (Or.inl ne_s0_b101)) (Or.inl ne_s0_b101)) (Or.inl ne_s0_b101)) (Or.inl ne_s0_b101))
    have G130 : Arv Z h121 b0 k0 .byte (1 : Int32) [(.int (60 : Int32))] (.int (0 : Int32)) := (((((AV0.ext E101).other W106 ne_b0_b101).other W111 ne_b0_b101).other W116 ne_b0_b101).other W121 ne_b0_b101)
    have G131 : Exa Z h121 s0 "java/lang/String" := (Exa.wr W121 (Exa.wr W116 (Exa.wr W111 (Exa.wr W106 (Exa.ext E101 ES0)))))
    have G132 : Sta Z h121 "java/lang/String" "COMPACT_STRINGS" "Z" (.int cs) := (Sta.wr W121 (Sta.wr W116 (Sta.wr W111 (Sta.wr W106 (Sta.ext E101 S_cs)))))
    obtain ⟨cq133, kq133, q133a, q133b, q133c⟩ := isOf hZ e127 G131
    obtain ⟨_, _, ⟨T133, L133, kk133, nn133⟩, -, X133, ⟨Lc133, hQ133, l133, y133, z133⟩, st133⟩ := X127.virtualBack hx (y := (⟨"java/lang/String", "length", "()I"⟩ : MethodName)) (z := (⟨"java/lang/String", "length", "()I"⟩ : MethodName)) hown (mvT hZ (hw _ (List.mem_of_getElem? (i := 25) rfl))) (mvT hZ (hw _ (List.mem_of_getElem? (i := 26) rfl))) (notFace_of_selects (args := #[]) (mvT hZ (hw _ (List.mem_of_getElem? (i := 28) rfl)))) (mvT hZ (hw _ (List.mem_of_getElem? (i := 28) rfl))) (mvT hZ (hw _ (List.mem_of_getElem? (i := 27) rfl))) (by decide) (backOf (W := 0) (rm2 l Z ar hw [] s0 b0 k0 cs h121 n0 (Nat.le_trans (Nat.le_trans (Nat.le_trans (Nat.le_trans (Nat.le_trans Z0 E101.1) (Keep.of_wr W106).1) (Keep.of_wr W111).1) (Keep.of_wr W116).1) (Keep.of_wr W121).1) G128 G129 G130 G131 G132 hcs) hZ (hw _ (List.mem_of_getElem? (i := 30) rfl)) (hw _ (List.mem_of_getElem? (i := 29) rfl)) (by decide) (by decide)) q133a q133c (g := (mkF m 51 #[.val (.int p0), .val (.ref b101), .val (.int (0 : Int32)), .val (.ref r0), .val (.int (1 : Int32)), .val (.ref s0), .unset, .unset] [(.ref s0)])) rfl (by rw [hml]; rfl) (Steps.refl _) (argsL := []) (rest := []) (lenOf pd_6 rfl) rfl (by show 2 * 0 + _ ≤ _; exact Nat.le_of_eq rfl) (hb hby at_51) (fun _ _ => ⟨rfl, e127, (by decide : 1 + 0 ≤ _), (by decide : 4 + 0 ≤ _)⟩)
    dsimp only [Pt.U, Pt.locs, Pt.cells, Pt.slots] at X133 l133 y133 z133 st133 hQ133
    subst l133 y133 z133
    obtain ⟨rfl, Nq133, hh133⟩ := hQ133
    have N133 := Fr.app N127 Nq133
    refine OGo.st (fun t k => st133.trans k) ?_
    have e133 : T133.heap = h121 := hh133
    show OGo p.tables e below _ (T133.setTop (mkF m 54 #[.val (.int p0), .val (.ref b101), .val (.int (0 : Int32)), .val (.ref r0), .val (.int (1 : Int32)), .val (.ref s0), .unset, .unset] [(.int (1 : Int32))]))
    refine OGo.st (fun t k => XS.ifNo X133.here hx rfl (hb hby at_54) rfl ((if0 _ _).trans (tlt (by decide : (0 : Int32) < (1 : Int32))).2.2.2) k) ?_
    show OGo p.tables e below _ (T133.setTop (mkF m 57 #[.val (.int p0), .val (.ref b101), .val (.int (0 : Int32)), .val (.ref r0), .val (.int (1 : Int32)), .val (.ref s0), .unset, .unset] []))
    refine OGo.st (fun t k => XS.aload X133.here hx rfl (hb hby at_57) rfl rfl k) ?_
    show OGo p.tables e below _ (T133.setTop (mkF m 59 #[.val (.int p0), .val (.ref b101), .val (.int (0 : Int32)), .val (.ref r0), .val (.int (1 : Int32)), .val (.ref s0), .unset, .unset] [(.ref s0)]))
    refine OGo.st (fun t k => XS.iconst X133.here hx rfl (hb hby at_59) k) ?_
    show OGo p.tables e below _ (T133.setTop (mkF m 60 #[.val (.int p0), .val (.ref b101), .val (.int (0 : Int32)), .val (.ref r0), .val (.int (1 : Int32)), .val (.ref s0), .unset, .unset] [(.int (0 : Int32)), (.ref s0)]))
    have G134 : Sta Z h121 "jdk/internal/util/Preconditions" "SIOOBE_FORMATTER" "Ljava/util/function/BiFunction;" fv := (Sta.wr W121 (Sta.wr W116 (Sta.wr W111 (Sta.wr W106 (Sta.ext E101 S_fv)))))
    obtain ⟨cq135, kq135, q135a, q135b, q135c⟩ := isOf hZ e133 G131
    obtain ⟨_, _, ⟨T135, L135, kk135, nn135⟩, -, X135, ⟨Lc135, hQ135, l135, y135, z135⟩, st135⟩ := X133.virtualBack hx (y := (⟨"java/lang/String", "charAt", "(I)C"⟩ : MethodName)) (z := (⟨"java/lang/String", "charAt", "(I)C"⟩ : MethodName)) hown (mvT hZ (hw _ (List.mem_of_getElem? (i := 41) rfl))) (mvT hZ (hw _ (List.mem_of_getElem? (i := 42) rfl))) (notFace_of_selects (args := #[]) (mvT hZ (hw _ (List.mem_of_getElem? (i := 44) rfl)))) (mvT hZ (hw _ (List.mem_of_getElem? (i := 44) rfl))) (mvT hZ (hw _ (List.mem_of_getElem? (i := 43) rfl))) (by decide) (backOf (W := 0) (rm7 l Z ar hw [] s0 b0 k0 cs fv h121 n0 (Nat.le_trans (Nat.le_trans (Nat.le_trans (Nat.le_trans (Nat.le_trans Z0 E101.1) (Keep.of_wr W106).1) (Keep.of_wr W111).1) (Keep.of_wr W116).1) (Keep.of_wr W121).1) G128 G129 G130 G131 G132 hcs G134 hfv) hZ (hw _ (List.mem_of_getElem? (i := 45) rfl)) (hw _ (List.mem_of_getElem? (i := 29) rfl)) (by decide) (by decide)) q135a q135c (g := (mkF m 60 #[.val (.int p0), .val (.ref b101), .val (.int (0 : Int32)), .val (.ref r0), .val (.int (1 : Int32)), .val (.ref s0), .unset, .unset] [(.int (0 : Int32)), (.ref s0)])) rfl (by rw [hml]; rfl) (Steps.refl _) (argsL := [(.int (0 : Int32))]) (rest := []) (lenOf pd_7 rfl) rfl (by show 2 * 0 + _ ≤ _; exact Nat.le_of_eq rfl) (hb hby at_60) (fun _ _ => ⟨rfl, e133, (by decide : 1 + 0 ≤ _), (by decide : 4 + 0 ≤ _)⟩)
    dsimp only [Pt.U, Pt.locs, Pt.cells, Pt.slots] at X135 l135 y135 z135 st135 hQ135
    subst l135 y135 z135
    obtain ⟨rfl, Nq135, hh135⟩ := hQ135
    have N135 := Fr.app N133 Nq135
    refine OGo.st (fun t k => st135.trans k) ?_
    have e135 : T135.heap = h121 := hh135
    show OGo p.tables e below _ (T135.setTop (mkF m 63 #[.val (.int p0), .val (.ref b101), .val (.int (0 : Int32)), .val (.ref r0), .val (.int (1 : Int32)), .val (.ref s0), .unset, .unset] [(.int (60 : Int32))]))
    refine OGo.st (fun t k => XS.bipush X135.here hx rfl (hb hby at_63) k) ?_
    show OGo p.tables e below _ (T135.setTop (mkF m 65 #[.val (.int p0), .val (.ref b101), .val (.int (0 : Int32)), .val (.ref r0), .val (.int (1 : Int32)), .val (.ref s0), .unset, .unset] [(.int (60 : Int32)), (.int (60 : Int32))]))
    refine OGo.st (fun t k => XS.icmpNo X135.here hx rfl (hb hby at_65) rfl (teq (by decide : (60 : Int32) = (60 : Int32))).2 k) ?_
    show OGo p.tables e below _ (T135.setTop (mkF m 68 #[.val (.int p0), .val (.ref b101), .val (.int (0 : Int32)), .val (.ref r0), .val (.int (1 : Int32)), .val (.ref s0), .unset, .unset] []))
    refine OGo.st (fun t k => XS.iconst X135.here hx rfl (hb hby at_68) k) ?_
    show OGo p.tables e below _ (T135.setTop (mkF m 69 #[.val (.int p0), .val (.ref b101), .val (.int (0 : Int32)), .val (.ref r0), .val (.int (1 : Int32)), .val (.ref s0), .unset, .unset] [(.int (1 : Int32))]))
    refine OGo.st (fun t k => XS.goto X135.here hx rfl (pc0 := 69) (pc' := 73) rfl (hb hby at_69) (by decide) (by decide) k) ?_
    show OGo p.tables e below _ (T135.setTop (mkF m 73 #[.val (.int p0), .val (.ref b101), .val (.int (0 : Int32)), .val (.ref r0), .val (.int (1 : Int32)), .val (.ref s0), .unset, .unset] [(.int (1 : Int32))]))
    refine OGo.st (fun t k => XS.istore X135.here hx rfl (hb hby at_73) rfl (l' := #[.val (.int p0), .val (.ref b101), .val (.int (0 : Int32)), .val (.ref r0), .val (.int (1 : Int32)), .val (.ref s0), .val (.int (1 : Int32)), .unset]) rfl k) ?_
    show OGo p.tables e below _ (T135.setTop (mkF m 75 #[.val (.int p0), .val (.ref b101), .val (.int (0 : Int32)), .val (.ref r0), .val (.int (1 : Int32)), .val (.ref s0), .val (.int (1 : Int32)), .unset] []))
    refine OGo.st (fun t k => XS.iloadN X135.here hx rfl (hb hby at_75) rfl k) ?_
    show OGo p.tables e below _ (T135.setTop (mkF m 76 #[.val (.int p0), .val (.ref b101), .val (.int (0 : Int32)), .val (.ref r0), .val (.int (1 : Int32)), .val (.ref s0), .val (.int (1 : Int32)), .unset] [(.int (0 : Int32))]))
    refine OGo.st (fun t k => XS.iconst X135.here hx rfl (hb hby at_76) k) ?_
    show OGo p.tables e below _ (T135.setTop (mkF m 77 #[.val (.int p0), .val (.ref b101), .val (.int (0 : Int32)), .val (.ref r0), .val (.int (1 : Int32)), .val (.ref s0), .val (.int (1 : Int32)), .unset] [(.int (2 : Int32)), (.int (0 : Int32))]))
    refine OGo.st (fun t k => XS.icmpNo X135.here hx rfl (hb hby at_77) rfl (tlt (by decide : (0 : Int32) < (2 : Int32))).2.1 k) ?_
    show OGo p.tables e below _ (T135.setTop (mkF m 80 #[.val (.int p0), .val (.ref b101), .val (.int (0 : Int32)), .val (.ref r0), .val (.int (1 : Int32)), .val (.ref s0), .val (.int (1 : Int32)), .unset] []))
    refine OGo.st (fun t k => XS.iconst X135.here hx rfl (hb hby at_80) k) ?_
    show OGo p.tables e below _ (T135.setTop (mkF m 81 #[.val (.int p0), .val (.ref b101), .val (.int (0 : Int32)), .val (.ref r0), .val (.int (1 : Int32)), .val (.ref s0), .val (.int (1 : Int32)), .unset] [(.int (1 : Int32))]))
    refine OGo.st (fun t k => XS.goto X135.here hx rfl (pc0 := 81) (pc' := 85) rfl (hb hby at_81) (by decide) (by decide) k) ?_
    show OGo p.tables e below _ (T135.setTop (mkF m 85 #[.val (.int p0), .val (.ref b101), .val (.int (0 : Int32)), .val (.ref r0), .val (.int (1 : Int32)), .val (.ref s0), .val (.int (1 : Int32)), .unset] [(.int (1 : Int32))]))
    refine OGo.st (fun t k => XS.istore X135.here hx rfl (hb hby at_85) rfl (l' := #[.val (.int p0), .val (.ref b101), .val (.int (0 : Int32)), .val (.ref r0), .val (.int (1 : Int32)), .val (.ref s0), .val (.int (1 : Int32)), .val (.int (1 : Int32))]) rfl k) ?_
    show OGo p.tables e below _ (T135.setTop (mkF m 87 #[.val (.int p0), .val (.ref b101), .val (.int (0 : Int32)), .val (.ref r0), .val (.int (1 : Int32)), .val (.ref s0), .val (.int (1 : Int32)), .val (.int (1 : Int32))] []))
    refine OGo.st (fun t k => XS.iload X135.here hx rfl (hb hby at_87) rfl k) ?_
    show OGo p.tables e below _ (T135.setTop (mkF m 89 #[.val (.int p0), .val (.ref b101), .val (.int (0 : Int32)), .val (.ref r0), .val (.int (1 : Int32)), .val (.ref s0), .val (.int (1 : Int32)), .val (.int (1 : Int32))] [(.int (1 : Int32))]))
    refine OGo.st (fun t k => XS.iload X135.here hx rfl (hb hby at_89) rfl k) ?_
    show OGo p.tables e below _ (T135.setTop (mkF m 91 #[.val (.int p0), .val (.ref b101), .val (.int (0 : Int32)), .val (.ref r0), .val (.int (1 : Int32)), .val (.ref s0), .val (.int (1 : Int32)), .val (.int (1 : Int32))] [(.int (1 : Int32)), (.int (1 : Int32))]))
    refine OGo.st (fun t k => XS.icmpNo X135.here hx rfl (hb hby at_91) rfl (teq (by decide : (1 : Int32) = (1 : Int32))).2 k) ?_
    show OGo p.tables e below _ (T135.setTop (mkF m 94 #[.val (.int p0), .val (.ref b101), .val (.int (0 : Int32)), .val (.ref r0), .val (.int (1 : Int32)), .val (.ref s0), .val (.int (1 : Int32)), .val (.int (1 : Int32))] []))
    refine OGo.st (fun t k => XS.iload X135.here hx rfl (hb hby at_94) rfl k) ?_
    show OGo p.tables e below _ (T135.setTop (mkF m 96 #[.val (.int p0), .val (.ref b101), .val (.int (0 : Int32)), .val (.ref r0), .val (.int (1 : Int32)), .val (.ref s0), .val (.int (1 : Int32)), .val (.int (1 : Int32))] [(.int (1 : Int32))]))
    refine OGo.st (fun t k => XS.iload X135.here hx rfl (hb hby at_96) rfl k) ?_
    show OGo p.tables e below _ (T135.setTop (mkF m 98 #[.val (.int p0), .val (.ref b101), .val (.int (0 : Int32)), .val (.ref r0), .val (.int (1 : Int32)), .val (.ref s0), .val (.int (1 : Int32)), .val (.int (1 : Int32))] [(.int (1 : Int32)), (.int (1 : Int32))]))
    refine OGo.st (fun t k => XS.icmpNo X135.here hx rfl (hb hby at_98) rfl (teq (by decide : (1 : Int32) = (1 : Int32))).2 k) ?_
    show OGo p.tables e below _ (T135.setTop (mkF m 101 #[.val (.int p0), .val (.ref b101), .val (.int (0 : Int32)), .val (.ref r0), .val (.int (1 : Int32)), .val (.ref s0), .val (.int (1 : Int32)), .val (.int (1 : Int32))] []))
    refine OGo.st (fun t k => XS.iconst X135.here hx rfl (hb hby at_101) k) ?_
    show OGo p.tables e below _ (T135.setTop (mkF m 102 #[.val (.int p0), .val (.ref b101), .val (.int (0 : Int32)), .val (.ref r0), .val (.int (1 : Int32)), .val (.ref s0), .val (.int (1 : Int32)), .val (.int (1 : Int32))] [(.int (1 : Int32))]))
    refine OGo.st (fun t k => XS.goto X135.here hx rfl (pc0 := 102) (pc' := 106) rfl (hb hby at_102) (by decide) (by decide) k) ?_
    show OGo p.tables e below _ (T135.setTop (mkF m 106 #[.val (.int p0), .val (.ref b101), .val (.int (0 : Int32)), .val (.ref r0), .val (.int (1 : Int32)), .val (.ref s0), .val (.int (1 : Int32)), .val (.int (1 : Int32))] [(.int (1 : Int32))]))
    obtain ⟨fs, hr, hrun, hended, hW, hsame⟩ := X135.leave (v := some (.int (1 : Int32))) (fun h => by rw [Bd.returns] at h; cases h)
    refine OGo.done (retN X135 hx (t := .boolean) Bd.returns (by simp) (hb hby at_106) hr) ⟨hrun, hended, _, _, rfl, ?_, ⟨_, rfl⟩, hW, hsame.mono (by decide) (by decide)⟩
    show Q24 Z p0 r0 r1 r2 r3 s0 s1 s2 s3 b0 b1 b2 b3 k0 k1 k2 k3 cs fv h0 n0 _ T135.heap _
    rw [e135]
    exact ⟨rfl, N135⟩
  ·
    rw [hn]
    show OGo p.tables e below _ (T121.setTop (mkF m 33 #[.val (.int p0), .val (.ref b101), .val (.int (1 : Int32)), .unset, .unset, .unset, .unset, .unset] []))
    refine OGo.st (fun t k => XS.aloadN X121.here hx rfl (hb hby at_33) rfl rfl k) ?_
    show OGo p.tables e below _ (T121.setTop (mkF m 34 #[.val (.int p0), .val (.ref b101), .val (.int (1 : Int32)), .unset, .unset, .unset, .unset, .unset] [(.ref b101)]))
    refine OGo.st (fun t k => XS.iloadN X121.here hx rfl (hb hby at_34) rfl k) ?_
    show OGo p.tables e below _ (T121.setTop (mkF m 35 #[.val (.int p0), .val (.ref b101), .val (.int (1 : Int32)), .unset, .unset, .unset, .unset, .unset] [(.int (1 : Int32)), (.ref b101)]))
    obtain ⟨cl137, Ar137, qc137, Sz137, Nz137, Hs137, Gs137⟩ := id V121
    have hin137 : ¬ ((1 : Int32) < 0 ∨ cl137.slots.size ≤ ((1 : Int32)).toNatClampNeg) := inb_of Sz137 ⟨by decide, by decide⟩
    have hat137 : cl137.slots[((1 : Int32)).toNatClampNeg]? = some (.ref r1) := Has.at Hs137 hin137 rfl
    refine OGo.st (fun t k => X121.aaload hx (j := (1 : Int32)) (v := (.ref r1)) (by rw [e121]; exact Ar137.1) (State.isArrayOf_alike hZ.alike Ar137.2.1) rfl Ar137.2.2 hin137 hat137 (g := (mkF m 35 #[.val (.int p0), .val (.ref b101), .val (.int (1 : Int32)), .unset, .unset, .unset, .unset, .unset] [(.int (1 : Int32)), (.ref b101)])) rfl rfl (hb hby at_35) _ k) ?_
    show OGo p.tables e below _ (T121.setTop (mkF m 36 #[.val (.int p0), .val (.ref b101), .val (.int (1 : Int32)), .unset, .unset, .unset, .unset, .unset] [(.ref r1)]))
    refine OGo.st (fun t k => XS.astoreN X121.here hx rfl (hb hby at_36) rfl rfl (l' := #[.val (.int p0), .val (.ref b101), .val (.int (1 : Int32)), .val (.ref r1), .unset, .unset, .unset, .unset]) rfl k) ?_
    show OGo p.tables e below _ (T121.setTop (mkF m 37 #[.val (.int p0), .val (.ref b101), .val (.int (1 : Int32)), .val (.ref r1), .unset, .unset, .unset, .unset] []))
    refine OGo.st (fun t k => XS.aloadN X121.here hx rfl (hb hby at_37) rfl rfl k) ?_
    show OGo p.tables e below _ (T121.setTop (mkF m 38 #[.val (.int p0), .val (.ref b101), .val (.int (1 : Int32)), .val (.ref r1), .unset, .unset, .unset, .unset] [(.ref r1)]))
    have G138 : Sta Z h121 "com/example/palamedes/palamedes/req/Relation" "LESS" "Lcom/example/palamedes/palamedes/req/Relation;" (.ref r0) := (Sta.wr W121 (Sta.wr W116 (Sta.wr W111 (Sta.wr W106 G102))))
    have G139 : Sta Z h121 "com/example/palamedes/palamedes/req/Relation" "LESS_OR_EQUAL" "Lcom/example/palamedes/palamedes/req/Relation;" (.ref r1) := (Sta.wr W121 (Sta.wr W116 (Sta.wr W111 G107)))
    have G141 : Exa Z h121 r1 "com/example/palamedes/palamedes/req/Relation" := (Exa.wr W121 (Exa.wr W116 (Exa.wr W111 G110)))
    obtain ⟨cq140, kq140, q140a, q140b, q140c⟩ := isOf hZ e121 G141
    obtain ⟨_, _, ⟨T140, L140, kk140, nn140⟩, -, X140, ⟨Lc140, hQ140, l140, y140, z140⟩, st140⟩ := X121.virtualBack hx (y := (⟨"com/example/palamedes/palamedes/req/Relation", "upper", "()Z"⟩ : MethodName)) (z := (⟨"com/example/palamedes/palamedes/req/Relation", "upper", "()Z"⟩ : MethodName)) hown (mvT hZ (hw _ (List.mem_of_getElem? (i := 12) rfl))) (mvT hZ (hw _ (List.mem_of_getElem? (i := 13) rfl))) (notFace_of_selects (args := #[]) (mvT hZ (hw _ (List.mem_of_getElem? (i := 15) rfl)))) (mvT hZ (hw _ (List.mem_of_getElem? (i := 15) rfl))) (mvT hZ (hw _ (List.mem_of_getElem? (i := 14) rfl))) (by decide) (backOf (W := 0) (rm22 l Z ar hw [] r1 r0 h121 n0 (Nat.le_trans (Nat.le_trans (Nat.le_trans (Nat.le_trans (Nat.le_trans Z0 E101.1) (Keep.of_wr W106).1) (Keep.of_wr W111).1) (Keep.of_wr W116).1) (Keep.of_wr W121).1) G138 G139 nr01) hZ (hw _ (List.mem_of_getElem? (i := 16) rfl)) (hw _ (List.mem_of_getElem? (i := 3) rfl)) (by decide) (by decide)) q140a q140c (g := (mkF m 38 #[.val (.int p0), .val (.ref b101), .val (.int (1 : Int32)), .val (.ref r1), .unset, .unset, .unset, .unset] [(.ref r1)])) rfl (by rw [hml]; rfl) (Steps.refl _) (argsL := []) (rest := []) (lenOf pd_3 rfl) rfl (by show 2 * 0 + _ ≤ _; exact Nat.le_of_eq rfl) (hb hby at_38) (fun _ _ => ⟨rfl, e121, (by decide : 1 + 0 ≤ _), (by decide : 4 + 0 ≤ _)⟩)
    dsimp only [Pt.U, Pt.locs, Pt.cells, Pt.slots] at X140 l140 y140 z140 st140 hQ140
    subst l140 y140 z140
    obtain ⟨rfl, Nq140, hh140⟩ := hQ140
    have N140 := Fr.app N121 Nq140
    refine OGo.st (fun t k => st140.trans k) ?_
    have e140 : T140.heap = h121 := hh140
    show OGo p.tables e below _ (T140.setTop (mkF m 41 #[.val (.int p0), .val (.ref b101), .val (.int (1 : Int32)), .val (.ref r1), .unset, .unset, .unset, .unset] [(.int (1 : Int32))]))
    refine OGo.st (fun t k => XS.istore X140.here hx rfl (hb hby at_41) rfl (l' := #[.val (.int p0), .val (.ref b101), .val (.int (1 : Int32)), .val (.ref r1), .val (.int (1 : Int32)), .unset, .unset, .unset]) rfl k) ?_
    show OGo p.tables e below _ (T140.setTop (mkF m 43 #[.val (.int p0), .val (.ref b101), .val (.int (1 : Int32)), .val (.ref r1), .val (.int (1 : Int32)), .unset, .unset, .unset] []))
    refine OGo.st (fun t k => XS.aloadN X140.here hx rfl (hb hby at_43) rfl rfl k) ?_
    show OGo p.tables e below _ (T140.setTop (mkF m 44 #[.val (.int p0), .val (.ref b101), .val (.int (1 : Int32)), .val (.ref r1), .val (.int (1 : Int32)), .unset, .unset, .unset] [(.ref r1)]))
    have G142 : Fld Z h121 r1 "com/example/palamedes/palamedes/req/Relation" "symbol" "Ljava/lang/String;" (.ref s1) := (Fld.other W121 (Fld.other W116 (Fld.other W111 (Fld.other W106 (Fld.ext E101 FS1) (Or.inl ne_r1_b101)) (Or.inl ne_r1_b101)) (Or.inl ne_r1_b101)) (Or.inl ne_r1_b101))
    obtain ⟨cq143, kq143, q143a, q143b, q143c⟩ := isOf hZ e140 G141
    obtain ⟨_, _, ⟨T143, L143, kk143, nn143⟩, -, X143, ⟨Lc143, hQ143, l143, y143, z143⟩, st143⟩ := X140.virtualBack hx (y := (⟨"com/example/palamedes/palamedes/req/Relation", "symbol", "()Ljava/lang/String;"⟩ : MethodName)) (z := (⟨"com/example/palamedes/palamedes/req/Relation", "symbol", "()Ljava/lang/String;"⟩ : MethodName)) hown (mvT hZ (hw _ (List.mem_of_getElem? (i := 18) rfl))) (mvT hZ (hw _ (List.mem_of_getElem? (i := 19) rfl))) (notFace_of_selects (args := #[]) (mvT hZ (hw _ (List.mem_of_getElem? (i := 21) rfl)))) (mvT hZ (hw _ (List.mem_of_getElem? (i := 21) rfl))) (mvT hZ (hw _ (List.mem_of_getElem? (i := 20) rfl))) (by decide) (backOf (W := 0) (rm20 l Z ar hw [] r1 s1 h121 n0 (Nat.le_trans (Nat.le_trans (Nat.le_trans (Nat.le_trans (Nat.le_trans Z0 E101.1) (Keep.of_wr W106).1) (Keep.of_wr W111).1) (Keep.of_wr W116).1) (Keep.of_wr W121).1) G142) hZ (hw _ (List.mem_of_getElem? (i := 22) rfl)) (hw _ (List.mem_of_getElem? (i := 3) rfl)) (by decide) (by decide)) q143a q143c (g := (mkF m 44 #[.val (.int p0), .val (.ref b101), .val (.int (1 : Int32)), .val (.ref r1), .val (.int (1 : Int32)), .unset, .unset, .unset] [(.ref r1)])) rfl (by rw [hml]; rfl) (Steps.refl _) (argsL := []) (rest := []) (lenOf pd_5 rfl) rfl (by show 2 * 0 + _ ≤ _; exact Nat.le_of_eq rfl) (hb hby at_44) (fun _ _ => ⟨rfl, e140, (by decide : 1 + 0 ≤ _), (by decide : 4 + 0 ≤ _)⟩)
    dsimp only [Pt.U, Pt.locs, Pt.cells, Pt.slots] at X143 l143 y143 z143 st143 hQ143
    subst l143 y143 z143
    obtain ⟨rfl, Nq143, hh143⟩ := hQ143
    have N143 := Fr.app N140 Nq143
    refine OGo.st (fun t k => st143.trans k) ?_
    have e143 : T143.heap = h121 := hh143
    show OGo p.tables e below _ (T143.setTop (mkF m 47 #[.val (.int p0), .val (.ref b101), .val (.int (1 : Int32)), .val (.ref r1), .val (.int (1 : Int32)), .unset, .unset, .unset] [(.ref s1)]))
    refine OGo.st (fun t k => XS.astore X143.here hx rfl (hb hby at_47) rfl rfl (l' := #[.val (.int p0), .val (.ref b101), .val (.int (1 : Int32)), .val (.ref r1), .val (.int (1 : Int32)), .val (.ref s1), .unset, .unset]) rfl k) ?_
    show OGo p.tables e below _ (T143.setTop (mkF m 49 #[.val (.int p0), .val (.ref b101), .val (.int (1 : Int32)), .val (.ref r1), .val (.int (1 : Int32)), .val (.ref s1), .unset, .unset] []))
    refine OGo.st (fun t k => XS.aload X143.here hx rfl (hb hby at_49) rfl rfl k) ?_
    show OGo p.tables e below _ (T143.setTop (mkF m 51 #[.val (.int p0), .val (.ref b101), .val (.int (1 : Int32)), .val (.ref r1), .val (.int (1 : Int32)), .val (.ref s1), .unset, .unset] [(.ref s1)]))
    have G144 : Fld Z h121 s1 "java/lang/String" "value" "[B" (.ref b1) := (Fld.other W121 (Fld.other W116 (Fld.other W111 (Fld.other W106 (Fld.ext E101 FV1) (Or.inl ne_s1_b101)) (Or.inl ne_s1_b101)) (Or.inl ne_s1_b101)) (Or.inl ne_s1_b101))
    have G145 : Fld Z h121 s1 "java/lang/String" "coder" "B" (.int (0 : Int32)) := (Fld.other W121 (Fld.other W116 (Fld.other W111 (Fld.other W106 (Fld.ext E101 FC1) (Or.inl ne_s1_b101)) (Or.inl ne_s1_b101)) (Or.inl ne_s1_b101)) (Or.inl ne_s1_b101))
    have G146 : Arv Z h121 b1 k1 .byte (2 : Int32) [(.int (60 : Int32)), (.int (61 : Int32))] (.int (0 : Int32)) := (((((AV1.ext E101).other W106 ne_b1_b101).other W111 ne_b1_b101).other W116 ne_b1_b101).other W121 ne_b1_b101)
    have G147 : Exa Z h121 s1 "java/lang/String" := (Exa.wr W121 (Exa.wr W116 (Exa.wr W111 (Exa.wr W106 (Exa.ext E101 ES1)))))
    have G148 : Sta Z h121 "java/lang/String" "COMPACT_STRINGS" "Z" (.int cs) := (Sta.wr W121 (Sta.wr W116 (Sta.wr W111 (Sta.wr W106 (Sta.ext E101 S_cs)))))
    obtain ⟨cq149, kq149, q149a, q149b, q149c⟩ := isOf hZ e143 G147
    obtain ⟨_, _, ⟨T149, L149, kk149, nn149⟩, -, X149, ⟨Lc149, hQ149, l149, y149, z149⟩, st149⟩ := X143.virtualBack hx (y := (⟨"java/lang/String", "length", "()I"⟩ : MethodName)) (z := (⟨"java/lang/String", "length", "()I"⟩ : MethodName)) hown (mvT hZ (hw _ (List.mem_of_getElem? (i := 25) rfl))) (mvT hZ (hw _ (List.mem_of_getElem? (i := 26) rfl))) (notFace_of_selects (args := #[]) (mvT hZ (hw _ (List.mem_of_getElem? (i := 28) rfl)))) (mvT hZ (hw _ (List.mem_of_getElem? (i := 28) rfl))) (mvT hZ (hw _ (List.mem_of_getElem? (i := 27) rfl))) (by decide) (backOf (W := 0) (rm8 l Z ar hw [] s1 b1 k1 cs h121 n0 (Nat.le_trans (Nat.le_trans (Nat.le_trans (Nat.le_trans (Nat.le_trans Z0 E101.1) (Keep.of_wr W106).1) (Keep.of_wr W111).1) (Keep.of_wr W116).1) (Keep.of_wr W121).1) G144 G145 G146 G147 G148 hcs) hZ (hw _ (List.mem_of_getElem? (i := 30) rfl)) (hw _ (List.mem_of_getElem? (i := 29) rfl)) (by decide) (by decide)) q149a q149c (g := (mkF m 51 #[.val (.int p0), .val (.ref b101), .val (.int (1 : Int32)), .val (.ref r1), .val (.int (1 : Int32)), .val (.ref s1), .unset, .unset] [(.ref s1)])) rfl (by rw [hml]; rfl) (Steps.refl _) (argsL := []) (rest := []) (lenOf pd_6 rfl) rfl (by show 2 * 0 + _ ≤ _; exact Nat.le_of_eq rfl) (hb hby at_51) (fun _ _ => ⟨rfl, e143, (by decide : 1 + 0 ≤ _), (by decide : 4 + 0 ≤ _)⟩)
    dsimp only [Pt.U, Pt.locs, Pt.cells, Pt.slots] at X149 l149 y149 z149 st149 hQ149
    subst l149 y149 z149
    obtain ⟨rfl, Nq149, hh149⟩ := hQ149
    have N149 := Fr.app N143 Nq149
    refine OGo.st (fun t k => st149.trans k) ?_
    have e149 : T149.heap = h121 := hh149
    show OGo p.tables e below _ (T149.setTop (mkF m 54 #[.val (.int p0), .val (.ref b101), .val (.int (1 : Int32)), .val (.ref r1), .val (.int (1 : Int32)), .val (.ref s1), .unset, .unset] [(.int (2 : Int32))]))
    refine OGo.st (fun t k => XS.ifNo X149.here hx rfl (hb hby at_54) rfl ((if0 _ _).trans (tlt (by decide : (0 : Int32) < (2 : Int32))).2.2.2) k) ?_
    show OGo p.tables e below _ (T149.setTop (mkF m 57 #[.val (.int p0), .val (.ref b101), .val (.int (1 : Int32)), .val (.ref r1), .val (.int (1 : Int32)), .val (.ref s1), .unset, .unset] []))
    refine OGo.st (fun t k => XS.aload X149.here hx rfl (hb hby at_57) rfl rfl k) ?_
    show OGo p.tables e below _ (T149.setTop (mkF m 59 #[.val (.int p0), .val (.ref b101), .val (.int (1 : Int32)), .val (.ref r1), .val (.int (1 : Int32)), .val (.ref s1), .unset, .unset] [(.ref s1)]))
    refine OGo.st (fun t k => XS.iconst X149.here hx rfl (hb hby at_59) k) ?_
    show OGo p.tables e below _ (T149.setTop (mkF m 60 #[.val (.int p0), .val (.ref b101), .val (.int (1 : Int32)), .val (.ref r1), .val (.int (1 : Int32)), .val (.ref s1), .unset, .unset] [(.int (0 : Int32)), (.ref s1)]))
    have G150 : Sta Z h121 "jdk/internal/util/Preconditions" "SIOOBE_FORMATTER" "Ljava/util/function/BiFunction;" fv := (Sta.wr W121 (Sta.wr W116 (Sta.wr W111 (Sta.wr W106 (Sta.ext E101 S_fv)))))
    obtain ⟨cq151, kq151, q151a, q151b, q151c⟩ := isOf hZ e149 G147
    obtain ⟨_, _, ⟨T151, L151, kk151, nn151⟩, -, X151, ⟨Lc151, hQ151, l151, y151, z151⟩, st151⟩ := X149.virtualBack hx (y := (⟨"java/lang/String", "charAt", "(I)C"⟩ : MethodName)) (z := (⟨"java/lang/String", "charAt", "(I)C"⟩ : MethodName)) hown (mvT hZ (hw _ (List.mem_of_getElem? (i := 41) rfl))) (mvT hZ (hw _ (List.mem_of_getElem? (i := 42) rfl))) (notFace_of_selects (args := #[]) (mvT hZ (hw _ (List.mem_of_getElem? (i := 44) rfl)))) (mvT hZ (hw _ (List.mem_of_getElem? (i := 44) rfl))) (mvT hZ (hw _ (List.mem_of_getElem? (i := 43) rfl))) (by decide) (backOf (W := 0) (rm13 l Z ar hw [] s1 b1 k1 cs fv h121 n0 (Nat.le_trans (Nat.le_trans (Nat.le_trans (Nat.le_trans (Nat.le_trans Z0 E101.1) (Keep.of_wr W106).1) (Keep.of_wr W111).1) (Keep.of_wr W116).1) (Keep.of_wr W121).1) G144 G145 G146 G147 G148 hcs G150 hfv) hZ (hw _ (List.mem_of_getElem? (i := 45) rfl)) (hw _ (List.mem_of_getElem? (i := 29) rfl)) (by decide) (by decide)) q151a q151c (g := (mkF m 60 #[.val (.int p0), .val (.ref b101), .val (.int (1 : Int32)), .val (.ref r1), .val (.int (1 : Int32)), .val (.ref s1), .unset, .unset] [(.int (0 : Int32)), (.ref s1)])) rfl (by rw [hml]; rfl) (Steps.refl _) (argsL := [(.int (0 : Int32))]) (rest := []) (lenOf pd_7 rfl) rfl (by show 2 * 0 + _ ≤ _; exact Nat.le_of_eq rfl) (hb hby at_60) (fun _ _ => ⟨rfl, e149, (by decide : 1 + 0 ≤ _), (by decide : 4 + 0 ≤ _)⟩)
    dsimp only [Pt.U, Pt.locs, Pt.cells, Pt.slots] at X151 l151 y151 z151 st151 hQ151
    subst l151 y151 z151
    obtain ⟨rfl, Nq151, hh151⟩ := hQ151
    have N151 := Fr.app N149 Nq151
    refine OGo.st (fun t k => st151.trans k) ?_
    have e151 : T151.heap = h121 := hh151
    show OGo p.tables e below _ (T151.setTop (mkF m 63 #[.val (.int p0), .val (.ref b101), .val (.int (1 : Int32)), .val (.ref r1), .val (.int (1 : Int32)), .val (.ref s1), .unset, .unset] [(.int (60 : Int32))]))
    refine OGo.st (fun t k => XS.bipush X151.here hx rfl (hb hby at_63) k) ?_
    show OGo p.tables e below _ (T151.setTop (mkF m 65 #[.val (.int p0), .val (.ref b101), .val (.int (1 : Int32)), .val (.ref r1), .val (.int (1 : Int32)), .val (.ref s1), .unset, .unset] [(.int (60 : Int32)), (.int (60 : Int32))]))
    refine OGo.st (fun t k => XS.icmpNo X151.here hx rfl (hb hby at_65) rfl (teq (by decide : (60 : Int32) = (60 : Int32))).2 k) ?_
    show OGo p.tables e below _ (T151.setTop (mkF m 68 #[.val (.int p0), .val (.ref b101), .val (.int (1 : Int32)), .val (.ref r1), .val (.int (1 : Int32)), .val (.ref s1), .unset, .unset] []))
    refine OGo.st (fun t k => XS.iconst X151.here hx rfl (hb hby at_68) k) ?_
    show OGo p.tables e below _ (T151.setTop (mkF m 69 #[.val (.int p0), .val (.ref b101), .val (.int (1 : Int32)), .val (.ref r1), .val (.int (1 : Int32)), .val (.ref s1), .unset, .unset] [(.int (1 : Int32))]))
    refine OGo.st (fun t k => XS.goto X151.here hx rfl (pc0 := 69) (pc' := 73) rfl (hb hby at_69) (by decide) (by decide) k) ?_
    show OGo p.tables e below _ (T151.setTop (mkF m 73 #[.val (.int p0), .val (.ref b101), .val (.int (1 : Int32)), .val (.ref r1), .val (.int (1 : Int32)), .val (.ref s1), .unset, .unset] [(.int (1 : Int32))]))
    refine OGo.st (fun t k => XS.istore X151.here hx rfl (hb hby at_73) rfl (l' := #[.val (.int p0), .val (.ref b101), .val (.int (1 : Int32)), .val (.ref r1), .val (.int (1 : Int32)), .val (.ref s1), .val (.int (1 : Int32)), .unset]) rfl k) ?_
    show OGo p.tables e below _ (T151.setTop (mkF m 75 #[.val (.int p0), .val (.ref b101), .val (.int (1 : Int32)), .val (.ref r1), .val (.int (1 : Int32)), .val (.ref s1), .val (.int (1 : Int32)), .unset] []))
    refine OGo.st (fun t k => XS.iloadN X151.here hx rfl (hb hby at_75) rfl k) ?_
    show OGo p.tables e below _ (T151.setTop (mkF m 76 #[.val (.int p0), .val (.ref b101), .val (.int (1 : Int32)), .val (.ref r1), .val (.int (1 : Int32)), .val (.ref s1), .val (.int (1 : Int32)), .unset] [(.int (1 : Int32))]))
    refine OGo.st (fun t k => XS.iconst X151.here hx rfl (hb hby at_76) k) ?_
    show OGo p.tables e below _ (T151.setTop (mkF m 77 #[.val (.int p0), .val (.ref b101), .val (.int (1 : Int32)), .val (.ref r1), .val (.int (1 : Int32)), .val (.ref s1), .val (.int (1 : Int32)), .unset] [(.int (2 : Int32)), (.int (1 : Int32))]))
    refine OGo.st (fun t k => XS.icmpNo X151.here hx rfl (hb hby at_77) rfl (tlt (by decide : (1 : Int32) < (2 : Int32))).2.1 k) ?_
    show OGo p.tables e below _ (T151.setTop (mkF m 80 #[.val (.int p0), .val (.ref b101), .val (.int (1 : Int32)), .val (.ref r1), .val (.int (1 : Int32)), .val (.ref s1), .val (.int (1 : Int32)), .unset] []))
    refine OGo.st (fun t k => XS.iconst X151.here hx rfl (hb hby at_80) k) ?_
    show OGo p.tables e below _ (T151.setTop (mkF m 81 #[.val (.int p0), .val (.ref b101), .val (.int (1 : Int32)), .val (.ref r1), .val (.int (1 : Int32)), .val (.ref s1), .val (.int (1 : Int32)), .unset] [(.int (1 : Int32))]))
    refine OGo.st (fun t k => XS.goto X151.here hx rfl (pc0 := 81) (pc' := 85) rfl (hb hby at_81) (by decide) (by decide) k) ?_
    show OGo p.tables e below _ (T151.setTop (mkF m 85 #[.val (.int p0), .val (.ref b101), .val (.int (1 : Int32)), .val (.ref r1), .val (.int (1 : Int32)), .val (.ref s1), .val (.int (1 : Int32)), .unset] [(.int (1 : Int32))]))
    refine OGo.st (fun t k => XS.istore X151.here hx rfl (hb hby at_85) rfl (l' := #[.val (.int p0), .val (.ref b101), .val (.int (1 : Int32)), .val (.ref r1), .val (.int (1 : Int32)), .val (.ref s1), .val (.int (1 : Int32)), .val (.int (1 : Int32))]) rfl k) ?_
    show OGo p.tables e below _ (T151.setTop (mkF m 87 #[.val (.int p0), .val (.ref b101), .val (.int (1 : Int32)), .val (.ref r1), .val (.int (1 : Int32)), .val (.ref s1), .val (.int (1 : Int32)), .val (.int (1 : Int32))] []))
    refine OGo.st (fun t k => XS.iload X151.here hx rfl (hb hby at_87) rfl k) ?_
    show OGo p.tables e below _ (T151.setTop (mkF m 89 #[.val (.int p0), .val (.ref b101), .val (.int (1 : Int32)), .val (.ref r1), .val (.int (1 : Int32)), .val (.ref s1), .val (.int (1 : Int32)), .val (.int (1 : Int32))] [(.int (1 : Int32))]))
    refine OGo.st (fun t k => XS.iload X151.here hx rfl (hb hby at_89) rfl k) ?_
    show OGo p.tables e below _ (T151.setTop (mkF m 91 #[.val (.int p0), .val (.ref b101), .val (.int (1 : Int32)), .val (.ref r1), .val (.int (1 : Int32)), .val (.ref s1), .val (.int (1 : Int32)), .val (.int (1 : Int32))] [(.int (1 : Int32)), (.int (1 : Int32))]))
    refine OGo.st (fun t k => XS.icmpNo X151.here hx rfl (hb hby at_91) rfl (teq (by decide : (1 : Int32) = (1 : Int32))).2 k) ?_
    show OGo p.tables e below _ (T151.setTop (mkF m 94 #[.val (.int p0), .val (.ref b101), .val (.int (1 : Int32)), .val (.ref r1), .val (.int (1 : Int32)), .val (.ref s1), .val (.int (1 : Int32)), .val (.int (1 : Int32))] []))
    refine OGo.st (fun t k => XS.iload X151.here hx rfl (hb hby at_94) rfl k) ?_
    show OGo p.tables e below _ (T151.setTop (mkF m 96 #[.val (.int p0), .val (.ref b101), .val (.int (1 : Int32)), .val (.ref r1), .val (.int (1 : Int32)), .val (.ref s1), .val (.int (1 : Int32)), .val (.int (1 : Int32))] [(.int (1 : Int32))]))
    refine OGo.st (fun t k => XS.iload X151.here hx rfl (hb hby at_96) rfl k) ?_
    show OGo p.tables e below _ (T151.setTop (mkF m 98 #[.val (.int p0), .val (.ref b101), .val (.int (1 : Int32)), .val (.ref r1), .val (.int (1 : Int32)), .val (.ref s1), .val (.int (1 : Int32)), .val (.int (1 : Int32))] [(.int (1 : Int32)), (.int (1 : Int32))]))
    refine OGo.st (fun t k => XS.icmpNo X151.here hx rfl (hb hby at_98) rfl (teq (by decide : (1 : Int32) = (1 : Int32))).2 k) ?_
    show OGo p.tables e below _ (T151.setTop (mkF m 101 #[.val (.int p0), .val (.ref b101), .val (.int (1 : Int32)), .val (.ref r1), .val (.int (1 : Int32)), .val (.ref s1), .val (.int (1 : Int32)), .val (.int (1 : Int32))] []))
    refine OGo.st (fun t k => XS.iconst X151.here hx rfl (hb hby at_101) k) ?_
    show OGo p.tables e below _ (T151.setTop (mkF m 102 #[.val (.int p0), .val (.ref b101), .val (.int (1 : Int32)), .val (.ref r1), .val (.int (1 : Int32)), .val (.ref s1), .val (.int (1 : Int32)), .val (.int (1 : Int32))] [(.int (1 : Int32))]))
    refine OGo.st (fun t k => XS.goto X151.here hx rfl (pc0 := 102) (pc' := 106) rfl (hb hby at_102) (by decide) (by decide) k) ?_
    show OGo p.tables e below _ (T151.setTop (mkF m 106 #[.val (.int p0), .val (.ref b101), .val (.int (1 : Int32)), .val (.ref r1), .val (.int (1 : Int32)), .val (.ref s1), .val (.int (1 : Int32)), .val (.int (1 : Int32))] [(.int (1 : Int32))]))
    obtain ⟨fs, hr, hrun, hended, hW, hsame⟩ := X151.leave (v := some (.int (1 : Int32))) (fun h => by rw [Bd.returns] at h; cases h)
    refine OGo.done (retN X151 hx (t := .boolean) Bd.returns (by simp) (hb hby at_106) hr) ⟨hrun, hended, _, _, rfl, ?_, ⟨_, rfl⟩, hW, hsame.mono (by decide) (by decide)⟩
    show Q24 Z p0 r0 r1 r2 r3 s0 s1 s2 s3 b0 b1 b2 b3 k0 k1 k2 k3 cs fv h0 n0 _ T151.heap _
    rw [e151]
    exact ⟨rfl, N151⟩
  ·
    rw [hn]
    show OGo p.tables e below _ (T121.setTop (mkF m 33 #[.val (.int p0), .val (.ref b101), .val (.int (2 : Int32)), .unset, .unset, .unset, .unset, .unset] []))
    refine OGo.st (fun t k => XS.aloadN X121.here hx rfl (hb hby at_33) rfl rfl k) ?_
    show OGo p.tables e below _ (T121.setTop (mkF m 34 #[.val (.int p0), .val (.ref b101), .val (.int (2 : Int32)), .unset, .unset, .unset, .unset, .unset] [(.ref b101)]))
    refine OGo.st (fun t k => XS.iloadN X121.here hx rfl (hb hby at_34) rfl k) ?_
    show OGo p.tables e below _ (T121.setTop (mkF m 35 #[.val (.int p0), .val (.ref b101), .val (.int (2 : Int32)), .unset, .unset, .unset, .unset, .unset] [(.int (2 : Int32)), (.ref b101)]))
    obtain ⟨cl153, Ar153, qc153, Sz153, Nz153, Hs153, Gs153⟩ := id V121
    have hin153 : ¬ ((2 : Int32) < 0 ∨ cl153.slots.size ≤ ((2 : Int32)).toNatClampNeg) := inb_of Sz153 ⟨by decide, by decide⟩
    have hat153 : cl153.slots[((2 : Int32)).toNatClampNeg]? = some (.ref r2) := Has.at Hs153 hin153 rfl
    refine OGo.st (fun t k => X121.aaload hx (j := (2 : Int32)) (v := (.ref r2)) (by rw [e121]; exact Ar153.1) (State.isArrayOf_alike hZ.alike Ar153.2.1) rfl Ar153.2.2 hin153 hat153 (g := (mkF m 35 #[.val (.int p0), .val (.ref b101), .val (.int (2 : Int32)), .unset, .unset, .unset, .unset, .unset] [(.int (2 : Int32)), (.ref b101)])) rfl rfl (hb hby at_35) _ k) ?_
    show OGo p.tables e below _ (T121.setTop (mkF m 36 #[.val (.int p0), .val (.ref b101), .val (.int (2 : Int32)), .unset, .unset, .unset, .unset, .unset] [(.ref r2)]))
    refine OGo.st (fun t k => XS.astoreN X121.here hx rfl (hb hby at_36) rfl rfl (l' := #[.val (.int p0), .val (.ref b101), .val (.int (2 : Int32)), .val (.ref r2), .unset, .unset, .unset, .unset]) rfl k) ?_
    show OGo p.tables e below _ (T121.setTop (mkF m 37 #[.val (.int p0), .val (.ref b101), .val (.int (2 : Int32)), .val (.ref r2), .unset, .unset, .unset, .unset] []))
    refine OGo.st (fun t k => XS.aloadN X121.here hx rfl (hb hby at_37) rfl rfl k) ?_
    show OGo p.tables e below _ (T121.setTop (mkF m 38 #[.val (.int p0), .val (.ref b101), .val (.int (2 : Int32)), .val (.ref r2), .unset, .unset, .unset, .unset] [(.ref r2)]))
    have G154 : Sta Z h121 "com/example/palamedes/palamedes/req/Relation" "LESS" "Lcom/example/palamedes/palamedes/req/Relation;" (.ref r0) := (Sta.wr W121 (Sta.wr W116 (Sta.wr W111 (Sta.wr W106 G102))))
    have G155 : Sta Z h121 "com/example/palamedes/palamedes/req/Relation" "LESS_OR_EQUAL" "Lcom/example/palamedes/palamedes/req/Relation;" (.ref r1) := (Sta.wr W121 (Sta.wr W116 (Sta.wr W111 G107)))
    have G157 : Exa Z h121 r2 "com/example/palamedes/palamedes/req/Relation" := (Exa.wr W121 (Exa.wr W116 G115))
    obtain ⟨cq156, kq156, q156a, q156b, q156c⟩ := isOf hZ e121 G157
    obtain ⟨_, _, ⟨T156, L156, kk156, nn156⟩, -, X156, ⟨Lc156, hQ156, l156, y156, z156⟩, st156⟩ := X121.virtualBack hx (y := (⟨"com/example/palamedes/palamedes/req/Relation", "upper", "()Z"⟩ : MethodName)) (z := (⟨"com/example/palamedes/palamedes/req/Relation", "upper", "()Z"⟩ : MethodName)) hown (mvT hZ (hw _ (List.mem_of_getElem? (i := 12) rfl))) (mvT hZ (hw _ (List.mem_of_getElem? (i := 13) rfl))) (notFace_of_selects (args := #[]) (mvT hZ (hw _ (List.mem_of_getElem? (i := 15) rfl)))) (mvT hZ (hw _ (List.mem_of_getElem? (i := 15) rfl))) (mvT hZ (hw _ (List.mem_of_getElem? (i := 14) rfl))) (by decide) (backOf (W := 0) (rm23 l Z ar hw [] r2 r0 r1 h121 n0 (Nat.le_trans (Nat.le_trans (Nat.le_trans (Nat.le_trans (Nat.le_trans Z0 E101.1) (Keep.of_wr W106).1) (Keep.of_wr W111).1) (Keep.of_wr W116).1) (Keep.of_wr W121).1) G154 G155 (Ne.symm nr02) (Ne.symm nr12)) hZ (hw _ (List.mem_of_getElem? (i := 16) rfl)) (hw _ (List.mem_of_getElem? (i := 3) rfl)) (by decide) (by decide)) q156a q156c (g := (mkF m 38 #[.val (.int p0), .val (.ref b101), .val (.int (2 : Int32)), .val (.ref r2), .unset, .unset, .unset, .unset] [(.ref r2)])) rfl (by rw [hml]; rfl) (Steps.refl _) (argsL := []) (rest := []) (lenOf pd_3 rfl) rfl (by show 2 * 0 + _ ≤ _; exact Nat.le_of_eq rfl) (hb hby at_38) (fun _ _ => ⟨rfl, e121, (by decide : 1 + 0 ≤ _), (by decide : 4 + 0 ≤ _)⟩)
    dsimp only [Pt.U, Pt.locs, Pt.cells, Pt.slots] at X156 l156 y156 z156 st156 hQ156
    subst l156 y156 z156
    obtain ⟨rfl, Nq156, hh156⟩ := hQ156
    have N156 := Fr.app N121 Nq156
    refine OGo.st (fun t k => st156.trans k) ?_
    have e156 : T156.heap = h121 := hh156
    show OGo p.tables e below _ (T156.setTop (mkF m 41 #[.val (.int p0), .val (.ref b101), .val (.int (2 : Int32)), .val (.ref r2), .unset, .unset, .unset, .unset] [(.int (0 : Int32))]))
    refine OGo.st (fun t k => XS.istore X156.here hx rfl (hb hby at_41) rfl (l' := #[.val (.int p0), .val (.ref b101), .val (.int (2 : Int32)), .val (.ref r2), .val (.int (0 : Int32)), .unset, .unset, .unset]) rfl k) ?_
    show OGo p.tables e below _ (T156.setTop (mkF m 43 #[.val (.int p0), .val (.ref b101), .val (.int (2 : Int32)), .val (.ref r2), .val (.int (0 : Int32)), .unset, .unset, .unset] []))
    refine OGo.st (fun t k => XS.aloadN X156.here hx rfl (hb hby at_43) rfl rfl k) ?_
    show OGo p.tables e below _ (T156.setTop (mkF m 44 #[.val (.int p0), .val (.ref b101), .val (.int (2 : Int32)), .val (.ref r2), .val (.int (0 : Int32)), .unset, .unset, .unset] [(.ref r2)]))
    have G158 : Fld Z h121 r2 "com/example/palamedes/palamedes/req/Relation" "symbol" "Ljava/lang/String;" (.ref s2) := (Fld.other W121 (Fld.other W116 (Fld.other W111 (Fld.other W106 (Fld.ext E101 FS2) (Or.inl ne_r2_b101)) (Or.inl ne_r2_b101)) (Or.inl ne_r2_b101)) (Or.inl ne_r2_b101))
    obtain ⟨cq159, kq159, q159a, q159b, q159c⟩ := isOf hZ e156 G157
    obtain ⟨_, _, ⟨T159, L159, kk159, nn159⟩, -, X159, ⟨Lc159, hQ159, l159, y159, z159⟩, st159⟩ := X156.virtualBack hx (y := (⟨"com/example/palamedes/palamedes/req/Relation", "symbol", "()Ljava/lang/String;"⟩ : MethodName)) (z := (⟨"com/example/palamedes/palamedes/req/Relation", "symbol", "()Ljava/lang/String;"⟩ : MethodName)) hown (mvT hZ (hw _ (List.mem_of_getElem? (i := 18) rfl))) (mvT hZ (hw _ (List.mem_of_getElem? (i := 19) rfl))) (notFace_of_selects (args := #[]) (mvT hZ (hw _ (List.mem_of_getElem? (i := 21) rfl)))) (mvT hZ (hw _ (List.mem_of_getElem? (i := 21) rfl))) (mvT hZ (hw _ (List.mem_of_getElem? (i := 20) rfl))) (by decide) (backOf (W := 0) (rm20 l Z ar hw [] r2 s2 h121 n0 (Nat.le_trans (Nat.le_trans (Nat.le_trans (Nat.le_trans (Nat.le_trans Z0 E101.1) (Keep.of_wr W106).1) (Keep.of_wr W111).1) (Keep.of_wr W116).1) (Keep.of_wr W121).1) G158) hZ (hw _ (List.mem_of_getElem? (i := 22) rfl)) (hw _ (List.mem_of_getElem? (i := 3) rfl)) (by decide) (by decide)) q159a q159c (g := (mkF m 44 #[.val (.int p0), .val (.ref b101), .val (.int (2 : Int32)), .val (.ref r2), .val (.int (0 : Int32)), .unset, .unset, .unset] [(.ref r2)])) rfl (by rw [hml]; rfl) (Steps.refl _) (argsL := []) (rest := []) (lenOf pd_5 rfl) rfl (by show 2 * 0 + _ ≤ _; exact Nat.le_of_eq rfl) (hb hby at_44) (fun _ _ => ⟨rfl, e156, (by decide : 1 + 0 ≤ _), (by decide : 4 + 0 ≤ _)⟩)
    dsimp only [Pt.U, Pt.locs, Pt.cells, Pt.slots] at X159 l159 y159 z159 st159 hQ159
    subst l159 y159 z159
    obtain ⟨rfl, Nq159, hh159⟩ := hQ159
    have N159 := Fr.app N156 Nq159
    refine OGo.st (fun t k => st159.trans k) ?_
    have e159 : T159.heap = h121 := hh159
    show OGo p.tables e below _ (T159.setTop (mkF m 47 #[.val (.int p0), .val (.ref b101), .val (.int (2 : Int32)), .val (.ref r2), .val (.int (0 : Int32)), .unset, .unset, .unset] [(.ref s2)]))
    refine OGo.st (fun t k => XS.astore X159.here hx rfl (hb hby at_47) rfl rfl (l' := #[.val (.int p0), .val (.ref b101), .val (.int (2 : Int32)), .val (.ref r2), .val (.int (0 : Int32)), .val (.ref s2), .unset, .unset]) rfl k) ?_
    show OGo p.tables e below _ (T159.setTop (mkF m 49 #[.val (.int p0), .val (.ref b101), .val (.int (2 : Int32)), .val (.ref r2), .val (.int (0 : Int32)), .val (.ref s2), .unset, .unset] []))
    refine OGo.st (fun t k => XS.aload X159.here hx rfl (hb hby at_49) rfl rfl k) ?_
    show OGo p.tables e below _ (T159.setTop (mkF m 51 #[.val (.int p0), .val (.ref b101), .val (.int (2 : Int32)), .val (.ref r2), .val (.int (0 : Int32)), .val (.ref s2), .unset, .unset] [(.ref s2)]))
    have G160 : Fld Z h121 s2 "java/lang/String" "value" "[B" (.ref b2) := (Fld.other W121 (Fld.other W116 (Fld.other W111 (Fld.other W106 (Fld.ext E101 FV2) (Or.inl ne_s2_b101)) (Or.inl ne_s2_b101)) (Or.inl ne_s2_b101)) (Or.inl ne_s2_b101))
    have G161 : Fld Z h121 s2 "java/lang/String" "coder" "B" (.int (0 : Int32)) := (Fld.other W121 (Fld.other W116 (Fld.other W111 (Fld.other W106 (Fld.ext E101 FC2) (Or.inl ne_s2_b101)) (Or.inl ne_s2_b101)) (Or.inl ne_s2_b101)) (Or.inl ne_s2_b101))
    have G162 : Arv Z h121 b2 k2 .byte (2 : Int32) [(.int (62 : Int32)), (.int (61 : Int32))] (.int (0 : Int32)) := (((((AV2.ext E101).other W106 ne_b2_b101).other W111 ne_b2_b101).other W116 ne_b2_b101).other W121 ne_b2_b101)
    have G163 : Exa Z h121 s2 "java/lang/String" := (Exa.wr W121 (Exa.wr W116 (Exa.wr W111 (Exa.wr W106 (Exa.ext E101 ES2)))))
    have G164 : Sta Z h121 "java/lang/String" "COMPACT_STRINGS" "Z" (.int cs) := (Sta.wr W121 (Sta.wr W116 (Sta.wr W111 (Sta.wr W106 (Sta.ext E101 S_cs)))))
    obtain ⟨cq165, kq165, q165a, q165b, q165c⟩ := isOf hZ e159 G163
    obtain ⟨_, _, ⟨T165, L165, kk165, nn165⟩, -, X165, ⟨Lc165, hQ165, l165, y165, z165⟩, st165⟩ := X159.virtualBack hx (y := (⟨"java/lang/String", "length", "()I"⟩ : MethodName)) (z := (⟨"java/lang/String", "length", "()I"⟩ : MethodName)) hown (mvT hZ (hw _ (List.mem_of_getElem? (i := 25) rfl))) (mvT hZ (hw _ (List.mem_of_getElem? (i := 26) rfl))) (notFace_of_selects (args := #[]) (mvT hZ (hw _ (List.mem_of_getElem? (i := 28) rfl)))) (mvT hZ (hw _ (List.mem_of_getElem? (i := 28) rfl))) (mvT hZ (hw _ (List.mem_of_getElem? (i := 27) rfl))) (by decide) (backOf (W := 0) (rm14 l Z ar hw [] s2 b2 k2 cs h121 n0 (Nat.le_trans (Nat.le_trans (Nat.le_trans (Nat.le_trans (Nat.le_trans Z0 E101.1) (Keep.of_wr W106).1) (Keep.of_wr W111).1) (Keep.of_wr W116).1) (Keep.of_wr W121).1) G160 G161 G162 G163 G164 hcs) hZ (hw _ (List.mem_of_getElem? (i := 30) rfl)) (hw _ (List.mem_of_getElem? (i := 29) rfl)) (by decide) (by decide)) q165a q165c (g := (mkF m 51 #[.val (.int p0), .val (.ref b101), .val (.int (2 : Int32)), .val (.ref r2), .val (.int (0 : Int32)), .val (.ref s2), .unset, .unset] [(.ref s2)])) rfl (by rw [hml]; rfl) (Steps.refl _) (argsL := []) (rest := []) (lenOf pd_6 rfl) rfl (by show 2 * 0 + _ ≤ _; exact Nat.le_of_eq rfl) (hb hby at_51) (fun _ _ => ⟨rfl, e159, (by decide : 1 + 0 ≤ _), (by decide : 4 + 0 ≤ _)⟩)
    dsimp only [Pt.U, Pt.locs, Pt.cells, Pt.slots] at X165 l165 y165 z165 st165 hQ165
    subst l165 y165 z165
    obtain ⟨rfl, Nq165, hh165⟩ := hQ165
    have N165 := Fr.app N159 Nq165
    refine OGo.st (fun t k => st165.trans k) ?_
    have e165 : T165.heap = h121 := hh165
    show OGo p.tables e below _ (T165.setTop (mkF m 54 #[.val (.int p0), .val (.ref b101), .val (.int (2 : Int32)), .val (.ref r2), .val (.int (0 : Int32)), .val (.ref s2), .unset, .unset] [(.int (2 : Int32))]))
    refine OGo.st (fun t k => XS.ifNo X165.here hx rfl (hb hby at_54) rfl ((if0 _ _).trans (tlt (by decide : (0 : Int32) < (2 : Int32))).2.2.2) k) ?_
    show OGo p.tables e below _ (T165.setTop (mkF m 57 #[.val (.int p0), .val (.ref b101), .val (.int (2 : Int32)), .val (.ref r2), .val (.int (0 : Int32)), .val (.ref s2), .unset, .unset] []))
    refine OGo.st (fun t k => XS.aload X165.here hx rfl (hb hby at_57) rfl rfl k) ?_
    show OGo p.tables e below _ (T165.setTop (mkF m 59 #[.val (.int p0), .val (.ref b101), .val (.int (2 : Int32)), .val (.ref r2), .val (.int (0 : Int32)), .val (.ref s2), .unset, .unset] [(.ref s2)]))
    refine OGo.st (fun t k => XS.iconst X165.here hx rfl (hb hby at_59) k) ?_
    show OGo p.tables e below _ (T165.setTop (mkF m 60 #[.val (.int p0), .val (.ref b101), .val (.int (2 : Int32)), .val (.ref r2), .val (.int (0 : Int32)), .val (.ref s2), .unset, .unset] [(.int (0 : Int32)), (.ref s2)]))
    have G166 : Sta Z h121 "jdk/internal/util/Preconditions" "SIOOBE_FORMATTER" "Ljava/util/function/BiFunction;" fv := (Sta.wr W121 (Sta.wr W116 (Sta.wr W111 (Sta.wr W106 (Sta.ext E101 S_fv)))))
    obtain ⟨cq167, kq167, q167a, q167b, q167c⟩ := isOf hZ e165 G163
    obtain ⟨_, _, ⟨T167, L167, kk167, nn167⟩, -, X167, ⟨Lc167, hQ167, l167, y167, z167⟩, st167⟩ := X165.virtualBack hx (y := (⟨"java/lang/String", "charAt", "(I)C"⟩ : MethodName)) (z := (⟨"java/lang/String", "charAt", "(I)C"⟩ : MethodName)) hown (mvT hZ (hw _ (List.mem_of_getElem? (i := 41) rfl))) (mvT hZ (hw _ (List.mem_of_getElem? (i := 42) rfl))) (notFace_of_selects (args := #[]) (mvT hZ (hw _ (List.mem_of_getElem? (i := 44) rfl)))) (mvT hZ (hw _ (List.mem_of_getElem? (i := 44) rfl))) (mvT hZ (hw _ (List.mem_of_getElem? (i := 43) rfl))) (by decide) (backOf (W := 0) (rm16 l Z ar hw [] s2 b2 k2 cs fv h121 n0 (Nat.le_trans (Nat.le_trans (Nat.le_trans (Nat.le_trans (Nat.le_trans Z0 E101.1) (Keep.of_wr W106).1) (Keep.of_wr W111).1) (Keep.of_wr W116).1) (Keep.of_wr W121).1) G160 G161 G162 G163 G164 hcs G166 hfv) hZ (hw _ (List.mem_of_getElem? (i := 45) rfl)) (hw _ (List.mem_of_getElem? (i := 29) rfl)) (by decide) (by decide)) q167a q167c (g := (mkF m 60 #[.val (.int p0), .val (.ref b101), .val (.int (2 : Int32)), .val (.ref r2), .val (.int (0 : Int32)), .val (.ref s2), .unset, .unset] [(.int (0 : Int32)), (.ref s2)])) rfl (by rw [hml]; rfl) (Steps.refl _) (argsL := [(.int (0 : Int32))]) (rest := []) (lenOf pd_7 rfl) rfl (by show 2 * 0 + _ ≤ _; exact Nat.le_of_eq rfl) (hb hby at_60) (fun _ _ => ⟨rfl, e165, (by decide : 1 + 0 ≤ _), (by decide : 4 + 0 ≤ _)⟩)
    dsimp only [Pt.U, Pt.locs, Pt.cells, Pt.slots] at X167 l167 y167 z167 st167 hQ167
    subst l167 y167 z167
    obtain ⟨rfl, Nq167, hh167⟩ := hQ167
    have N167 := Fr.app N165 Nq167
    refine OGo.st (fun t k => st167.trans k) ?_
    have e167 : T167.heap = h121 := hh167
    show OGo p.tables e below _ (T167.setTop (mkF m 63 #[.val (.int p0), .val (.ref b101), .val (.int (2 : Int32)), .val (.ref r2), .val (.int (0 : Int32)), .val (.ref s2), .unset, .unset] [(.int (62 : Int32))]))
    refine OGo.st (fun t k => XS.bipush X167.here hx rfl (hb hby at_63) k) ?_
    show OGo p.tables e below _ (T167.setTop (mkF m 65 #[.val (.int p0), .val (.ref b101), .val (.int (2 : Int32)), .val (.ref r2), .val (.int (0 : Int32)), .val (.ref s2), .unset, .unset] [(.int (60 : Int32)), (.int (62 : Int32))]))
    refine OGo.st (fun t k => XS.icmpYes X167.here hx rfl (pc0 := 65) (pc' := 72) rfl (hb hby at_65) rfl (feq (by decide : ¬ ((62 : Int32) = (60 : Int32)))).2 (by decide) (by decide) k) ?_
    show OGo p.tables e below _ (T167.setTop (mkF m 72 #[.val (.int p0), .val (.ref b101), .val (.int (2 : Int32)), .val (.ref r2), .val (.int (0 : Int32)), .val (.ref s2), .unset, .unset] []))
    refine OGo.st (fun t k => XS.iconst X167.here hx rfl (hb hby at_72) k) ?_
    show OGo p.tables e below _ (T167.setTop (mkF m 73 #[.val (.int p0), .val (.ref b101), .val (.int (2 : Int32)), .val (.ref r2), .val (.int (0 : Int32)), .val (.ref s2), .unset, .unset] [(.int (0 : Int32))]))
    refine OGo.st (fun t k => XS.istore X167.here hx rfl (hb hby at_73) rfl (l' := #[.val (.int p0), .val (.ref b101), .val (.int (2 : Int32)), .val (.ref r2), .val (.int (0 : Int32)), .val (.ref s2), .val (.int (0 : Int32)), .unset]) rfl k) ?_
    show OGo p.tables e below _ (T167.setTop (mkF m 75 #[.val (.int p0), .val (.ref b101), .val (.int (2 : Int32)), .val (.ref r2), .val (.int (0 : Int32)), .val (.ref s2), .val (.int (0 : Int32)), .unset] []))
    refine OGo.st (fun t k => XS.iloadN X167.here hx rfl (hb hby at_75) rfl k) ?_
    show OGo p.tables e below _ (T167.setTop (mkF m 76 #[.val (.int p0), .val (.ref b101), .val (.int (2 : Int32)), .val (.ref r2), .val (.int (0 : Int32)), .val (.ref s2), .val (.int (0 : Int32)), .unset] [(.int (2 : Int32))]))
    refine OGo.st (fun t k => XS.iconst X167.here hx rfl (hb hby at_76) k) ?_
    show OGo p.tables e below _ (T167.setTop (mkF m 77 #[.val (.int p0), .val (.ref b101), .val (.int (2 : Int32)), .val (.ref r2), .val (.int (0 : Int32)), .val (.ref s2), .val (.int (0 : Int32)), .unset] [(.int (2 : Int32)), (.int (2 : Int32))]))
    refine OGo.st (fun t k => XS.icmpYes X167.here hx rfl (pc0 := 77) (pc' := 84) rfl (hb hby at_77) rfl (flt (by decide : ¬ ((2 : Int32) < (2 : Int32)))).2.1 (by decide) (by decide) k) ?_
    show OGo p.tables e below _ (T167.setTop (mkF m 84 #[.val (.int p0), .val (.ref b101), .val (.int (2 : Int32)), .val (.ref r2), .val (.int (0 : Int32)), .val (.ref s2), .val (.int (0 : Int32)), .unset] []))
    refine OGo.st (fun t k => XS.iconst X167.here hx rfl (hb hby at_84) k) ?_
    show OGo p.tables e below _ (T167.setTop (mkF m 85 #[.val (.int p0), .val (.ref b101), .val (.int (2 : Int32)), .val (.ref r2), .val (.int (0 : Int32)), .val (.ref s2), .val (.int (0 : Int32)), .unset] [(.int (0 : Int32))]))
    refine OGo.st (fun t k => XS.istore X167.here hx rfl (hb hby at_85) rfl (l' := #[.val (.int p0), .val (.ref b101), .val (.int (2 : Int32)), .val (.ref r2), .val (.int (0 : Int32)), .val (.ref s2), .val (.int (0 : Int32)), .val (.int (0 : Int32))]) rfl k) ?_
    show OGo p.tables e below _ (T167.setTop (mkF m 87 #[.val (.int p0), .val (.ref b101), .val (.int (2 : Int32)), .val (.ref r2), .val (.int (0 : Int32)), .val (.ref s2), .val (.int (0 : Int32)), .val (.int (0 : Int32))] []))
    refine OGo.st (fun t k => XS.iload X167.here hx rfl (hb hby at_87) rfl k) ?_
    show OGo p.tables e below _ (T167.setTop (mkF m 89 #[.val (.int p0), .val (.ref b101), .val (.int (2 : Int32)), .val (.ref r2), .val (.int (0 : Int32)), .val (.ref s2), .val (.int (0 : Int32)), .val (.int (0 : Int32))] [(.int (0 : Int32))]))
    refine OGo.st (fun t k => XS.iload X167.here hx rfl (hb hby at_89) rfl k) ?_
    show OGo p.tables e below _ (T167.setTop (mkF m 91 #[.val (.int p0), .val (.ref b101), .val (.int (2 : Int32)), .val (.ref r2), .val (.int (0 : Int32)), .val (.ref s2), .val (.int (0 : Int32)), .val (.int (0 : Int32))] [(.int (0 : Int32)), (.int (0 : Int32))]))
    refine OGo.st (fun t k => XS.icmpNo X167.here hx rfl (hb hby at_91) rfl (teq (by decide : (0 : Int32) = (0 : Int32))).2 k) ?_
    show OGo p.tables e below _ (T167.setTop (mkF m 94 #[.val (.int p0), .val (.ref b101), .val (.int (2 : Int32)), .val (.ref r2), .val (.int (0 : Int32)), .val (.ref s2), .val (.int (0 : Int32)), .val (.int (0 : Int32))] []))
    refine OGo.st (fun t k => XS.iload X167.here hx rfl (hb hby at_94) rfl k) ?_
    show OGo p.tables e below _ (T167.setTop (mkF m 96 #[.val (.int p0), .val (.ref b101), .val (.int (2 : Int32)), .val (.ref r2), .val (.int (0 : Int32)), .val (.ref s2), .val (.int (0 : Int32)), .val (.int (0 : Int32))] [(.int (0 : Int32))]))
    refine OGo.st (fun t k => XS.iload X167.here hx rfl (hb hby at_96) rfl k) ?_
    show OGo p.tables e below _ (T167.setTop (mkF m 98 #[.val (.int p0), .val (.ref b101), .val (.int (2 : Int32)), .val (.ref r2), .val (.int (0 : Int32)), .val (.ref s2), .val (.int (0 : Int32)), .val (.int (0 : Int32))] [(.int (0 : Int32)), (.int (0 : Int32))]))
    refine OGo.st (fun t k => XS.icmpNo X167.here hx rfl (hb hby at_98) rfl (teq (by decide : (0 : Int32) = (0 : Int32))).2 k) ?_
    show OGo p.tables e below _ (T167.setTop (mkF m 101 #[.val (.int p0), .val (.ref b101), .val (.int (2 : Int32)), .val (.ref r2), .val (.int (0 : Int32)), .val (.ref s2), .val (.int (0 : Int32)), .val (.int (0 : Int32))] []))
    refine OGo.st (fun t k => XS.iconst X167.here hx rfl (hb hby at_101) k) ?_
    show OGo p.tables e below _ (T167.setTop (mkF m 102 #[.val (.int p0), .val (.ref b101), .val (.int (2 : Int32)), .val (.ref r2), .val (.int (0 : Int32)), .val (.ref s2), .val (.int (0 : Int32)), .val (.int (0 : Int32))] [(.int (1 : Int32))]))
    refine OGo.st (fun t k => XS.goto X167.here hx rfl (pc0 := 102) (pc' := 106) rfl (hb hby at_102) (by decide) (by decide) k) ?_
    show OGo p.tables e below _ (T167.setTop (mkF m 106 #[.val (.int p0), .val (.ref b101), .val (.int (2 : Int32)), .val (.ref r2), .val (.int (0 : Int32)), .val (.ref s2), .val (.int (0 : Int32)), .val (.int (0 : Int32))] [(.int (1 : Int32))]))
    obtain ⟨fs, hr, hrun, hended, hW, hsame⟩ := X167.leave (v := some (.int (1 : Int32))) (fun h => by rw [Bd.returns] at h; cases h)
    refine OGo.done (retN X167 hx (t := .boolean) Bd.returns (by simp) (hb hby at_106) hr) ⟨hrun, hended, _, _, rfl, ?_, ⟨_, rfl⟩, hW, hsame.mono (by decide) (by decide)⟩
    show Q24 Z p0 r0 r1 r2 r3 s0 s1 s2 s3 b0 b1 b2 b3 k0 k1 k2 k3 cs fv h0 n0 _ T167.heap _
    rw [e167]
    exact ⟨rfl, N167⟩
  ·
    rw [hn]
    show OGo p.tables e below _ (T121.setTop (mkF m 33 #[.val (.int p0), .val (.ref b101), .val (.int (3 : Int32)), .unset, .unset, .unset, .unset, .unset] []))
    refine OGo.st (fun t k => XS.aloadN X121.here hx rfl (hb hby at_33) rfl rfl k) ?_
    show OGo p.tables e below _ (T121.setTop (mkF m 34 #[.val (.int p0), .val (.ref b101), .val (.int (3 : Int32)), .unset, .unset, .unset, .unset, .unset] [(.ref b101)]))
    refine OGo.st (fun t k => XS.iloadN X121.here hx rfl (hb hby at_34) rfl k) ?_
    show OGo p.tables e below _ (T121.setTop (mkF m 35 #[.val (.int p0), .val (.ref b101), .val (.int (3 : Int32)), .unset, .unset, .unset, .unset, .unset] [(.int (3 : Int32)), (.ref b101)]))
    obtain ⟨cl169, Ar169, qc169, Sz169, Nz169, Hs169, Gs169⟩ := id V121
    have hin169 : ¬ ((3 : Int32) < 0 ∨ cl169.slots.size ≤ ((3 : Int32)).toNatClampNeg) := inb_of Sz169 ⟨by decide, by decide⟩
    have hat169 : cl169.slots[((3 : Int32)).toNatClampNeg]? = some (.ref r3) := Has.at Hs169 hin169 rfl
    refine OGo.st (fun t k => X121.aaload hx (j := (3 : Int32)) (v := (.ref r3)) (by rw [e121]; exact Ar169.1) (State.isArrayOf_alike hZ.alike Ar169.2.1) rfl Ar169.2.2 hin169 hat169 (g := (mkF m 35 #[.val (.int p0), .val (.ref b101), .val (.int (3 : Int32)), .unset, .unset, .unset, .unset, .unset] [(.int (3 : Int32)), (.ref b101)])) rfl rfl (hb hby at_35) _ k) ?_
    show OGo p.tables e below _ (T121.setTop (mkF m 36 #[.val (.int p0), .val (.ref b101), .val (.int (3 : Int32)), .unset, .unset, .unset, .unset, .unset] [(.ref r3)]))
    refine OGo.st (fun t k => XS.astoreN X121.here hx rfl (hb hby at_36) rfl rfl (l' := #[.val (.int p0), .val (.ref b101), .val (.int (3 : Int32)), .val (.ref r3), .unset, .unset, .unset, .unset]) rfl k) ?_
    show OGo p.tables e below _ (T121.setTop (mkF m 37 #[.val (.int p0), .val (.ref b101), .val (.int (3 : Int32)), .val (.ref r3), .unset, .unset, .unset, .unset] []))
    refine OGo.st (fun t k => XS.aloadN X121.here hx rfl (hb hby at_37) rfl rfl k) ?_
    show OGo p.tables e below _ (T121.setTop (mkF m 38 #[.val (.int p0), .val (.ref b101), .val (.int (3 : Int32)), .val (.ref r3), .unset, .unset, .unset, .unset] [(.ref r3)]))
    have G170 : Sta Z h121 "com/example/palamedes/palamedes/req/Relation" "LESS" "Lcom/example/palamedes/palamedes/req/Relation;" (.ref r0) := (Sta.wr W121 (Sta.wr W116 (Sta.wr W111 (Sta.wr W106 G102))))
    have G171 : Sta Z h121 "com/example/palamedes/palamedes/req/Relation" "LESS_OR_EQUAL" "Lcom/example/palamedes/palamedes/req/Relation;" (.ref r1) := (Sta.wr W121 (Sta.wr W116 (Sta.wr W111 G107)))
    have G173 : Exa Z h121 r3 "com/example/palamedes/palamedes/req/Relation" := (Exa.wr W121 G120)
    obtain ⟨cq172, kq172, q172a, q172b, q172c⟩ := isOf hZ e121 G173
    obtain ⟨_, _, ⟨T172, L172, kk172, nn172⟩, -, X172, ⟨Lc172, hQ172, l172, y172, z172⟩, st172⟩ := X121.virtualBack hx (y := (⟨"com/example/palamedes/palamedes/req/Relation", "upper", "()Z"⟩ : MethodName)) (z := (⟨"com/example/palamedes/palamedes/req/Relation", "upper", "()Z"⟩ : MethodName)) hown (mvT hZ (hw _ (List.mem_of_getElem? (i := 12) rfl))) (mvT hZ (hw _ (List.mem_of_getElem? (i := 13) rfl))) (notFace_of_selects (args := #[]) (mvT hZ (hw _ (List.mem_of_getElem? (i := 15) rfl)))) (mvT hZ (hw _ (List.mem_of_getElem? (i := 15) rfl))) (mvT hZ (hw _ (List.mem_of_getElem? (i := 14) rfl))) (by decide) (backOf (W := 0) (rm23 l Z ar hw [] r3 r0 r1 h121 n0 (Nat.le_trans (Nat.le_trans (Nat.le_trans (Nat.le_trans (Nat.le_trans Z0 E101.1) (Keep.of_wr W106).1) (Keep.of_wr W111).1) (Keep.of_wr W116).1) (Keep.of_wr W121).1) G170 G171 (Ne.symm nr03) (Ne.symm nr13)) hZ (hw _ (List.mem_of_getElem? (i := 16) rfl)) (hw _ (List.mem_of_getElem? (i := 3) rfl)) (by decide) (by decide)) q172a q172c (g := (mkF m 38 #[.val (.int p0), .val (.ref b101), .val (.int (3 : Int32)), .val (.ref r3), .unset, .unset, .unset, .unset] [(.ref r3)])) rfl (by rw [hml]; rfl) (Steps.refl _) (argsL := []) (rest := []) (lenOf pd_3 rfl) rfl (by show 2 * 0 + _ ≤ _; exact Nat.le_of_eq rfl) (hb hby at_38) (fun _ _ => ⟨rfl, e121, (by decide : 1 + 0 ≤ _), (by decide : 4 + 0 ≤ _)⟩)
    dsimp only [Pt.U, Pt.locs, Pt.cells, Pt.slots] at X172 l172 y172 z172 st172 hQ172
    subst l172 y172 z172
    obtain ⟨rfl, Nq172, hh172⟩ := hQ172
    have N172 := Fr.app N121 Nq172
    refine OGo.st (fun t k => st172.trans k) ?_
    have e172 : T172.heap = h121 := hh172
    show OGo p.tables e below _ (T172.setTop (mkF m 41 #[.val (.int p0), .val (.ref b101), .val (.int (3 : Int32)), .val (.ref r3), .unset, .unset, .unset, .unset] [(.int (0 : Int32))]))
    refine OGo.st (fun t k => XS.istore X172.here hx rfl (hb hby at_41) rfl (l' := #[.val (.int p0), .val (.ref b101), .val (.int (3 : Int32)), .val (.ref r3), .val (.int (0 : Int32)), .unset, .unset, .unset]) rfl k) ?_
    show OGo p.tables e below _ (T172.setTop (mkF m 43 #[.val (.int p0), .val (.ref b101), .val (.int (3 : Int32)), .val (.ref r3), .val (.int (0 : Int32)), .unset, .unset, .unset] []))
    refine OGo.st (fun t k => XS.aloadN X172.here hx rfl (hb hby at_43) rfl rfl k) ?_
    show OGo p.tables e below _ (T172.setTop (mkF m 44 #[.val (.int p0), .val (.ref b101), .val (.int (3 : Int32)), .val (.ref r3), .val (.int (0 : Int32)), .unset, .unset, .unset] [(.ref r3)]))
    have G174 : Fld Z h121 r3 "com/example/palamedes/palamedes/req/Relation" "symbol" "Ljava/lang/String;" (.ref s3) := (Fld.other W121 (Fld.other W116 (Fld.other W111 (Fld.other W106 (Fld.ext E101 FS3) (Or.inl ne_r3_b101)) (Or.inl ne_r3_b101)) (Or.inl ne_r3_b101)) (Or.inl ne_r3_b101))
    obtain ⟨cq175, kq175, q175a, q175b, q175c⟩ := isOf hZ e172 G173
    obtain ⟨_, _, ⟨T175, L175, kk175, nn175⟩, -, X175, ⟨Lc175, hQ175, l175, y175, z175⟩, st175⟩ := X172.virtualBack hx (y := (⟨"com/example/palamedes/palamedes/req/Relation", "symbol", "()Ljava/lang/String;"⟩ : MethodName)) (z := (⟨"com/example/palamedes/palamedes/req/Relation", "symbol", "()Ljava/lang/String;"⟩ : MethodName)) hown (mvT hZ (hw _ (List.mem_of_getElem? (i := 18) rfl))) (mvT hZ (hw _ (List.mem_of_getElem? (i := 19) rfl))) (notFace_of_selects (args := #[]) (mvT hZ (hw _ (List.mem_of_getElem? (i := 21) rfl)))) (mvT hZ (hw _ (List.mem_of_getElem? (i := 21) rfl))) (mvT hZ (hw _ (List.mem_of_getElem? (i := 20) rfl))) (by decide) (backOf (W := 0) (rm20 l Z ar hw [] r3 s3 h121 n0 (Nat.le_trans (Nat.le_trans (Nat.le_trans (Nat.le_trans (Nat.le_trans Z0 E101.1) (Keep.of_wr W106).1) (Keep.of_wr W111).1) (Keep.of_wr W116).1) (Keep.of_wr W121).1) G174) hZ (hw _ (List.mem_of_getElem? (i := 22) rfl)) (hw _ (List.mem_of_getElem? (i := 3) rfl)) (by decide) (by decide)) q175a q175c (g := (mkF m 44 #[.val (.int p0), .val (.ref b101), .val (.int (3 : Int32)), .val (.ref r3), .val (.int (0 : Int32)), .unset, .unset, .unset] [(.ref r3)])) rfl (by rw [hml]; rfl) (Steps.refl _) (argsL := []) (rest := []) (lenOf pd_5 rfl) rfl (by show 2 * 0 + _ ≤ _; exact Nat.le_of_eq rfl) (hb hby at_44) (fun _ _ => ⟨rfl, e172, (by decide : 1 + 0 ≤ _), (by decide : 4 + 0 ≤ _)⟩)
    dsimp only [Pt.U, Pt.locs, Pt.cells, Pt.slots] at X175 l175 y175 z175 st175 hQ175
    subst l175 y175 z175
    obtain ⟨rfl, Nq175, hh175⟩ := hQ175
    have N175 := Fr.app N172 Nq175
    refine OGo.st (fun t k => st175.trans k) ?_
    have e175 : T175.heap = h121 := hh175
    show OGo p.tables e below _ (T175.setTop (mkF m 47 #[.val (.int p0), .val (.ref b101), .val (.int (3 : Int32)), .val (.ref r3), .val (.int (0 : Int32)), .unset, .unset, .unset] [(.ref s3)]))
    refine OGo.st (fun t k => XS.astore X175.here hx rfl (hb hby at_47) rfl rfl (l' := #[.val (.int p0), .val (.ref b101), .val (.int (3 : Int32)), .val (.ref r3), .val (.int (0 : Int32)), .val (.ref s3), .unset, .unset]) rfl k) ?_
    show OGo p.tables e below _ (T175.setTop (mkF m 49 #[.val (.int p0), .val (.ref b101), .val (.int (3 : Int32)), .val (.ref r3), .val (.int (0 : Int32)), .val (.ref s3), .unset, .unset] []))
    refine OGo.st (fun t k => XS.aload X175.here hx rfl (hb hby at_49) rfl rfl k) ?_
    show OGo p.tables e below _ (T175.setTop (mkF m 51 #[.val (.int p0), .val (.ref b101), .val (.int (3 : Int32)), .val (.ref r3), .val (.int (0 : Int32)), .val (.ref s3), .unset, .unset] [(.ref s3)]))
    have G176 : Fld Z h121 s3 "java/lang/String" "value" "[B" (.ref b3) := (Fld.other W121 (Fld.other W116 (Fld.other W111 (Fld.other W106 (Fld.ext E101 FV3) (Or.inl ne_s3_b101)) (Or.inl ne_s3_b101)) (Or.inl ne_s3_b101)) (Or.inl ne_s3_b101))
    have G177 : Fld Z h121 s3 "java/lang/String" "coder" "B" (.int (0 : Int32)) := (Fld.other W121 (Fld.other W116 (Fld.other W111 (Fld.other W106 (Fld.ext E101 FC3) (Or.inl ne_s3_b101)) (Or.inl ne_s3_b101)) (Or.inl ne_s3_b101)) (Or.inl ne_s3_b101))
    have G178 : Arv Z h121 b3 k3 .byte (1 : Int32) [(.int (62 : Int32))] (.int (0 : Int32)) := (((((AV3.ext E101).other W106 ne_b3_b101).other W111 ne_b3_b101).other W116 ne_b3_b101).other W121 ne_b3_b101)
    have G179 : Exa Z h121 s3 "java/lang/String" := (Exa.wr W121 (Exa.wr W116 (Exa.wr W111 (Exa.wr W106 (Exa.ext E101 ES3)))))
    have G180 : Sta Z h121 "java/lang/String" "COMPACT_STRINGS" "Z" (.int cs) := (Sta.wr W121 (Sta.wr W116 (Sta.wr W111 (Sta.wr W106 (Sta.ext E101 S_cs)))))
    obtain ⟨cq181, kq181, q181a, q181b, q181c⟩ := isOf hZ e175 G179
    obtain ⟨_, _, ⟨T181, L181, kk181, nn181⟩, -, X181, ⟨Lc181, hQ181, l181, y181, z181⟩, st181⟩ := X175.virtualBack hx (y := (⟨"java/lang/String", "length", "()I"⟩ : MethodName)) (z := (⟨"java/lang/String", "length", "()I"⟩ : MethodName)) hown (mvT hZ (hw _ (List.mem_of_getElem? (i := 25) rfl))) (mvT hZ (hw _ (List.mem_of_getElem? (i := 26) rfl))) (notFace_of_selects (args := #[]) (mvT hZ (hw _ (List.mem_of_getElem? (i := 28) rfl)))) (mvT hZ (hw _ (List.mem_of_getElem? (i := 28) rfl))) (mvT hZ (hw _ (List.mem_of_getElem? (i := 27) rfl))) (by decide) (backOf (W := 0) (rm17 l Z ar hw [] s3 b3 k3 cs h121 n0 (Nat.le_trans (Nat.le_trans (Nat.le_trans (Nat.le_trans (Nat.le_trans Z0 E101.1) (Keep.of_wr W106).1) (Keep.of_wr W111).1) (Keep.of_wr W116).1) (Keep.of_wr W121).1) G176 G177 G178 G179 G180 hcs) hZ (hw _ (List.mem_of_getElem? (i := 30) rfl)) (hw _ (List.mem_of_getElem? (i := 29) rfl)) (by decide) (by decide)) q181a q181c (g := (mkF m 51 #[.val (.int p0), .val (.ref b101), .val (.int (3 : Int32)), .val (.ref r3), .val (.int (0 : Int32)), .val (.ref s3), .unset, .unset] [(.ref s3)])) rfl (by rw [hml]; rfl) (Steps.refl _) (argsL := []) (rest := []) (lenOf pd_6 rfl) rfl (by show 2 * 0 + _ ≤ _; exact Nat.le_of_eq rfl) (hb hby at_51) (fun _ _ => ⟨rfl, e175, (by decide : 1 + 0 ≤ _), (by decide : 4 + 0 ≤ _)⟩)
    dsimp only [Pt.U, Pt.locs, Pt.cells, Pt.slots] at X181 l181 y181 z181 st181 hQ181
    subst l181 y181 z181
    obtain ⟨rfl, Nq181, hh181⟩ := hQ181
    have N181 := Fr.app N175 Nq181
    refine OGo.st (fun t k => st181.trans k) ?_
    have e181 : T181.heap = h121 := hh181
    show OGo p.tables e below _ (T181.setTop (mkF m 54 #[.val (.int p0), .val (.ref b101), .val (.int (3 : Int32)), .val (.ref r3), .val (.int (0 : Int32)), .val (.ref s3), .unset, .unset] [(.int (1 : Int32))]))
    refine OGo.st (fun t k => XS.ifNo X181.here hx rfl (hb hby at_54) rfl ((if0 _ _).trans (tlt (by decide : (0 : Int32) < (1 : Int32))).2.2.2) k) ?_
    show OGo p.tables e below _ (T181.setTop (mkF m 57 #[.val (.int p0), .val (.ref b101), .val (.int (3 : Int32)), .val (.ref r3), .val (.int (0 : Int32)), .val (.ref s3), .unset, .unset] []))
    refine OGo.st (fun t k => XS.aload X181.here hx rfl (hb hby at_57) rfl rfl k) ?_
    show OGo p.tables e below _ (T181.setTop (mkF m 59 #[.val (.int p0), .val (.ref b101), .val (.int (3 : Int32)), .val (.ref r3), .val (.int (0 : Int32)), .val (.ref s3), .unset, .unset] [(.ref s3)]))
    refine OGo.st (fun t k => XS.iconst X181.here hx rfl (hb hby at_59) k) ?_
    show OGo p.tables e below _ (T181.setTop (mkF m 60 #[.val (.int p0), .val (.ref b101), .val (.int (3 : Int32)), .val (.ref r3), .val (.int (0 : Int32)), .val (.ref s3), .unset, .unset] [(.int (0 : Int32)), (.ref s3)]))
    have G182 : Sta Z h121 "jdk/internal/util/Preconditions" "SIOOBE_FORMATTER" "Ljava/util/function/BiFunction;" fv := (Sta.wr W121 (Sta.wr W116 (Sta.wr W111 (Sta.wr W106 (Sta.ext E101 S_fv)))))
    obtain ⟨cq183, kq183, q183a, q183b, q183c⟩ := isOf hZ e181 G179
    obtain ⟨_, _, ⟨T183, L183, kk183, nn183⟩, -, X183, ⟨Lc183, hQ183, l183, y183, z183⟩, st183⟩ := X181.virtualBack hx (y := (⟨"java/lang/String", "charAt", "(I)C"⟩ : MethodName)) (z := (⟨"java/lang/String", "charAt", "(I)C"⟩ : MethodName)) hown (mvT hZ (hw _ (List.mem_of_getElem? (i := 41) rfl))) (mvT hZ (hw _ (List.mem_of_getElem? (i := 42) rfl))) (notFace_of_selects (args := #[]) (mvT hZ (hw _ (List.mem_of_getElem? (i := 44) rfl)))) (mvT hZ (hw _ (List.mem_of_getElem? (i := 44) rfl))) (mvT hZ (hw _ (List.mem_of_getElem? (i := 43) rfl))) (by decide) (backOf (W := 0) (rm19 l Z ar hw [] s3 b3 k3 cs fv h121 n0 (Nat.le_trans (Nat.le_trans (Nat.le_trans (Nat.le_trans (Nat.le_trans Z0 E101.1) (Keep.of_wr W106).1) (Keep.of_wr W111).1) (Keep.of_wr W116).1) (Keep.of_wr W121).1) G176 G177 G178 G179 G180 hcs G182 hfv) hZ (hw _ (List.mem_of_getElem? (i := 45) rfl)) (hw _ (List.mem_of_getElem? (i := 29) rfl)) (by decide) (by decide)) q183a q183c (g := (mkF m 60 #[.val (.int p0), .val (.ref b101), .val (.int (3 : Int32)), .val (.ref r3), .val (.int (0 : Int32)), .val (.ref s3), .unset, .unset] [(.int (0 : Int32)), (.ref s3)])) rfl (by rw [hml]; rfl) (Steps.refl _) (argsL := [(.int (0 : Int32))]) (rest := []) (lenOf pd_7 rfl) rfl (by show 2 * 0 + _ ≤ _; exact Nat.le_of_eq rfl) (hb hby at_60) (fun _ _ => ⟨rfl, e181, (by decide : 1 + 0 ≤ _), (by decide : 4 + 0 ≤ _)⟩)
    dsimp only [Pt.U, Pt.locs, Pt.cells, Pt.slots] at X183 l183 y183 z183 st183 hQ183
    subst l183 y183 z183
    obtain ⟨rfl, Nq183, hh183⟩ := hQ183
    have N183 := Fr.app N181 Nq183
    refine OGo.st (fun t k => st183.trans k) ?_
    have e183 : T183.heap = h121 := hh183
    show OGo p.tables e below _ (T183.setTop (mkF m 63 #[.val (.int p0), .val (.ref b101), .val (.int (3 : Int32)), .val (.ref r3), .val (.int (0 : Int32)), .val (.ref s3), .unset, .unset] [(.int (62 : Int32))]))
    refine OGo.st (fun t k => XS.bipush X183.here hx rfl (hb hby at_63) k) ?_
    show OGo p.tables e below _ (T183.setTop (mkF m 65 #[.val (.int p0), .val (.ref b101), .val (.int (3 : Int32)), .val (.ref r3), .val (.int (0 : Int32)), .val (.ref s3), .unset, .unset] [(.int (60 : Int32)), (.int (62 : Int32))]))
    refine OGo.st (fun t k => XS.icmpYes X183.here hx rfl (pc0 := 65) (pc' := 72) rfl (hb hby at_65) rfl (feq (by decide : ¬ ((62 : Int32) = (60 : Int32)))).2 (by decide) (by decide) k) ?_
    show OGo p.tables e below _ (T183.setTop (mkF m 72 #[.val (.int p0), .val (.ref b101), .val (.int (3 : Int32)), .val (.ref r3), .val (.int (0 : Int32)), .val (.ref s3), .unset, .unset] []))
    refine OGo.st (fun t k => XS.iconst X183.here hx rfl (hb hby at_72) k) ?_
    show OGo p.tables e below _ (T183.setTop (mkF m 73 #[.val (.int p0), .val (.ref b101), .val (.int (3 : Int32)), .val (.ref r3), .val (.int (0 : Int32)), .val (.ref s3), .unset, .unset] [(.int (0 : Int32))]))
    refine OGo.st (fun t k => XS.istore X183.here hx rfl (hb hby at_73) rfl (l' := #[.val (.int p0), .val (.ref b101), .val (.int (3 : Int32)), .val (.ref r3), .val (.int (0 : Int32)), .val (.ref s3), .val (.int (0 : Int32)), .unset]) rfl k) ?_
    show OGo p.tables e below _ (T183.setTop (mkF m 75 #[.val (.int p0), .val (.ref b101), .val (.int (3 : Int32)), .val (.ref r3), .val (.int (0 : Int32)), .val (.ref s3), .val (.int (0 : Int32)), .unset] []))
    refine OGo.st (fun t k => XS.iloadN X183.here hx rfl (hb hby at_75) rfl k) ?_
    show OGo p.tables e below _ (T183.setTop (mkF m 76 #[.val (.int p0), .val (.ref b101), .val (.int (3 : Int32)), .val (.ref r3), .val (.int (0 : Int32)), .val (.ref s3), .val (.int (0 : Int32)), .unset] [(.int (3 : Int32))]))
    refine OGo.st (fun t k => XS.iconst X183.here hx rfl (hb hby at_76) k) ?_
    show OGo p.tables e below _ (T183.setTop (mkF m 77 #[.val (.int p0), .val (.ref b101), .val (.int (3 : Int32)), .val (.ref r3), .val (.int (0 : Int32)), .val (.ref s3), .val (.int (0 : Int32)), .unset] [(.int (2 : Int32)), (.int (3 : Int32))]))
    refine OGo.st (fun t k => XS.icmpYes X183.here hx rfl (pc0 := 77) (pc' := 84) rfl (hb hby at_77) rfl (flt (by decide : ¬ ((3 : Int32) < (2 : Int32)))).2.1 (by decide) (by decide) k) ?_
    show OGo p.tables e below _ (T183.setTop (mkF m 84 #[.val (.int p0), .val (.ref b101), .val (.int (3 : Int32)), .val (.ref r3), .val (.int (0 : Int32)), .val (.ref s3), .val (.int (0 : Int32)), .unset] []))
    refine OGo.st (fun t k => XS.iconst X183.here hx rfl (hb hby at_84) k) ?_
    show OGo p.tables e below _ (T183.setTop (mkF m 85 #[.val (.int p0), .val (.ref b101), .val (.int (3 : Int32)), .val (.ref r3), .val (.int (0 : Int32)), .val (.ref s3), .val (.int (0 : Int32)), .unset] [(.int (0 : Int32))]))
    refine OGo.st (fun t k => XS.istore X183.here hx rfl (hb hby at_85) rfl (l' := #[.val (.int p0), .val (.ref b101), .val (.int (3 : Int32)), .val (.ref r3), .val (.int (0 : Int32)), .val (.ref s3), .val (.int (0 : Int32)), .val (.int (0 : Int32))]) rfl k) ?_
    show OGo p.tables e below _ (T183.setTop (mkF m 87 #[.val (.int p0), .val (.ref b101), .val (.int (3 : Int32)), .val (.ref r3), .val (.int (0 : Int32)), .val (.ref s3), .val (.int (0 : Int32)), .val (.int (0 : Int32))] []))
    refine OGo.st (fun t k => XS.iload X183.here hx rfl (hb hby at_87) rfl k) ?_
    show OGo p.tables e below _ (T183.setTop (mkF m 89 #[.val (.int p0), .val (.ref b101), .val (.int (3 : Int32)), .val (.ref r3), .val (.int (0 : Int32)), .val (.ref s3), .val (.int (0 : Int32)), .val (.int (0 : Int32))] [(.int (0 : Int32))]))
    refine OGo.st (fun t k => XS.iload X183.here hx rfl (hb hby at_89) rfl k) ?_
    show OGo p.tables e below _ (T183.setTop (mkF m 91 #[.val (.int p0), .val (.ref b101), .val (.int (3 : Int32)), .val (.ref r3), .val (.int (0 : Int32)), .val (.ref s3), .val (.int (0 : Int32)), .val (.int (0 : Int32))] [(.int (0 : Int32)), (.int (0 : Int32))]))
    refine OGo.st (fun t k => XS.icmpNo X183.here hx rfl (hb hby at_91) rfl (teq (by decide : (0 : Int32) = (0 : Int32))).2 k) ?_
    show OGo p.tables e below _ (T183.setTop (mkF m 94 #[.val (.int p0), .val (.ref b101), .val (.int (3 : Int32)), .val (.ref r3), .val (.int (0 : Int32)), .val (.ref s3), .val (.int (0 : Int32)), .val (.int (0 : Int32))] []))
    refine OGo.st (fun t k => XS.iload X183.here hx rfl (hb hby at_94) rfl k) ?_
    show OGo p.tables e below _ (T183.setTop (mkF m 96 #[.val (.int p0), .val (.ref b101), .val (.int (3 : Int32)), .val (.ref r3), .val (.int (0 : Int32)), .val (.ref s3), .val (.int (0 : Int32)), .val (.int (0 : Int32))] [(.int (0 : Int32))]))
    refine OGo.st (fun t k => XS.iload X183.here hx rfl (hb hby at_96) rfl k) ?_
    show OGo p.tables e below _ (T183.setTop (mkF m 98 #[.val (.int p0), .val (.ref b101), .val (.int (3 : Int32)), .val (.ref r3), .val (.int (0 : Int32)), .val (.ref s3), .val (.int (0 : Int32)), .val (.int (0 : Int32))] [(.int (0 : Int32)), (.int (0 : Int32))]))
    refine OGo.st (fun t k => XS.icmpNo X183.here hx rfl (hb hby at_98) rfl (teq (by decide : (0 : Int32) = (0 : Int32))).2 k) ?_
    show OGo p.tables e below _ (T183.setTop (mkF m 101 #[.val (.int p0), .val (.ref b101), .val (.int (3 : Int32)), .val (.ref r3), .val (.int (0 : Int32)), .val (.ref s3), .val (.int (0 : Int32)), .val (.int (0 : Int32))] []))
    refine OGo.st (fun t k => XS.iconst X183.here hx rfl (hb hby at_101) k) ?_
    show OGo p.tables e below _ (T183.setTop (mkF m 102 #[.val (.int p0), .val (.ref b101), .val (.int (3 : Int32)), .val (.ref r3), .val (.int (0 : Int32)), .val (.ref s3), .val (.int (0 : Int32)), .val (.int (0 : Int32))] [(.int (1 : Int32))]))
    refine OGo.st (fun t k => XS.goto X183.here hx rfl (pc0 := 102) (pc' := 106) rfl (hb hby at_102) (by decide) (by decide) k) ?_
    show OGo p.tables e below _ (T183.setTop (mkF m 106 #[.val (.int p0), .val (.ref b101), .val (.int (3 : Int32)), .val (.ref r3), .val (.int (0 : Int32)), .val (.ref s3), .val (.int (0 : Int32)), .val (.int (0 : Int32))] [(.int (1 : Int32))]))
    obtain ⟨fs, hr, hrun, hended, hW, hsame⟩ := X183.leave (v := some (.int (1 : Int32))) (fun h => by rw [Bd.returns] at h; cases h)
    refine OGo.done (retN X183 hx (t := .boolean) Bd.returns (by simp) (hb hby at_106) hr) ⟨hrun, hended, _, _, rfl, ?_, ⟨_, rfl⟩, hW, hsame.mono (by decide) (by decide)⟩
    show Q24 Z p0 r0 r1 r2 r3 s0 s1 s2 s3 b0 b1 b2 b3 k0 k1 k2 k3 cs fv h0 n0 _ T183.heap _
    rw [e183]
    exact ⟨rfl, N183⟩
set_option maxRecDepth 65536 in
set_option maxHeartbeats 40000000 in
theorem comes_1 {Post : Tables → Env → Array Value → State → Outcome → State → Prop} (hpost : ∀ tb e args s v u, (limb_1_1.after args s (.returned v) u = true ∧ limb_1_2.after args s (.returned v) u = true ∧ True) → FrameEnd s (.returned v) u (Jvm.fieldLocs frame_1_writes args s ++ Jvm.arrayLocs frame_1_arrays args s ++ Jvm.staticLocs frame_1_statics s) 16 128 → Post tb e args s (.returned v) u) :
    ArmFor flags0 classFile x code maxLocals ret World_1 tables_1 room_1 Calls_1 rest_1 Pre_1 Post := by
  intro l hfl _ _ p e ha hc hk s m args below hf hA hF happ hP
  obtain ⟨hcalls, hrest, hpre⟩ := hP
  obtain ⟨-, -, -, hnamed, -, -, -, hat⟩ := (Spec.applies_iff hf).mp happ
  obtain ⟨hg, hn⟩ := and_e (Cond.before_iff.mp (show (Jvm.Cond.and given_1 narrow_1).before args s = true from hpre))
  obtain ⟨gc, gr0⟩ := and_e hg
  have g_0 := gr0
  obtain ⟨w0, rfl⟩ : ∃ w0 : Value, args = #[w0] := by
    have hs : args.size = 1 := by simpa [Cond.value, given_1] using gc
    obtain ⟨L⟩ := args
    match L, hs with
    | [w0], _ => exact ⟨w0, rfl⟩
  have hw := fun d (hd : d ∈ tables_1) => atoms_spec (ws := Jvm.Cond.code x code maxLocals ret :: tables_1) hat d (List.mem_cons_of_mem _ hd)
  have hfit : Fit s := fun {y c} hc i hi => by
    obtain ⟨ha, rfl⟩ := Array.getElem?_eq_some_iff.mp hc
    have q := List.all_eq_true.mp ((Array.all_eq_true_iff_forall_mem.mp hF) _ (Array.getElem_mem ha)) i (List.mem_range.mpr hi)
    simpa [Array.getElem?_eq_getElem hi] using q
  obtain ⟨i0, ei0⟩ := is_v g_0
  obtain rfl : w0 = (.int i0) := Option.some.inj ei0
  obtain ⟨m0, mr0⟩ := and_e hn
  obtain ⟨m1, mr1⟩ := and_e mr0
  obtain ⟨m2, mr2⟩ := and_e mr1
  obtain ⟨m3, mr3⟩ := and_e mr2
  obtain ⟨m4, mr4⟩ := and_e mr3
  obtain ⟨m5, mr5⟩ := and_e mr4
  obtain ⟨m6, mr6⟩ := and_e mr5
  obtain ⟨m7, mr7⟩ := and_e mr6
  obtain ⟨m8, mr8⟩ := and_e mr7
  obtain ⟨m9, mr9⟩ := and_e mr8
  obtain ⟨m10, mr10⟩ := and_e mr9
  obtain ⟨m11, mr11⟩ := and_e mr10
  obtain ⟨m12, mr12⟩ := and_e mr11
  obtain ⟨m13, mr13⟩ := and_e mr12
  obtain ⟨m14, mr14⟩ := and_e mr13
  obtain ⟨m15, mr15⟩ := and_e mr14
  obtain ⟨m16, mr16⟩ := and_e mr15
  obtain ⟨m17, mr17⟩ := and_e mr16
  obtain ⟨m18, mr18⟩ := and_e mr17
  obtain ⟨m19, mr19⟩ := and_e mr18
  obtain ⟨m20, mr20⟩ := and_e mr19
  obtain ⟨m21, mr21⟩ := and_e mr20
  obtain ⟨m22, mr22⟩ := and_e mr21
  obtain ⟨m23, mr23⟩ := and_e mr22
  obtain ⟨m24, mr24⟩ := and_e mr23
  obtain ⟨m25, mr25⟩ := and_e mr24
  obtain ⟨m26, mr26⟩ := and_e mr25
  obtain ⟨m27, mr27⟩ := and_e mr26
  obtain ⟨m28, mr28⟩ := and_e mr27
  obtain ⟨hsets, hown0⟩ := atoms_of _ (rest_1_c_eq ▸ (show rest_1_c.before _ s = true from hrest))
  obtain ⟨cs, ecs⟩ := is_v (Cond.before_iff.mp (hsets _ (List.mem_of_getElem? (i := 1) rfl)))
  have S_cs : Sta s s.heap "java/lang/String" "COMPACT_STRINGS" "Z" (.int cs) := Sta.start ecs (Or.inl (hsets _ (List.mem_of_getElem? (i := 0) rfl)))
  have hcs : ¬ cs = (0 : Int32) := gotF (Cond.eq_ints ecs (Term.int_eval 0)) (not_v (Cond.before_iff.mp (hsets _ (List.mem_of_getElem? (i := 2) rfl))))
  obtain ⟨fv, efv, hfv⟩ := isR_v (Cond.before_iff.mp (hsets _ (List.mem_of_getElem? (i := 8) rfl)))
  have S_fv : Sta s s.heap "jdk/internal/util/Preconditions" "SIOOBE_FORMATTER" "Ljava/util/function/BiFunction;" fv := Sta.start efv (Or.inl (hsets _ (List.mem_of_getElem? (i := 7) rfl)))
  obtain ⟨r0, er0⟩ := exa_v m0
  have ER0 := Exa.start er0 m0
  have S0 : Sta s s.heap "com/example/palamedes/palamedes/req/Relation" "LESS" "Lcom/example/palamedes/palamedes/req/Relation;" (.ref r0) := Sta.start er0 (Or.inr ⟨(hw _ (List.mem_of_getElem? (i := 3) rfl)), (hw _ (List.mem_of_getElem? (i := 4) rfl))⟩)
  have OR0 := own_fint er0 m10
  obtain ⟨s0, es0, FS0, ES0⟩ := own_sym er0 m4
  obtain ⟨b0, c0, eb0, FV0, A0⟩ := own_val es0 m5
  have FC0 := own_fint es0 m7
  obtain ⟨q0, z0⟩ := own_lenv eb0 A0 m6
  have AV0 : Arv s s.heap b0 c0.cls .byte (1 : Int32) [(.int (60 : Int32))] (.int (0 : Int32)) := Arv.start hfit A0 q0 z0 (by decide) (by decide) ⟨own_elv eb0 A0 m8, trivial⟩
  obtain ⟨r1, er1⟩ := exa_v m1
  have ER1 := Exa.start er1 m1
  have S1 : Sta s s.heap "com/example/palamedes/palamedes/req/Relation" "LESS_OR_EQUAL" "Lcom/example/palamedes/palamedes/req/Relation;" (.ref r1) := Sta.start er1 (Or.inr ⟨(hw _ (List.mem_of_getElem? (i := 3) rfl)), (hw _ (List.mem_of_getElem? (i := 7) rfl))⟩)
  have OR1 := own_fint er1 m11
  obtain ⟨s1, es1, FS1, ES1⟩ := own_sym er1 m23
  obtain ⟨b1, c1, eb1, FV1, A1⟩ := own_val es1 m24
  have FC1 := own_fint es1 m26
  obtain ⟨q1, z1⟩ := own_lenv eb1 A1 m25
  have AV1 : Arv s s.heap b1 c1.cls .byte (2 : Int32) [(.int (60 : Int32)), (.int (61 : Int32))] (.int (0 : Int32)) := Arv.start hfit A1 q1 z1 (by decide) (by decide) ⟨own_elv eb1 A1 m27, own_elv eb1 A1 mr28, trivial⟩
  obtain ⟨r2, er2⟩ := exa_v m2
  have ER2 := Exa.start er2 m2
  have S2 : Sta s s.heap "com/example/palamedes/palamedes/req/Relation" "GREATER_OR_EQUAL" "Lcom/example/palamedes/palamedes/req/Relation;" (.ref r2) := Sta.start er2 (Or.inr ⟨(hw _ (List.mem_of_getElem? (i := 3) rfl)), (hw _ (List.mem_of_getElem? (i := 9) rfl))⟩)
  have OR2 := own_fint er2 m17
  obtain ⟨s2, es2, FS2, ES2⟩ := own_sym er2 m18
  obtain ⟨b2, c2, eb2, FV2, A2⟩ := own_val es2 m19
  have FC2 := own_fint es2 m21
  obtain ⟨q2, z2⟩ := own_lenv eb2 A2 m20
  have AV2 : Arv s s.heap b2 c2.cls .byte (2 : Int32) [(.int (62 : Int32)), (.int (61 : Int32))] (.int (0 : Int32)) := Arv.start hfit A2 q2 z2 (by decide) (by decide) ⟨own_elv eb2 A2 m22, own_elv eb2 A2 m28, trivial⟩
  obtain ⟨r3, er3⟩ := exa_v m3
  have ER3 := Exa.start er3 m3
  have S3 : Sta s s.heap "com/example/palamedes/palamedes/req/Relation" "GREATER" "Lcom/example/palamedes/palamedes/req/Relation;" (.ref r3) := Sta.start er3 (Or.inr ⟨(hw _ (List.mem_of_getElem? (i := 3) rfl)), (hw _ (List.mem_of_getElem? (i := 11) rfl))⟩)
  have OR3 := own_fint er3 m9
  obtain ⟨s3, es3, FS3, ES3⟩ := own_sym er3 m12
  obtain ⟨b3, c3, eb3, FV3, A3⟩ := own_val es3 m13
  have FC3 := own_fint es3 m15
  obtain ⟨q3, z3⟩ := own_lenv eb3 A3 m14
  have AV3 : Arv s s.heap b3 c3.cls .byte (1 : Int32) [(.int (62 : Int32))] (.int (0 : Int32)) := Arv.start hfit A3 q3 z3 (by decide) (by decide) ⟨own_elv eb3 A3 m16, trivial⟩
  have nr01 : r0 ≠ r1 := Fld.ne OR0 OR1 (by decide)
  have nr02 : r0 ≠ r2 := Fld.ne OR0 OR2 (by decide)
  have nr03 : r0 ≠ r3 := Fld.ne OR0 OR3 (by decide)
  have nr12 : r1 ≠ r2 := Fld.ne OR1 OR2 (by decide)
  have nr13 : r1 ≠ r3 := Fld.ne OR1 OR3 (by decide)
  have nr23 : r2 ≠ r3 := Fld.ne OR2 OR3 (by decide)
  obtain ⟨n, o, h1, h2, h3, _, L, rfl, ⟨rfl, N⟩, hq⟩ := rm24 l s _ hw tables_1 i0 r0 r1 r2 r3 s0 s1 s2 s3 b0 b1 b2 b3 c0.cls c1.cls c2.cls c3.cls cs fv s.heap s.heap.size (Nat.le_refl _) S_cs hcs S_fv hfv S0 ER0 FS0 ES0 FV0 FC0 AV0 S1 ER1 FS1 ES1 FV1 FC1 AV1 S2 ER2 FS2 ES2 FV2 FC2 AV2 S3 ER3 FS3 ES3 FV3 FC3 AV3 nr01 nr02 nr03 nr12 nr13 nr23 p e ha hc hk s m _ below hf ((Spec.applies_iff_loose hf).mp happ).1 ⟨rfl, State.Warmed39.refl s, rfl⟩ trivial
  refine ⟨n, _, h1, h2, h3, hpost _ _ _ _ _ _ ⟨Cond.after_iff.mpr rfl, Cond.after_iff.mpr (eq_i res_at (Term.int_eval (1)) rfl), trivial⟩ ⟨hq.1, hq.2.1, (hq.2.2.sift fun y hy => Or.inr (N y hy)).mono (by decide) (by decide)⟩⟩
theorem main_1_1 : Claimed_1_1 := comes_1 fun _ _ _ _ _ _ h hF => ⟨h.1, hF⟩
theorem main_1_2 : Claimed_1_2 := comes_1 fun _ _ _ _ _ _ h hF => ⟨h.2.1, hF⟩
end Jvm.Pilot.@@N@@
namespace Jvm.Pilot.@@N@@
open Jvm Jvm.ClassFile Sem Op Lib Jvm.Free Jvm.Stand Jvm.Pilot.@@N@@.Jvm.D
/-! MADE BY PROGRAM (witnessworld.py) out of the Statement's table words and the real class files: 19 classes; the members and pool entries that the words name. The judged class is class 1, her method 1. -/
namespace start1
open Jvm.ClassFile
def u (s : String) : CpInfo := .utf8 (stringToUtf16 s)
/-- a pool by its gaps: so many unusable entries, then the entry; so many at the end -/
def gap : Nat → List CpInfo → List CpInfo
  | 0, r => r
  | n + 1, r => .unusable :: gap n r
def poolList (es : List (Nat × CpInfo)) (last : Nat) : List CpInfo := es.foldr (fun e r => gap e.1 (e.2 :: r)) (gap last [])
def pool (es : List (Nat × CpInfo)) (last : Nat) : Array CpInfo := ⟨poolList es last⟩
def fileOf (pool : Array CpInfo) (this : Nat) (attrs : Array Attribute := #[]) (ms : Array MethodInfo := #[]) (fl : Nat := 33) (sup : Nat := 0) (ifs : Array Nat := #[]) (fds : Array FieldInfo := #[]) : ClassFile where
  minorVersion := 0
  majorVersion := 65
  constantPool := pool
  accessFlags := fl
  thisClass := this
  superClass := sup
  interfaces := ifs
  fields := fds
  methods := ms
  attributes := attrs
def plain (name : String) (sup : Option ClassId) : Class where
  name := name
  kind := .ordinary
  loader := none
  accessFlags := 33
  super := sup
  interfaces := #[]
  cf := none
  fields := #[]
  methods := #[]
  instanceTypes := #[]
  staticTypes := #[]
  resolved := #[]
  callSites := []
  init := .initialized
  statics := none
  mirror := none

def pool0 : Array CpInfo := pool [(5, u "<init>"), (0, u "()V"), (1, .class_ 10), (1, u "java/lang/Object")] 113

def k0m0 : Method := { name := "<init>", desc := "()V", sig := { parameters := [], returnType := none }, accessFlags := 1, code := none }
/-- java/lang/Object -/
def k0 : Class := { plain "java/lang/Object" none with
  accessFlags := 33
  interfaces := #[]
  cf := some (fileOf pool0 8 #[] #[{ accessFlags := 1, nameIndex := 5, descriptorIndex := 6, attributes := #[] }] 33 0 #[] #[])
  fields := #[]
  methods := #[k0m0]
  instanceTypes := #[]
  staticTypes := #[]
  resolved := Array.replicate 124 none
  statics := none }

def pool1 : Array CpInfo := pool [(2, .class_ 4), (1, u "java/lang/Object"), (0, u "<init>"), (0, u "()V"), (0, .class_ 8), (0, u "com/example/palamedes/palamedes/req/Relation"), (0, .fieldref 7 10), (0, .nameAndType 11 12), (0, u "LESS"), (0, u "Lcom/example/palamedes/palamedes/req/Relation;"), (0, .fieldref 7 14), (0, .nameAndType 15 12), (0, u "LESS_OR_EQUAL"), (0, .fieldref 7 17), (0, .nameAndType 18 12), (0, u "GREATER_OR_EQUAL"), (0, .fieldref 7 20), (0, .nameAndType 21 12), (0, u "GREATER"), (0, .methodref 7 23), (0, .nameAndType 24 25), (0, u "upper"), (0, u "()Z"), (0, .methodref 7 27), (0, .nameAndType 28 29), (0, u "symbol"), (0, u "()Ljava/lang/String;"), (0, .methodref 31 32), (0, .class_ 33), (0, .nameAndType 34 35), (0, u "java/lang/String"), (0, u "length"), (0, u "()I"), (0, .methodref 31 37), (0, .nameAndType 38 39), (0, u "charAt"), (0, u "(I)C"), (0, .class_ 41), (0, u "com/example/palamedes/palamedes/req/RelationUpperPinLaw"), (2, u "law"), (0, u "(I)Z")] 5

def k1m0 : Method := { name := "<init>", desc := "()V", sig := { parameters := [], returnType := none }, accessFlags := 1, code := none }
def k1c1 : Code := { maxStack := 4, maxLocals := 8, code := code, exceptionTable := #[], attributes := #[] }
def k1m1 : Method := { name := "law", desc := "(I)Z", sig := { parameters := [.int], returnType := some .boolean }, accessFlags := 9, code := some k1c1 }
/-- com/example/palamedes/palamedes/req/RelationUpperPinLaw -/
def k1 : Class := { plain "com/example/palamedes/palamedes/req/RelationUpperPinLaw" (some 0) with
  accessFlags := 49
  interfaces := #[]
  cf := some (fileOf pool1 40 #[] #[{ accessFlags := 1, nameIndex := 5, descriptorIndex := 6, attributes := #[] }, { accessFlags := 9, nameIndex := 44, descriptorIndex := 45, attributes := #[] }] 49 2 #[] #[])
  fields := #[]
  methods := #[k1m0, k1m1]
  instanceTypes := #[]
  staticTypes := #[]
  resolved := Array.replicate 51 none
  statics := none }

def pool2 : Array CpInfo := pool [(1, .class_ 2), (0, u "java/lang/constant/Constable"), (0, .class_ 4), (0, u "java/lang/Object")] 6

/-- java/lang/constant/Constable -/
def k2 : Class := { plain "java/lang/constant/Constable" (some 0) with
  accessFlags := 1537
  interfaces := #[]
  cf := some (fileOf pool2 1 #[] #[] 1537 3 #[] #[])
  fields := #[]
  methods := #[]
  instanceTypes := #[]
  staticTypes := #[]
  resolved := Array.replicate 11 none
  statics := none }

def pool3 : Array CpInfo := pool [(1, .class_ 2), (0, u "java/lang/Comparable"), (0, .class_ 4), (0, u "java/lang/Object")] 7

/-- java/lang/Comparable -/
def k3 : Class := { plain "java/lang/Comparable" (some 0) with
  accessFlags := 1537
  interfaces := #[]
  cf := some (fileOf pool3 1 #[] #[] 1537 3 #[] #[])
  fields := #[]
  methods := #[]
  instanceTypes := #[]
  staticTypes := #[]
  resolved := Array.replicate 12 none
  statics := none }

def pool4 : Array CpInfo := pool [(1, .class_ 2), (0, u "java/io/Serializable"), (0, .class_ 4), (0, u "java/lang/Object")] 2

/-- java/io/Serializable -/
def k4 : Class := { plain "java/io/Serializable" (some 0) with
  accessFlags := 1537
  interfaces := #[]
  cf := some (fileOf pool4 1 #[] #[] 1537 3 #[] #[])
  fields := #[]
  methods := #[]
  instanceTypes := #[]
  staticTypes := #[]
  resolved := Array.replicate 7 none
  statics := none }

def pool5 : Array CpInfo := pool [(2, .class_ 4), (1, u "java/lang/Enum"), (0, u "name"), (0, u "Ljava/lang/String;"), (2, u "ordinal"), (0, u "I"), (1, .class_ 14), (1, u "java/lang/Object"), (4, u "hash"), (86, .class_ 108), (1, u "java/lang/Enum$EnumDesc"), (2, .class_ 112), (0, u "java/lang/constant/Constable"), (0, .class_ 114), (0, u "java/lang/Comparable"), (0, .class_ 116), (0, u "java/io/Serializable")] 87

/-- java/lang/Enum -/
def k5 : Class := { plain "java/lang/Enum" (some 0) with
  accessFlags := 1057
  interfaces := #[2, 3, 4]
  cf := some (fileOf pool5 2 #[.nestMembers #[106]] #[] 1057 12 #[111, 113, 115] #[{ accessFlags := 18, nameIndex := 5, descriptorIndex := 6, attributes := #[] }, { accessFlags := 18, nameIndex := 9, descriptorIndex := 10, attributes := #[] }, { accessFlags := 2, nameIndex := 19, descriptorIndex := 10, attributes := #[] }])
  fields := #[{ name := "name", type := (.object "java/lang/String"), accessFlags := 18, slot := 0, constantValue := 0 }, { name := "ordinal", type := .int, accessFlags := 18, slot := 1, constantValue := 0 }, { name := "hash", type := .int, accessFlags := 2, slot := 2, constantValue := 0 }]
  methods := #[]
  instanceTypes := #[(.object "java/lang/String"), .int, .int]
  staticTypes := #[]
  resolved := Array.replicate 204 none
  statics := none }

def pool6 : Array CpInfo := pool [(1, .class_ 2), (0, u "com/example/palamedes/palamedes/req/Relation"), (0, .fieldref 1 4), (0, .nameAndType 5 6), (0, u "LESS"), (0, u "Lcom/example/palamedes/palamedes/req/Relation;"), (0, .fieldref 1 8), (0, .nameAndType 9 6), (0, u "LESS_OR_EQUAL"), (2, u "GREATER_OR_EQUAL"), (2, u "GREATER"), (2, u "$VALUES"), (0, u "[Lcom/example/palamedes/palamedes/req/Relation;"), (6, .class_ 28), (1, u "java/lang/Enum"), (6, .fieldref 1 36), (0, .nameAndType 37 38), (0, u "symbol"), (0, u "Ljava/lang/String;"), (26, u "()Ljava/lang/String;"), (0, u "upper"), (0, u "()Z")] 7

def k6c0 : Code := { maxStack := 1, maxLocals := 1, code := prog_74_method_4_code, exceptionTable := #[], attributes := #[] }
def k6m0 : Method := { name := "symbol", desc := "()Ljava/lang/String;", sig := { parameters := [], returnType := some (.object "java/lang/String") }, accessFlags := 1, code := some k6c0 }
def k6c1 : Code := { maxStack := 2, maxLocals := 1, code := prog_74_method_5_code, exceptionTable := #[], attributes := #[] }
def k6m1 : Method := { name := "upper", desc := "()Z", sig := { parameters := [], returnType := some .boolean }, accessFlags := 1, code := some k6c1 }
/-- com/example/palamedes/palamedes/req/Relation -/
def k6 : Class := { plain "com/example/palamedes/palamedes/req/Relation" (some 5) with
  accessFlags := 16433
  interfaces := #[]
  cf := some (fileOf pool6 1 #[] #[{ accessFlags := 1, nameIndex := 37, descriptorIndex := 65, attributes := #[] }, { accessFlags := 1, nameIndex := 66, descriptorIndex := 67, attributes := #[] }] 16433 26 #[] #[{ accessFlags := 16409, nameIndex := 5, descriptorIndex := 6, attributes := #[] }, { accessFlags := 16409, nameIndex := 9, descriptorIndex := 6, attributes := #[] }, { accessFlags := 16409, nameIndex := 12, descriptorIndex := 6, attributes := #[] }, { accessFlags := 16409, nameIndex := 15, descriptorIndex := 6, attributes := #[] }, { accessFlags := 18, nameIndex := 37, descriptorIndex := 38, attributes := #[] }, { accessFlags := 4122, nameIndex := 18, descriptorIndex := 19, attributes := #[] }])
  fields := #[{ name := "LESS", type := (.object "com/example/palamedes/palamedes/req/Relation"), accessFlags := 16409, slot := 0, constantValue := 0 }, { name := "LESS_OR_EQUAL", type := (.object "com/example/palamedes/palamedes/req/Relation"), accessFlags := 16409, slot := 1, constantValue := 0 }, { name := "GREATER_OR_EQUAL", type := (.object "com/example/palamedes/palamedes/req/Relation"), accessFlags := 16409, slot := 2, constantValue := 0 }, { name := "GREATER", type := (.object "com/example/palamedes/palamedes/req/Relation"), accessFlags := 16409, slot := 3, constantValue := 0 }, { name := "symbol", type := (.object "java/lang/String"), accessFlags := 18, slot := 3, constantValue := 0 }, { name := "$VALUES", type := (.array (.object "com/example/palamedes/palamedes/req/Relation")), accessFlags := 4122, slot := 4, constantValue := 0 }]
  methods := #[k6m0, k6m1]
  instanceTypes := #[(.object "java/lang/String"), .int, .int, (.object "java/lang/String")]
  staticTypes := #[(.object "com/example/palamedes/palamedes/req/Relation"), (.object "com/example/palamedes/palamedes/req/Relation"), (.object "com/example/palamedes/palamedes/req/Relation"), (.object "com/example/palamedes/palamedes/req/Relation"), (.array (.object "com/example/palamedes/palamedes/req/Relation"))]
  resolved := Array.replicate 75 none
  statics := some 0 }

def pool7 : Array CpInfo := pool [(2, .class_ 4), (1, u "java/lang/CharSequence"), (42, .class_ 48), (0, u "java/lang/CharSequence$1CodePointIterator"), (10, .class_ 60), (0, u "java/lang/CharSequence$1CharIterator"), (5, .class_ 67), (0, u "java/lang/Object")] 63

/-- java/lang/CharSequence -/
def k7 : Class := { plain "java/lang/CharSequence" (some 0) with
  accessFlags := 1537
  interfaces := #[]
  cf := some (fileOf pool7 2 #[.nestMembers #[47, 59]] #[] 1537 66 #[] #[])
  fields := #[]
  methods := #[]
  instanceTypes := #[]
  staticTypes := #[]
  resolved := Array.replicate 131 none
  statics := none }

def pool8 : Array CpInfo := pool [(1, .class_ 2), (0, u "java/lang/constant/ConstantDesc"), (0, .class_ 4), (0, u "java/lang/Object")] 32

/-- java/lang/constant/ConstantDesc -/
def k8 : Class := { plain "java/lang/constant/ConstantDesc" (some 0) with
  accessFlags := 1537
  interfaces := #[]
  cf := some (fileOf pool8 1 #[] #[] 1537 3 #[] #[])
  fields := #[]
  methods := #[]
  instanceTypes := #[]
  staticTypes := #[]
  resolved := Array.replicate 37 none
  statics := none }

def pool9 : Array CpInfo := pool [(2, .class_ 4), (1, u "java/lang/Object"), (0, u "<init>"), (0, u "()V"), (2, .fieldref 10 11), (0, .class_ 12), (0, .nameAndType 13 14), (0, u "java/lang/String"), (0, u "value"), (0, u "[B"), (0, .fieldref 10 16), (0, .nameAndType 17 18), (0, u "coder"), (0, u "B"), (2, u "hash"), (0, u "I"), (2, u "hashIsZero"), (0, u "Z"), (11, .fieldref 10 39), (0, .nameAndType 40 26), (0, u "COMPACT_STRINGS"), (66, .class_ 109), (1, u "java/lang/StringLatin1"), (32, u "()Z"), (191, u "()I"), (0, .methodref 10 336), (0, .nameAndType 17 337), (0, u "()B"), (25, u "([BI)C"), (27, u "(II)V"), (35, u "(I)C"), (64, .methodref 10 493), (0, .nameAndType 494 142), (0, u "isLatin1"), (0, .methodref 107 496), (0, .nameAndType 497 363), (0, u "charAt"), (3, u "checkIndex"), (5, u "length"), (67, .class_ 576), (0, u "java/lang/CharSequence"), (22, u "CASE_INSENSITIVE_ORDER"), (0, u "Ljava/util/Comparator;"), (452, .fieldref 1054 1055), (0, .class_ 1056), (0, .nameAndType 1057 1058), (0, u "jdk/internal/util/Preconditions"), (0, u "SIOOBE_FORMATTER"), (0, u "Ljava/util/function/BiFunction;"), (0, .methodref 1054 1060), (0, .nameAndType 501 1061), (0, u "(IILjava/util/function/BiFunction;)I"), (39, u "serialPersistentFields"), (0, u "[Ljava/io/ObjectStreamField;"), (0, .class_ 1104), (0, u "java/lang/String$CaseInsensitiveComparator"), (1, .class_ 1107), (0, u "java/io/Serializable"), (0, .class_ 1109), (0, u "java/lang/Comparable"), (0, .class_ 1111), (0, u "java/lang/constant/Constable"), (0, .class_ 1113), (0, u "java/lang/constant/ConstantDesc"), (2, u "serialVersionUID"), (0, u "J"), (3, u "REPL"), (0, u "C"), (2, u "LATIN1"), (1, u "UTF16")] 323

def k9m0 : Method := { name := "<init>", desc := "()V", sig := { parameters := [], returnType := none }, accessFlags := 1, code := none }
def k9c1 : Code := { maxStack := 2, maxLocals := 1, code := jdk_42_method_54_code, exceptionTable := #[], attributes := #[] }
def k9m1 : Method := { name := "length", desc := "()I", sig := { parameters := [], returnType := some .int }, accessFlags := 1, code := some k9c1 }
def k9c2 : Code := { maxStack := 2, maxLocals := 2, code := jdk_42_method_56_code, exceptionTable := #[], attributes := #[] }
def k9m2 : Method := { name := "charAt", desc := "(I)C", sig := { parameters := [.int], returnType := some .char }, accessFlags := 1, code := some k9c2 }
def k9c3 : Code := { maxStack := 1, maxLocals := 1, code := jdk_42_method_152_code, exceptionTable := #[], attributes := #[] }
def k9m3 : Method := { name := "coder", desc := "()B", sig := { parameters := [], returnType := some .byte }, accessFlags := 0, code := some k9c3 }
def k9c4 : Code := { maxStack := 1, maxLocals := 1, code := jdk_42_method_154_code, exceptionTable := #[], attributes := #[] }
def k9m4 : Method := { name := "isLatin1", desc := "()Z", sig := { parameters := [], returnType := some .boolean }, accessFlags := 0, code := some k9c4 }
def k9c5 : Code := { maxStack := 3, maxLocals := 2, code := jdk_42_method_155_code, exceptionTable := #[], attributes := #[] }
def k9m5 : Method := { name := "checkIndex", desc := "(II)V", sig := { parameters := [.int, .int], returnType := none }, accessFlags := 8, code := some k9c5 }
/-- java/lang/String -/
def k9 : Class := { plain "java/lang/String" (some 0) with
  accessFlags := 49
  interfaces := #[4, 3, 7, 2, 8]
  cf := some (fileOf pool9 10 #[.nestMembers #[1103]] #[{ accessFlags := 1, nameIndex := 5, descriptorIndex := 6, attributes := #[] }, { accessFlags := 1, nameIndex := 507, descriptorIndex := 334, attributes := #[] }, { accessFlags := 1, nameIndex := 497, descriptorIndex := 427, attributes := #[] }, { accessFlags := 0, nameIndex := 17, descriptorIndex := 337, attributes := #[] }, { accessFlags := 0, nameIndex := 494, descriptorIndex := 142, attributes := #[] }, { accessFlags := 8, nameIndex := 501, descriptorIndex := 391, attributes := #[] }] 49 2 #[1106, 1108, 575, 1110, 1112] #[{ accessFlags := 18, nameIndex := 13, descriptorIndex := 14, attributes := #[] }, { accessFlags := 18, nameIndex := 17, descriptorIndex := 18, attributes := #[] }, { accessFlags := 2, nameIndex := 21, descriptorIndex := 22, attributes := #[] }, { accessFlags := 2, nameIndex := 25, descriptorIndex := 26, attributes := #[] }, { accessFlags := 26, nameIndex := 1116, descriptorIndex := 1117, attributes := #[] }, { accessFlags := 24, nameIndex := 40, descriptorIndex := 26, attributes := #[] }, { accessFlags := 26, nameIndex := 1101, descriptorIndex := 1102, attributes := #[] }, { accessFlags := 26, nameIndex := 1121, descriptorIndex := 1122, attributes := #[] }, { accessFlags := 25, nameIndex := 599, descriptorIndex := 600, attributes := #[] }, { accessFlags := 24, nameIndex := 1125, descriptorIndex := 18, attributes := #[] }, { accessFlags := 24, nameIndex := 1127, descriptorIndex := 18, attributes := #[] }])
  fields := #[{ name := "value", type := (.array .byte), accessFlags := 18, slot := 0, constantValue := 0 }, { name := "coder", type := .byte, accessFlags := 18, slot := 1, constantValue := 0 }, { name := "hash", type := .int, accessFlags := 2, slot := 2, constantValue := 0 }, { name := "hashIsZero", type := .boolean, accessFlags := 2, slot := 3, constantValue := 0 }, { name := "serialVersionUID", type := .long, accessFlags := 26, slot := 0, constantValue := 0 }, { name := "COMPACT_STRINGS", type := .boolean, accessFlags := 24, slot := 1, constantValue := 0 }, { name := "serialPersistentFields", type := (.array (.object "java/io/ObjectStreamField")), accessFlags := 26, slot := 2, constantValue := 0 }, { name := "REPL", type := .char, accessFlags := 26, slot := 3, constantValue := 0 }, { name := "CASE_INSENSITIVE_ORDER", type := (.object "java/util/Comparator"), accessFlags := 25, slot := 4, constantValue := 0 }, { name := "LATIN1", type := .byte, accessFlags := 24, slot := 5, constantValue := 0 }, { name := "UTF16", type := .byte, accessFlags := 24, slot := 6, constantValue := 0 }]
  methods := #[k9m0, k9m1, k9m2, k9m3, k9m4, k9m5]
  instanceTypes := #[(.array .byte), .byte, .int, .boolean]
  staticTypes := #[.long, .boolean, (.array (.object "java/io/ObjectStreamField")), .char, (.object "java/util/Comparator"), .byte, .byte]
  resolved := Array.replicate 1451 none
  statics := some 1 }

def pool10 : Array CpInfo := pool [(1, .class_ 2), (0, u "java/lang/String"), (1, .class_ 6), (1, u "java/lang/Object"), (0, u "<init>"), (0, u "()V"), (0, .methodref 1 10), (0, .nameAndType 11 12), (0, u "checkIndex"), (0, u "(II)V"), (1, .class_ 16), (1, u "java/lang/StringLatin1"), (36, u "([BI)C"), (67, u "$assertionsDisabled"), (0, u "Z"), (98, .class_ 223), (1, u "java/lang/StringLatin1$LinesSpliterator"), (28, u "charAt"), (137, .class_ 391), (0, u "java/lang/StringLatin1$CharsSpliterator")] 3

def k10m0 : Method := { name := "<init>", desc := "()V", sig := { parameters := [], returnType := none }, accessFlags := 0, code := none }
def k10c1 : Code := { maxStack := 2, maxLocals := 2, code := jdk_43_method_2_code, exceptionTable := #[], attributes := #[] }
def k10m1 : Method := { name := "charAt", desc := "([BI)C", sig := { parameters := [(.array .byte), .int], returnType := some .char }, accessFlags := 9, code := some k10c1 }
/-- java/lang/StringLatin1 -/
def k10 : Class := { plain "java/lang/StringLatin1" (some 0) with
  accessFlags := 48
  interfaces := #[]
  cf := some (fileOf pool10 14 #[.nestMembers #[390, 221]] #[{ accessFlags := 0, nameIndex := 7, descriptorIndex := 8, attributes := #[] }, { accessFlags := 9, nameIndex := 252, descriptorIndex := 53, attributes := #[] }] 48 4 #[] #[{ accessFlags := 4120, nameIndex := 121, descriptorIndex := 122, attributes := #[] }])
  fields := #[{ name := "$assertionsDisabled", type := .boolean, accessFlags := 4120, slot := 0, constantValue := 0 }]
  methods := #[k10m0, k10m1]
  instanceTypes := #[]
  staticTypes := #[.boolean]
  resolved := Array.replicate 395 none
  statics := none }

def pool11 : Array CpInfo := pool [(2, .class_ 4), (1, u "java/lang/Object"), (0, u "<init>"), (0, u "()V"), (17, .class_ 26), (1, u "jdk/internal/util/Preconditions"), (6, u "checkIndex"), (21, .class_ 56), (0, u "jdk/internal/util/Preconditions$4"), (57, .class_ 115), (0, u "jdk/internal/util/Preconditions$1"), (7, u "SIOOBE_FORMATTER"), (0, u "Ljava/util/function/BiFunction;"), (0, .class_ 126), (0, u "jdk/internal/util/Preconditions$2"), (3, u "AIOOBE_FORMATTER"), (0, .class_ 132), (0, u "jdk/internal/util/Preconditions$3"), (3, u "IOOBE_FORMATTER"), (41, u "(IILjava/util/function/BiFunction;)I")] 15

def k11m0 : Method := { name := "<init>", desc := "()V", sig := { parameters := [], returnType := none }, accessFlags := 1, code := none }
def k11c1 : Code := { maxStack := 3, maxLocals := 3, code := jdk_41_method_11_code, exceptionTable := #[], attributes := #[] }
def k11m1 : Method := { name := "checkIndex", desc := "(IILjava/util/function/BiFunction;)I", sig := { parameters := [.int, .int, (.object "java/util/function/BiFunction")], returnType := some .int }, accessFlags := 9, code := some k11c1 }
/-- jdk/internal/util/Preconditions -/
def k11 : Class := { plain "jdk/internal/util/Preconditions" (some 0) with
  accessFlags := 33
  interfaces := #[]
  cf := some (fileOf pool11 24 #[.nestMembers #[55, 131, 125, 114]] #[{ accessFlags := 1, nameIndex := 5, descriptorIndex := 6, attributes := #[] }, { accessFlags := 9, nameIndex := 33, descriptorIndex := 178, attributes := #[] }] 33 2 #[] #[{ accessFlags := 25, nameIndex := 123, descriptorIndex := 124, attributes := #[] }, { accessFlags := 25, nameIndex := 130, descriptorIndex := 124, attributes := #[] }, { accessFlags := 25, nameIndex := 136, descriptorIndex := 124, attributes := #[] }])
  fields := #[{ name := "SIOOBE_FORMATTER", type := (.object "java/util/function/BiFunction"), accessFlags := 25, slot := 0, constantValue := 0 }, { name := "AIOOBE_FORMATTER", type := (.object "java/util/function/BiFunction"), accessFlags := 25, slot := 1, constantValue := 0 }, { name := "IOOBE_FORMATTER", type := (.object "java/util/function/BiFunction"), accessFlags := 25, slot := 2, constantValue := 0 }]
  methods := #[k11m0, k11m1]
  instanceTypes := #[]
  staticTypes := #[(.object "java/util/function/BiFunction"), (.object "java/util/function/BiFunction"), (.object "java/util/function/BiFunction")]
  resolved := Array.replicate 194 none
  statics := some 2 }

def pool12 : Array CpInfo := pool [(9, u "<init>"), (6, .class_ 18), (1, u "java/lang/Object"), (0, u "()V"), (1, .class_ 23), (1, u "jdk/internal/util/ArraysSupport"), (0, u "LOG2_ARRAY_LONG_INDEX_SCALE"), (0, u "I"), (2, u "U"), (0, u "Ljdk/internal/misc/Unsafe;"), (8, u "BIG_ENDIAN"), (0, u "Z"), (8, u "LOG2_BYTE_BIT_SIZE"), (4, u "LOG2_ARRAY_INT_INDEX_SCALE"), (54, u "JLA"), (0, u "Ljdk/internal/access/JavaLangAccess;"), (11, u "LOG2_ARRAY_BOOLEAN_INDEX_SCALE"), (9, u "LOG2_ARRAY_BYTE_INDEX_SCALE"), (5, u "LOG2_ARRAY_CHAR_INDEX_SCALE"), (5, u "LOG2_ARRAY_SHORT_INDEX_SCALE"), (18, u "LOG2_ARRAY_FLOAT_INDEX_SCALE"), (24, u "LOG2_ARRAY_DOUBLE_INDEX_SCALE"), (89, u "T_BOOLEAN"), (2, u "T_CHAR"), (1, u "T_FLOAT"), (1, u "T_DOUBLE"), (1, u "T_BYTE"), (1, u "T_SHORT"), (1, u "T_INT"), (1, u "T_LONG"), (1, u "SOFT_MAX_ARRAY_LENGTH")] 83

def k12m0 : Method := { name := "<init>", desc := "()V", sig := { parameters := [], returnType := none }, accessFlags := 2, code := none }
/-- jdk/internal/util/ArraysSupport -/
def k12 : Class := { plain "jdk/internal/util/ArraysSupport" (some 0) with
  accessFlags := 33
  interfaces := #[]
  cf := some (fileOf pool12 21 #[] #[{ accessFlags := 2, nameIndex := 9, descriptorIndex := 19, attributes := #[] }] 33 16 #[] #[{ accessFlags := 24, nameIndex := 28, descriptorIndex := 29, attributes := #[] }, { accessFlags := 26, nameIndex := 38, descriptorIndex := 39, attributes := #[] }, { accessFlags := 25, nameIndex := 121, descriptorIndex := 25, attributes := #[] }, { accessFlags := 25, nameIndex := 131, descriptorIndex := 25, attributes := #[] }, { accessFlags := 25, nameIndex := 137, descriptorIndex := 25, attributes := #[] }, { accessFlags := 25, nameIndex := 143, descriptorIndex := 25, attributes := #[] }, { accessFlags := 25, nameIndex := 53, descriptorIndex := 25, attributes := #[] }, { accessFlags := 25, nameIndex := 24, descriptorIndex := 25, attributes := #[] }, { accessFlags := 25, nameIndex := 162, descriptorIndex := 25, attributes := #[] }, { accessFlags := 25, nameIndex := 187, descriptorIndex := 25, attributes := #[] }, { accessFlags := 26, nameIndex := 48, descriptorIndex := 25, attributes := #[] }, { accessFlags := 25, nameIndex := 277, descriptorIndex := 25, attributes := #[] }, { accessFlags := 25, nameIndex := 280, descriptorIndex := 25, attributes := #[] }, { accessFlags := 25, nameIndex := 282, descriptorIndex := 25, attributes := #[] }, { accessFlags := 25, nameIndex := 284, descriptorIndex := 25, attributes := #[] }, { accessFlags := 25, nameIndex := 286, descriptorIndex := 25, attributes := #[] }, { accessFlags := 25, nameIndex := 288, descriptorIndex := 25, attributes := #[] }, { accessFlags := 25, nameIndex := 290, descriptorIndex := 25, attributes := #[] }, { accessFlags := 25, nameIndex := 292, descriptorIndex := 25, attributes := #[] }, { accessFlags := 26, nameIndex := 108, descriptorIndex := 109, attributes := #[] }, { accessFlags := 25, nameIndex := 294, descriptorIndex := 25, attributes := #[] }])
  fields := #[{ name := "U", type := (.object "jdk/internal/misc/Unsafe"), accessFlags := 24, slot := 0, constantValue := 0 }, { name := "BIG_ENDIAN", type := .boolean, accessFlags := 26, slot := 1, constantValue := 0 }, { name := "LOG2_ARRAY_BOOLEAN_INDEX_SCALE", type := .int, accessFlags := 25, slot := 2, constantValue := 0 }, { name := "LOG2_ARRAY_BYTE_INDEX_SCALE", type := .int, accessFlags := 25, slot := 3, constantValue := 0 }, { name := "LOG2_ARRAY_CHAR_INDEX_SCALE", type := .int, accessFlags := 25, slot := 4, constantValue := 0 }, { name := "LOG2_ARRAY_SHORT_INDEX_SCALE", type := .int, accessFlags := 25, slot := 5, constantValue := 0 }, { name := "LOG2_ARRAY_INT_INDEX_SCALE", type := .int, accessFlags := 25, slot := 6, constantValue := 0 }, { name := "LOG2_ARRAY_LONG_INDEX_SCALE", type := .int, accessFlags := 25, slot := 7, constantValue := 0 }, { name := "LOG2_ARRAY_FLOAT_INDEX_SCALE", type := .int, accessFlags := 25, slot := 8, constantValue := 0 }, { name := "LOG2_ARRAY_DOUBLE_INDEX_SCALE", type := .int, accessFlags := 25, slot := 9, constantValue := 0 }, { name := "LOG2_BYTE_BIT_SIZE", type := .int, accessFlags := 26, slot := 10, constantValue := 0 }, { name := "T_BOOLEAN", type := .int, accessFlags := 25, slot := 11, constantValue := 0 }, { name := "T_CHAR", type := .int, accessFlags := 25, slot := 12, constantValue := 0 }, { name := "T_FLOAT", type := .int, accessFlags := 25, slot := 13, constantValue := 0 }, { name := "T_DOUBLE", type := .int, accessFlags := 25, slot := 14, constantValue := 0 }, { name := "T_BYTE", type := .int, accessFlags := 25, slot := 15, constantValue := 0 }, { name := "T_SHORT", type := .int, accessFlags := 25, slot := 16, constantValue := 0 }, { name := "T_INT", type := .int, accessFlags := 25, slot := 17, constantValue := 0 }, { name := "T_LONG", type := .int, accessFlags := 25, slot := 18, constantValue := 0 }, { name := "JLA", type := (.object "jdk/internal/access/JavaLangAccess"), accessFlags := 26, slot := 19, constantValue := 0 }, { name := "SOFT_MAX_ARRAY_LENGTH", type := .int, accessFlags := 25, slot := 20, constantValue := 0 }]
  methods := #[k12m0]
  instanceTypes := #[]
  staticTypes := #[(.object "jdk/internal/misc/Unsafe"), .boolean, .int, .int, .int, .int, .int, .int, .int, .int, .int, .int, .int, .int, .int, .int, .int, .int, .int, (.object "jdk/internal/access/JavaLangAccess"), .int]
  resolved := Array.replicate 378 none
  statics := none }

def pool13 : Array CpInfo := pool [(1, u "java/lang/Cloneable"), (0, .class_ 1), (0, u "java/lang/Object"), (0, .class_ 3)] 3

/-- java/lang/Cloneable -/
def k13 : Class := { plain "java/lang/Cloneable" (some 0) with
  accessFlags := 1537
  interfaces := #[]
  cf := some (fileOf pool13 2 #[] #[] 1537 4 #[] #[])
  fields := #[]
  methods := #[]
  instanceTypes := #[]
  staticTypes := #[]
  resolved := Array.replicate 8 none
  statics := none }

/-- the primitive byte -/
def k14 : Class := { plain "byte" none with kind := .primitive 'B', accessFlags := 0x411 }
/-- [B -/
def k15 : Class := { plain "[B" (some 0) with kind := .array 14 .byte, interfaces := #[13, 4], accessFlags := 1041 }

/-- the primitive int -/
def k16 : Class := { plain "int" none with kind := .primitive 'I', accessFlags := 0x411 }
/-- [I -/
def k17 : Class := { plain "[I" (some 0) with kind := .array 16 .int, interfaces := #[13, 4], accessFlags := 1041 }

/-- [Lcom/example/palamedes/palamedes/req/Relation; -/
def k18 : Class := { plain "[Lcom/example/palamedes/palamedes/req/Relation;" (some 0) with kind := .array 6 (.object "com/example/palamedes/palamedes/req/Relation"), interfaces := #[13, 4], accessFlags := 1041 }

def heap : Heap := #[{ cls := 6, slots := #[.ref 3, .ref 4, .ref 5, .ref 6, .null], vm := .statics 6 },
  { cls := 9, slots := #[.long 0, .int 1, .null, .int 0, .null, .int 0, .int 0], vm := .statics 9 },
  { cls := 11, slots := #[.null, .null, .null], vm := .statics 11 },
  { cls := 6, slots := #[.null, .int 0, .int 0, .ref 7], vm := .none },
  { cls := 6, slots := #[.null, .int 1, .int 0, .ref 8], vm := .none },
  { cls := 6, slots := #[.null, .int 2, .int 0, .ref 9], vm := .none },
  { cls := 6, slots := #[.null, .int 3, .int 0, .ref 10], vm := .none },
  { cls := 9, slots := #[.ref 11, .int 0, .int 0, .int 0], vm := .none },
  { cls := 9, slots := #[.ref 12, .int 0, .int 0, .int 0], vm := .none },
  { cls := 9, slots := #[.ref 13, .int 0, .int 0, .int 0], vm := .none },
  { cls := 9, slots := #[.ref 14, .int 0, .int 0, .int 0], vm := .none },
  { cls := 15, slots := #[.int 60], vm := .none },
  { cls := 15, slots := #[.int 60, .int 61], vm := .none },
  { cls := 15, slots := #[.int 62, .int 61], vm := .none },
  { cls := 15, slots := #[.int 62], vm := .none }]
def classes : Array Class := #[k0, k1, k2, k3, k4, k5, k6, k7, k8, k9, k10, k11, k12, k13, k14, k15, k16, k17, k18]
def interned : List (Array UInt16 × Addr) := []
def slotsUsed : Nat := 53
def theMethod : MethodId := ⟨1, 1⟩
def args0 : Array Value := #[.int 5]
def aboutOver (below : List Frame) : State where
  vm := { classes := classes, interned := interned.toArray }
  heap := heap
  slotsUsed := slotsUsed
  threads := #[{ frames := .invoking theMethod args0 :: below }]
def below0 : List Frame := [.native { method := ⟨0, 0⟩, args := #[] }]
def about1 : State := aboutOver below0
def p0 : Program := .bare "" "" ""
def e0 : Env := launch0.env 0 0 0
theorem w_frames : about1.frames = Frame.invoking theMethod args0 :: below0 := rfl
set_option maxRecDepth 65536 in
theorem w_args : argsFit about1.vm theMethod args0 = true := by decide +kernel
set_option maxRecDepth 65536 in
theorem w_heap : heapFits about1 = true := by decide +kernel
set_option maxRecDepth 65536 in
theorem w_runnable : about1.curStatus? = some .runnable := by decide +kernel
set_option maxRecDepth 65536 in
theorem w_alone : about1.alone = true := by decide +kernel
set_option maxRecDepth 65536 in
theorem w_named : about1.methodNamed? x = some theMethod := by decide +kernel
set_option maxRecDepth 65536 in
theorem w_hears : about1.hears theMethod below0 = true := by decide +kernel
set_option maxRecDepth 65536 in
theorem w_ripe : about1.ripe theMethod args0 below0 = true := by decide +kernel
theorem w_running : about1.status = .running := rfl
set_option maxRecDepth 65536 in
theorem w_room : about1.hasRoom e0.platform room_1 = true :=
  launch0.hasRoom_least _ room_1 (by decide +kernel) (by decide +kernel) (by decide +kernel) (by decide +kernel) (by decide +kernel) (by decide +kernel)
theorem allAtoms_all (ts : List Jvm.Cond) (a : Array Jvm.Value) (st : Jvm.State) : (allAtoms ts).before a st = ts.all (fun c => c.before a st) := by
  induction ts with
  | nil => rfl
  | cons c t ih =>
    show (Jvm.Cond.and c (allAtoms t)).before a st = _
    rw [Jvm.Cond.before_and, ih, List.all_cons]
def words1 : List Jvm.Cond := Jvm.Cond.code x code maxLocals ret :: tables_1
/-- a 'code' word, met by the world's own term for the bytes: nothing is compared byte by byte -/
theorem code_word {y : MethodName} {bytes : ByteArray} {mx : Nat} {rt : Option FieldType} {a : Array Value} {s : State} {m : MethodId} {meth : Method} {c : Code} (h1 : s.methodNamed? y = some m) (h2 : s.vm.method? m = some meth) (h3 : meth.code = some c) (h4 : c.code = bytes)
    (h5 : (c.maxLocals == mx && c.exceptionTable.isEmpty && decide (c.maxStack ≤ mostOperands) && decide (meth.sig.returnType = rt) && !meth.locks && decide (parseMethodDescriptor y.desc = some meth.sig)) = true) : (Jvm.Cond.code y bytes mx rt).before a s = true := by
  simp only [Bool.and_eq_true, beq_iff_eq, Bool.not_eq_true', decide_eq_true_eq] at h5
  obtain ⟨⟨⟨⟨⟨g1, g2⟩, g3⟩, g4⟩, g5⟩, g6⟩ := h5
  simp [Cond.before, Cond.holds, Cond.value, h1, h2, h3, h4, g1, g2, g3, g4, g5, g6]
def isCode : Jvm.Cond → Bool
  | .code _ _ _ _ => true
  | _ => false
theorem all_split {L : List Jvm.Cond} {P : Jvm.Cond → Bool} (h1 : L.all (fun c => isCode c || P c) = true) (h2 : ∀ c ∈ L.filter isCode, P c = true) : L.all P = true := by
  refine List.all_eq_true.mpr fun c hc => ?_
  have h := List.all_eq_true.mp h1 c hc
  rcases Bool.eq_false_or_eq_true (isCode c) with hi | hi
  · exact h2 c (List.mem_filter.mpr ⟨hc, hi⟩)
  · simpa [hi] using h
set_option maxRecDepth 65536 in
theorem w_c0 : (Jvm.Cond.code x code maxLocals ret).before args0 about1 = true := code_word (m := ⟨1, 1⟩) (meth := k1m1) (c := k1c1) (by decide +kernel) rfl rfl rfl (by decide +kernel)
set_option maxRecDepth 65536 in
theorem w_c1 : (Jvm.Cond.code ({ cls := "com/example/palamedes/palamedes/req/Relation", name := "upper", desc := "()Z" } : Jvm.MethodName) prog_74_method_5_code (1 : Nat) (Option.some Jvm.ClassFile.FieldType.boolean)).before args0 about1 = true := code_word (m := ⟨6, 1⟩) (meth := k6m1) (c := k6c1) (by decide +kernel) rfl rfl rfl (by decide +kernel)
set_option maxRecDepth 65536 in
theorem w_c2 : (Jvm.Cond.code ({ cls := "com/example/palamedes/palamedes/req/Relation", name := "symbol", desc := "()Ljava/lang/String;" } : Jvm.MethodName) prog_74_method_4_code (1 : Nat) (Option.some (Jvm.ClassFile.FieldType.object "java/lang/String"))).before args0 about1 = true := code_word (m := ⟨6, 0⟩) (meth := k6m0) (c := k6c0) (by decide +kernel) rfl rfl rfl (by decide +kernel)
set_option maxRecDepth 65536 in
theorem w_c3 : (Jvm.Cond.code ({ cls := "java/lang/String", name := "length", desc := "()I" } : Jvm.MethodName) jdk_42_method_54_code (1 : Nat) (Option.some Jvm.ClassFile.FieldType.int)).before args0 about1 = true := code_word (m := ⟨9, 1⟩) (meth := k9m1) (c := k9c1) (by decide +kernel) rfl rfl rfl (by decide +kernel)
set_option maxRecDepth 65536 in
theorem w_c4 : (Jvm.Cond.code ({ cls := "java/lang/String", name := "coder", desc := "()B" } : Jvm.MethodName) jdk_42_method_152_code (1 : Nat) (Option.some Jvm.ClassFile.FieldType.byte)).before args0 about1 = true := code_word (m := ⟨9, 3⟩) (meth := k9m3) (c := k9c3) (by decide +kernel) rfl rfl rfl (by decide +kernel)
set_option maxRecDepth 65536 in
theorem w_c5 : (Jvm.Cond.code ({ cls := "java/lang/String", name := "charAt", desc := "(I)C" } : Jvm.MethodName) jdk_42_method_56_code (2 : Nat) (Option.some Jvm.ClassFile.FieldType.char)).before args0 about1 = true := code_word (m := ⟨9, 2⟩) (meth := k9m2) (c := k9c2) (by decide +kernel) rfl rfl rfl (by decide +kernel)
set_option maxRecDepth 65536 in
theorem w_c6 : (Jvm.Cond.code ({ cls := "java/lang/String", name := "isLatin1", desc := "()Z" } : Jvm.MethodName) jdk_42_method_154_code (1 : Nat) (Option.some Jvm.ClassFile.FieldType.boolean)).before args0 about1 = true := code_word (m := ⟨9, 4⟩) (meth := k9m4) (c := k9c4) (by decide +kernel) rfl rfl rfl (by decide +kernel)
set_option maxRecDepth 65536 in
theorem w_c7 : (Jvm.Cond.code ({ cls := "java/lang/StringLatin1", name := "charAt", desc := "([BI)C" } : Jvm.MethodName) jdk_43_method_2_code (2 : Nat) (Option.some Jvm.ClassFile.FieldType.char)).before args0 about1 = true := code_word (m := ⟨10, 1⟩) (meth := k10m1) (c := k10c1) (by decide +kernel) rfl rfl rfl (by decide +kernel)
set_option maxRecDepth 65536 in
theorem w_c8 : (Jvm.Cond.code ({ cls := "java/lang/String", name := "checkIndex", desc := "(II)V" } : Jvm.MethodName) jdk_42_method_155_code (2 : Nat) (Option.none : Option Jvm.ClassFile.FieldType)).before args0 about1 = true := code_word (m := ⟨9, 5⟩) (meth := k9m5) (c := k9c5) (by decide +kernel) rfl rfl rfl (by decide +kernel)
set_option maxRecDepth 65536 in
theorem w_c9 : (Jvm.Cond.code ({ cls := "jdk/internal/util/Preconditions", name := "checkIndex", desc := "(IILjava/util/function/BiFunction;)I" } : Jvm.MethodName) jdk_41_method_11_code (3 : Nat) (Option.some Jvm.ClassFile.FieldType.int)).before args0 about1 = true := code_word (m := ⟨11, 1⟩) (meth := k11m1) (c := k11c1) (by decide +kernel) rfl rfl rfl (by decide +kernel)
def codes1 : List Jvm.Cond := [Jvm.Cond.code x code maxLocals ret, Jvm.Cond.code ({ cls := "com/example/palamedes/palamedes/req/Relation", name := "upper", desc := "()Z" } : Jvm.MethodName) prog_74_method_5_code (1 : Nat) (Option.some Jvm.ClassFile.FieldType.boolean), Jvm.Cond.code ({ cls := "com/example/palamedes/palamedes/req/Relation", name := "symbol", desc := "()Ljava/lang/String;" } : Jvm.MethodName) prog_74_method_4_code (1 : Nat) (Option.some (Jvm.ClassFile.FieldType.object "java/lang/String")), Jvm.Cond.code ({ cls := "java/lang/String", name := "length", desc := "()I" } : Jvm.MethodName) jdk_42_method_54_code (1 : Nat) (Option.some Jvm.ClassFile.FieldType.int), Jvm.Cond.code ({ cls := "java/lang/String", name := "coder", desc := "()B" } : Jvm.MethodName) jdk_42_method_152_code (1 : Nat) (Option.some Jvm.ClassFile.FieldType.byte), Jvm.Cond.code ({ cls := "java/lang/String", name := "charAt", desc := "(I)C" } : Jvm.MethodName) jdk_42_method_56_code (2 : Nat) (Option.some Jvm.ClassFile.FieldType.char), Jvm.Cond.code ({ cls := "java/lang/String", name := "isLatin1", desc := "()Z" } : Jvm.MethodName) jdk_42_method_154_code (1 : Nat) (Option.some Jvm.ClassFile.FieldType.boolean), Jvm.Cond.code ({ cls := "java/lang/StringLatin1", name := "charAt", desc := "([BI)C" } : Jvm.MethodName) jdk_43_method_2_code (2 : Nat) (Option.some Jvm.ClassFile.FieldType.char), Jvm.Cond.code ({ cls := "java/lang/String", name := "checkIndex", desc := "(II)V" } : Jvm.MethodName) jdk_42_method_155_code (2 : Nat) (Option.none : Option Jvm.ClassFile.FieldType), Jvm.Cond.code ({ cls := "jdk/internal/util/Preconditions", name := "checkIndex", desc := "(IILjava/util/function/BiFunction;)I" } : Jvm.MethodName) jdk_41_method_11_code (3 : Nat) (Option.some Jvm.ClassFile.FieldType.int)]
set_option maxRecDepth 65536 in
theorem codes_eq : words1.filter isCode = codes1 := rfl
theorem w_codes : ∀ c ∈ words1.filter isCode, c.before args0 about1 = true := by
  rw [codes_eq]
  intro c hc
  simp only [codes1, List.mem_cons, List.not_mem_nil, or_false] at hc
  rcases hc with rfl | rfl | rfl | rfl | rfl | rfl | rfl | rfl | rfl | rfl
  · exact w_c0
  · exact w_c1
  · exact w_c2
  · exact w_c3
  · exact w_c4
  · exact w_c5
  · exact w_c6
  · exact w_c7
  · exact w_c8
  · exact w_c9
set_option maxRecDepth 65536 in
theorem w_t1 : (words1.take 24).all (fun c => isCode c || c.before args0 about1) = true := by decide +kernel
set_option maxRecDepth 65536 in
theorem w_t2 : ((words1.drop 24).take 24).all (fun c => isCode c || c.before args0 about1) = true := by decide +kernel
set_option maxRecDepth 65536 in
theorem w_t3 : ((words1.drop 24).drop 24).all (fun c => isCode c || c.before args0 about1) = true := by decide +kernel
theorem w_tables : (allAtoms (Jvm.Cond.code x code maxLocals ret :: tables_1)).before args0 about1 = true := by
  rw [allAtoms_all]
  show words1.all (fun c => c.before args0 about1) = true
  refine all_split ?_ w_codes
  rw [← List.take_append_drop 24 words1, List.all_append, w_t1, ← List.take_append_drop 24 (words1.drop 24), List.all_append, w_t2, w_t3]
  rfl
set_option maxRecDepth 65536 in
theorem w_rest : rest_1_c.before args0 about1 = true := by decide +kernel
set_option maxRecDepth 65536 in
theorem w_case : (Jvm.Cond.and given_1 narrow_1).before args0 about1 = true := by decide +kernel
theorem w_applies : (headSpec (Jvm.Cond.code x code maxLocals ret :: tables_1) room_1).applies x e0.platform about1 = true :=
  (Spec.applies_iff w_frames).mpr ⟨w_running, w_runnable, w_alone, w_named, w_hears, w_ripe, w_room, w_tables⟩
theorem atStart : AtStart classFile x code maxLocals ret World_1 tables_1 room_1 Calls_1 rest_1 Pre_1 launch0 p0 e0 about1 theMethod args0 below0 :=
  ⟨lists_1, trivial, launch0.admits_env _ _ _, launch0.least_env, fairChoices_fair.cas, fairChoices_fair.clock, w_frames, w_args, w_heap, w_applies, trivial, w_rest, w_case⟩
end start1
theorem witness_1 : WitnessClaimed_1 := ⟨start1.p0, start1.e0, start1.about1, start1.theMethod, start1.args0, start1.below0, start1.atStart⟩
end Jvm.Pilot.@@N@@
