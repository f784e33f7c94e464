import JvmDerived
import JvmDerived.Pilot.@@N@@Statement
import JvmDerived.Pilot.@@N@@Code
set_option linter.unusedVariables false
set_option linter.unusedSimpArgs false
namespace Jvm.RoadKit
open Sem ClassFile Op Lib Jvm.Stand Jvm.Free Jvm.LawKit
section New
variable {p : Program} {l : Launch} {e : Env} {R : Room} {s : State} {m : MethodId} {args : Array Value} {below : List Frame} {meth : Method} {c : Code} {T : State} {locs : List Loc} {cells slots : Nat}
theorem retI (X : Stand p l e R s m args below meth c T locs cells slots) (hx : p.tables.exec = Jvm.exec) {pc : Nat} {Ls : Array Slot} {z : Int32} {rest : List Value} (hret : meth.sig.returnType = some .int) (hd : decode c.code pc = .ok (.ireturn, 1)) {fs : List Frame}
    (hl : ∀ (f : JFrame) (acts : List Action), f.method = m → f.locked = none → f.entered = [] → (doReturn e (T.setTop f) acts (some (.int z))).1 = T.setFrames fs) : Steps p.tables e below (T.setTop (mkF m pc Ls (.int z :: rest))) (T.setFrames fs) := by
  have hm' : T.vm.method? m = some meth := X.method'
  have hn : narrow .int (.int z) = .int z := rfl
  show Steps p.tables e below (T.setTop { method := m, pc := pc, locals := Ls, stack := _ :: rest, locked := none }) _
  jvm_step X.here [X.here.top, hx, hd, hm', hret, hn]
  first | (intro acts; rw [hl _ acts rfl rfl rfl]) | rw [hl _ _ rfl rfl rfl]
  exact Steps.refl _
theorem own_retL (X : Stand p l e R s m args below meth c T locs cells slots) (hx : p.tables.exec = Jvm.exec) {pc : Nat} {Ls : Array Slot} {z : Int64} {rest : List Value} (hret : meth.sig.returnType = some .long) (hd : decode c.code pc = .ok (.lreturn, 1)) {fs : List Frame}
    (hl : ∀ (f : JFrame) (acts : List Action), f.method = m → f.locked = none → f.entered = [] → (doReturn e (T.setTop f) acts (some (.long z))).1 = T.setFrames fs) : Steps p.tables e below (T.setTop (mkF m pc Ls (.long z :: rest))) (T.setFrames fs) := by
  have hm' : T.vm.method? m = some meth := X.method'
  have hn : narrow .long (.long z) = .long z := rfl
  show Steps p.tables e below (T.setTop { method := m, pc := pc, locals := Ls, stack := _ :: rest, locked := none }) _
  jvm_step X.here [X.here.top, hx, hd, hm', hret, hn]
  first | (intro acts; rw [hl _ acts rfl rfl rfl]) | rw [hl _ _ rfl rfl rfl]
  exact Steps.refl _
theorem own_retR (X : Stand p l e R s m args below meth c T locs cells slots) (hx : p.tables.exec = Jvm.exec) {pc : Nat} {Ls : Array Slot} {v : Value} {t : FieldType} {rest : List Value} (hret : meth.sig.returnType = some t) (ht : t.isReference = true) (hv : v.isRef = true) (hd : decode c.code pc = .ok (.areturn, 1)) {fs : List Frame}
    (hl : ∀ (f : JFrame) (acts : List Action), f.method = m → f.locked = none → f.entered = [] → (doReturn e (T.setTop f) acts (some v)).1 = T.setFrames fs) : Steps p.tables e below (T.setTop (mkF m pc Ls (v :: rest))) (T.setFrames fs) := by
  have hm' : T.vm.method? m = some meth := X.method'
  show Steps p.tables e below (T.setTop { method := m, pc := pc, locals := Ls, stack := _ :: rest, locked := none }) _
  rcases ref_cases hv with rfl | ⟨a, rfl⟩
  · jvm_step X.here [X.here.top, hx, hd, hm', hret, ht, Value.isRef]
    first | (intro acts; rw [hl _ acts rfl rfl rfl]) | rw [hl _ _ rfl rfl rfl]
    exact Steps.refl _
  · jvm_step X.here [X.here.top, hx, hd, hm', hret, ht, Value.isRef]
    first | (intro acts; rw [hl _ acts rfl rfl rfl]) | rw [hl _ _ rfl rfl rfl]
    exact Steps.refl _
end New
/-- an end that the run comes to from S, with what is said of it -/
def OGo (tb : Tables) (e : Env) (below : List Frame) (Φ : State → Outcome → Prop) (S : State) : Prop := ∃ t o, Steps tb e below S t ∧ Φ t o
section Own
variable {tb : Tables} {e : Env} {below : List Frame} {Φ : State → Outcome → Prop} {S S' t : State} {o : Outcome}
theorem OGo.start (pre : ∀ t, Steps tb e below S' t → Steps tb e below S t) (k : OGo tb e below Φ S') : ∃ t o, Steps tb e below S t ∧ Φ t o := by
  obtain ⟨t, o, h1, h2⟩ := k
  exact ⟨t, o, pre t h1, h2⟩
theorem OGo.st (h : ∀ t, Steps tb e below S' t → Steps tb e below S t) (k : OGo tb e below Φ S') : OGo tb e below Φ S := OGo.start h k
theorem OGo.tr (h : Steps tb e below S S') (k : OGo tb e below Φ S') : OGo tb e below Φ S := OGo.start (fun _ q => h.trans q) k
theorem OGo.done (h : Steps tb e below S t) (q : Φ t o) : OGo tb e below Φ S := ⟨t, o, h, q⟩
theorem OGo.join {α : Type} (P : α → Prop) (F : α → State) (h : ∀ v, P v → OGo tb e below Φ (F v)) (k : (∀ v, P v → OGo tb e below Φ (F v)) → OGo tb e below Φ S) : OGo tb e below Φ S := k h
theorem own_fld {Z : State} {h : Heap} {a : Addr} {C n d : String} {v w : Value} (F : Fld Z h a C n d v) (q : v = w) : Fld Z h a C n d w := q ▸ F
end Own
end Jvm.RoadKit
namespace Jvm.Pilot.@@N@@
open Jvm Jvm.ClassFile Sem Op Lib Jvm.Free Jvm.Stand Jvm.LawKit Jvm.RoadKit Bundle Jvm.Pilot.@@N@@.Jvm.D
def own_strict (x : Int64) : Int32 := if x &&& 1 = 0 then 1 else 0
theorem own_and1 (x : Int64) : (x &&& 1).toInt = x.toInt % 2 := c_maskL x 1 1 (by decide) (by decide)
theorem own_st (x : Int64) : own_strict x = if x.toInt % 2 = 0 then 1 else 0 := by
  unfold own_strict
  have e : (x &&& 1 = 0) ↔ (x.toInt % 2 = 0) := by
    rw [← Int64.toInt_inj, own_and1]; exact Iff.rfl
  by_cases h : x &&& 1 = 0
  · rw [if_pos h, if_pos (e.mp h)]
  · rw [if_neg h, if_neg (fun q => h (e.mpr q))]
theorem own_two (c : Int64) : (2 * c).toInt % 2 = 0 := by
  have h := c_lmul 2 c; have e : (2 : Int64).toInt = 2 := rfl
  rw [e] at h; omega
theorem own_less (c : Int64) : own_strict (2 * c) = 1 := by rw [own_st, own_two]; rfl
theorem own_atm (c : Int64) : own_strict (2 * c + 1) = 0 := by
  have h := c_ladd (2 * c) 1; have h2 := own_two c; have e : (1 : Int64).toInt = 1 := rfl
  rw [e] at h
  rw [own_st, if_neg (by omega)]
theorem own_half (b : Int64) : (2 * (b >>> ((1 : Int32) &&& 0x3f).toInt64)) = b ↔ b.toInt % 2 = 0 := by
  have h1 := c_lshr b 1 1 (by decide)
  have h2 := c_lmul 2 (b >>> ((1 : Int32) &&& 0x3f).toInt64); have e : (2 : Int64).toInt = 2 := rfl
  have r1 := rng64 (2 * (b >>> ((1 : Int32) &&& 0x3f).toInt64)); have r2 := rng64 b
  rw [← Int64.toInt_inj]
  rw [h1, e] at h2
  have e2 : ((2 ^ 1 : Nat) : Int) = 2 := rfl
  rw [e2] at h2
  constructor <;> intro h <;> omega
theorem own_dec1 (b : Int64) (h : lcmpW (2 * (b >>> ((1 : Int32) &&& 0x3f).toInt64)) b = 0) : own_strict b = 1 := by
  rw [own_st, if_pos ((own_half b).mp ((lw_eq _ _).mp h))]
theorem own_dec0 (b : Int64) (h : ¬ lcmpW (2 * (b >>> ((1 : Int32) &&& 0x3f).toInt64)) b = 0) : own_strict b = 0 := by
  rw [own_st, if_neg (fun q => h ((lw_eq _ _).mpr ((own_half b).mpr q)))]
theorem d0_0 : decode prog_24_method_5_code 0 = .ok (.ldc2_w 81, 3) := by decide +kernel
theorem d0_3 : decode prog_24_method_5_code 3 = .ok (.lload_n 0, 1) := by decide +kernel
theorem d0_4 : decode prog_24_method_5_code 4 = .ok (.lmul, 1) := by decide +kernel
theorem d0_5 : decode prog_24_method_5_code 5 = .ok (.lreturn, 1) := by decide +kernel
theorem pn_0 : plainName "com/example/palamedes/palamedes/analysis/Zone" = true := by first | (simp [plainName, overriddenIn]; done) | decide +kernel
theorem ef_0 (m : MethodId) (x0 : Int64) : entryFrame m #[(.long x0)] 2 = mkF m 0 #[.val (.long x0), .second] [] := by first | (simp [entryFrame, mkF, argsToLocals, Value.category]; done) | rfl
def Q0 (Z : State) (q0 : Int64) (h0 : Heap) (n0 : Nat) (v : Option Value) (h : Heap) (L : List Loc) : Prop := v = some (.long ((2 : Int64) * q0)) ∧ Fr n0 L ∧ h = h0
set_option maxRecDepth 65536 in
set_option maxHeartbeats 40000000 in
theorem rm0 (l : Launch) (Z : State) (ar : Array Value) (hw : ∀ d ∈ tables_1, d.before ar Z = true) (ws : List Jvm.Cond) (q0 : Int64) (h0 : Heap) (n0 : Nat) (Z0 : n0 ≤ h0.size)  :
    MetFree l (⟨"com/example/palamedes/palamedes/analysis/Zone", "lessThan", "(J)J"⟩ : MethodName) (head1 (Jvm.Cond.code (⟨"com/example/palamedes/palamedes/analysis/Zone", "lessThan", "(J)J"⟩ : MethodName) prog_24_method_5_code 2 (some .long) :: ws) ({ frames := 0, cells := 0, slots := 0, locals := 0 } : Room)) (fun a U => a = #[(.long q0)] ∧ Z.Warmed39 U.vm ∧ U.heap = h0) (fun _ _ _ _ _ => True) (fun _ U o U' => ∃ v L, o = .returned v ∧ Q0 Z q0 h0 n0 v U'.heap L ∧ FrameEnd U o U' L ({ frames := 0, cells := 0, slots := 0, locals := 0 } : Room).cells ({ frames := 0, cells := 0, slots := 0, locals := 0 } : Room).slots) := by
  refine MetFree.of_bodySF (plainFor_of_name pn_0) hisR ?_
  intro p e s m args below meth c s₁ Bd hml0 hP hK
  obtain ⟨rfl, hZ, hh⟩ := hP
  have hx := Bd.exec
  have hby := Bd.bytes
  have hml : c.maxLocals = 2 := hml0
  have hown : s.vm.findClass "com/example/palamedes/palamedes/analysis/Zone" = some m.cls := findClass_of_methodNamed Bd.named
  have hnm := (name_of_methodNamed Bd.named Bd.method).1
  have X0 : Stand p l e ({ frames := 0, cells := 0, slots := 0, locals := 0 } : Room) s m #[(.long q0)] below meth c s₁ [] 0 0 := Stand.of_body Bd
  have e0 : s₁.heap = h0 := by rw [← hh, Bd.state]; rfl
  have N0 := Fr.nil n0
  have pre0 : ∀ t, Steps p.tables e below (s₁.setTop (mkF m 0 #[.val (.long q0), .second] [])) t → Steps p.tables e below (s₁.setTop (entryFrame m #[(.long q0)] 2)) t := fun t k => castTop (ef_0 m q0) k
  refine OGo.start pre0 ?_
  show OGo p.tables e below _ (s₁.setTop (mkF m 0 #[.val (.long q0), .second] []))
  refine OGo.st (fun t k => X0.ldc2Long hx hown (mvT hZ (hw _ (List.mem_of_getElem? (i := 4) rfl))) (g := (mkF m 0 #[.val (.long q0), .second] [])) rfl (hb hby d0_0) _ k) ?_
  show OGo p.tables e below _ (s₁.setTop (mkF m 3 #[.val (.long q0), .second] [(.long (2 : Int64))]))
  refine OGo.st (fun t k => XS.lloadN X0.here hx rfl (hb hby d0_3) rfl k) ?_
  show OGo p.tables e below _ (s₁.setTop (mkF m 4 #[.val (.long q0), .second] [(.long q0), (.long (2 : Int64))]))
  refine OGo.st (fun t k => XS.lmul X0.here hx rfl (hb hby d0_4) rfl k) ?_
  show OGo p.tables e below _ (s₁.setTop (mkF m 5 #[.val (.long q0), .second] [(.long ((2 : Int64) * q0))]))
  obtain ⟨fs, hr, hrun, hended, hW, hsame⟩ := X0.leave (v := some (.long ((2 : Int64) * q0))) (fun h => by rw [Bd.returns] at h; cases h)
  refine OGo.done (own_retL X0 hx Bd.returns (hb hby d0_5) hr) ⟨hrun, hended, _, _, rfl, ?_, ⟨_, rfl⟩, hW, hsame.mono (by decide) (by decide)⟩
  show Q0 Z q0 h0 n0 _ s₁.heap _
  rw [e0]
  exact ⟨rfl, N0, rfl⟩
theorem d1_0 : decode prog_24_method_4_code 0 = .ok (.ldc2_w 81, 3) := by decide +kernel
theorem d1_3 : decode prog_24_method_4_code 3 = .ok (.lload_n 0, 1) := by decide +kernel
theorem d1_4 : decode prog_24_method_4_code 4 = .ok (.lmul, 1) := by decide +kernel
theorem d1_5 : decode prog_24_method_4_code 5 = .ok (.lconst 1, 1) := by decide +kernel
theorem d1_6 : decode prog_24_method_4_code 6 = .ok (.ladd, 1) := by decide +kernel
theorem d1_7 : decode prog_24_method_4_code 7 = .ok (.lreturn, 1) := by decide +kernel
theorem ef_1 (m : MethodId) (x0 : Int64) : entryFrame m #[(.long x0)] 2 = mkF m 0 #[.val (.long x0), .second] [] := by first | (simp [entryFrame, mkF, argsToLocals, Value.category]; done) | rfl
def Q1 (Z : State) (q0 : Int64) (h0 : Heap) (n0 : Nat) (v : Option Value) (h : Heap) (L : List Loc) : Prop := v = some (.long (((2 : Int64) * q0) + (1 : Int64))) ∧ Fr n0 L ∧ h = h0
set_option maxRecDepth 65536 in
set_option maxHeartbeats 40000000 in
theorem rm1 (l : Launch) (Z : State) (ar : Array Value) (hw : ∀ d ∈ tables_1, d.before ar Z = true) (ws : List Jvm.Cond) (q0 : Int64) (h0 : Heap) (n0 : Nat) (Z0 : n0 ≤ h0.size)  :
    MetFree l (⟨"com/example/palamedes/palamedes/analysis/Zone", "atMost", "(J)J"⟩ : MethodName) (head1 (Jvm.Cond.code (⟨"com/example/palamedes/palamedes/analysis/Zone", "atMost", "(J)J"⟩ : MethodName) prog_24_method_4_code 2 (some .long) :: ws) ({ frames := 0, cells := 0, slots := 0, locals := 0 } : Room)) (fun a U => a = #[(.long q0)] ∧ Z.Warmed39 U.vm ∧ U.heap = h0) (fun _ _ _ _ _ => True) (fun _ U o U' => ∃ v L, o = .returned v ∧ Q1 Z q0 h0 n0 v U'.heap L ∧ FrameEnd U o U' L ({ frames := 0, cells := 0, slots := 0, locals := 0 } : Room).cells ({ frames := 0, cells := 0, slots := 0, locals := 0 } : Room).slots) := by
  refine MetFree.of_bodySF (plainFor_of_name pn_0) hisR ?_
  intro p e s m args below meth c s₁ Bd hml0 hP hK
  obtain ⟨rfl, hZ, hh⟩ := hP
  have hx := Bd.exec
  have hby := Bd.bytes
  have hml : c.maxLocals = 2 := hml0
  have hown : s.vm.findClass "com/example/palamedes/palamedes/analysis/Zone" = some m.cls := findClass_of_methodNamed Bd.named
  have hnm := (name_of_methodNamed Bd.named Bd.method).1
  have X0 : Stand p l e ({ frames := 0, cells := 0, slots := 0, locals := 0 } : Room) s m #[(.long q0)] below meth c s₁ [] 0 0 := Stand.of_body Bd
  have e0 : s₁.heap = h0 := by rw [← hh, Bd.state]; rfl
  have N0 := Fr.nil n0
  have pre0 : ∀ t, Steps p.tables e below (s₁.setTop (mkF m 0 #[.val (.long q0), .second] [])) t → Steps p.tables e below (s₁.setTop (entryFrame m #[(.long q0)] 2)) t := fun t k => castTop (ef_1 m q0) k
  refine OGo.start pre0 ?_
  show OGo p.tables e below _ (s₁.setTop (mkF m 0 #[.val (.long q0), .second] []))
  refine OGo.st (fun t k => X0.ldc2Long hx hown (mvT hZ (hw _ (List.mem_of_getElem? (i := 4) rfl))) (g := (mkF m 0 #[.val (.long q0), .second] [])) rfl (hb hby d1_0) _ k) ?_
  show OGo p.tables e below _ (s₁.setTop (mkF m 3 #[.val (.long q0), .second] [(.long (2 : Int64))]))
  refine OGo.st (fun t k => XS.lloadN X0.here hx rfl (hb hby d1_3) rfl k) ?_
  show OGo p.tables e below _ (s₁.setTop (mkF m 4 #[.val (.long q0), .second] [(.long q0), (.long (2 : Int64))]))
  refine OGo.st (fun t k => XS.lmul X0.here hx rfl (hb hby d1_4) rfl k) ?_
  show OGo p.tables e below _ (s₁.setTop (mkF m 5 #[.val (.long q0), .second] [(.long ((2 : Int64) * q0))]))
  refine OGo.st (fun t k => XS.lconst X0.here hx rfl (hb hby d1_5) k) ?_
  show OGo p.tables e below _ (s₁.setTop (mkF m 6 #[.val (.long q0), .second] [(.long (1 : Int64)), (.long ((2 : Int64) * q0))]))
  refine OGo.st (fun t k => XS.ladd X0.here hx rfl (hb hby d1_6) rfl k) ?_
  show OGo p.tables e below _ (s₁.setTop (mkF m 7 #[.val (.long q0), .second] [(.long (((2 : Int64) * q0) + (1 : Int64)))]))
  obtain ⟨fs, hr, hrun, hended, hW, hsame⟩ := X0.leave (v := some (.long (((2 : Int64) * q0) + (1 : Int64)))) (fun h => by rw [Bd.returns] at h; cases h)
  refine OGo.done (own_retL X0 hx Bd.returns (hb hby d1_7) hr) ⟨hrun, hended, _, _, rfl, ?_, ⟨_, rfl⟩, hW, hsame.mono (by decide) (by decide)⟩
  show Q1 Z q0 h0 n0 _ s₁.heap _
  rw [e0]
  exact ⟨rfl, N0, rfl⟩
theorem d2_0 : decode prog_24_method_32_code 0 = .ok (.lload_n 0, 1) := by decide +kernel
theorem d2_1 : decode prog_24_method_32_code 1 = .ok (.lconst 1, 1) := by decide +kernel
theorem d2_2 : decode prog_24_method_32_code 2 = .ok (.land, 1) := by decide +kernel
theorem d2_3 : decode prog_24_method_32_code 3 = .ok (.lconst 0, 1) := by decide +kernel
theorem d2_4 : decode prog_24_method_32_code 4 = .ok (.lcmp, 1) := by decide +kernel
theorem d2_5 : decode prog_24_method_32_code 5 = .ok (.ifCond .ne 7, 3) := by decide +kernel
theorem d2_8 : decode prog_24_method_32_code 8 = .ok (.iconst 1, 1) := by decide +kernel
theorem d2_9 : decode prog_24_method_32_code 9 = .ok (.goto 4, 3) := by decide +kernel
theorem d2_12 : decode prog_24_method_32_code 12 = .ok (.iconst 0, 1) := by decide +kernel
theorem d2_13 : decode prog_24_method_32_code 13 = .ok (.ireturn, 1) := by decide +kernel
theorem ef_2 (m : MethodId) (x0 : Int64) : entryFrame m #[(.long x0)] 2 = mkF m 0 #[.val (.long x0), .second] [] := by first | (simp [entryFrame, mkF, argsToLocals, Value.category]; done) | rfl
def Q2 (Z : State) (q0 : Int64) (h0 : Heap) (n0 : Nat) (v : Option Value) (h : Heap) (L : List Loc) : Prop := v = some (.int (own_strict q0)) ∧ Fr n0 L ∧ h = h0
set_option maxRecDepth 65536 in
set_option maxHeartbeats 40000000 in
theorem rm2 (l : Launch) (Z : State) (ar : Array Value) (hw : ∀ d ∈ tables_1, d.before ar Z = true) (ws : List Jvm.Cond) (q0 : Int64) (h0 : Heap) (n0 : Nat) (Z0 : n0 ≤ h0.size)  :
    MetFree l (⟨"com/example/palamedes/palamedes/analysis/Zone", "strict", "(J)Z"⟩ : MethodName) (head1 (Jvm.Cond.code (⟨"com/example/palamedes/palamedes/analysis/Zone", "strict", "(J)Z"⟩ : MethodName) prog_24_method_32_code 2 (some .boolean) :: ws) ({ frames := 0, cells := 0, slots := 0, locals := 0 } : Room)) (fun a U => a = #[(.long q0)] ∧ Z.Warmed39 U.vm ∧ U.heap = h0) (fun _ _ _ _ _ => True) (fun _ U o U' => ∃ v L, o = .returned v ∧ Q2 Z q0 h0 n0 v U'.heap L ∧ FrameEnd U o U' L ({ frames := 0, cells := 0, slots := 0, locals := 0 } : Room).cells ({ frames := 0, cells := 0, slots := 0, locals := 0 } : Room).slots) := by
  refine MetFree.of_bodySF (plainFor_of_name pn_0) hisR ?_
  intro p e s m args below meth c s₁ Bd hml0 hP hK
  obtain ⟨rfl, hZ, hh⟩ := hP
  have hx := Bd.exec
  have hby := Bd.bytes
  have hml : c.maxLocals = 2 := hml0
  have hown : s.vm.findClass "com/example/palamedes/palamedes/analysis/Zone" = some m.cls := findClass_of_methodNamed Bd.named
  have hnm := (name_of_methodNamed Bd.named Bd.method).1
  have X0 : Stand p l e ({ frames := 0, cells := 0, slots := 0, locals := 0 } : Room) s m #[(.long q0)] below meth c s₁ [] 0 0 := Stand.of_body Bd
  have e0 : s₁.heap = h0 := by rw [← hh, Bd.state]; rfl
  have N0 := Fr.nil n0
  have pre0 : ∀ t, Steps p.tables e below (s₁.setTop (mkF m 0 #[.val (.long q0), .second] [])) t → Steps p.tables e below (s₁.setTop (entryFrame m #[(.long q0)] 2)) t := fun t k => castTop (ef_2 m q0) k
  refine OGo.start pre0 ?_
  show OGo p.tables e below _ (s₁.setTop (mkF m 0 #[.val (.long q0), .second] []))
  refine OGo.st (fun t k => XS.lloadN X0.here hx rfl (hb hby d2_0) rfl k) ?_
  show OGo p.tables e below _ (s₁.setTop (mkF m 1 #[.val (.long q0), .second] [(.long q0)]))
  refine OGo.st (fun t k => XS.lconst X0.here hx rfl (hb hby d2_1) k) ?_
  show OGo p.tables e below _ (s₁.setTop (mkF m 2 #[.val (.long q0), .second] [(.long (1 : Int64)), (.long q0)]))
  refine OGo.st (fun t k => XS.land X0.here hx rfl (hb hby d2_2) rfl k) ?_
  show OGo p.tables e below _ (s₁.setTop (mkF m 3 #[.val (.long q0), .second] [(.long (q0 &&& (1 : Int64)))]))
  refine OGo.st (fun t k => XS.lconst X0.here hx rfl (hb hby d2_3) k) ?_
  show OGo p.tables e below _ (s₁.setTop (mkF m 4 #[.val (.long q0), .second] [(.long (0 : Int64)), (.long (q0 &&& (1 : Int64)))]))
  refine OGo.st (fun t k => XS.lcmp X0.here hx rfl (hb hby d2_4) rfl k) ?_
  show OGo p.tables e below _ (s₁.setTop (mkF m 5 #[.val (.long q0), .second] [(.int (lcmpW (q0 &&& (1 : Int64)) (0 : Int64)))]))
  by_cases hc5_101 : (lcmpW (q0 &&& (1 : Int64)) (0 : Int64)) = (0 : Int32)
  ·
    refine OGo.st (fun t k => XS.ifNo X0.here hx rfl (hb hby d2_5) rfl ((if0 _ _).trans (teq hc5_101).2) k) ?_
    show OGo p.tables e below _ (s₁.setTop (mkF m 8 #[.val (.long q0), .second] []))
    refine OGo.st (fun t k => XS.iconst X0.here hx rfl (hb hby d2_8) k) ?_
    show OGo p.tables e below _ (s₁.setTop (mkF m 9 #[.val (.long q0), .second] [(.int (1 : Int32))]))
    refine OGo.st (fun t k => XS.goto X0.here hx rfl (pc0 := 9) (pc' := 13) rfl (hb hby d2_9) (by decide) (by decide) k) ?_
    show OGo p.tables e below _ (s₁.setTop (mkF m 13 #[.val (.long q0), .second] [(.int (1 : Int32))]))
    obtain ⟨fs, hr, hrun, hended, hW, hsame⟩ := X0.leave (v := some (.int (1 : Int32))) (fun h => by rw [Bd.returns] at h; cases h)
    refine OGo.done (retN X0 hx (t := .boolean) Bd.returns (by simp) (hb hby d2_13) hr) ⟨hrun, hended, _, _, rfl, ?_, ⟨_, rfl⟩, hW, hsame.mono (by decide) (by decide)⟩
    show Q2 Z q0 h0 n0 _ s₁.heap _
    rw [e0]
    exact ⟨(congrArg (fun z => some (Value.int z)) (show (1 : Int32) = (own_strict q0) from by rw [own_strict, if_pos ((lw_eq _ _).mp hc5_101)])), N0, rfl⟩
  ·
    refine OGo.st (fun t k => XS.ifYes X0.here hx rfl (pc0 := 5) (pc' := 12) rfl (hb hby d2_5) rfl ((if0 _ _).trans (feq hc5_101).2) (by decide) (by decide) k) ?_
    show OGo p.tables e below _ (s₁.setTop (mkF m 12 #[.val (.long q0), .second] []))
    refine OGo.st (fun t k => XS.iconst X0.here hx rfl (hb hby d2_12) k) ?_
    show OGo p.tables e below _ (s₁.setTop (mkF m 13 #[.val (.long q0), .second] [(.int (0 : Int32))]))
    obtain ⟨fs, hr, hrun, hended, hW, hsame⟩ := X0.leave (v := some (.int (0 : Int32))) (fun h => by rw [Bd.returns] at h; cases h)
    refine OGo.done (retN X0 hx (t := .boolean) Bd.returns (by simp) (hb hby d2_13) hr) ⟨hrun, hended, _, _, rfl, ?_, ⟨_, rfl⟩, hW, hsame.mono (by decide) (by decide)⟩
    show Q2 Z q0 h0 n0 _ s₁.heap _
    rw [e0]
    exact ⟨(congrArg (fun z => some (Value.int z)) (show (0 : Int32) = (own_strict q0) from by rw [own_strict, if_neg (fun q => hc5_101 ((lw_eq _ _).mpr q))])), N0, rfl⟩
theorem pd_0 : parseMethodDescriptor "(J)J" = some ⟨[.long], some .long⟩ := by decide +kernel
theorem pd_1 : parseMethodDescriptor "(J)Z" = some ⟨[.long], some .boolean⟩ := by decide +kernel
theorem pn_1 : plainName "com/example/palamedes/palamedes/analysis/ZoneStrictPinLaw" = true := by first | (simp [plainName, overriddenIn]; done) | decide +kernel
theorem ef_3 (m : MethodId) (x0 : Int64) (x1 : Int64) : entryFrame m #[(.long x0), (.long x1)] maxLocals = mkF m 0 #[.val (.long x0), .second, .val (.long x1), .second, .unset, .unset, .unset, .unset, .unset] [] := by first | (simp [entryFrame, mkF, argsToLocals, Value.category, maxLocals]; done) | rfl
def Q3 (Z : State) (q0 : Int64) (q1 : Int64) (h0 : Heap) (n0 : Nat) (v : Option Value) (h : Heap) (L : List Loc) : Prop := v = some (.int (1 : Int32)) ∧ Fr n0 L
set_option maxRecDepth 65536 in
set_option maxHeartbeats 40000000 in
theorem rm3 (l : Launch) (Z : State) (ar : Array Value) (hw : ∀ d ∈ tables_1, d.before ar Z = true) (ws : List Jvm.Cond) (q0 : Int64) (q1 : Int64) (h0 : Heap) (n0 : Nat) (Z0 : n0 ≤ h0.size)  :
    MetFree l x (head1 (Jvm.Cond.code x code maxLocals ret :: ws) room_1) (fun a U => a = #[(.long q0), (.long q1)] ∧ Z.Warmed39 U.vm ∧ U.heap = h0) (fun _ _ _ _ _ => True) (fun _ U o U' => ∃ v L, o = .returned v ∧ Q3 Z q0 q1 h0 n0 v U'.heap L ∧ FrameEnd U o U' L room_1.cells room_1.slots) := by
  refine MetFree.of_bodySF (plainFor_of_name pn_1) hisR ?_
  intro p e s m args below meth c s₁ Bd hml0 hP hK
  obtain ⟨rfl, hZ, hh⟩ := hP
  have hx := Bd.exec
  have hby := Bd.bytes
  have hml : c.maxLocals = 9 := hml0
  have hown : s.vm.findClass "com/example/palamedes/palamedes/analysis/ZoneStrictPinLaw" = some m.cls := findClass_of_methodNamed Bd.named
  have hnm := (name_of_methodNamed Bd.named Bd.method).1
  have X0 : Stand p l e room_1 s m #[(.long q0), (.long q1)] below meth c s₁ [] 0 0 := Stand.of_body Bd
  have e0 : s₁.heap = h0 := by rw [← hh, Bd.state]; rfl
  have N0 := Fr.nil n0
  have pre0 : ∀ t, Steps p.tables e below (s₁.setTop (mkF m 0 #[.val (.long q0), .second, .val (.long q1), .second, .unset, .unset, .unset, .unset, .unset] [])) t → Steps p.tables e below (s₁.setTop (entryFrame m #[(.long q0), (.long q1)] maxLocals)) t := fun t k => castTop (ef_3 m q0 q1) k
  refine OGo.start pre0 ?_
  show OGo p.tables e below _ (s₁.setTop (mkF m 0 #[.val (.long q0), .second, .val (.long q1), .second, .unset, .unset, .unset, .unset, .unset] []))
  refine OGo.st (fun t k => XS.lloadN X0.here hx rfl (hb hby at_0) rfl k) ?_
  show OGo p.tables e below _ (s₁.setTop (mkF m 1 #[.val (.long q0), .second, .val (.long q1), .second, .unset, .unset, .unset, .unset, .unset] [(.long q1)]))
  obtain ⟨_, _, ⟨T101, L101, kk101, nn101⟩, -, X101, ⟨Lc101, hQ101, l101, y101, z101⟩, st101⟩ := Jvm.LawKit.callS X0 hx (y := (⟨"com/example/palamedes/palamedes/analysis/Zone", "lessThan", "(J)J"⟩ : MethodName)) hown (mvT hZ (hw _ (List.mem_of_getElem? (i := 0) rfl))) (mvT hZ (hw _ (List.mem_of_getElem? (i := 1) rfl))) (mvT hZ (hw _ (List.mem_of_getElem? (i := 2) rfl))) (mvT hZ (hw _ (List.mem_of_getElem? (i := 3) rfl))) (by decide) (backOf (W := 0) (rm0 l Z ar hw [] q1 h0 n0 Z0 ) hZ (hw _ (List.mem_of_getElem? (i := 3) rfl)) (hw _ (List.mem_of_getElem? (i := 2) rfl)) (by decide) (by decide)) (g := (mkF m 1 #[.val (.long q0), .second, .val (.long q1), .second, .unset, .unset, .unset, .unset, .unset] [(.long q1)])) rfl (by rw [hml]; rfl) (argsL := [(.long q1)]) (rest := []) (lenOf pd_0 rfl) rfl (by show 2 * 0 + _ ≤ _; exact Nat.le_of_eq rfl) (hb hby at_1) (fun _ _ => ⟨rfl, e0, (by decide : 0 + 0 ≤ _), (by decide : 0 + 0 ≤ _)⟩)
  dsimp only [Pt.U, Pt.locs, Pt.cells, Pt.slots] at X101 l101 y101 z101 st101 hQ101
  subst l101 y101 z101
  obtain ⟨rfl, Nq101, hh101⟩ := hQ101
  have N101 := Fr.app N0 Nq101
  refine OGo.st st101 ?_
  have e101 : T101.heap = h0 := hh101
  show OGo p.tables e below _ (T101.setTop (mkF m 4 #[.val (.long q0), .second, .val (.long q1), .second, .unset, .unset, .unset, .unset, .unset] [(.long ((2 : Int64) * q1))]))
  obtain ⟨_, _, ⟨T102, L102, kk102, nn102⟩, -, X102, ⟨Lc102, hQ102, l102, y102, z102⟩, st102⟩ := Jvm.LawKit.callS X101 hx (y := (⟨"com/example/palamedes/palamedes/analysis/Zone", "strict", "(J)Z"⟩ : MethodName)) hown (mvT hZ (hw _ (List.mem_of_getElem? (i := 5) rfl))) (mvT hZ (hw _ (List.mem_of_getElem? (i := 6) rfl))) (mvT hZ (hw _ (List.mem_of_getElem? (i := 2) rfl))) (mvT hZ (hw _ (List.mem_of_getElem? (i := 7) rfl))) (by decide) (backOf (W := 0) (rm2 l Z ar hw [] ((2 : Int64) * q1) h0 n0 Z0 ) hZ (hw _ (List.mem_of_getElem? (i := 7) rfl)) (hw _ (List.mem_of_getElem? (i := 2) rfl)) (by decide) (by decide)) (g := (mkF m 4 #[.val (.long q0), .second, .val (.long q1), .second, .unset, .unset, .unset, .unset, .unset] [(.long ((2 : Int64) * q1))])) rfl (by rw [hml]; rfl) (argsL := [(.long ((2 : Int64) * q1))]) (rest := []) (lenOf pd_1 rfl) rfl (by show 2 * 0 + _ ≤ _; exact Nat.le_of_eq rfl) (hb hby at_4) (fun _ _ => ⟨rfl, e101, (by decide : 0 + 0 ≤ _), (by decide : 0 + 0 ≤ _)⟩)
  dsimp only [Pt.U, Pt.locs, Pt.cells, Pt.slots] at X102 l102 y102 z102 st102 hQ102
  subst l102 y102 z102
  obtain ⟨rfl, Nq102, hh102⟩ := hQ102
  have N102 := Fr.app N101 Nq102
  refine OGo.st st102 ?_
  have e102 : T102.heap = h0 := hh102
  show OGo p.tables e below _ (T102.setTop (mkF m 7 #[.val (.long q0), .second, .val (.long q1), .second, .unset, .unset, .unset, .unset, .unset] [(.int (own_strict ((2 : Int64) * q1)))]))
  refine OGo.st (fun t k => XS.istore X102.here hx rfl (hb hby at_7) rfl (l' := #[.val (.long q0), .second, .val (.long q1), .second, .val (.int (own_strict ((2 : Int64) * q1))), .unset, .unset, .unset, .unset]) rfl k) ?_
  show OGo p.tables e below _ (T102.setTop (mkF m 9 #[.val (.long q0), .second, .val (.long q1), .second, .val (.int (own_strict ((2 : Int64) * q1))), .unset, .unset, .unset, .unset] []))
  refine OGo.st (fun t k => XS.lloadN X102.here hx rfl (hb hby at_9) rfl k) ?_
  show OGo p.tables e below _ (T102.setTop (mkF m 10 #[.val (.long q0), .second, .val (.long q1), .second, .val (.int (own_strict ((2 : Int64) * q1))), .unset, .unset, .unset, .unset] [(.long q1)]))
  obtain ⟨_, _, ⟨T103, L103, kk103, nn103⟩, -, X103, ⟨Lc103, hQ103, l103, y103, z103⟩, st103⟩ := Jvm.LawKit.callS X102 hx (y := (⟨"com/example/palamedes/palamedes/analysis/Zone", "atMost", "(J)J"⟩ : MethodName)) hown (mvT hZ (hw _ (List.mem_of_getElem? (i := 8) rfl))) (mvT hZ (hw _ (List.mem_of_getElem? (i := 9) rfl))) (mvT hZ (hw _ (List.mem_of_getElem? (i := 2) rfl))) (mvT hZ (hw _ (List.mem_of_getElem? (i := 10) rfl))) (by decide) (backOf (W := 0) (rm1 l Z ar hw [] q1 h0 n0 Z0 ) hZ (hw _ (List.mem_of_getElem? (i := 10) rfl)) (hw _ (List.mem_of_getElem? (i := 2) rfl)) (by decide) (by decide)) (g := (mkF m 10 #[.val (.long q0), .second, .val (.long q1), .second, .val (.int (own_strict ((2 : Int64) * q1))), .unset, .unset, .unset, .unset] [(.long q1)])) rfl (by rw [hml]; rfl) (argsL := [(.long q1)]) (rest := []) (lenOf pd_0 rfl) rfl (by show 2 * 0 + _ ≤ _; exact Nat.le_of_eq rfl) (hb hby at_10) (fun _ _ => ⟨rfl, e102, (by decide : 0 + 0 ≤ _), (by decide : 0 + 0 ≤ _)⟩)
  dsimp only [Pt.U, Pt.locs, Pt.cells, Pt.slots] at X103 l103 y103 z103 st103 hQ103
  subst l103 y103 z103
  obtain ⟨rfl, Nq103, hh103⟩ := hQ103
  have N103 := Fr.app N102 Nq103
  refine OGo.st st103 ?_
  have e103 : T103.heap = h0 := hh103
  show OGo p.tables e below _ (T103.setTop (mkF m 13 #[.val (.long q0), .second, .val (.long q1), .second, .val (.int (own_strict ((2 : Int64) * q1))), .unset, .unset, .unset, .unset] [(.long (((2 : Int64) * q1) + (1 : Int64)))]))
  obtain ⟨_, _, ⟨T104, L104, kk104, nn104⟩, -, X104, ⟨Lc104, hQ104, l104, y104, z104⟩, st104⟩ := Jvm.LawKit.callS X103 hx (y := (⟨"com/example/palamedes/palamedes/analysis/Zone", "strict", "(J)Z"⟩ : MethodName)) hown (mvT hZ (hw _ (List.mem_of_getElem? (i := 5) rfl))) (mvT hZ (hw _ (List.mem_of_getElem? (i := 6) rfl))) (mvT hZ (hw _ (List.mem_of_getElem? (i := 2) rfl))) (mvT hZ (hw _ (List.mem_of_getElem? (i := 7) rfl))) (by decide) (backOf (W := 0) (rm2 l Z ar hw [] (((2 : Int64) * q1) + (1 : Int64)) h0 n0 Z0 ) hZ (hw _ (List.mem_of_getElem? (i := 7) rfl)) (hw _ (List.mem_of_getElem? (i := 2) rfl)) (by decide) (by decide)) (g := (mkF m 13 #[.val (.long q0), .second, .val (.long q1), .second, .val (.int (own_strict ((2 : Int64) * q1))), .unset, .unset, .unset, .unset] [(.long (((2 : Int64) * q1) + (1 : Int64)))])) rfl (by rw [hml]; rfl) (argsL := [(.long (((2 : Int64) * q1) + (1 : Int64)))]) (rest := []) (lenOf pd_1 rfl) rfl (by show 2 * 0 + _ ≤ _; exact Nat.le_of_eq rfl) (hb hby at_13) (fun _ _ => ⟨rfl, e103, (by decide : 0 + 0 ≤ _), (by decide : 0 + 0 ≤ _)⟩)
  dsimp only [Pt.U, Pt.locs, Pt.cells, Pt.slots] at X104 l104 y104 z104 st104 hQ104
  subst l104 y104 z104
  obtain ⟨rfl, Nq104, hh104⟩ := hQ104
  have N104 := Fr.app N103 Nq104
  refine OGo.st st104 ?_
  have e104 : T104.heap = h0 := hh104
  show OGo p.tables e below _ (T104.setTop (mkF m 16 #[.val (.long q0), .second, .val (.long q1), .second, .val (.int (own_strict ((2 : Int64) * q1))), .unset, .unset, .unset, .unset] [(.int (own_strict (((2 : Int64) * q1) + (1 : Int64))))]))
  refine OGo.st (fun t k => XS.ifNo X104.here hx rfl (hb hby at_16) rfl ((if0 _ _).trans (teq ((own_atm q1) : (own_strict (((2 : Int64) * q1) + (1 : Int64))) = (0 : Int32))).2) k) ?_
  show OGo p.tables e below _ (T104.setTop (mkF m 19 #[.val (.long q0), .second, .val (.long q1), .second, .val (.int (own_strict ((2 : Int64) * q1))), .unset, .unset, .unset, .unset] []))
  refine OGo.st (fun t k => XS.iconst X104.here hx rfl (hb hby at_19) k) ?_
  show OGo p.tables e below _ (T104.setTop (mkF m 20 #[.val (.long q0), .second, .val (.long q1), .second, .val (.int (own_strict ((2 : Int64) * q1))), .unset, .unset, .unset, .unset] [(.int (1 : Int32))]))
  refine OGo.st (fun t k => XS.goto X104.here hx rfl (pc0 := 20) (pc' := 24) rfl (hb hby at_20) (by decide) (by decide) k) ?_
  show OGo p.tables e below _ (T104.setTop (mkF m 24 #[.val (.long q0), .second, .val (.long q1), .second, .val (.int (own_strict ((2 : Int64) * q1))), .unset, .unset, .unset, .unset] [(.int (1 : Int32))]))
  refine OGo.st (fun t k => XS.istore X104.here hx rfl (hb hby at_24) rfl (l' := #[.val (.long q0), .second, .val (.long q1), .second, .val (.int (own_strict ((2 : Int64) * q1))), .val (.int (1 : Int32)), .unset, .unset, .unset]) rfl k) ?_
  show OGo p.tables e below _ (T104.setTop (mkF m 26 #[.val (.long q0), .second, .val (.long q1), .second, .val (.int (own_strict ((2 : Int64) * q1))), .val (.int (1 : Int32)), .unset, .unset, .unset] []))
  refine OGo.st (fun t k => XS.lloadN X104.here hx rfl (hb hby at_26) rfl k) ?_
  show OGo p.tables e below _ (T104.setTop (mkF m 27 #[.val (.long q0), .second, .val (.long q1), .second, .val (.int (own_strict ((2 : Int64) * q1))), .val (.int (1 : Int32)), .unset, .unset, .unset] [(.long q0)]))
  refine OGo.st (fun t k => XS.iconst X104.here hx rfl (hb hby at_27) k) ?_
  show OGo p.tables e below _ (T104.setTop (mkF m 28 #[.val (.long q0), .second, .val (.long q1), .second, .val (.int (own_strict ((2 : Int64) * q1))), .val (.int (1 : Int32)), .unset, .unset, .unset] [(.int (1 : Int32)), (.long q0)]))
  refine OGo.st (fun t k => XS.lshr X104.here hx rfl (hb hby at_28) rfl k) ?_
  show OGo p.tables e below _ (T104.setTop (mkF m 29 #[.val (.long q0), .second, .val (.long q1), .second, .val (.int (own_strict ((2 : Int64) * q1))), .val (.int (1 : Int32)), .unset, .unset, .unset] [(.long (q0 >>> ((1 : Int32) &&& 0x3f).toInt64))]))
  refine OGo.st (fun t k => XS.lstore X104.here hx rfl (hb hby at_29) rfl (l' := #[.val (.long q0), .second, .val (.long q1), .second, .val (.int (own_strict ((2 : Int64) * q1))), .val (.int (1 : Int32)), .val (.long (q0 >>> ((1 : Int32) &&& 0x3f).toInt64)), .second, .unset]) rfl k) ?_
  show OGo p.tables e below _ (T104.setTop (mkF m 31 #[.val (.long q0), .second, .val (.long q1), .second, .val (.int (own_strict ((2 : Int64) * q1))), .val (.int (1 : Int32)), .val (.long (q0 >>> ((1 : Int32) &&& 0x3f).toInt64)), .second, .unset] []))
  refine OGo.st (fun t k => XS.lloadN X104.here hx rfl (hb hby at_31) rfl k) ?_
  show OGo p.tables e below _ (T104.setTop (mkF m 32 #[.val (.long q0), .second, .val (.long q1), .second, .val (.int (own_strict ((2 : Int64) * q1))), .val (.int (1 : Int32)), .val (.long (q0 >>> ((1 : Int32) &&& 0x3f).toInt64)), .second, .unset] [(.long q0)]))
  obtain ⟨_, _, ⟨T105, L105, kk105, nn105⟩, -, X105, ⟨Lc105, hQ105, l105, y105, z105⟩, st105⟩ := Jvm.LawKit.callS X104 hx (y := (⟨"com/example/palamedes/palamedes/analysis/Zone", "strict", "(J)Z"⟩ : MethodName)) hown (mvT hZ (hw _ (List.mem_of_getElem? (i := 5) rfl))) (mvT hZ (hw _ (List.mem_of_getElem? (i := 6) rfl))) (mvT hZ (hw _ (List.mem_of_getElem? (i := 2) rfl))) (mvT hZ (hw _ (List.mem_of_getElem? (i := 7) rfl))) (by decide) (backOf (W := 0) (rm2 l Z ar hw [] q0 h0 n0 Z0 ) hZ (hw _ (List.mem_of_getElem? (i := 7) rfl)) (hw _ (List.mem_of_getElem? (i := 2) rfl)) (by decide) (by decide)) (g := (mkF m 32 #[.val (.long q0), .second, .val (.long q1), .second, .val (.int (own_strict ((2 : Int64) * q1))), .val (.int (1 : Int32)), .val (.long (q0 >>> ((1 : Int32) &&& 0x3f).toInt64)), .second, .unset] [(.long q0)])) rfl (by rw [hml]; rfl) (argsL := [(.long q0)]) (rest := []) (lenOf pd_1 rfl) rfl (by show 2 * 0 + _ ≤ _; exact Nat.le_of_eq rfl) (hb hby at_32) (fun _ _ => ⟨rfl, e104, (by decide : 0 + 0 ≤ _), (by decide : 0 + 0 ≤ _)⟩)
  dsimp only [Pt.U, Pt.locs, Pt.cells, Pt.slots] at X105 l105 y105 z105 st105 hQ105
  subst l105 y105 z105
  obtain ⟨rfl, Nq105, hh105⟩ := hQ105
  have N105 := Fr.app N104 Nq105
  refine OGo.st st105 ?_
  have e105 : T105.heap = h0 := hh105
  show OGo p.tables e below _ (T105.setTop (mkF m 35 #[.val (.long q0), .second, .val (.long q1), .second, .val (.int (own_strict ((2 : Int64) * q1))), .val (.int (1 : Int32)), .val (.long (q0 >>> ((1 : Int32) &&& 0x3f).toInt64)), .second, .unset] [(.int (own_strict q0))]))
  refine OGo.st (fun t k => XS.lload X105.here hx rfl (hb hby at_35) rfl k) ?_
  show OGo p.tables e below _ (T105.setTop (mkF m 37 #[.val (.long q0), .second, .val (.long q1), .second, .val (.int (own_strict ((2 : Int64) * q1))), .val (.int (1 : Int32)), .val (.long (q0 >>> ((1 : Int32) &&& 0x3f).toInt64)), .second, .unset] [(.long (q0 >>> ((1 : Int32) &&& 0x3f).toInt64)), (.int (own_strict q0))]))
  obtain ⟨_, _, ⟨T106, L106, kk106, nn106⟩, -, X106, ⟨Lc106, hQ106, l106, y106, z106⟩, st106⟩ := Jvm.LawKit.callS X105 hx (y := (⟨"com/example/palamedes/palamedes/analysis/Zone", "lessThan", "(J)J"⟩ : MethodName)) hown (mvT hZ (hw _ (List.mem_of_getElem? (i := 0) rfl))) (mvT hZ (hw _ (List.mem_of_getElem? (i := 1) rfl))) (mvT hZ (hw _ (List.mem_of_getElem? (i := 2) rfl))) (mvT hZ (hw _ (List.mem_of_getElem? (i := 3) rfl))) (by decide) (backOf (W := 1) (rm0 l Z ar hw [] (q0 >>> ((1 : Int32) &&& 0x3f).toInt64) h0 n0 Z0 ) hZ (hw _ (List.mem_of_getElem? (i := 3) rfl)) (hw _ (List.mem_of_getElem? (i := 2) rfl)) (by decide) (by decide)) (g := (mkF m 37 #[.val (.long q0), .second, .val (.long q1), .second, .val (.int (own_strict ((2 : Int64) * q1))), .val (.int (1 : Int32)), .val (.long (q0 >>> ((1 : Int32) &&& 0x3f).toInt64)), .second, .unset] [(.long (q0 >>> ((1 : Int32) &&& 0x3f).toInt64)), (.int (own_strict q0))])) rfl (by rw [hml]; rfl) (argsL := [(.long (q0 >>> ((1 : Int32) &&& 0x3f).toInt64))]) (rest := [(.int (own_strict q0))]) (lenOf pd_0 rfl) rfl (by show 2 * 0 + _ ≤ _; exact Nat.le_of_eq rfl) (hb hby at_37) (fun _ _ => ⟨rfl, e105, (by decide : 0 + 0 ≤ _), (by decide : 0 + 0 ≤ _)⟩)
  dsimp only [Pt.U, Pt.locs, Pt.cells, Pt.slots] at X106 l106 y106 z106 st106 hQ106
  subst l106 y106 z106
  obtain ⟨rfl, Nq106, hh106⟩ := hQ106
  have N106 := Fr.app N105 Nq106
  refine OGo.st st106 ?_
  have e106 : T106.heap = h0 := hh106
  show OGo p.tables e below _ (T106.setTop (mkF m 40 #[.val (.long q0), .second, .val (.long q1), .second, .val (.int (own_strict ((2 : Int64) * q1))), .val (.int (1 : Int32)), .val (.long (q0 >>> ((1 : Int32) &&& 0x3f).toInt64)), .second, .unset] [(.long ((2 : Int64) * (q0 >>> ((1 : Int32) &&& 0x3f).toInt64))), (.int (own_strict q0))]))
  refine OGo.st (fun t k => XS.lloadN X106.here hx rfl (hb hby at_40) rfl k) ?_
  show OGo p.tables e below _ (T106.setTop (mkF m 41 #[.val (.long q0), .second, .val (.long q1), .second, .val (.int (own_strict ((2 : Int64) * q1))), .val (.int (1 : Int32)), .val (.long (q0 >>> ((1 : Int32) &&& 0x3f).toInt64)), .second, .unset] [(.long q0), (.long ((2 : Int64) * (q0 >>> ((1 : Int32) &&& 0x3f).toInt64))), (.int (own_strict q0))]))
  refine OGo.st (fun t k => XS.lcmp X106.here hx rfl (hb hby at_41) rfl k) ?_
  show OGo p.tables e below _ (T106.setTop (mkF m 42 #[.val (.long q0), .second, .val (.long q1), .second, .val (.int (own_strict ((2 : Int64) * q1))), .val (.int (1 : Int32)), .val (.long (q0 >>> ((1 : Int32) &&& 0x3f).toInt64)), .second, .unset] [(.int (lcmpW ((2 : Int64) * (q0 >>> ((1 : Int32) &&& 0x3f).toInt64)) q0)), (.int (own_strict q0))]))
  by_cases hc42_107 : (lcmpW ((2 : Int64) * (q0 >>> ((1 : Int32) &&& 0x3f).toInt64)) q0) = (0 : Int32)
  ·
    refine OGo.st (fun t k => XS.ifNo X106.here hx rfl (hb hby at_42) rfl ((if0 _ _).trans (teq hc42_107).2) k) ?_
    show OGo p.tables e below _ (T106.setTop (mkF m 45 #[.val (.long q0), .second, .val (.long q1), .second, .val (.int (own_strict ((2 : Int64) * q1))), .val (.int (1 : Int32)), .val (.long (q0 >>> ((1 : Int32) &&& 0x3f).toInt64)), .second, .unset] [(.int (own_strict q0))]))
    refine OGo.st (fun t k => XS.iconst X106.here hx rfl (hb hby at_45) k) ?_
    show OGo p.tables e below _ (T106.setTop (mkF m 46 #[.val (.long q0), .second, .val (.long q1), .second, .val (.int (own_strict ((2 : Int64) * q1))), .val (.int (1 : Int32)), .val (.long (q0 >>> ((1 : Int32) &&& 0x3f).toInt64)), .second, .unset] [(.int (1 : Int32)), (.int (own_strict q0))]))
    refine OGo.st (fun t k => XS.goto X106.here hx rfl (pc0 := 46) (pc' := 50) rfl (hb hby at_46) (by decide) (by decide) k) ?_
    show OGo p.tables e below _ (T106.setTop (mkF m 50 #[.val (.long q0), .second, .val (.long q1), .second, .val (.int (own_strict ((2 : Int64) * q1))), .val (.int (1 : Int32)), .val (.long (q0 >>> ((1 : Int32) &&& 0x3f).toInt64)), .second, .unset] [(.int (1 : Int32)), (.int (own_strict q0))]))
    refine OGo.st (fun t k => XS.icmpNo X106.here hx rfl (hb hby at_50) rfl (teq ((own_dec1 q0 hc42_107) : (own_strict q0) = (1 : Int32))).2 k) ?_
    show OGo p.tables e below _ (T106.setTop (mkF m 53 #[.val (.long q0), .second, .val (.long q1), .second, .val (.int (own_strict ((2 : Int64) * q1))), .val (.int (1 : Int32)), .val (.long (q0 >>> ((1 : Int32) &&& 0x3f).toInt64)), .second, .unset] []))
    refine OGo.st (fun t k => XS.iconst X106.here hx rfl (hb hby at_53) k) ?_
    show OGo p.tables e below _ (T106.setTop (mkF m 54 #[.val (.long q0), .second, .val (.long q1), .second, .val (.int (own_strict ((2 : Int64) * q1))), .val (.int (1 : Int32)), .val (.long (q0 >>> ((1 : Int32) &&& 0x3f).toInt64)), .second, .unset] [(.int (1 : Int32))]))
    refine OGo.st (fun t k => XS.goto X106.here hx rfl (pc0 := 54) (pc' := 58) rfl (hb hby at_54) (by decide) (by decide) k) ?_
    show OGo p.tables e below _ (T106.setTop (mkF m 58 #[.val (.long q0), .second, .val (.long q1), .second, .val (.int (own_strict ((2 : Int64) * q1))), .val (.int (1 : Int32)), .val (.long (q0 >>> ((1 : Int32) &&& 0x3f).toInt64)), .second, .unset] [(.int (1 : Int32))]))
    refine OGo.st (fun t k => XS.istore X106.here hx rfl (hb hby at_58) rfl (l' := #[.val (.long q0), .second, .val (.long q1), .second, .val (.int (own_strict ((2 : Int64) * q1))), .val (.int (1 : Int32)), .val (.long (q0 >>> ((1 : Int32) &&& 0x3f).toInt64)), .second, .val (.int (1 : Int32))]) rfl k) ?_
    show OGo p.tables e below _ (T106.setTop (mkF m 60 #[.val (.long q0), .second, .val (.long q1), .second, .val (.int (own_strict ((2 : Int64) * q1))), .val (.int (1 : Int32)), .val (.long (q0 >>> ((1 : Int32) &&& 0x3f).toInt64)), .second, .val (.int (1 : Int32))] []))
    refine OGo.st (fun t k => XS.iload X106.here hx rfl (hb hby at_60) rfl k) ?_
    show OGo p.tables e below _ (T106.setTop (mkF m 62 #[.val (.long q0), .second, .val (.long q1), .second, .val (.int (own_strict ((2 : Int64) * q1))), .val (.int (1 : Int32)), .val (.long (q0 >>> ((1 : Int32) &&& 0x3f).toInt64)), .second, .val (.int (1 : Int32))] [(.int (own_strict ((2 : Int64) * q1)))]))
    refine OGo.st (fun t k => XS.ifNo X106.here hx rfl (hb hby at_62) rfl ((if0 _ _).trans (feq ((fun q => absurd ((own_less q1).symm.trans q) (by decide)) : ¬ ((own_strict ((2 : Int64) * q1)) = (0 : Int32)))).1) k) ?_
    show OGo p.tables e below _ (T106.setTop (mkF m 65 #[.val (.long q0), .second, .val (.long q1), .second, .val (.int (own_strict ((2 : Int64) * q1))), .val (.int (1 : Int32)), .val (.long (q0 >>> ((1 : Int32) &&& 0x3f).toInt64)), .second, .val (.int (1 : Int32))] []))
    refine OGo.st (fun t k => XS.iload X106.here hx rfl (hb hby at_65) rfl k) ?_
    show OGo p.tables e below _ (T106.setTop (mkF m 67 #[.val (.long q0), .second, .val (.long q1), .second, .val (.int (own_strict ((2 : Int64) * q1))), .val (.int (1 : Int32)), .val (.long (q0 >>> ((1 : Int32) &&& 0x3f).toInt64)), .second, .val (.int (1 : Int32))] [(.int (1 : Int32))]))
    refine OGo.st (fun t k => XS.ifNo X106.here hx rfl (hb hby at_67) rfl ((if0 _ _).trans (feq (by decide : ¬ ((1 : Int32) = (0 : Int32)))).1) k) ?_
    show OGo p.tables e below _ (T106.setTop (mkF m 70 #[.val (.long q0), .second, .val (.long q1), .second, .val (.int (own_strict ((2 : Int64) * q1))), .val (.int (1 : Int32)), .val (.long (q0 >>> ((1 : Int32) &&& 0x3f).toInt64)), .second, .val (.int (1 : Int32))] []))
    refine OGo.st (fun t k => XS.iload X106.here hx rfl (hb hby at_70) rfl k) ?_
    show OGo p.tables e below _ (T106.setTop (mkF m 72 #[.val (.long q0), .second, .val (.long q1), .second, .val (.int (own_strict ((2 : Int64) * q1))), .val (.int (1 : Int32)), .val (.long (q0 >>> ((1 : Int32) &&& 0x3f).toInt64)), .second, .val (.int (1 : Int32))] [(.int (1 : Int32))]))
    refine OGo.st (fun t k => XS.ifNo X106.here hx rfl (hb hby at_72) rfl ((if0 _ _).trans (feq (by decide : ¬ ((1 : Int32) = (0 : Int32)))).1) k) ?_
    show OGo p.tables e below _ (T106.setTop (mkF m 75 #[.val (.long q0), .second, .val (.long q1), .second, .val (.int (own_strict ((2 : Int64) * q1))), .val (.int (1 : Int32)), .val (.long (q0 >>> ((1 : Int32) &&& 0x3f).toInt64)), .second, .val (.int (1 : Int32))] []))
    refine OGo.st (fun t k => XS.iconst X106.here hx rfl (hb hby at_75) k) ?_
    show OGo p.tables e below _ (T106.setTop (mkF m 76 #[.val (.long q0), .second, .val (.long q1), .second, .val (.int (own_strict ((2 : Int64) * q1))), .val (.int (1 : Int32)), .val (.long (q0 >>> ((1 : Int32) &&& 0x3f).toInt64)), .second, .val (.int (1 : Int32))] [(.int (1 : Int32))]))
    refine OGo.st (fun t k => XS.goto X106.here hx rfl (pc0 := 76) (pc' := 80) rfl (hb hby at_76) (by decide) (by decide) k) ?_
    show OGo p.tables e below _ (T106.setTop (mkF m 80 #[.val (.long q0), .second, .val (.long q1), .second, .val (.int (own_strict ((2 : Int64) * q1))), .val (.int (1 : Int32)), .val (.long (q0 >>> ((1 : Int32) &&& 0x3f).toInt64)), .second, .val (.int (1 : Int32))] [(.int (1 : Int32))]))
    obtain ⟨fs, hr, hrun, hended, hW, hsame⟩ := X106.leave (v := some (.int (1 : Int32))) (fun h => by rw [Bd.returns] at h; cases h)
    refine OGo.done (retN X106 hx (t := .boolean) Bd.returns (by simp) (hb hby at_80) hr) ⟨hrun, hended, _, _, rfl, ?_, ⟨_, rfl⟩, hW, hsame.mono (by decide) (by decide)⟩
    show Q3 Z q0 q1 h0 n0 _ T106.heap _
    rw [e106]
    exact ⟨rfl, N106⟩
  ·
    refine OGo.st (fun t k => XS.ifYes X106.here hx rfl (pc0 := 42) (pc' := 49) rfl (hb hby at_42) rfl ((if0 _ _).trans (feq hc42_107).2) (by decide) (by decide) k) ?_
    show OGo p.tables e below _ (T106.setTop (mkF m 49 #[.val (.long q0), .second, .val (.long q1), .second, .val (.int (own_strict ((2 : Int64) * q1))), .val (.int (1 : Int32)), .val (.long (q0 >>> ((1 : Int32) &&& 0x3f).toInt64)), .second, .unset] [(.int (own_strict q0))]))
    refine OGo.st (fun t k => XS.iconst X106.here hx rfl (hb hby at_49) k) ?_
    show OGo p.tables e below _ (T106.setTop (mkF m 50 #[.val (.long q0), .second, .val (.long q1), .second, .val (.int (own_strict ((2 : Int64) * q1))), .val (.int (1 : Int32)), .val (.long (q0 >>> ((1 : Int32) &&& 0x3f).toInt64)), .second, .unset] [(.int (0 : Int32)), (.int (own_strict q0))]))
    refine OGo.st (fun t k => XS.icmpNo X106.here hx rfl (hb hby at_50) rfl (teq ((own_dec0 q0 hc42_107) : (own_strict q0) = (0 : Int32))).2 k) ?_
    show OGo p.tables e below _ (T106.setTop (mkF m 53 #[.val (.long q0), .second, .val (.long q1), .second, .val (.int (own_strict ((2 : Int64) * q1))), .val (.int (1 : Int32)), .val (.long (q0 >>> ((1 : Int32) &&& 0x3f).toInt64)), .second, .unset] []))
    refine OGo.st (fun t k => XS.iconst X106.here hx rfl (hb hby at_53) k) ?_
    show OGo p.tables e below _ (T106.setTop (mkF m 54 #[.val (.long q0), .second, .val (.long q1), .second, .val (.int (own_strict ((2 : Int64) * q1))), .val (.int (1 : Int32)), .val (.long (q0 >>> ((1 : Int32) &&& 0x3f).toInt64)), .second, .unset] [(.int (1 : Int32))]))
    refine OGo.st (fun t k => XS.goto X106.here hx rfl (pc0 := 54) (pc' := 58) rfl (hb hby at_54) (by decide) (by decide) k) ?_
    show OGo p.tables e below _ (T106.setTop (mkF m 58 #[.val (.long q0), .second, .val (.long q1), .second, .val (.int (own_strict ((2 : Int64) * q1))), .val (.int (1 : Int32)), .val (.long (q0 >>> ((1 : Int32) &&& 0x3f).toInt64)), .second, .unset] [(.int (1 : Int32))]))
    refine OGo.st (fun t k => XS.istore X106.here hx rfl (hb hby at_58) rfl (l' := #[.val (.long q0), .second, .val (.long q1), .second, .val (.int (own_strict ((2 : Int64) * q1))), .val (.int (1 : Int32)), .val (.long (q0 >>> ((1 : Int32) &&& 0x3f).toInt64)), .second, .val (.int (1 : Int32))]) rfl k) ?_
    show OGo p.tables e below _ (T106.setTop (mkF m 60 #[.val (.long q0), .second, .val (.long q1), .second, .val (.int (own_strict ((2 : Int64) * q1))), .val (.int (1 : Int32)), .val (.long (q0 >>> ((1 : Int32) &&& 0x3f).toInt64)), .second, .val (.int (1 : Int32))] []))
    refine OGo.st (fun t k => XS.iload X106.here hx rfl (hb hby at_60) rfl k) ?_
    show OGo p.tables e below _ (T106.setTop (mkF m 62 #[.val (.long q0), .second, .val (.long q1), .second, .val (.int (own_strict ((2 : Int64) * q1))), .val (.int (1 : Int32)), .val (.long (q0 >>> ((1 : Int32) &&& 0x3f).toInt64)), .second, .val (.int (1 : Int32))] [(.int (own_strict ((2 : Int64) * q1)))]))
    refine OGo.st (fun t k => XS.ifNo X106.here hx rfl (hb hby at_62) rfl ((if0 _ _).trans (feq ((fun q => absurd ((own_less q1).symm.trans q) (by decide)) : ¬ ((own_strict ((2 : Int64) * q1)) = (0 : Int32)))).1) k) ?_
    show OGo p.tables e below _ (T106.setTop (mkF m 65 #[.val (.long q0), .second, .val (.long q1), .second, .val (.int (own_strict ((2 : Int64) * q1))), .val (.int (1 : Int32)), .val (.long (q0 >>> ((1 : Int32) &&& 0x3f).toInt64)), .second, .val (.int (1 : Int32))] []))
    refine OGo.st (fun t k => XS.iload X106.here hx rfl (hb hby at_65) rfl k) ?_
    show OGo p.tables e below _ (T106.setTop (mkF m 67 #[.val (.long q0), .second, .val (.long q1), .second, .val (.int (own_strict ((2 : Int64) * q1))), .val (.int (1 : Int32)), .val (.long (q0 >>> ((1 : Int32) &&& 0x3f).toInt64)), .second, .val (.int (1 : Int32))] [(.int (1 : Int32))]))
    refine OGo.st (fun t k => XS.ifNo X106.here hx rfl (hb hby at_67) rfl ((if0 _ _).trans (feq (by decide : ¬ ((1 : Int32) = (0 : Int32)))).1) k) ?_
    show OGo p.tables e below _ (T106.setTop (mkF m 70 #[.val (.long q0), .second, .val (.long q1), .second, .val (.int (own_strict ((2 : Int64) * q1))), .val (.int (1 : Int32)), .val (.long (q0 >>> ((1 : Int32) &&& 0x3f).toInt64)), .second, .val (.int (1 : Int32))] []))
    refine OGo.st (fun t k => XS.iload X106.here hx rfl (hb hby at_70) rfl k) ?_
    show OGo p.tables e below _ (T106.setTop (mkF m 72 #[.val (.long q0), .second, .val (.long q1), .second, .val (.int (own_strict ((2 : Int64) * q1))), .val (.int (1 : Int32)), .val (.long (q0 >>> ((1 : Int32) &&& 0x3f).toInt64)), .second, .val (.int (1 : Int32))] [(.int (1 : Int32))]))
    refine OGo.st (fun t k => XS.ifNo X106.here hx rfl (hb hby at_72) rfl ((if0 _ _).trans (feq (by decide : ¬ ((1 : Int32) = (0 : Int32)))).1) k) ?_
    show OGo p.tables e below _ (T106.setTop (mkF m 75 #[.val (.long q0), .second, .val (.long q1), .second, .val (.int (own_strict ((2 : Int64) * q1))), .val (.int (1 : Int32)), .val (.long (q0 >>> ((1 : Int32) &&& 0x3f).toInt64)), .second, .val (.int (1 : Int32))] []))
    refine OGo.st (fun t k => XS.iconst X106.here hx rfl (hb hby at_75) k) ?_
    show OGo p.tables e below _ (T106.setTop (mkF m 76 #[.val (.long q0), .second, .val (.long q1), .second, .val (.int (own_strict ((2 : Int64) * q1))), .val (.int (1 : Int32)), .val (.long (q0 >>> ((1 : Int32) &&& 0x3f).toInt64)), .second, .val (.int (1 : Int32))] [(.int (1 : Int32))]))
    refine OGo.st (fun t k => XS.goto X106.here hx rfl (pc0 := 76) (pc' := 80) rfl (hb hby at_76) (by decide) (by decide) k) ?_
    show OGo p.tables e below _ (T106.setTop (mkF m 80 #[.val (.long q0), .second, .val (.long q1), .second, .val (.int (own_strict ((2 : Int64) * q1))), .val (.int (1 : Int32)), .val (.long (q0 >>> ((1 : Int32) &&& 0x3f).toInt64)), .second, .val (.int (1 : Int32))] [(.int (1 : Int32))]))
    obtain ⟨fs, hr, hrun, hended, hW, hsame⟩ := X106.leave (v := some (.int (1 : Int32))) (fun h => by rw [Bd.returns] at h; cases h)
    refine OGo.done (retN X106 hx (t := .boolean) Bd.returns (by simp) (hb hby at_80) hr) ⟨hrun, hended, _, _, rfl, ?_, ⟨_, rfl⟩, hW, hsame.mono (by decide) (by decide)⟩
    show Q3 Z q0 q1 h0 n0 _ T106.heap _
    rw [e106]
    exact ⟨rfl, N106⟩
set_option maxRecDepth 65536 in
set_option maxHeartbeats 40000000 in
theorem comes_1 {Post : Tables → Env → Array Value → State → Outcome → State → Prop} (hpost : ∀ tb e args s v u, (limb_1_1.after args s (.returned v) u = true ∧ limb_1_2.after args s (.returned v) u = true ∧ True) → FrameEnd s (.returned v) u (Jvm.fieldLocs frame_1_writes args s ++ Jvm.arrayLocs frame_1_arrays args s ++ Jvm.staticLocs frame_1_statics s) 0 0 → Post tb e args s (.returned v) u) :
    ArmFor flags0 classFile x code maxLocals ret World_1 tables_1 room_1 Calls_1 rest_1 Pre_1 Post := by
  intro l hfl _ _ p e ha hc hk s m args below hf hA hF happ hP
  obtain ⟨hcalls, hrest, hpre⟩ := hP
  obtain ⟨-, -, -, hnamed, -, -, -, hat⟩ := (Spec.applies_iff hf).mp happ
  obtain ⟨hg, hn⟩ := and_e (Cond.before_iff.mp (show (Jvm.Cond.and given_1 narrow_1).before args s = true from hpre))
  obtain ⟨gc, gr0⟩ := and_e hg
  obtain ⟨g_0, gr1⟩ := and_e gr0
  have g_1 := gr1
  obtain ⟨w0, w1, rfl⟩ : ∃ w0 w1 : Value, args = #[w0, w1] := by
    have hs : args.size = 2 := by simpa [Cond.value, given_1] using gc
    obtain ⟨L⟩ := args
    match L, hs with
    | [w0, w1], _ => exact ⟨w0, w1, rfl⟩
  have hw := fun d (hd : d ∈ tables_1) => atoms_spec (ws := Jvm.Cond.code x code maxLocals ret :: tables_1) hat d (List.mem_cons_of_mem _ hd)
  have hfit : Fit s := fun {y c} hc i hi => by
    obtain ⟨ha, rfl⟩ := Array.getElem?_eq_some_iff.mp hc
    have q := List.all_eq_true.mp ((Array.all_eq_true_iff_forall_mem.mp hF) _ (Array.getElem_mem ha)) i (List.mem_range.mpr hi)
    simpa [Array.getElem?_eq_getElem hi] using q
  obtain ⟨i0, ei0⟩ := isL_v g_0
  obtain rfl : w0 = (.long i0) := Option.some.inj ei0
  obtain ⟨i1, ei1⟩ := isL_v g_1
  obtain rfl : w1 = (.long i1) := Option.some.inj ei1
  obtain ⟨n, o, h1, h2, h3, _, L, rfl, ⟨rfl, N⟩, hq⟩ := rm3 l s _ hw tables_1 i0 i1 s.heap s.heap.size (Nat.le_refl _)  p e ha hc hk s m _ below hf ((Spec.applies_iff_loose hf).mp happ).1 ⟨rfl, State.Warmed39.refl s, rfl⟩ trivial
  refine ⟨n, _, h1, h2, h3, hpost _ _ _ _ _ _ ⟨Cond.after_iff.mpr rfl, Cond.after_iff.mpr (eq_i res_at (Term.int_eval (1)) rfl), trivial⟩ ⟨hq.1, hq.2.1, (hq.2.2.sift fun y hy => Or.inr (N y hy)).mono (by decide) (by decide)⟩⟩
theorem main_1_1 : Claimed_1_1 := comes_1 fun _ _ _ _ _ _ h hF => ⟨h.1, hF⟩
theorem main_1_2 : Claimed_1_2 := comes_1 fun _ _ _ _ _ _ h hF => ⟨h.2.1, hF⟩
end Jvm.Pilot.@@N@@
namespace Jvm.Pilot.@@N@@
open Jvm Jvm.ClassFile Sem Op Lib Jvm.Free Jvm.Stand Jvm.Pilot.@@N@@.Jvm.D
/-! MADE BY PROGRAM (witnessworld.py) out of the Statement's table words and the real class files: 9 classes; the members and pool entries that the words name. The judged class is class 1, her method 1. -/
namespace start1
open Jvm.ClassFile
def u (s : String) : CpInfo := .utf8 (stringToUtf16 s)
/-- a pool by its gaps: so many unusable entries, then the entry; so many at the end -/
def gap : Nat → List CpInfo → List CpInfo
  | 0, r => r
  | n + 1, r => .unusable :: gap n r
def poolList (es : List (Nat × CpInfo)) (last : Nat) : List CpInfo := es.foldr (fun e r => gap e.1 (e.2 :: r)) (gap last [])
def pool (es : List (Nat × CpInfo)) (last : Nat) : Array CpInfo := ⟨poolList es last⟩
def fileOf (pool : Array CpInfo) (this : Nat) (attrs : Array Attribute := #[]) (ms : Array MethodInfo := #[]) (fl : Nat := 33) (sup : Nat := 0) (ifs : Array Nat := #[]) (fds : Array FieldInfo := #[]) : ClassFile where
  minorVersion := 0
  majorVersion := 65
  constantPool := pool
  accessFlags := fl
  thisClass := this
  superClass := sup
  interfaces := ifs
  fields := fds
  methods := ms
  attributes := attrs
def plain (name : String) (sup : Option ClassId) : Class where
  name := name
  kind := .ordinary
  loader := none
  accessFlags := 33
  super := sup
  interfaces := #[]
  cf := none
  fields := #[]
  methods := #[]
  instanceTypes := #[]
  staticTypes := #[]
  resolved := #[]
  callSites := []
  init := .initialized
  statics := none
  mirror := none

def pool0 : Array CpInfo := pool [(5, u "<init>"), (0, u "()V"), (1, .class_ 10), (1, u "java/lang/Object")] 113

def k0m0 : Method := { name := "<init>", desc := "()V", sig := { parameters := [], returnType := none }, accessFlags := 1, code := none }
/-- java/lang/Object -/
def k0 : Class := { plain "java/lang/Object" none with
  accessFlags := 33
  interfaces := #[]
  cf := some (fileOf pool0 8 #[] #[{ accessFlags := 1, nameIndex := 5, descriptorIndex := 6, attributes := #[] }] 33 0 #[] #[])
  fields := #[]
  methods := #[k0m0]
  instanceTypes := #[]
  staticTypes := #[]
  resolved := Array.replicate 124 none
  statics := none }

def pool1 : Array CpInfo := pool [(2, .class_ 4), (1, u "java/lang/Object"), (0, u "<init>"), (0, u "()V"), (0, .methodref 8 9), (0, .class_ 10), (0, .nameAndType 11 12), (0, u "com/example/palamedes/palamedes/analysis/Zone"), (0, u "lessThan"), (0, u "(J)J"), (0, .methodref 8 14), (0, .nameAndType 15 16), (0, u "strict"), (0, u "(J)Z"), (0, .methodref 8 18), (0, .nameAndType 19 12), (0, u "atMost"), (0, .class_ 21), (0, u "com/example/palamedes/palamedes/analysis/ZoneStrictPinLaw"), (2, u "law"), (0, u "(JJ)Z")] 3

def k1m0 : Method := { name := "<init>", desc := "()V", sig := { parameters := [], returnType := none }, accessFlags := 2, code := none }
def k1c1 : Code := { maxStack := 5, maxLocals := 9, code := code, exceptionTable := #[], attributes := #[] }
def k1m1 : Method := { name := "law", desc := "(JJ)Z", sig := { parameters := [.long, .long], returnType := some .boolean }, accessFlags := 9, code := some k1c1 }
/-- com/example/palamedes/palamedes/analysis/ZoneStrictPinLaw -/
def k1 : Class := { plain "com/example/palamedes/palamedes/analysis/ZoneStrictPinLaw" (some 0) with
  accessFlags := 49
  interfaces := #[]
  cf := some (fileOf pool1 20 #[] #[{ accessFlags := 2, nameIndex := 5, descriptorIndex := 6, attributes := #[] }, { accessFlags := 9, nameIndex := 24, descriptorIndex := 25, attributes := #[] }] 49 2 #[] #[])
  fields := #[]
  methods := #[k1m0, k1m1]
  instanceTypes := #[]
  staticTypes := #[]
  resolved := Array.replicate 29 none
  statics := none }

def pool2 : Array CpInfo := pool [(4, .class_ 6), (1, u "java/lang/Object"), (3, .class_ 12), (1, u "com/example/palamedes/palamedes/analysis/Zone"), (0, u "size"), (0, u "I"), (2, u "bounds"), (0, u "[J"), (8, u "LARGEST"), (0, u "Ljava/math/BigDecimal;"), (24, .class_ 55), (1, u "com/example/palamedes/palamedes/analysis/Zone$1"), (13, .class_ 70), (0, u "com/example/palamedes/palamedes/analysis/Zone$Difference"), (2, u "lessThan"), (0, u "(J)J"), (5, u "atMost"), (0, .long 2), (5, u "ZERO"), (0, u "J"), (97, .class_ 187), (0, u "com/example/palamedes/palamedes/analysis/Zone$Amounts"), (66, u "strict"), (0, u "(J)Z"), (38, u "INFINITE"), (1, u "LARGEST_AMOUNT")] 67

def k2c0 : Code := { maxStack := 4, maxLocals := 2, code := prog_24_method_4_code, exceptionTable := #[], attributes := #[] }
def k2m0 : Method := { name := "atMost", desc := "(J)J", sig := { parameters := [.long], returnType := some .long }, accessFlags := 8, code := some k2c0 }
def k2c1 : Code := { maxStack := 4, maxLocals := 2, code := prog_24_method_5_code, exceptionTable := #[], attributes := #[] }
def k2m1 : Method := { name := "lessThan", desc := "(J)J", sig := { parameters := [.long], returnType := some .long }, accessFlags := 8, code := some k2c1 }
def k2c2 : Code := { maxStack := 4, maxLocals := 2, code := prog_24_method_32_code, exceptionTable := #[], attributes := #[] }
def k2m2 : Method := { name := "strict", desc := "(J)Z", sig := { parameters := [.long], returnType := some .boolean }, accessFlags := 8, code := some k2c2 }
/-- com/example/palamedes/palamedes/analysis/Zone -/
def k2 : Class := { plain "com/example/palamedes/palamedes/analysis/Zone" (some 0) with
  accessFlags := 48
  interfaces := #[]
  cf := some (fileOf pool2 10 #[.nestMembers #[53, 186, 69]] #[{ accessFlags := 8, nameIndex := 80, descriptorIndex := 74, attributes := #[] }, { accessFlags := 8, nameIndex := 73, descriptorIndex := 74, attributes := #[] }, { accessFlags := 8, nameIndex := 254, descriptorIndex := 255, attributes := #[] }] 48 4 #[] #[{ accessFlags := 24, nameIndex := 294, descriptorIndex := 88, attributes := #[] }, { accessFlags := 26, nameIndex := 87, descriptorIndex := 88, attributes := #[] }, { accessFlags := 26, nameIndex := 27, descriptorIndex := 28, attributes := #[] }, { accessFlags := 26, nameIndex := 296, descriptorIndex := 88, attributes := #[] }, { accessFlags := 18, nameIndex := 13, descriptorIndex := 14, attributes := #[] }, { accessFlags := 18, nameIndex := 17, descriptorIndex := 18, attributes := #[] }])
  fields := #[{ name := "INFINITE", type := .long, accessFlags := 24, slot := 0, constantValue := 0 }, { name := "ZERO", type := .long, accessFlags := 26, slot := 1, constantValue := 0 }, { name := "LARGEST", type := (.object "java/math/BigDecimal"), accessFlags := 26, slot := 2, constantValue := 0 }, { name := "LARGEST_AMOUNT", type := .long, accessFlags := 26, slot := 3, constantValue := 0 }, { name := "size", type := .int, accessFlags := 18, slot := 0, constantValue := 0 }, { name := "bounds", type := (.array .long), accessFlags := 18, slot := 1, constantValue := 0 }]
  methods := #[k2m0, k2m1, k2m2]
  instanceTypes := #[.int, (.array .long)]
  staticTypes := #[.long, .long, (.object "java/math/BigDecimal"), .long]
  resolved := Array.replicate 364 none
  statics := none }

def pool3 : Array CpInfo := pool [(1, u "java/lang/Cloneable"), (0, .class_ 1), (0, u "java/lang/Object"), (0, .class_ 3)] 3

/-- java/lang/Cloneable -/
def k3 : Class := { plain "java/lang/Cloneable" (some 0) with
  accessFlags := 1537
  interfaces := #[]
  cf := some (fileOf pool3 2 #[] #[] 1537 4 #[] #[])
  fields := #[]
  methods := #[]
  instanceTypes := #[]
  staticTypes := #[]
  resolved := Array.replicate 8 none
  statics := none }

def pool4 : Array CpInfo := pool [(1, u "java/io/Serializable"), (0, .class_ 1), (0, u "java/lang/Object"), (0, .class_ 3)] 3

/-- java/io/Serializable -/
def k4 : Class := { plain "java/io/Serializable" (some 0) with
  accessFlags := 1537
  interfaces := #[]
  cf := some (fileOf pool4 2 #[] #[] 1537 4 #[] #[])
  fields := #[]
  methods := #[]
  instanceTypes := #[]
  staticTypes := #[]
  resolved := Array.replicate 8 none
  statics := none }

/-- the primitive byte -/
def k5 : Class := { plain "byte" none with kind := .primitive 'B', accessFlags := 0x411 }
/-- [B -/
def k6 : Class := { plain "[B" (some 0) with kind := .array 5 .byte, interfaces := #[3, 4], accessFlags := 1041 }

/-- the primitive int -/
def k7 : Class := { plain "int" none with kind := .primitive 'I', accessFlags := 0x411 }
/-- [I -/
def k8 : Class := { plain "[I" (some 0) with kind := .array 7 .int, interfaces := #[3, 4], accessFlags := 1041 }

def heap : Heap := #[]
def classes : Array Class := #[k0, k1, k2, k3, k4, k5, k6, k7, k8]
def interned : List (Array UInt16 × Addr) := []
def slotsUsed : Nat := 0
def theMethod : MethodId := ⟨1, 1⟩
def args0 : Array Value := #[.long 5, .long 7]
def aboutOver (below : List Frame) : State where
  vm := { classes := classes, interned := interned.toArray }
  heap := heap
  slotsUsed := slotsUsed
  threads := #[{ frames := .invoking theMethod args0 :: below }]
def below0 : List Frame := [.native { method := ⟨0, 0⟩, args := #[] }]
def about1 : State := aboutOver below0
def p0 : Program := .bare "" "" ""
def e0 : Env := launch0.env 0 0 0
theorem w_frames : about1.frames = Frame.invoking theMethod args0 :: below0 := rfl
set_option maxRecDepth 65536 in
theorem w_args : argsFit about1.vm theMethod args0 = true := by decide +kernel
set_option maxRecDepth 65536 in
theorem w_heap : heapFits about1 = true := by decide +kernel
set_option maxRecDepth 65536 in
theorem w_runnable : about1.curStatus? = some .runnable := by decide +kernel
set_option maxRecDepth 65536 in
theorem w_alone : about1.alone = true := by decide +kernel
set_option maxRecDepth 65536 in
theorem w_named : about1.methodNamed? x = some theMethod := by decide +kernel
set_option maxRecDepth 65536 in
theorem w_hears : about1.hears theMethod below0 = true := by decide +kernel
set_option maxRecDepth 65536 in
theorem w_ripe : about1.ripe theMethod args0 below0 = true := by decide +kernel
theorem w_running : about1.status = .running := rfl
set_option maxRecDepth 65536 in
theorem w_room : about1.hasRoom e0.platform room_1 = true :=
  launch0.hasRoom_least _ room_1 (by decide +kernel) (by decide +kernel) (by decide +kernel) (by decide +kernel) (by decide +kernel) (by decide +kernel)
theorem allAtoms_all (ts : List Jvm.Cond) (a : Array Jvm.Value) (st : Jvm.State) : (allAtoms ts).before a st = ts.all (fun c => c.before a st) := by
  induction ts with
  | nil => rfl
  | cons c t ih =>
    show (Jvm.Cond.and c (allAtoms t)).before a st = _
    rw [Jvm.Cond.before_and, ih, List.all_cons]
def words1 : List Jvm.Cond := Jvm.Cond.code x code maxLocals ret :: tables_1
/-- a 'code' word, met by the world's own term for the bytes: nothing is compared byte by byte -/
theorem code_word {y : MethodName} {bytes : ByteArray} {mx : Nat} {rt : Option FieldType} {a : Array Value} {s : State} {m : MethodId} {meth : Method} {c : Code} (h1 : s.methodNamed? y = some m) (h2 : s.vm.method? m = some meth) (h3 : meth.code = some c) (h4 : c.code = bytes)
    (h5 : (c.maxLocals == mx && c.exceptionTable.isEmpty && decide (c.maxStack ≤ mostOperands) && decide (meth.sig.returnType = rt) && !meth.locks && decide (parseMethodDescriptor y.desc = some meth.sig)) = true) : (Jvm.Cond.code y bytes mx rt).before a s = true := by
  simp only [Bool.and_eq_true, beq_iff_eq, Bool.not_eq_true', decide_eq_true_eq] at h5
  obtain ⟨⟨⟨⟨⟨g1, g2⟩, g3⟩, g4⟩, g5⟩, g6⟩ := h5
  simp [Cond.before, Cond.holds, Cond.value, h1, h2, h3, h4, g1, g2, g3, g4, g5, g6]
def isCode : Jvm.Cond → Bool
  | .code _ _ _ _ => true
  | _ => false
theorem all_split {L : List Jvm.Cond} {P : Jvm.Cond → Bool} (h1 : L.all (fun c => isCode c || P c) = true) (h2 : ∀ c ∈ L.filter isCode, P c = true) : L.all P = true := by
  refine List.all_eq_true.mpr fun c hc => ?_
  have h := List.all_eq_true.mp h1 c hc
  rcases Bool.eq_false_or_eq_true (isCode c) with hi | hi
  · exact h2 c (List.mem_filter.mpr ⟨hc, hi⟩)
  · simpa [hi] using h
set_option maxRecDepth 65536 in
theorem w_c0 : (Jvm.Cond.code x code maxLocals ret).before args0 about1 = true := code_word (m := ⟨1, 1⟩) (meth := k1m1) (c := k1c1) (by decide +kernel) rfl rfl rfl (by decide +kernel)
set_option maxRecDepth 65536 in
theorem w_c1 : (Jvm.Cond.code ({ cls := "com/example/palamedes/palamedes/analysis/Zone", name := "lessThan", desc := "(J)J" } : Jvm.MethodName) prog_24_method_5_code (2 : Nat) (Option.some Jvm.ClassFile.FieldType.long)).before args0 about1 = true := code_word (m := ⟨2, 1⟩) (meth := k2m1) (c := k2c1) (by decide +kernel) rfl rfl rfl (by decide +kernel)
set_option maxRecDepth 65536 in
theorem w_c2 : (Jvm.Cond.code ({ cls := "com/example/palamedes/palamedes/analysis/Zone", name := "strict", desc := "(J)Z" } : Jvm.MethodName) prog_24_method_32_code (2 : Nat) (Option.some Jvm.ClassFile.FieldType.boolean)).before args0 about1 = true := code_word (m := ⟨2, 2⟩) (meth := k2m2) (c := k2c2) (by decide +kernel) rfl rfl rfl (by decide +kernel)
set_option maxRecDepth 65536 in
theorem w_c3 : (Jvm.Cond.code ({ cls := "com/example/palamedes/palamedes/analysis/Zone", name := "atMost", desc := "(J)J" } : Jvm.MethodName) prog_24_method_4_code (2 : Nat) (Option.some Jvm.ClassFile.FieldType.long)).before args0 about1 = true := code_word (m := ⟨2, 0⟩) (meth := k2m0) (c := k2c0) (by decide +kernel) rfl rfl rfl (by decide +kernel)
def codes1 : List Jvm.Cond := [Jvm.Cond.code x code maxLocals ret, Jvm.Cond.code ({ cls := "com/example/palamedes/palamedes/analysis/Zone", name := "lessThan", desc := "(J)J" } : Jvm.MethodName) prog_24_method_5_code (2 : Nat) (Option.some Jvm.ClassFile.FieldType.long), Jvm.Cond.code ({ cls := "com/example/palamedes/palamedes/analysis/Zone", name := "strict", desc := "(J)Z" } : Jvm.MethodName) prog_24_method_32_code (2 : Nat) (Option.some Jvm.ClassFile.FieldType.boolean), Jvm.Cond.code ({ cls := "com/example/palamedes/palamedes/analysis/Zone", name := "atMost", desc := "(J)J" } : Jvm.MethodName) prog_24_method_4_code (2 : Nat) (Option.some Jvm.ClassFile.FieldType.long)]
set_option maxRecDepth 65536 in
theorem codes_eq : words1.filter isCode = codes1 := rfl
theorem w_codes : ∀ c ∈ words1.filter isCode, c.before args0 about1 = true := by
  rw [codes_eq]
  intro c hc
  simp only [codes1, List.mem_cons, List.not_mem_nil, or_false] at hc
  rcases hc with rfl | rfl | rfl | rfl
  · exact w_c0
  · exact w_c1
  · exact w_c2
  · exact w_c3
set_option maxRecDepth 65536 in
theorem w_t1 : words1.all (fun c => isCode c || c.before args0 about1) = true := by decide +kernel
theorem w_tables : (allAtoms (Jvm.Cond.code x code maxLocals ret :: tables_1)).before args0 about1 = true := by
  rw [allAtoms_all]
  show words1.all (fun c => c.before args0 about1) = true
  refine all_split ?_ w_codes
  rw [w_t1]
set_option maxRecDepth 65536 in
theorem w_case : (Jvm.Cond.and given_1 narrow_1).before args0 about1 = true := by decide +kernel
theorem w_applies : (headSpec (Jvm.Cond.code x code maxLocals ret :: tables_1) room_1).applies x e0.platform about1 = true :=
  (Spec.applies_iff w_frames).mpr ⟨w_running, w_runnable, w_alone, w_named, w_hears, w_ripe, w_room, w_tables⟩
theorem atStart : AtStart classFile x code maxLocals ret World_1 tables_1 room_1 Calls_1 rest_1 Pre_1 launch0 p0 e0 about1 theMethod args0 below0 :=
  ⟨lists_1, trivial, launch0.admits_env _ _ _, launch0.least_env, fairChoices_fair.cas, fairChoices_fair.clock, w_frames, w_args, w_heap, w_applies, trivial, trivial, w_case⟩
end start1
theorem witness_1 : WitnessClaimed_1 := ⟨start1.p0, start1.e0, start1.about1, start1.theMethod, start1.args0, start1.below0, start1.atStart⟩
end Jvm.Pilot.@@N@@
