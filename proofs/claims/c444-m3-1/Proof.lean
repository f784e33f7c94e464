import JvmDerived
import JvmDerived.Pilot.@@N@@Statement
import JvmDerived.Pilot.@@N@@Code
set_option linter.unusedVariables false
set_option linter.unusedSimpArgs false
namespace Jvm.RoadKit
open Sem ClassFile Op Lib Jvm.Stand Jvm.Free Jvm.LawKit
section New
variable {p : Program} {l : Launch} {e : Env} {R : Room} {s : State} {m : MethodId} {args : Array Value} {below : List Frame} {meth : Method} {c : Code} {T : State} {locs : List Loc} {cells slots : Nat}
theorem retI (X : Stand p l e R s m args below meth c T locs cells slots) (hx : p.tables.exec = Jvm.exec) {pc : Nat} {Ls : Array Slot} {z : Int32} {rest : List Value} (hret : meth.sig.returnType = some .int) (hd : decode c.code pc = .ok (.ireturn, 1)) {fs : List Frame}
    (hl : ∀ (f : JFrame) (acts : List Action), f.method = m → f.locked = none → f.entered = [] → (doReturn e (T.setTop f) acts (some (.int z))).1 = T.setFrames fs) : Steps p.tables e below (T.setTop (mkF m pc Ls (.int z :: rest))) (T.setFrames fs) := by
  have hm' : T.vm.method? m = some meth := X.method'
  have hn : narrow .int (.int z) = .int z := rfl
  show Steps p.tables e below (T.setTop { method := m, pc := pc, locals := Ls, stack := _ :: rest, locked := none }) _
  jvm_step X.here [X.here.top, hx, hd, hm', hret, hn]
  first | (intro acts; rw [hl _ acts rfl rfl rfl]) | rw [hl _ _ rfl rfl rfl]
  exact Steps.refl _
theorem own_retL (X : Stand p l e R s m args below meth c T locs cells slots) (hx : p.tables.exec = Jvm.exec) {pc : Nat} {Ls : Array Slot} {z : Int64} {rest : List Value} (hret : meth.sig.returnType = some .long) (hd : decode c.code pc = .ok (.lreturn, 1)) {fs : List Frame}
    (hl : ∀ (f : JFrame) (acts : List Action), f.method = m → f.locked = none → f.entered = [] → (doReturn e (T.setTop f) acts (some (.long z))).1 = T.setFrames fs) : Steps p.tables e below (T.setTop (mkF m pc Ls (.long z :: rest))) (T.setFrames fs) := by
  have hm' : T.vm.method? m = some meth := X.method'
  have hn : narrow .long (.long z) = .long z := rfl
  show Steps p.tables e below (T.setTop { method := m, pc := pc, locals := Ls, stack := _ :: rest, locked := none }) _
  jvm_step X.here [X.here.top, hx, hd, hm', hret, hn]
  first | (intro acts; rw [hl _ acts rfl rfl rfl]) | rw [hl _ _ rfl rfl rfl]
  exact Steps.refl _
theorem own_retR (X : Stand p l e R s m args below meth c T locs cells slots) (hx : p.tables.exec = Jvm.exec) {pc : Nat} {Ls : Array Slot} {v : Value} {t : FieldType} {rest : List Value} (hret : meth.sig.returnType = some t) (ht : t.isReference = true) (hv : v.isRef = true) (hd : decode c.code pc = .ok (.areturn, 1)) {fs : List Frame}
    (hl : ∀ (f : JFrame) (acts : List Action), f.method = m → f.locked = none → f.entered = [] → (doReturn e (T.setTop f) acts (some v)).1 = T.setFrames fs) : Steps p.tables e below (T.setTop (mkF m pc Ls (v :: rest))) (T.setFrames fs) := by
  have hm' : T.vm.method? m = some meth := X.method'
  show Steps p.tables e below (T.setTop { method := m, pc := pc, locals := Ls, stack := _ :: rest, locked := none }) _
  rcases ref_cases hv with rfl | ⟨a, rfl⟩
  · jvm_step X.here [X.here.top, hx, hd, hm', hret, ht, Value.isRef]
    first | (intro acts; rw [hl _ acts rfl rfl rfl]) | rw [hl _ _ rfl rfl rfl]
    exact Steps.refl _
  · jvm_step X.here [X.here.top, hx, hd, hm', hret, ht, Value.isRef]
    first | (intro acts; rw [hl _ acts rfl rfl rfl]) | rw [hl _ _ rfl rfl rfl]
    exact Steps.refl _
end New
/-- an end that the run comes to from S, with what is said of it -/
def OGo (tb : Tables) (e : Env) (below : List Frame) (Φ : State → Outcome → Prop) (S : State) : Prop := ∃ t o, Steps tb e below S t ∧ Φ t o
section Own
variable {tb : Tables} {e : Env} {below : List Frame} {Φ : State → Outcome → Prop} {S S' t : State} {o : Outcome}
theorem OGo.start (pre : ∀ t, Steps tb e below S' t → Steps tb e below S t) (k : OGo tb e below Φ S') : ∃ t o, Steps tb e below S t ∧ Φ t o := by
  obtain ⟨t, o, h1, h2⟩ := k
  exact ⟨t, o, pre t h1, h2⟩
theorem OGo.st (h : ∀ t, Steps tb e below S' t → Steps tb e below S t) (k : OGo tb e below Φ S') : OGo tb e below Φ S := OGo.start h k
theorem OGo.tr (h : Steps tb e below S S') (k : OGo tb e below Φ S') : OGo tb e below Φ S := OGo.start (fun _ q => h.trans q) k
theorem OGo.done (h : Steps tb e below S t) (q : Φ t o) : OGo tb e below Φ S := ⟨t, o, h, q⟩
theorem OGo.join {α : Type} (P : α → Prop) (F : α → State) (h : ∀ v, P v → OGo tb e below Φ (F v)) (k : (∀ v, P v → OGo tb e below Φ (F v)) → OGo tb e below Φ S) : OGo tb e below Φ S := k h
theorem own_fld {Z : State} {h : Heap} {a : Addr} {C n d : String} {v w : Value} (F : Fld Z h a C n d v) (q : v = w) : Fld Z h a C n d w := q ▸ F
end Own
end Jvm.RoadKit
namespace Jvm.Pilot.@@N@@
open Jvm Jvm.ClassFile Sem Op Lib Jvm.Free Jvm.Stand Jvm.LawKit Jvm.RoadKit Bundle Jvm.Pilot.@@N@@.Jvm.D
theorem own_n (g : Int32) : 0 ≤ ((g &&& 2147483647) - ((g &&& 2147483647) / 10) * 10).toInt ∧ ((g &&& 2147483647) - ((g &&& 2147483647) / 10) * 10).toInt < 10 := by
  have h1 := c_mask g 2147483647 31 (by decide) (by decide)
  have h2 := (c_irem (g &&& 2147483647) 10 10 rfl).1
  have h3 : ((2 ^ 31 : Nat) : Int) = 2147483648 := rfl
  rw [h3] at h1
  have h4 : (g &&& 2147483647) - ((g &&& 2147483647) / 10) * 10 = (g &&& 2147483647) % 10 := irem_eq_mod _ _
  rw [h4, h2 (by omega)]
  omega
theorem own_m7 (x : Int32) : 0 ≤ (x &&& 7).toInt ∧ (x &&& 7).toInt < 8 := by
  have h := c_mask x 7 3 (by decide) (by decide)
  have e : ((2 ^ 3 : Nat) : Int) = 8 := rfl
  rw [e] at h; omega
theorem own_nine (x : Int32) (h : 0 ≤ x.toInt ∧ x.toInt < 10) (h0 : ¬ x = 0) (h1 : ¬ x = 1) (h2 : ¬ x = 2) (h3 : ¬ x = 3) (h4 : ¬ x = 4) (h5 : ¬ x = 5) (h6 : ¬ x = 6) (h7 : ¬ x = 7) (h8 : ¬ x = 8) : x = 9 := by
  simp only [← Int32.toInt_inj] at *
  have e0 : (0 : Int32).toInt = 0 := rfl
  have e1 : (1 : Int32).toInt = 1 := rfl
  have e2 : (2 : Int32).toInt = 2 := rfl
  have e3 : (3 : Int32).toInt = 3 := rfl
  have e4 : (4 : Int32).toInt = 4 := rfl
  have e5 : (5 : Int32).toInt = 5 := rfl
  have e6 : (6 : Int32).toInt = 6 := rfl
  have e7 : (7 : Int32).toInt = 7 := rfl
  have e8 : (8 : Int32).toInt = 8 := rfl
  have e9 : (9 : Int32).toInt = 9 := rfl
  omega
theorem own_cap (x : Int32) (h : 0 ≤ x.toInt ∧ x.toInt < 10) : x.toNatClampNeg ≤ 9 := by
  simp only [Int32.toNatClampNeg]; omega
theorem own_pred (x : Int32) (h : 0 ≤ x.toInt ∧ x.toInt < 10) (hp : (0 : Int32) < x) : ¬ (x - (1 : Int32)) < 0 ∧ (x - (1 : Int32)) < x := by
  have q := c_isub x 1
  have r := rng32 (x - 1)
  have e0 : (0 : Int32).toInt = 0 := rfl
  have e1 : (1 : Int32).toInt = 1 := rfl
  simp only [Int32.lt_iff_toInt_lt] at *
  rw [e1] at q
  omega
theorem own_len (n u : Int32) (hn : 0 ≤ n.toInt ∧ n.toInt < 10) (hu : 0 ≤ u.toInt ∧ u.toInt < 8) (h0 : n = 0 → u = 0) : (n * (8 : Int32) - u).toInt = n.toInt * 8 - u.toInt ∧ 0 ≤ n.toInt * 8 - u.toInt := by
  have q1 := c_imul n 8
  have q2 := c_isub (n * 8) u
  have r1 := rng32 (n * 8)
  have r2 := rng32 (n * 8 - u)
  have e : (8 : Int32).toInt = 8 := rfl
  have e0 : (0 : Int32).toInt = 0 := rfl
  rw [e] at q1
  simp only [← Int32.toInt_inj, e0] at h0
  by_cases z : n.toInt = 0
  · have := h0 z; omega
  · omega
theorem own_b79 (n u : Int32) (hn : 0 ≤ n.toInt ∧ n.toInt < 10) (hu : 0 ≤ u.toInt ∧ u.toInt < 8) (h0 : n = 0 → u = 0) : ¬ (n * (8 : Int32) - u) < 0 := by
  have q := own_len n u hn hu h0
  have e0 : (0 : Int32).toInt = 0 := rfl
  rw [Int32.lt_iff_toInt_lt, q.1]; omega
theorem own_b90 (n u : Int32) (hn : 0 ≤ n.toInt ∧ n.toInt < 10) (hu : 0 ≤ u.toInt ∧ u.toInt < 8) (h0 : n = 0 → u = 0) : (((n * (8 : Int32) - u) + (7 : Int32)) >>> ((3 : Int32) &&& 31)) = n := by
  have q := own_len n u hn hu h0
  have q2 := c_iadd (n * 8 - u) 7
  have r2 := rng32 (n * 8 - u + 7)
  have e : (7 : Int32).toInt = 7 := rfl
  have q3 := c_ishr (n * 8 - u + 7) 3 3 (by decide)
  have e3 : ((2 ^ 3 : Nat) : Int) = 8 := rfl
  rw [e] at q2
  rw [e3] at q3
  apply Int32.toInt_inj.mp
  rw [q3]; omega
theorem own_b112 (n u : Int32) (hn : 0 ≤ n.toInt ∧ n.toInt < 10) (hu : 0 ≤ u.toInt ∧ u.toInt < 8) (h0 : n = 0 → u = 0) : ((n * (8 : Int32) - u) &&& (7 : Int32)) = (((8 : Int32) - u) &&& (7 : Int32)) := by
  have q := own_len n u hn hu h0
  have q2 := c_isub 8 u
  have r2 := rng32 (8 - u)
  have e : (8 : Int32).toInt = 8 := rfl
  have m1 := c_mask (n * 8 - u) 7 3 (by decide) (by decide)
  have m2 := c_mask (8 - u) 7 3 (by decide) (by decide)
  have e3 : ((2 ^ 3 : Nat) : Int) = 8 := rfl
  rw [e] at q2
  rw [e3] at m1 m2
  apply Int32.toInt_inj.mp
  rw [m1, m2]; omega
theorem d0_0 : decode method_2_code 0 = .ok (.iload_n 0, 1) := by decide +kernel
theorem d0_1 : decode method_2_code 1 = .ok (.ifCond .ne 7, 3) := by decide +kernel
theorem d0_4 : decode method_2_code 4 = .ok (.iconst 0, 1) := by decide +kernel
theorem d0_5 : decode method_2_code 5 = .ok (.newarray .byte, 2) := by decide +kernel
theorem d0_7 : decode method_2_code 7 = .ok (.areturn, 1) := by decide +kernel
theorem d0_8 : decode method_2_code 8 = .ok (.iload_n 0, 1) := by decide +kernel
theorem d0_9 : decode method_2_code 9 = .ok (.iconst 1, 1) := by decide +kernel
theorem d0_10 : decode method_2_code 10 = .ok (.if_icmp .ne 7, 3) := by decide +kernel
theorem d0_13 : decode method_2_code 13 = .ok (.iconst 1, 1) := by decide +kernel
theorem d0_14 : decode method_2_code 14 = .ok (.newarray .byte, 2) := by decide +kernel
theorem d0_16 : decode method_2_code 16 = .ok (.areturn, 1) := by decide +kernel
theorem d0_17 : decode method_2_code 17 = .ok (.iload_n 0, 1) := by decide +kernel
theorem d0_18 : decode method_2_code 18 = .ok (.iconst 2, 1) := by decide +kernel
theorem d0_19 : decode method_2_code 19 = .ok (.if_icmp .ne 7, 3) := by decide +kernel
theorem d0_22 : decode method_2_code 22 = .ok (.iconst 2, 1) := by decide +kernel
theorem d0_23 : decode method_2_code 23 = .ok (.newarray .byte, 2) := by decide +kernel
theorem d0_25 : decode method_2_code 25 = .ok (.areturn, 1) := by decide +kernel
theorem d0_26 : decode method_2_code 26 = .ok (.iload_n 0, 1) := by decide +kernel
theorem d0_27 : decode method_2_code 27 = .ok (.iconst 3, 1) := by decide +kernel
theorem d0_28 : decode method_2_code 28 = .ok (.if_icmp .ne 7, 3) := by decide +kernel
theorem d0_31 : decode method_2_code 31 = .ok (.iconst 3, 1) := by decide +kernel
theorem d0_32 : decode method_2_code 32 = .ok (.newarray .byte, 2) := by decide +kernel
theorem d0_34 : decode method_2_code 34 = .ok (.areturn, 1) := by decide +kernel
theorem d0_35 : decode method_2_code 35 = .ok (.iload_n 0, 1) := by decide +kernel
theorem d0_36 : decode method_2_code 36 = .ok (.iconst 4, 1) := by decide +kernel
theorem d0_37 : decode method_2_code 37 = .ok (.if_icmp .ne 7, 3) := by decide +kernel
theorem d0_40 : decode method_2_code 40 = .ok (.iconst 4, 1) := by decide +kernel
theorem d0_41 : decode method_2_code 41 = .ok (.newarray .byte, 2) := by decide +kernel
theorem d0_43 : decode method_2_code 43 = .ok (.areturn, 1) := by decide +kernel
theorem d0_44 : decode method_2_code 44 = .ok (.iload_n 0, 1) := by decide +kernel
theorem d0_45 : decode method_2_code 45 = .ok (.iconst 5, 1) := by decide +kernel
theorem d0_46 : decode method_2_code 46 = .ok (.if_icmp .ne 7, 3) := by decide +kernel
theorem d0_49 : decode method_2_code 49 = .ok (.iconst 5, 1) := by decide +kernel
theorem d0_50 : decode method_2_code 50 = .ok (.newarray .byte, 2) := by decide +kernel
theorem d0_52 : decode method_2_code 52 = .ok (.areturn, 1) := by decide +kernel
theorem d0_53 : decode method_2_code 53 = .ok (.iload_n 0, 1) := by decide +kernel
theorem d0_54 : decode method_2_code 54 = .ok (.bipush 6, 2) := by decide +kernel
theorem d0_56 : decode method_2_code 56 = .ok (.if_icmp .ne 8, 3) := by decide +kernel
theorem d0_59 : decode method_2_code 59 = .ok (.bipush 6, 2) := by decide +kernel
theorem d0_61 : decode method_2_code 61 = .ok (.newarray .byte, 2) := by decide +kernel
theorem d0_63 : decode method_2_code 63 = .ok (.areturn, 1) := by decide +kernel
theorem d0_64 : decode method_2_code 64 = .ok (.iload_n 0, 1) := by decide +kernel
theorem d0_65 : decode method_2_code 65 = .ok (.bipush 7, 2) := by decide +kernel
theorem d0_67 : decode method_2_code 67 = .ok (.if_icmp .ne 8, 3) := by decide +kernel
theorem d0_70 : decode method_2_code 70 = .ok (.bipush 7, 2) := by decide +kernel
theorem d0_72 : decode method_2_code 72 = .ok (.newarray .byte, 2) := by decide +kernel
theorem d0_74 : decode method_2_code 74 = .ok (.areturn, 1) := by decide +kernel
theorem d0_75 : decode method_2_code 75 = .ok (.iload_n 0, 1) := by decide +kernel
theorem d0_76 : decode method_2_code 76 = .ok (.bipush 8, 2) := by decide +kernel
theorem d0_78 : decode method_2_code 78 = .ok (.if_icmp .ne 8, 3) := by decide +kernel
theorem d0_81 : decode method_2_code 81 = .ok (.bipush 8, 2) := by decide +kernel
theorem d0_83 : decode method_2_code 83 = .ok (.newarray .byte, 2) := by decide +kernel
theorem d0_85 : decode method_2_code 85 = .ok (.areturn, 1) := by decide +kernel
theorem d0_86 : decode method_2_code 86 = .ok (.bipush 9, 2) := by decide +kernel
theorem d0_88 : decode method_2_code 88 = .ok (.newarray .byte, 2) := by decide +kernel
theorem d0_90 : decode method_2_code 90 = .ok (.areturn, 1) := by decide +kernel
theorem pn_0 : plainName "com/example/holdfast/holdfast/resources/BitStringBitLengthPinLaw" = true := by first | (simp [plainName, overriddenIn]; done) | decide +kernel
theorem ef_0 (m : MethodId) (x0 : Int32) : entryFrame m #[(.int x0)] 1 = mkF m 0 #[.val (.int x0)] [] := by first | (simp [entryFrame, mkF, argsToLocals, Value.category]; done) | rfl
def Q0 (Z : State) (p0 : Int32) (h0 : Heap) (n0 : Nat) (v : Option Value) (h : Heap) (L : List Loc) : Prop := ∃ b : Addr, ∃ k : ClassId, v = some (.ref b) ∧ Fr n0 L ∧ Keep h0 h [] ∧ h0.size ≤ b ∧ (Exa Z h b "[B") ∧ (Arh Z h b k .byte p0 [] [] (.int (0 : Int32)))
set_option maxRecDepth 65536 in
set_option maxHeartbeats 40000000 in
theorem rm0 (l : Launch) (Z : State) (ar : Array Value) (hw : ∀ d ∈ tables_1, d.before ar Z = true) (ws : List Jvm.Cond) (p0 : Int32) (h0 : Heap) (n0 : Nat) (Z0 : n0 ≤ h0.size) (hp : 0 ≤ p0.toInt ∧ p0.toInt < 10) :
    MetFree l (⟨"com/example/holdfast/holdfast/resources/BitStringBitLengthPinLaw", "make", "(I)[B"⟩ : MethodName) (head1 (Jvm.Cond.code (⟨"com/example/holdfast/holdfast/resources/BitStringBitLengthPinLaw", "make", "(I)[B"⟩ : MethodName) method_2_code 1 (some (.array .byte)) :: ws) ({ frames := 0, cells := 1, slots := 9, locals := 0 } : Room)) (fun a U => a = #[(.int p0)] ∧ Z.Warmed39 U.vm ∧ U.heap = h0) (fun _ _ _ _ _ => True) (fun _ U o U' => ∃ v L, o = .returned v ∧ Q0 Z p0 h0 n0 v U'.heap L ∧ FrameEnd U o U' L ({ frames := 0, cells := 1, slots := 9, locals := 0 } : Room).cells ({ frames := 0, cells := 1, slots := 9, locals := 0 } : Room).slots) := by
  refine MetFree.of_bodySF (plainFor_of_name pn_0) hisR ?_
  intro p e s m args below meth c s₁ Bd hml0 hP hK
  obtain ⟨rfl, hZ, hh⟩ := hP
  have hx := Bd.exec
  have hby := Bd.bytes
  have hml : c.maxLocals = 1 := hml0
  have hown : s.vm.findClass "com/example/holdfast/holdfast/resources/BitStringBitLengthPinLaw" = some m.cls := findClass_of_methodNamed Bd.named
  have hnm := (name_of_methodNamed Bd.named Bd.method).1
  have X0 : Stand p l e ({ frames := 0, cells := 1, slots := 9, locals := 0 } : Room) s m #[(.int p0)] below meth c s₁ [] 0 0 := Stand.of_body Bd
  have e0 : s₁.heap = h0 := by rw [← hh, Bd.state]; rfl
  have N0 := Fr.nil n0
  have pre0 : ∀ t, Steps p.tables e below (s₁.setTop (mkF m 0 #[.val (.int p0)] [])) t → Steps p.tables e below (s₁.setTop (entryFrame m #[(.int p0)] 1)) t := fun t k => castTop (ef_0 m p0) k
  refine OGo.start pre0 ?_
  show OGo p.tables e below _ (s₁.setTop (mkF m 0 #[.val (.int p0)] []))
  refine OGo.st (fun t k => XS.iloadN X0.here hx rfl (hb hby d0_0) rfl k) ?_
  show OGo p.tables e below _ (s₁.setTop (mkF m 1 #[.val (.int p0)] [(.int p0)]))
  by_cases hc1_101 : p0 = (0 : Int32)
  ·
    refine OGo.st (fun t k => XS.ifNo X0.here hx rfl (hb hby d0_1) rfl ((if0 _ _).trans (teq hc1_101).2) k) ?_
    show OGo p.tables e below _ (s₁.setTop (mkF m 4 #[.val (.int p0)] []))
    refine OGo.st (fun t k => XS.iconst X0.here hx rfl (hb hby d0_4) k) ?_
    show OGo p.tables e below _ (s₁.setTop (mkF m 5 #[.val (.int p0)] [(.int (0 : Int32))]))
    obtain ⟨T102, h102, k102, X102, e102, E102, A102, EA102, st102⟩ := newPE X0 hx hZ (hw _ (List.mem_of_getElem? (i := 5) rfl)) e0 (g := (mkF m 5 #[.val (.int p0)] [(.int (0 : Int32))])) rfl (hb hby d0_5) rfl (by decide) (cap := 0) (by decide) (by decide) (by decide) (by decide) (ad := "[B") (by decide)
    obtain ⟨b102, g102⟩ : ∃ z, z = h0.size := ⟨_, rfl⟩
    rw [← g102] at A102 EA102 st102
    have ge_b102 : n0 ≤ b102 := Nat.le_trans Z0 (Nat.le_of_eq g102.symm)
    have sz_b102 : h0.size ≤ b102 := Nat.le_trans (Nat.le_refl h0.size) (Nat.le_of_eq g102.symm)
    have V102 : Arv Z h102 b102 k102 .byte (0 : Int32) [] (.int (0 : Int32)) := Arv.new A102 (by decide)
    refine OGo.st st102 ?_
    show OGo p.tables e below _ (T102.setTop (mkF m 7 #[.val (.int p0)] [(.ref b102)]))
    obtain ⟨fs, hr, hrun, hended, hW, hsame⟩ := X102.leave (v := some (.ref b102)) (fun h => by rw [Bd.returns] at h; cases h)
    refine OGo.done (own_retR X102 hx Bd.returns rfl rfl (hb hby d0_7) hr) ⟨hrun, hended, _, _, rfl, ?_, ⟨_, rfl⟩, hW, hsame.mono (by decide) (by decide)⟩
    show Q0 Z p0 h0 n0 _ T102.heap _
    rw [e102]
    exact ⟨b102, k102, rfl, N0, ((Keep.refl h0 []).ext E102), sz_b102, EA102, (by rw [hc1_101]; exact V102.arh)⟩
  ·
    refine OGo.st (fun t k => XS.ifYes X0.here hx rfl (pc0 := 1) (pc' := 8) rfl (hb hby d0_1) rfl ((if0 _ _).trans (feq hc1_101).2) (by decide) (by decide) k) ?_
    show OGo p.tables e below _ (s₁.setTop (mkF m 8 #[.val (.int p0)] []))
    refine OGo.st (fun t k => XS.iloadN X0.here hx rfl (hb hby d0_8) rfl k) ?_
    show OGo p.tables e below _ (s₁.setTop (mkF m 9 #[.val (.int p0)] [(.int p0)]))
    refine OGo.st (fun t k => XS.iconst X0.here hx rfl (hb hby d0_9) k) ?_
    show OGo p.tables e below _ (s₁.setTop (mkF m 10 #[.val (.int p0)] [(.int (1 : Int32)), (.int p0)]))
    by_cases hc10_104 : p0 = (1 : Int32)
    ·
      refine OGo.st (fun t k => XS.icmpNo X0.here hx rfl (hb hby d0_10) rfl (teq hc10_104).2 k) ?_
      show OGo p.tables e below _ (s₁.setTop (mkF m 13 #[.val (.int p0)] []))
      refine OGo.st (fun t k => XS.iconst X0.here hx rfl (hb hby d0_13) k) ?_
      show OGo p.tables e below _ (s₁.setTop (mkF m 14 #[.val (.int p0)] [(.int (1 : Int32))]))
      obtain ⟨T105, h105, k105, X105, e105, E105, A105, EA105, st105⟩ := newPE X0 hx hZ (hw _ (List.mem_of_getElem? (i := 5) rfl)) e0 (g := (mkF m 14 #[.val (.int p0)] [(.int (1 : Int32))])) rfl (hb hby d0_14) rfl (by decide) (cap := 1) (by decide) (by decide) (by decide) (by decide) (ad := "[B") (by decide)
      obtain ⟨b105, g105⟩ : ∃ z, z = h0.size := ⟨_, rfl⟩
      rw [← g105] at A105 EA105 st105
      have ge_b105 : n0 ≤ b105 := Nat.le_trans Z0 (Nat.le_of_eq g105.symm)
      have sz_b105 : h0.size ≤ b105 := Nat.le_trans (Nat.le_refl h0.size) (Nat.le_of_eq g105.symm)
      have V105 : Arv Z h105 b105 k105 .byte (1 : Int32) [] (.int (0 : Int32)) := Arv.new A105 (by decide)
      refine OGo.st st105 ?_
      show OGo p.tables e below _ (T105.setTop (mkF m 16 #[.val (.int p0)] [(.ref b105)]))
      obtain ⟨fs, hr, hrun, hended, hW, hsame⟩ := X105.leave (v := some (.ref b105)) (fun h => by rw [Bd.returns] at h; cases h)
      refine OGo.done (own_retR X105 hx Bd.returns rfl rfl (hb hby d0_16) hr) ⟨hrun, hended, _, _, rfl, ?_, ⟨_, rfl⟩, hW, hsame.mono (by decide) (by decide)⟩
      show Q0 Z p0 h0 n0 _ T105.heap _
      rw [e105]
      exact ⟨b105, k105, rfl, N0, ((Keep.refl h0 []).ext E105), sz_b105, EA105, (by rw [hc10_104]; exact V105.arh)⟩
    ·
      refine OGo.st (fun t k => XS.icmpYes X0.here hx rfl (pc0 := 10) (pc' := 17) rfl (hb hby d0_10) rfl (feq hc10_104).2 (by decide) (by decide) k) ?_
      show OGo p.tables e below _ (s₁.setTop (mkF m 17 #[.val (.int p0)] []))
      refine OGo.st (fun t k => XS.iloadN X0.here hx rfl (hb hby d0_17) rfl k) ?_
      show OGo p.tables e below _ (s₁.setTop (mkF m 18 #[.val (.int p0)] [(.int p0)]))
      refine OGo.st (fun t k => XS.iconst X0.here hx rfl (hb hby d0_18) k) ?_
      show OGo p.tables e below _ (s₁.setTop (mkF m 19 #[.val (.int p0)] [(.int (2 : Int32)), (.int p0)]))
      by_cases hc19_107 : p0 = (2 : Int32)
      ·
        refine OGo.st (fun t k => XS.icmpNo X0.here hx rfl (hb hby d0_19) rfl (teq hc19_107).2 k) ?_
        show OGo p.tables e below _ (s₁.setTop (mkF m 22 #[.val (.int p0)] []))
        refine OGo.st (fun t k => XS.iconst X0.here hx rfl (hb hby d0_22) k) ?_
        show OGo p.tables e below _ (s₁.setTop (mkF m 23 #[.val (.int p0)] [(.int (2 : Int32))]))
        obtain ⟨T108, h108, k108, X108, e108, E108, A108, EA108, st108⟩ := newPE X0 hx hZ (hw _ (List.mem_of_getElem? (i := 5) rfl)) e0 (g := (mkF m 23 #[.val (.int p0)] [(.int (2 : Int32))])) rfl (hb hby d0_23) rfl (by decide) (cap := 2) (by decide) (by decide) (by decide) (by decide) (ad := "[B") (by decide)
        obtain ⟨b108, g108⟩ : ∃ z, z = h0.size := ⟨_, rfl⟩
        rw [← g108] at A108 EA108 st108
        have ge_b108 : n0 ≤ b108 := Nat.le_trans Z0 (Nat.le_of_eq g108.symm)
        have sz_b108 : h0.size ≤ b108 := Nat.le_trans (Nat.le_refl h0.size) (Nat.le_of_eq g108.symm)
        have V108 : Arv Z h108 b108 k108 .byte (2 : Int32) [] (.int (0 : Int32)) := Arv.new A108 (by decide)
        refine OGo.st st108 ?_
        show OGo p.tables e below _ (T108.setTop (mkF m 25 #[.val (.int p0)] [(.ref b108)]))
        obtain ⟨fs, hr, hrun, hended, hW, hsame⟩ := X108.leave (v := some (.ref b108)) (fun h => by rw [Bd.returns] at h; cases h)
        refine OGo.done (own_retR X108 hx Bd.returns rfl rfl (hb hby d0_25) hr) ⟨hrun, hended, _, _, rfl, ?_, ⟨_, rfl⟩, hW, hsame.mono (by decide) (by decide)⟩
        show Q0 Z p0 h0 n0 _ T108.heap _
        rw [e108]
        exact ⟨b108, k108, rfl, N0, ((Keep.refl h0 []).ext E108), sz_b108, EA108, (by rw [hc19_107]; exact V108.arh)⟩
      ·
        refine OGo.st (fun t k => XS.icmpYes X0.here hx rfl (pc0 := 19) (pc' := 26) rfl (hb hby d0_19) rfl (feq hc19_107).2 (by decide) (by decide) k) ?_
        show OGo p.tables e below _ (s₁.setTop (mkF m 26 #[.val (.int p0)] []))
        refine OGo.st (fun t k => XS.iloadN X0.here hx rfl (hb hby d0_26) rfl k) ?_
        show OGo p.tables e below _ (s₁.setTop (mkF m 27 #[.val (.int p0)] [(.int p0)]))
        refine OGo.st (fun t k => XS.iconst X0.here hx rfl (hb hby d0_27) k) ?_
        show OGo p.tables e below _ (s₁.setTop (mkF m 28 #[.val (.int p0)] [(.int (3 : Int32)), (.int p0)]))
        by_cases hc28_110 : p0 = (3 : Int32)
        ·
          refine OGo.st (fun t k => XS.icmpNo X0.here hx rfl (hb hby d0_28) rfl (teq hc28_110).2 k) ?_
          show OGo p.tables e below _ (s₁.setTop (mkF m 31 #[.val (.int p0)] []))
          refine OGo.st (fun t k => XS.iconst X0.here hx rfl (hb hby d0_31) k) ?_
          show OGo p.tables e below _ (s₁.setTop (mkF m 32 #[.val (.int p0)] [(.int (3 : Int32))]))
          obtain ⟨T111, h111, k111, X111, e111, E111, A111, EA111, st111⟩ := newPE X0 hx hZ (hw _ (List.mem_of_getElem? (i := 5) rfl)) e0 (g := (mkF m 32 #[.val (.int p0)] [(.int (3 : Int32))])) rfl (hb hby d0_32) rfl (by decide) (cap := 3) (by decide) (by decide) (by decide) (by decide) (ad := "[B") (by decide)
          obtain ⟨b111, g111⟩ : ∃ z, z = h0.size := ⟨_, rfl⟩
          rw [← g111] at A111 EA111 st111
          have ge_b111 : n0 ≤ b111 := Nat.le_trans Z0 (Nat.le_of_eq g111.symm)
          have sz_b111 : h0.size ≤ b111 := Nat.le_trans (Nat.le_refl h0.size) (Nat.le_of_eq g111.symm)
          have V111 : Arv Z h111 b111 k111 .byte (3 : Int32) [] (.int (0 : Int32)) := Arv.new A111 (by decide)
          refine OGo.st st111 ?_
          show OGo p.tables e below _ (T111.setTop (mkF m 34 #[.val (.int p0)] [(.ref b111)]))
          obtain ⟨fs, hr, hrun, hended, hW, hsame⟩ := X111.leave (v := some (.ref b111)) (fun h => by rw [Bd.returns] at h; cases h)
          refine OGo.done (own_retR X111 hx Bd.returns rfl rfl (hb hby d0_34) hr) ⟨hrun, hended, _, _, rfl, ?_, ⟨_, rfl⟩, hW, hsame.mono (by decide) (by decide)⟩
          show Q0 Z p0 h0 n0 _ T111.heap _
          rw [e111]
          exact ⟨b111, k111, rfl, N0, ((Keep.refl h0 []).ext E111), sz_b111, EA111, (by rw [hc28_110]; exact V111.arh)⟩
        ·
          refine OGo.st (fun t k => XS.icmpYes X0.here hx rfl (pc0 := 28) (pc' := 35) rfl (hb hby d0_28) rfl (feq hc28_110).2 (by decide) (by decide) k) ?_
          show OGo p.tables e below _ (s₁.setTop (mkF m 35 #[.val (.int p0)] []))
          refine OGo.st (fun t k => XS.iloadN X0.here hx rfl (hb hby d0_35) rfl k) ?_
          show OGo p.tables e below _ (s₁.setTop (mkF m 36 #[.val (.int p0)] [(.int p0)]))
          refine OGo.st (fun t k => XS.iconst X0.here hx rfl (hb hby d0_36) k) ?_
          show OGo p.tables e below _ (s₁.setTop (mkF m 37 #[.val (.int p0)] [(.int (4 : Int32)), (.int p0)]))
          by_cases hc37_113 : p0 = (4 : Int32)
          ·
            refine OGo.st (fun t k => XS.icmpNo X0.here hx rfl (hb hby d0_37) rfl (teq hc37_113).2 k) ?_
            show OGo p.tables e below _ (s₁.setTop (mkF m 40 #[.val (.int p0)] []))
            refine OGo.st (fun t k => XS.iconst X0.here hx rfl (hb hby d0_40) k) ?_
            show OGo p.tables e below _ (s₁.setTop (mkF m 41 #[.val (.int p0)] [(.int (4 : Int32))]))
            obtain ⟨T114, h114, k114, X114, e114, E114, A114, EA114, st114⟩ := newPE X0 hx hZ (hw _ (List.mem_of_getElem? (i := 5) rfl)) e0 (g := (mkF m 41 #[.val (.int p0)] [(.int (4 : Int32))])) rfl (hb hby d0_41) rfl (by decide) (cap := 4) (by decide) (by decide) (by decide) (by decide) (ad := "[B") (by decide)
            obtain ⟨b114, g114⟩ : ∃ z, z = h0.size := ⟨_, rfl⟩
            rw [← g114] at A114 EA114 st114
            have ge_b114 : n0 ≤ b114 := Nat.le_trans Z0 (Nat.le_of_eq g114.symm)
            have sz_b114 : h0.size ≤ b114 := Nat.le_trans (Nat.le_refl h0.size) (Nat.le_of_eq g114.symm)
            have V114 : Arv Z h114 b114 k114 .byte (4 : Int32) [] (.int (0 : Int32)) := Arv.new A114 (by decide)
            refine OGo.st st114 ?_
            show OGo p.tables e below _ (T114.setTop (mkF m 43 #[.val (.int p0)] [(.ref b114)]))
            obtain ⟨fs, hr, hrun, hended, hW, hsame⟩ := X114.leave (v := some (.ref b114)) (fun h => by rw [Bd.returns] at h; cases h)
            refine OGo.done (own_retR X114 hx Bd.returns rfl rfl (hb hby d0_43) hr) ⟨hrun, hended, _, _, rfl, ?_, ⟨_, rfl⟩, hW, hsame.mono (by decide) (by decide)⟩
            show Q0 Z p0 h0 n0 _ T114.heap _
            rw [e114]
            exact ⟨b114, k114, rfl, N0, ((Keep.refl h0 []).ext E114), sz_b114, EA114, (by rw [hc37_113]; exact V114.arh)⟩
          ·
            refine OGo.st (fun t k => XS.icmpYes X0.here hx rfl (pc0 := 37) (pc' := 44) rfl (hb hby d0_37) rfl (feq hc37_113).2 (by decide) (by decide) k) ?_
            show OGo p.tables e below _ (s₁.setTop (mkF m 44 #[.val (.int p0)] []))
            refine OGo.st (fun t k => XS.iloadN X0.here hx rfl (hb hby d0_44) rfl k) ?_
            show OGo p.tables e below _ (s₁.setTop (mkF m 45 #[.val (.int p0)] [(.int p0)]))
            refine OGo.st (fun t k => XS.iconst X0.here hx rfl (hb hby d0_45) k) ?_
            show OGo p.tables e below _ (s₁.setTop (mkF m 46 #[.val (.int p0)] [(.int (5 : Int32)), (.int p0)]))
            by_cases hc46_116 : p0 = (5 : Int32)
            ·
              refine OGo.st (fun t k => XS.icmpNo X0.here hx rfl (hb hby d0_46) rfl (teq hc46_116).2 k) ?_
              show OGo p.tables e below _ (s₁.setTop (mkF m 49 #[.val (.int p0)] []))
              refine OGo.st (fun t k => XS.iconst X0.here hx rfl (hb hby d0_49) k) ?_
              show OGo p.tables e below _ (s₁.setTop (mkF m 50 #[.val (.int p0)] [(.int (5 : Int32))]))
              obtain ⟨T117, h117, k117, X117, e117, E117, A117, EA117, st117⟩ := newPE X0 hx hZ (hw _ (List.mem_of_getElem? (i := 5) rfl)) e0 (g := (mkF m 50 #[.val (.int p0)] [(.int (5 : Int32))])) rfl (hb hby d0_50) rfl (by decide) (cap := 5) (by decide) (by decide) (by decide) (by decide) (ad := "[B") (by decide)
              obtain ⟨b117, g117⟩ : ∃ z, z = h0.size := ⟨_, rfl⟩
              rw [← g117] at A117 EA117 st117
              have ge_b117 : n0 ≤ b117 := Nat.le_trans Z0 (Nat.le_of_eq g117.symm)
              have sz_b117 : h0.size ≤ b117 := Nat.le_trans (Nat.le_refl h0.size) (Nat.le_of_eq g117.symm)
              have V117 : Arv Z h117 b117 k117 .byte (5 : Int32) [] (.int (0 : Int32)) := Arv.new A117 (by decide)
              refine OGo.st st117 ?_
              show OGo p.tables e below _ (T117.setTop (mkF m 52 #[.val (.int p0)] [(.ref b117)]))
              obtain ⟨fs, hr, hrun, hended, hW, hsame⟩ := X117.leave (v := some (.ref b117)) (fun h => by rw [Bd.returns] at h; cases h)
              refine OGo.done (own_retR X117 hx Bd.returns rfl rfl (hb hby d0_52) hr) ⟨hrun, hended, _, _, rfl, ?_, ⟨_, rfl⟩, hW, hsame.mono (by decide) (by decide)⟩
              show Q0 Z p0 h0 n0 _ T117.heap _
              rw [e117]
              exact ⟨b117, k117, rfl, N0, ((Keep.refl h0 []).ext E117), sz_b117, EA117, (by rw [hc46_116]; exact V117.arh)⟩
            ·
              refine OGo.st (fun t k => XS.icmpYes X0.here hx rfl (pc0 := 46) (pc' := 53) rfl (hb hby d0_46) rfl (feq hc46_116).2 (by decide) (by decide) k) ?_
              show OGo p.tables e below _ (s₁.setTop (mkF m 53 #[.val (.int p0)] []))
              refine OGo.st (fun t k => XS.iloadN X0.here hx rfl (hb hby d0_53) rfl k) ?_
              show OGo p.tables e below _ (s₁.setTop (mkF m 54 #[.val (.int p0)] [(.int p0)]))
              refine OGo.st (fun t k => XS.bipush X0.here hx rfl (hb hby d0_54) k) ?_
              show OGo p.tables e below _ (s₁.setTop (mkF m 56 #[.val (.int p0)] [(.int (6 : Int32)), (.int p0)]))
              by_cases hc56_119 : p0 = (6 : Int32)
              ·
                refine OGo.st (fun t k => XS.icmpNo X0.here hx rfl (hb hby d0_56) rfl (teq hc56_119).2 k) ?_
                show OGo p.tables e below _ (s₁.setTop (mkF m 59 #[.val (.int p0)] []))
                refine OGo.st (fun t k => XS.bipush X0.here hx rfl (hb hby d0_59) k) ?_
                show OGo p.tables e below _ (s₁.setTop (mkF m 61 #[.val (.int p0)] [(.int (6 : Int32))]))
                obtain ⟨T120, h120, k120, X120, e120, E120, A120, EA120, st120⟩ := newPE X0 hx hZ (hw _ (List.mem_of_getElem? (i := 5) rfl)) e0 (g := (mkF m 61 #[.val (.int p0)] [(.int (6 : Int32))])) rfl (hb hby d0_61) rfl (by decide) (cap := 6) (by decide) (by decide) (by decide) (by decide) (ad := "[B") (by decide)
                obtain ⟨b120, g120⟩ : ∃ z, z = h0.size := ⟨_, rfl⟩
                rw [← g120] at A120 EA120 st120
                have ge_b120 : n0 ≤ b120 := Nat.le_trans Z0 (Nat.le_of_eq g120.symm)
                have sz_b120 : h0.size ≤ b120 := Nat.le_trans (Nat.le_refl h0.size) (Nat.le_of_eq g120.symm)
                have V120 : Arv Z h120 b120 k120 .byte (6 : Int32) [] (.int (0 : Int32)) := Arv.new A120 (by decide)
                refine OGo.st st120 ?_
                show OGo p.tables e below _ (T120.setTop (mkF m 63 #[.val (.int p0)] [(.ref b120)]))
                obtain ⟨fs, hr, hrun, hended, hW, hsame⟩ := X120.leave (v := some (.ref b120)) (fun h => by rw [Bd.returns] at h; cases h)
                refine OGo.done (own_retR X120 hx Bd.returns rfl rfl (hb hby d0_63) hr) ⟨hrun, hended, _, _, rfl, ?_, ⟨_, rfl⟩, hW, hsame.mono (by decide) (by decide)⟩
                show Q0 Z p0 h0 n0 _ T120.heap _
                rw [e120]
                exact ⟨b120, k120, rfl, N0, ((Keep.refl h0 []).ext E120), sz_b120, EA120, (by rw [hc56_119]; exact V120.arh)⟩
              ·
                refine OGo.st (fun t k => XS.icmpYes X0.here hx rfl (pc0 := 56) (pc' := 64) rfl (hb hby d0_56) rfl (feq hc56_119).2 (by decide) (by decide) k) ?_
                show OGo p.tables e below _ (s₁.setTop (mkF m 64 #[.val (.int p0)] []))
                refine OGo.st (fun t k => XS.iloadN X0.here hx rfl (hb hby d0_64) rfl k) ?_
                show OGo p.tables e below _ (s₁.setTop (mkF m 65 #[.val (.int p0)] [(.int p0)]))
                refine OGo.st (fun t k => XS.bipush X0.here hx rfl (hb hby d0_65) k) ?_
                show OGo p.tables e below _ (s₁.setTop (mkF m 67 #[.val (.int p0)] [(.int (7 : Int32)), (.int p0)]))
                by_cases hc67_122 : p0 = (7 : Int32)
                ·
                  refine OGo.st (fun t k => XS.icmpNo X0.here hx rfl (hb hby d0_67) rfl (teq hc67_122).2 k) ?_
                  show OGo p.tables e below _ (s₁.setTop (mkF m 70 #[.val (.int p0)] []))
                  refine OGo.st (fun t k => XS.bipush X0.here hx rfl (hb hby d0_70) k) ?_
                  show OGo p.tables e below _ (s₁.setTop (mkF m 72 #[.val (.int p0)] [(.int (7 : Int32))]))
                  obtain ⟨T123, h123, k123, X123, e123, E123, A123, EA123, st123⟩ := newPE X0 hx hZ (hw _ (List.mem_of_getElem? (i := 5) rfl)) e0 (g := (mkF m 72 #[.val (.int p0)] [(.int (7 : Int32))])) rfl (hb hby d0_72) rfl (by decide) (cap := 7) (by decide) (by decide) (by decide) (by decide) (ad := "[B") (by decide)
                  obtain ⟨b123, g123⟩ : ∃ z, z = h0.size := ⟨_, rfl⟩
                  rw [← g123] at A123 EA123 st123
                  have ge_b123 : n0 ≤ b123 := Nat.le_trans Z0 (Nat.le_of_eq g123.symm)
                  have sz_b123 : h0.size ≤ b123 := Nat.le_trans (Nat.le_refl h0.size) (Nat.le_of_eq g123.symm)
                  have V123 : Arv Z h123 b123 k123 .byte (7 : Int32) [] (.int (0 : Int32)) := Arv.new A123 (by decide)
                  refine OGo.st st123 ?_
                  show OGo p.tables e below _ (T123.setTop (mkF m 74 #[.val (.int p0)] [(.ref b123)]))
                  obtain ⟨fs, hr, hrun, hended, hW, hsame⟩ := X123.leave (v := some (.ref b123)) (fun h => by rw [Bd.returns] at h; cases h)
                  refine OGo.done (own_retR X123 hx Bd.returns rfl rfl (hb hby d0_74) hr) ⟨hrun, hended, _, _, rfl, ?_, ⟨_, rfl⟩, hW, hsame.mono (by decide) (by decide)⟩
                  show Q0 Z p0 h0 n0 _ T123.heap _
                  rw [e123]
                  exact ⟨b123, k123, rfl, N0, ((Keep.refl h0 []).ext E123), sz_b123, EA123, (by rw [hc67_122]; exact V123.arh)⟩
                ·
                  refine OGo.st (fun t k => XS.icmpYes X0.here hx rfl (pc0 := 67) (pc' := 75) rfl (hb hby d0_67) rfl (feq hc67_122).2 (by decide) (by decide) k) ?_
                  show OGo p.tables e below _ (s₁.setTop (mkF m 75 #[.val (.int p0)] []))
                  refine OGo.st (fun t k => XS.iloadN X0.here hx rfl (hb hby d0_75) rfl k) ?_
                  show OGo p.tables e below _ (s₁.setTop (mkF m 76 #[.val (.int p0)] [(.int p0)]))
                  refine OGo.st (fun t k => XS.bipush X0.here hx rfl (hb hby d0_76) k) ?_
                  show OGo p.tables e below _ (s₁.setTop (mkF m 78 #[.val (.int p0)] [(.int (8 : Int32)), (.int p0)]))
                  by_cases hc78_125 : p0 = (8 : Int32)
                  ·
                    refine OGo.st (fun t k => XS.icmpNo X0.here hx rfl (hb hby d0_78) rfl (teq hc78_125).2 k) ?_
                    show OGo p.tables e below _ (s₁.setTop (mkF m 81 #[.val (.int p0)] []))
                    refine OGo.st (fun t k => XS.bipush X0.here hx rfl (hb hby d0_81) k) ?_
                    show OGo p.tables e below _ (s₁.setTop (mkF m 83 #[.val (.int p0)] [(.int (8 : Int32))]))
                    obtain ⟨T126, h126, k126, X126, e126, E126, A126, EA126, st126⟩ := newPE X0 hx hZ (hw _ (List.mem_of_getElem? (i := 5) rfl)) e0 (g := (mkF m 83 #[.val (.int p0)] [(.int (8 : Int32))])) rfl (hb hby d0_83) rfl (by decide) (cap := 8) (by decide) (by decide) (by decide) (by decide) (ad := "[B") (by decide)
                    obtain ⟨b126, g126⟩ : ∃ z, z = h0.size := ⟨_, rfl⟩
                    rw [← g126] at A126 EA126 st126
                    have ge_b126 : n0 ≤ b126 := Nat.le_trans Z0 (Nat.le_of_eq g126.symm)
                    have sz_b126 : h0.size ≤ b126 := Nat.le_trans (Nat.le_refl h0.size) (Nat.le_of_eq g126.symm)
                    have V126 : Arv Z h126 b126 k126 .byte (8 : Int32) [] (.int (0 : Int32)) := Arv.new A126 (by decide)
                    refine OGo.st st126 ?_
                    show OGo p.tables e below _ (T126.setTop (mkF m 85 #[.val (.int p0)] [(.ref b126)]))
                    obtain ⟨fs, hr, hrun, hended, hW, hsame⟩ := X126.leave (v := some (.ref b126)) (fun h => by rw [Bd.returns] at h; cases h)
                    refine OGo.done (own_retR X126 hx Bd.returns rfl rfl (hb hby d0_85) hr) ⟨hrun, hended, _, _, rfl, ?_, ⟨_, rfl⟩, hW, hsame.mono (by decide) (by decide)⟩
                    show Q0 Z p0 h0 n0 _ T126.heap _
                    rw [e126]
                    exact ⟨b126, k126, rfl, N0, ((Keep.refl h0 []).ext E126), sz_b126, EA126, (by rw [hc78_125]; exact V126.arh)⟩
                  ·
                    refine OGo.st (fun t k => XS.icmpYes X0.here hx rfl (pc0 := 78) (pc' := 86) rfl (hb hby d0_78) rfl (feq hc78_125).2 (by decide) (by decide) k) ?_
                    show OGo p.tables e below _ (s₁.setTop (mkF m 86 #[.val (.int p0)] []))
                    refine OGo.st (fun t k => XS.bipush X0.here hx rfl (hb hby d0_86) k) ?_
                    show OGo p.tables e below _ (s₁.setTop (mkF m 88 #[.val (.int p0)] [(.int (9 : Int32))]))
                    obtain ⟨T128, h128, k128, X128, e128, E128, A128, EA128, st128⟩ := newPE X0 hx hZ (hw _ (List.mem_of_getElem? (i := 5) rfl)) e0 (g := (mkF m 88 #[.val (.int p0)] [(.int (9 : Int32))])) rfl (hb hby d0_88) rfl (by decide) (cap := 9) (by decide) (by decide) (by decide) (by decide) (ad := "[B") (by decide)
                    obtain ⟨b128, g128⟩ : ∃ z, z = h0.size := ⟨_, rfl⟩
                    rw [← g128] at A128 EA128 st128
                    have ge_b128 : n0 ≤ b128 := Nat.le_trans Z0 (Nat.le_of_eq g128.symm)
                    have sz_b128 : h0.size ≤ b128 := Nat.le_trans (Nat.le_refl h0.size) (Nat.le_of_eq g128.symm)
                    have V128 : Arv Z h128 b128 k128 .byte (9 : Int32) [] (.int (0 : Int32)) := Arv.new A128 (by decide)
                    refine OGo.st st128 ?_
                    show OGo p.tables e below _ (T128.setTop (mkF m 90 #[.val (.int p0)] [(.ref b128)]))
                    obtain ⟨fs, hr, hrun, hended, hW, hsame⟩ := X128.leave (v := some (.ref b128)) (fun h => by rw [Bd.returns] at h; cases h)
                    refine OGo.done (own_retR X128 hx Bd.returns rfl rfl (hb hby d0_90) hr) ⟨hrun, hended, _, _, rfl, ?_, ⟨_, rfl⟩, hW, hsame.mono (by decide) (by decide)⟩
                    show Q0 Z p0 h0 n0 _ T128.heap _
                    rw [e128]
                    exact ⟨b128, k128, rfl, N0, ((Keep.refl h0 []).ext E128), sz_b128, EA128, (by rw [own_nine p0 hp hc1_101 hc10_104 hc19_107 hc28_110 hc37_113 hc46_116 hc56_119 hc67_122 hc78_125]; exact V128.arh)⟩
theorem d1_0 : decode prog_46_method_1_code 0 = .ok (.aload_n 0, 1) := by decide +kernel
theorem d1_1 : decode prog_46_method_1_code 1 = .ok (.invokespecial 1, 3) := by decide +kernel
theorem d1_4 : decode prog_46_method_1_code 4 = .ok (.aload_n 0, 1) := by decide +kernel
theorem d1_5 : decode prog_46_method_1_code 5 = .ok (.aload_n 1, 1) := by decide +kernel
theorem d1_6 : decode prog_46_method_1_code 6 = .ok (.putfield 7, 3) := by decide +kernel
theorem d1_9 : decode prog_46_method_1_code 9 = .ok (.aload_n 0, 1) := by decide +kernel
theorem d1_10 : decode prog_46_method_1_code 10 = .ok (.iload_n 2, 1) := by decide +kernel
theorem d1_11 : decode prog_46_method_1_code 11 = .ok (.putfield 13, 3) := by decide +kernel
theorem d1_14 : decode prog_46_method_1_code 14 = .ok (.return_, 1) := by decide +kernel
theorem pn_1 : plainName "com/example/holdfast/holdfast/resources/DerValue$BitString" = true := by first | (simp [plainName, overriddenIn]; done) | decide +kernel
theorem ef_1 (m : MethodId) (x0 : Addr) (x1 : Addr) (x2 : Int32) : entryFrame m #[(.ref x0), (.ref x1), (.int x2)] 3 = mkF m 0 #[.val (.ref x0), .val (.ref x1), .val (.int x2)] [] := by first | (simp [entryFrame, mkF, argsToLocals, Value.category]; done) | rfl
def Q1 (Z : State) (a0 : Addr) (a1 : Addr) (p2 : Int32) (h0 : Heap) (n0 : Nat) (v : Option Value) (h : Heap) (L : List Loc) : Prop := v = none ∧ Fr n0 L ∧ Keep h0 h [a0] ∧ (Fld Z h a0 "com/example/holdfast/holdfast/resources/DerValue$BitString" "octets" "[B" (.ref a1)) ∧ (Fld Z h a0 "com/example/holdfast/holdfast/resources/DerValue$BitString" "unusedBits" "I" (.int p2))
set_option maxRecDepth 65536 in
set_option maxHeartbeats 40000000 in
theorem rm1 (l : Launch) (Z : State) (ar : Array Value) (hw : ∀ d ∈ tables_1, d.before ar Z = true) (ws : List Jvm.Cond) (a0 : Addr) (a1 : Addr) (p2 : Int32) (h0 : Heap) (n0 : Nat) (Z0 : n0 ≤ h0.size) (E0 : Exa Z h0 a0 "com/example/holdfast/holdfast/resources/DerValue$BitString") (g0 : n0 ≤ a0) (F1 : Fld Z h0 a0 "com/example/holdfast/holdfast/resources/DerValue$BitString" "octets" "[B" .null) (F2 : Fld Z h0 a0 "com/example/holdfast/holdfast/resources/DerValue$BitString" "unusedBits" "I" (.int (0 : Int32))) :
    MetFree l (⟨"com/example/holdfast/holdfast/resources/DerValue$BitString", "<init>", "([BI)V"⟩ : MethodName) (head1 (Jvm.Cond.code (⟨"com/example/holdfast/holdfast/resources/DerValue$BitString", "<init>", "([BI)V"⟩ : MethodName) prog_46_method_1_code 3 none :: ws) ({ frames := 1, cells := 0, slots := 0, locals := 12 } : Room)) (fun a U => a = #[(.ref a0), (.ref a1), (.int p2)] ∧ Z.Warmed39 U.vm ∧ U.heap = h0) (fun _ _ _ _ _ => True) (fun _ U o U' => ∃ v L, o = .returned v ∧ Q1 Z a0 a1 p2 h0 n0 v U'.heap L ∧ FrameEnd U o U' L ({ frames := 1, cells := 0, slots := 0, locals := 12 } : Room).cells ({ frames := 1, cells := 0, slots := 0, locals := 12 } : Room).slots) := by
  refine MetFree.of_bodySF (plainFor_of_name pn_1) hisR ?_
  intro p e s m args below meth c s₁ Bd hml0 hP hK
  obtain ⟨rfl, hZ, hh⟩ := hP
  have hx := Bd.exec
  have hby := Bd.bytes
  have hml : c.maxLocals = 3 := hml0
  have hown : s.vm.findClass "com/example/holdfast/holdfast/resources/DerValue$BitString" = some m.cls := findClass_of_methodNamed Bd.named
  have hnm := (name_of_methodNamed Bd.named Bd.method).1
  have X0 : Stand p l e ({ frames := 1, cells := 0, slots := 0, locals := 12 } : Room) s m #[(.ref a0), (.ref a1), (.int p2)] below meth c s₁ [] 0 0 := Stand.of_body Bd
  have e0 : s₁.heap = h0 := by rw [← hh, Bd.state]; rfl
  have N0 := Fr.nil n0
  have pre0 : ∀ t, Steps p.tables e below (s₁.setTop (mkF m 0 #[.val (.ref a0), .val (.ref a1), .val (.int p2)] [])) t → Steps p.tables e below (s₁.setTop (entryFrame m #[(.ref a0), (.ref a1), (.int p2)] 3)) t := fun t k => castTop (ef_1 m a0 a1 p2) k
  refine OGo.start pre0 ?_
  show OGo p.tables e below _ (s₁.setTop (mkF m 0 #[.val (.ref a0), .val (.ref a1), .val (.int p2)] []))
  refine OGo.st (fun t k => XS.aloadN X0.here hx rfl (hb hby d1_0) rfl rfl k) ?_
  show OGo p.tables e below _ (s₁.setTop (mkF m 1 #[.val (.ref a0), .val (.ref a1), .val (.int p2)] [(.ref a0)]))
  obtain ⟨T101, X101, e101, st101⟩ := initO X0 hx hZ hown (hw _ (List.mem_of_getElem? (i := 12) rfl)) (hw _ (List.mem_of_getElem? (i := 13) rfl)) (hw _ (List.mem_of_getElem? (i := 14) rfl)) e0 (g := (mkF m 1 #[.val (.ref a0), .val (.ref a1), .val (.int p2)] [(.ref a0)])) rfl (by rw [hml]; rfl) rfl (hb hby d1_1) (by decide) (W := 0) (by show 2 * 0 + _ ≤ _; exact Nat.le_of_eq rfl) (by decide)
  refine OGo.st st101 ?_
  show OGo p.tables e below _ (T101.setTop (mkF m 4 #[.val (.ref a0), .val (.ref a1), .val (.int p2)] []))
  refine OGo.st (fun t k => XS.aloadN X101.here hx rfl (hb hby d1_4) rfl rfl k) ?_
  show OGo p.tables e below _ (T101.setTop (mkF m 5 #[.val (.ref a0), .val (.ref a1), .val (.int p2)] [(.ref a0)]))
  refine OGo.st (fun t k => XS.aloadN X101.here hx rfl (hb hby d1_5) rfl rfl k) ?_
  show OGo p.tables e below _ (T101.setTop (mkF m 6 #[.val (.ref a0), .val (.ref a1), .val (.int p2)] [(.ref a1), (.ref a0)]))
  obtain ⟨T102, h102, X102, e102, W102, st102⟩ := putF X101 hx hZ hown (host := "") (Or.inl (hw _ (List.mem_of_getElem? (i := 15) rfl))) Via.refl e101 F1 E0 (Or.inr ⟨(hw _ (List.mem_of_getElem? (i := 16) rfl)), rfl, hnm⟩) (hw _ (List.mem_of_getElem? (i := 7) rfl)) (ty := (.array .byte)) (by decide) rfl rfl (g := (mkF m 6 #[.val (.ref a0), .val (.ref a1), .val (.int p2)] [(.ref a1), (.ref a0)])) rfl rfl (hb hby d1_6)
  refine OGo.st st102 ?_
  have Fw102 : Fld Z h102 a0 "com/example/holdfast/holdfast/resources/DerValue$BitString" "octets" "[B" (.ref a1) := Fld.same W102 F1
  have N102 := Fr.snoc X102 N0 g0
  show OGo p.tables e below _ (T102.setTop (mkF m 9 #[.val (.ref a0), .val (.ref a1), .val (.int p2)] []))
  refine OGo.st (fun t k => XS.aloadN X102.here hx rfl (hb hby d1_9) rfl rfl k) ?_
  show OGo p.tables e below _ (T102.setTop (mkF m 10 #[.val (.ref a0), .val (.ref a1), .val (.int p2)] [(.ref a0)]))
  refine OGo.st (fun t k => XS.iloadN X102.here hx rfl (hb hby d1_10) rfl k) ?_
  show OGo p.tables e below _ (T102.setTop (mkF m 11 #[.val (.ref a0), .val (.ref a1), .val (.int p2)] [(.int p2), (.ref a0)]))
  have G103 : Exa Z h102 a0 "com/example/holdfast/holdfast/resources/DerValue$BitString" := (Exa.wr W102 E0)
  have G104 : Fld Z h102 a0 "com/example/holdfast/holdfast/resources/DerValue$BitString" "unusedBits" "I" (.int (0 : Int32)) := (Fld.other W102 F2 (Or.inr (slot_ne (Or.inr (hw _ (List.mem_of_getElem? (i := 18) rfl))) (Or.inr (hw _ (List.mem_of_getElem? (i := 16) rfl))) (by decide) (t := .int) (t' := (.array .byte)) (by decide) (by decide))))
  obtain ⟨T105, h105, X105, e105, W105, st105⟩ := putF X102 hx hZ hown (host := "") (Or.inl (hw _ (List.mem_of_getElem? (i := 17) rfl))) Via.refl e102 G104 G103 (Or.inr ⟨(hw _ (List.mem_of_getElem? (i := 18) rfl)), rfl, hnm⟩) (hw _ (List.mem_of_getElem? (i := 7) rfl)) (ty := .int) (by decide) rfl rfl (g := (mkF m 11 #[.val (.ref a0), .val (.ref a1), .val (.int p2)] [(.int p2), (.ref a0)])) rfl rfl (hb hby d1_11)
  refine OGo.st st105 ?_
  have Fw105 : Fld Z h105 a0 "com/example/holdfast/holdfast/resources/DerValue$BitString" "unusedBits" "I" (.int p2) := Fld.same W105 G104
  have N105 := Fr.snoc X105 N102 g0
  show OGo p.tables e below _ (T105.setTop (mkF m 14 #[.val (.ref a0), .val (.ref a1), .val (.int p2)] []))
  obtain ⟨fs, hr, hrun, hended, hW, hsame⟩ := X105.leave (v := none) (fun _ => rfl)
  have G107 : Fld Z h105 a0 "com/example/holdfast/holdfast/resources/DerValue$BitString" "octets" "[B" (.ref a1) := (Fld.other W105 Fw102 (Or.inr (slot_ne (Or.inr (hw _ (List.mem_of_getElem? (i := 16) rfl))) (Or.inr (hw _ (List.mem_of_getElem? (i := 18) rfl))) (by decide) (t := (.array .byte)) (t' := .int) (by decide) (by decide))))
  refine OGo.done (X105.returnOut hx Bd.returns (hb hby d1_14) hr) ⟨hrun, hended, _, _, rfl, ?_, ⟨_, rfl⟩, hW, hsame.mono (by decide) (by decide)⟩
  show Q1 Z a0 a1 p2 h0 n0 _ T105.heap _
  rw [e105]
  exact ⟨rfl, N105, (((Keep.refl h0 [a0]).wr W102 (Or.inl (List.mem_of_getElem? (i := 0) rfl))).wr W105 (Or.inl (List.mem_of_getElem? (i := 0) rfl))), G107, Fw105⟩
theorem d2_0 : decode prog_46_method_2_code 0 = .ok (.aload_n 0, 1) := by decide +kernel
theorem d2_1 : decode prog_46_method_2_code 1 = .ok (.getfield 7, 3) := by decide +kernel
theorem d2_4 : decode prog_46_method_2_code 4 = .ok (.arraylength, 1) := by decide +kernel
theorem d2_5 : decode prog_46_method_2_code 5 = .ok (.bipush 8, 2) := by decide +kernel
theorem d2_7 : decode prog_46_method_2_code 7 = .ok (.imul, 1) := by decide +kernel
theorem d2_8 : decode prog_46_method_2_code 8 = .ok (.aload_n 0, 1) := by decide +kernel
theorem d2_9 : decode prog_46_method_2_code 9 = .ok (.getfield 13, 3) := by decide +kernel
theorem d2_12 : decode prog_46_method_2_code 12 = .ok (.isub, 1) := by decide +kernel
theorem d2_13 : decode prog_46_method_2_code 13 = .ok (.ireturn, 1) := by decide +kernel
theorem ef_2 (m : MethodId) (x0 : Addr) : entryFrame m #[(.ref x0)] 1 = mkF m 0 #[.val (.ref x0)] [] := by first | (simp [entryFrame, mkF, argsToLocals, Value.category]; done) | rfl
def Q2 (Z : State) (a0 : Addr) (b : Addr) (k : ClassId) (n : Int32) (hs : List (Int32 × Value)) (u : Int32) (h0 : Heap) (n0 : Nat) (v : Option Value) (h : Heap) (L : List Loc) : Prop := v = some (.int ((n * (8 : Int32)) - u)) ∧ Fr n0 L ∧ h = h0
set_option maxRecDepth 65536 in
set_option maxHeartbeats 40000000 in
theorem rm2 (l : Launch) (Z : State) (ar : Array Value) (hw : ∀ d ∈ tables_1, d.before ar Z = true) (ws : List Jvm.Cond) (a0 : Addr) (b : Addr) (k : ClassId) (n : Int32) (hs : List (Int32 × Value)) (u : Int32) (h0 : Heap) (n0 : Nat) (Z0 : n0 ≤ h0.size) (F1 : Fld Z h0 a0 "com/example/holdfast/holdfast/resources/DerValue$BitString" "octets" "[B" (.ref b)) (V0 : Arh Z h0 b k .byte n hs [] (.int (0 : Int32))) (F2 : Fld Z h0 a0 "com/example/holdfast/holdfast/resources/DerValue$BitString" "unusedBits" "I" (.int u)) :
    MetFree l (⟨"com/example/holdfast/holdfast/resources/DerValue$BitString", "bitLength", "()I"⟩ : MethodName) (head1 (Jvm.Cond.code (⟨"com/example/holdfast/holdfast/resources/DerValue$BitString", "bitLength", "()I"⟩ : MethodName) prog_46_method_2_code 1 (some .int) :: ws) ({ frames := 0, cells := 0, slots := 0, locals := 0 } : Room)) (fun a U => a = #[(.ref a0)] ∧ Z.Warmed39 U.vm ∧ U.heap = h0) (fun _ _ _ _ _ => True) (fun _ U o U' => ∃ v L, o = .returned v ∧ Q2 Z a0 b k n hs u h0 n0 v U'.heap L ∧ FrameEnd U o U' L ({ frames := 0, cells := 0, slots := 0, locals := 0 } : Room).cells ({ frames := 0, cells := 0, slots := 0, locals := 0 } : Room).slots) := by
  refine MetFree.of_bodySF (plainFor_of_name pn_1) hisR ?_
  intro p e s m args below meth c s₁ Bd hml0 hP hK
  obtain ⟨rfl, hZ, hh⟩ := hP
  have hx := Bd.exec
  have hby := Bd.bytes
  have hml : c.maxLocals = 1 := hml0
  have hown : s.vm.findClass "com/example/holdfast/holdfast/resources/DerValue$BitString" = some m.cls := findClass_of_methodNamed Bd.named
  have hnm := (name_of_methodNamed Bd.named Bd.method).1
  have X0 : Stand p l e ({ frames := 0, cells := 0, slots := 0, locals := 0 } : Room) s m #[(.ref a0)] below meth c s₁ [] 0 0 := Stand.of_body Bd
  have e0 : s₁.heap = h0 := by rw [← hh, Bd.state]; rfl
  have N0 := Fr.nil n0
  have pre0 : ∀ t, Steps p.tables e below (s₁.setTop (mkF m 0 #[.val (.ref a0)] [])) t → Steps p.tables e below (s₁.setTop (entryFrame m #[(.ref a0)] 1)) t := fun t k => castTop (ef_2 m a0) k
  refine OGo.start pre0 ?_
  show OGo p.tables e below _ (s₁.setTop (mkF m 0 #[.val (.ref a0)] []))
  refine OGo.st (fun t k => XS.aloadN X0.here hx rfl (hb hby d2_0) rfl rfl k) ?_
  show OGo p.tables e below _ (s₁.setTop (mkF m 1 #[.val (.ref a0)] [(.ref a0)]))
  obtain ⟨T101, X101, e101, st101⟩ := getF X0 hx hZ hown (host := "") (Or.inl (hw _ (List.mem_of_getElem? (i := 15) rfl))) Via.refl e0 F1 (g := (mkF m 1 #[.val (.ref a0)] [(.ref a0)])) rfl rfl (hb hby d2_1)
  refine OGo.st st101 ?_
  show OGo p.tables e below _ (T101.setTop (mkF m 4 #[.val (.ref a0)] [(.ref b)]))
  obtain ⟨cl102, Ar102, qc102, Sz102, Nz102, Hs102, Gs102⟩ := id V0
  refine OGo.st (fun t k => X101.arraylength hx (by rw [e101]; exact Ar102.1) (State.isArrayOf_alike hZ.alike Ar102.2.1) (g := (mkF m 4 #[.val (.ref a0)] [(.ref b)])) rfl rfl (hb hby d2_4) _ k) ?_
  rw [len_of Sz102 Nz102]
  show OGo p.tables e below _ (T101.setTop (mkF m 5 #[.val (.ref a0)] [(.int n)]))
  refine OGo.st (fun t k => XS.bipush X101.here hx rfl (hb hby d2_5) k) ?_
  show OGo p.tables e below _ (T101.setTop (mkF m 7 #[.val (.ref a0)] [(.int (8 : Int32)), (.int n)]))
  refine OGo.st (fun t k => XS.imul X101.here hx rfl (hb hby d2_7) rfl k) ?_
  show OGo p.tables e below _ (T101.setTop (mkF m 8 #[.val (.ref a0)] [(.int (n * (8 : Int32)))]))
  refine OGo.st (fun t k => XS.aloadN X101.here hx rfl (hb hby d2_8) rfl rfl k) ?_
  show OGo p.tables e below _ (T101.setTop (mkF m 9 #[.val (.ref a0)] [(.ref a0), (.int (n * (8 : Int32)))]))
  obtain ⟨T103, X103, e103, st103⟩ := getF X101 hx hZ hown (host := "") (Or.inl (hw _ (List.mem_of_getElem? (i := 17) rfl))) Via.refl e101 F2 (g := (mkF m 9 #[.val (.ref a0)] [(.ref a0), (.int (n * (8 : Int32)))])) rfl rfl (hb hby d2_9)
  refine OGo.st st103 ?_
  show OGo p.tables e below _ (T103.setTop (mkF m 12 #[.val (.ref a0)] [(.int u), (.int (n * (8 : Int32)))]))
  refine OGo.st (fun t k => XS.isub X103.here hx rfl (hb hby d2_12) rfl k) ?_
  show OGo p.tables e below _ (T103.setTop (mkF m 13 #[.val (.ref a0)] [(.int ((n * (8 : Int32)) - u))]))
  obtain ⟨fs, hr, hrun, hended, hW, hsame⟩ := X103.leave (v := some (.int ((n * (8 : Int32)) - u))) (fun h => by rw [Bd.returns] at h; cases h)
  refine OGo.done (retI X103 hx Bd.returns (hb hby d2_13) hr) ⟨hrun, hended, _, _, rfl, ?_, ⟨_, rfl⟩, hW, hsame.mono (by decide) (by decide)⟩
  show Q2 Z a0 b k n hs u h0 n0 _ T103.heap _
  rw [e103]
  exact ⟨rfl, N0, rfl⟩
theorem d3_0 : decode prog_46_method_3_code 0 = .ok (.aload_n 0, 1) := by decide +kernel
theorem d3_1 : decode prog_46_method_3_code 1 = .ok (.getfield 7, 3) := by decide +kernel
theorem d3_4 : decode prog_46_method_3_code 4 = .ok (.invokevirtual 17, 3) := by decide +kernel
theorem d3_7 : decode prog_46_method_3_code 7 = .ok (.checkcast 18, 3) := by decide +kernel
theorem d3_10 : decode prog_46_method_3_code 10 = .ok (.areturn, 1) := by decide +kernel
theorem ef_3 (m : MethodId) (x0 : Addr) : entryFrame m #[(.ref x0)] 1 = mkF m 0 #[.val (.ref x0)] [] := by first | (simp [entryFrame, mkF, argsToLocals, Value.category]; done) | rfl
def Q3 (Z : State) (a0 : Addr) (b : Addr) (k : ClassId) (n : Int32) (hs : List (Int32 × Value)) (h0 : Heap) (n0 : Nat) (v : Option Value) (h : Heap) (L : List Loc) : Prop := ∃ c : Addr, v = some (.ref c) ∧ Fr n0 L ∧ Keep h0 h [] ∧ h0.size ≤ c ∧ (Arh Z h c k .byte n hs [] (.int (0 : Int32)))
set_option maxRecDepth 65536 in
set_option maxHeartbeats 40000000 in
theorem rm3 (l : Launch) (Z : State) (ar : Array Value) (hw : ∀ d ∈ tables_1, d.before ar Z = true) (ws : List Jvm.Cond) (a0 : Addr) (b : Addr) (k : ClassId) (n : Int32) (hs : List (Int32 × Value)) (h0 : Heap) (n0 : Nat) (Z0 : n0 ≤ h0.size) (F1 : Fld Z h0 a0 "com/example/holdfast/holdfast/resources/DerValue$BitString" "octets" "[B" (.ref b)) (V0 : Arh Z h0 b k .byte n hs [] (.int (0 : Int32))) (E1 : Exa Z h0 b "[B") (hn : n.toNatClampNeg ≤ 9) :
    MetFree l (⟨"com/example/holdfast/holdfast/resources/DerValue$BitString", "octets", "()[B"⟩ : MethodName) (head1 (Jvm.Cond.code (⟨"com/example/holdfast/holdfast/resources/DerValue$BitString", "octets", "()[B"⟩ : MethodName) prog_46_method_3_code 1 (some (.array .byte)) :: ws) ({ frames := 1, cells := 1, slots := 9, locals := 14 } : Room)) (fun a U => a = #[(.ref a0)] ∧ Z.Warmed39 U.vm ∧ U.heap = h0) (fun _ _ _ _ _ => True) (fun _ U o U' => ∃ v L, o = .returned v ∧ Q3 Z a0 b k n hs h0 n0 v U'.heap L ∧ FrameEnd U o U' L ({ frames := 1, cells := 1, slots := 9, locals := 14 } : Room).cells ({ frames := 1, cells := 1, slots := 9, locals := 14 } : Room).slots) := by
  refine MetFree.of_bodySF (plainFor_of_name pn_1) hisR ?_
  intro p e s m args below meth c s₁ Bd hml0 hP hK
  obtain ⟨rfl, hZ, hh⟩ := hP
  have hx := Bd.exec
  have hby := Bd.bytes
  have hml : c.maxLocals = 1 := hml0
  have hown : s.vm.findClass "com/example/holdfast/holdfast/resources/DerValue$BitString" = some m.cls := findClass_of_methodNamed Bd.named
  have hnm := (name_of_methodNamed Bd.named Bd.method).1
  have X0 : Stand p l e ({ frames := 1, cells := 1, slots := 9, locals := 14 } : Room) s m #[(.ref a0)] below meth c s₁ [] 0 0 := Stand.of_body Bd
  have e0 : s₁.heap = h0 := by rw [← hh, Bd.state]; rfl
  have N0 := Fr.nil n0
  have pre0 : ∀ t, Steps p.tables e below (s₁.setTop (mkF m 0 #[.val (.ref a0)] [])) t → Steps p.tables e below (s₁.setTop (entryFrame m #[(.ref a0)] 1)) t := fun t k => castTop (ef_3 m a0) k
  refine OGo.start pre0 ?_
  show OGo p.tables e below _ (s₁.setTop (mkF m 0 #[.val (.ref a0)] []))
  refine OGo.st (fun t k => XS.aloadN X0.here hx rfl (hb hby d3_0) rfl rfl k) ?_
  show OGo p.tables e below _ (s₁.setTop (mkF m 1 #[.val (.ref a0)] [(.ref a0)]))
  obtain ⟨T101, X101, e101, st101⟩ := getF X0 hx hZ hown (host := "") (Or.inl (hw _ (List.mem_of_getElem? (i := 15) rfl))) Via.refl e0 F1 (g := (mkF m 1 #[.val (.ref a0)] [(.ref a0)])) rfl rfl (hb hby d3_1)
  refine OGo.st st101 ?_
  show OGo p.tables e below _ (T101.setTop (mkF m 4 #[.val (.ref a0)] [(.ref b)]))
  obtain ⟨T102, h102, X102, e102, E102, V102, EA102, st102⟩ := cloneH X101 hx hZ hown (hw _ (List.mem_of_getElem? (i := 29) rfl)) (hw _ (List.mem_of_getElem? (i := 30) rfl)) (hw _ (List.mem_of_getElem? (i := 34) rfl)) (hw _ (List.mem_of_getElem? (i := 32) rfl)) (hw _ (List.mem_of_getElem? (i := 33) rfl)) (hw _ (List.mem_of_getElem? (i := 35) rfl)) e101 V0 E1 (g := (mkF m 4 #[.val (.ref a0)] [(.ref b)])) rfl (by rw [hml]; rfl) rfl (hb hby d3_4) (by decide) (W := 0) (cap := 9) (by show 2 * 0 + _ ≤ _; exact Nat.le_of_eq rfl) (by decide) hn (by decide) (by decide)
  obtain ⟨b102, g102⟩ : ∃ z, z = h0.size := ⟨_, rfl⟩
  rw [← g102] at V102 EA102 st102
  have ge_b102 : n0 ≤ b102 := Nat.le_trans Z0 (Nat.le_of_eq g102.symm)
  have sz_b102 : h0.size ≤ b102 := Nat.le_trans (Nat.le_refl h0.size) (Nat.le_of_eq g102.symm)
  have ne_a0_b102 : a0 ≠ b102 := Nat.ne_of_lt (Nat.lt_of_lt_of_le F1.lt (Nat.le_of_eq g102.symm))
  have ne_b_b102 : b ≠ b102 := Nat.ne_of_lt (Nat.lt_of_lt_of_le E1.lt (Nat.le_of_eq g102.symm))
  refine OGo.st st102 ?_
  show OGo p.tables e below _ (T102.setTop (mkF m 7 #[.val (.ref a0)] [(.ref b102)]))
  obtain ⟨T103, X103, e103, st103⟩ := castY X102 hx hZ hown (hw _ (List.mem_of_getElem? (i := 36) rfl)) e102 (Ins.self EA102) (g := (mkF m 7 #[.val (.ref a0)] [(.ref b102)])) rfl rfl (hb hby d3_7)
  refine OGo.st st103 ?_
  show OGo p.tables e below _ (T103.setTop (mkF m 10 #[.val (.ref a0)] [(.ref b102)]))
  obtain ⟨fs, hr, hrun, hended, hW, hsame⟩ := X103.leave (v := some (.ref b102)) (fun h => by rw [Bd.returns] at h; cases h)
  refine OGo.done (own_retR X103 hx Bd.returns rfl rfl (hb hby d3_10) hr) ⟨hrun, hended, _, _, rfl, ?_, ⟨_, rfl⟩, hW, hsame.mono (by decide) (by decide)⟩
  show Q3 Z a0 b k n hs h0 n0 _ T103.heap _
  rw [e103]
  exact ⟨b102, rfl, N0, ((Keep.refl h0 []).ext E102), sz_b102, V102⟩
theorem pd_0 : parseMethodDescriptor "(I)[B" = some ⟨[.int], some (.array .byte)⟩ := by decide +kernel
theorem pd_1 : parseMethodDescriptor "([BI)V" = some ⟨[(.array .byte), .int], none⟩ := by decide +kernel
theorem pd_2 : parseMethodDescriptor "()I" = some ⟨[], some .int⟩ := by decide +kernel
theorem pd_3 : parseMethodDescriptor "()[B" = some ⟨[], some (.array .byte)⟩ := by decide +kernel
theorem ef_4 (m : MethodId) (x0 : Int32) (x1 : Int32) (x2 : Int32) : entryFrame m #[(.int x0), (.int x1), (.int x2)] maxLocals = mkF m 0 #[.val (.int x0), .val (.int x1), .val (.int x2), .unset, .unset, .unset, .unset, .unset, .unset] [] := by first | (simp [entryFrame, mkF, argsToLocals, Value.category, maxLocals]; done) | rfl
def Q4 (Z : State) (p0 : Int32) (p1 : Int32) (p2 : Int32) (h0 : Heap) (n0 : Nat) (v : Option Value) (h : Heap) (L : List Loc) : Prop := v = some (.int (1 : Int32)) ∧ Fr n0 L
set_option maxRecDepth 65536 in
set_option maxHeartbeats 40000000 in
theorem rm4 (l : Launch) (Z : State) (ar : Array Value) (hw : ∀ d ∈ tables_1, d.before ar Z = true) (ws : List Jvm.Cond) (p0 : Int32) (p1 : Int32) (p2 : Int32) (h0 : Heap) (n0 : Nat) (Z0 : n0 ≤ h0.size)  :
    MetFree l x (head1 (Jvm.Cond.code x code maxLocals ret :: ws) room_1) (fun a U => a = #[(.int p0), (.int p1), (.int p2)] ∧ Z.Warmed39 U.vm ∧ U.heap = h0) (fun _ _ _ _ _ => True) (fun _ U o U' => ∃ v L, o = .returned v ∧ Q4 Z p0 p1 p2 h0 n0 v U'.heap L ∧ FrameEnd U o U' L room_1.cells room_1.slots) := by
  refine MetFree.of_bodySF (plainFor_of_name pn_0) hisR ?_
  intro p e s m args below meth c s₁ Bd hml0 hP hK
  obtain ⟨rfl, hZ, hh⟩ := hP
  have hx := Bd.exec
  have hby := Bd.bytes
  have hml : c.maxLocals = 9 := hml0
  have hown : s.vm.findClass "com/example/holdfast/holdfast/resources/BitStringBitLengthPinLaw" = some m.cls := findClass_of_methodNamed Bd.named
  have hnm := (name_of_methodNamed Bd.named Bd.method).1
  have X0 : Stand p l e room_1 s m #[(.int p0), (.int p1), (.int p2)] below meth c s₁ [] 0 0 := Stand.of_body Bd
  have e0 : s₁.heap = h0 := by rw [← hh, Bd.state]; rfl
  have N0 := Fr.nil n0
  have pre0 : ∀ t, Steps p.tables e below (s₁.setTop (mkF m 0 #[.val (.int p0), .val (.int p1), .val (.int p2), .unset, .unset, .unset, .unset, .unset, .unset] [])) t → Steps p.tables e below (s₁.setTop (entryFrame m #[(.int p0), (.int p1), (.int p2)] maxLocals)) t := fun t k => castTop (ef_4 m p0 p1 p2) k
  refine OGo.start pre0 ?_
  show OGo p.tables e below _ (s₁.setTop (mkF m 0 #[.val (.int p0), .val (.int p1), .val (.int p2), .unset, .unset, .unset, .unset, .unset, .unset] []))
  refine OGo.st (fun t k => XS.iloadN X0.here hx rfl (hb hby at_0) rfl k) ?_
  show OGo p.tables e below _ (s₁.setTop (mkF m 1 #[.val (.int p0), .val (.int p1), .val (.int p2), .unset, .unset, .unset, .unset, .unset, .unset] [(.int p0)]))
  refine OGo.st (fun t k => X0.ldcInt hx hown (mvT hZ (hw _ (List.mem_of_getElem? (i := 0) rfl))) (g := (mkF m 1 #[.val (.int p0), .val (.int p1), .val (.int p2), .unset, .unset, .unset, .unset, .unset, .unset] [(.int p0)])) rfl (hb hby at_1) _ k) ?_
  show OGo p.tables e below _ (s₁.setTop (mkF m 3 #[.val (.int p0), .val (.int p1), .val (.int p2), .unset, .unset, .unset, .unset, .unset, .unset] [(.int (2147483647 : Int32)), (.int p0)]))
  refine OGo.st (fun t k => XS.iand X0.here hx rfl (hb hby at_3) rfl k) ?_
  show OGo p.tables e below _ (s₁.setTop (mkF m 4 #[.val (.int p0), .val (.int p1), .val (.int p2), .unset, .unset, .unset, .unset, .unset, .unset] [(.int (p0 &&& (2147483647 : Int32)))]))
  refine OGo.st (fun t k => XS.bipush X0.here hx rfl (hb hby at_4) k) ?_
  show OGo p.tables e below _ (s₁.setTop (mkF m 6 #[.val (.int p0), .val (.int p1), .val (.int p2), .unset, .unset, .unset, .unset, .unset, .unset] [(.int (10 : Int32)), (.int (p0 &&& (2147483647 : Int32)))]))
  refine OGo.st (fun t k => XS.irem X0.here hx rfl (hb hby at_6) rfl (by decide) k) ?_
  show OGo p.tables e below _ (s₁.setTop (mkF m 7 #[.val (.int p0), .val (.int p1), .val (.int p2), .unset, .unset, .unset, .unset, .unset, .unset] [(.int ((p0 &&& (2147483647 : Int32)) - ((p0 &&& (2147483647 : Int32)) / (10 : Int32)) * (10 : Int32)))]))
  refine OGo.st (fun t k => XS.istoreN X0.here hx rfl (hb hby at_7) rfl (l' := #[.val (.int p0), .val (.int p1), .val (.int p2), .val (.int ((p0 &&& (2147483647 : Int32)) - ((p0 &&& (2147483647 : Int32)) / (10 : Int32)) * (10 : Int32))), .unset, .unset, .unset, .unset, .unset]) rfl k) ?_
  show OGo p.tables e below _ (s₁.setTop (mkF m 8 #[.val (.int p0), .val (.int p1), .val (.int p2), .val (.int ((p0 &&& (2147483647 : Int32)) - ((p0 &&& (2147483647 : Int32)) / (10 : Int32)) * (10 : Int32))), .unset, .unset, .unset, .unset, .unset] []))
  have hnn := own_n p0
  generalize ((p0 &&& (2147483647 : Int32)) - ((p0 &&& (2147483647 : Int32)) / (10 : Int32)) * (10 : Int32)) = nn at hnn ⊢
  show OGo p.tables e below _ (s₁.setTop (mkF m 8 #[.val (.int p0), .val (.int p1), .val (.int p2), .val (.int nn), .unset, .unset, .unset, .unset, .unset] []))
  refine OGo.join (α := Int32) (fun uu => (0 ≤ uu.toInt ∧ uu.toInt < 8) ∧ (nn = 0 → uu = 0)) (fun uu => s₁.setTop (mkF m 20 #[.val (.int p0), .val (.int p1), .val (.int p2), .val (.int nn), .unset, .unset, .unset, .unset, .unset] [(.int uu)])) ?_ (fun jn20_101 => ?_)
  ·
    intro uu hj20_101
    show OGo p.tables e below _ (s₁.setTop (mkF m 20 #[.val (.int p0), .val (.int p1), .val (.int p2), .val (.int nn), .unset, .unset, .unset, .unset, .unset] [(.int uu)]))
    refine OGo.st (fun t k => XS.istore X0.here hx rfl (hb hby at_20) rfl (l' := #[.val (.int p0), .val (.int p1), .val (.int p2), .val (.int nn), .val (.int uu), .unset, .unset, .unset, .unset]) rfl k) ?_
    show OGo p.tables e below _ (s₁.setTop (mkF m 22 #[.val (.int p0), .val (.int p1), .val (.int p2), .val (.int nn), .val (.int uu), .unset, .unset, .unset, .unset] []))
    refine OGo.st (fun t k => XS.iloadN X0.here hx rfl (hb hby at_22) rfl k) ?_
    show OGo p.tables e below _ (s₁.setTop (mkF m 23 #[.val (.int p0), .val (.int p1), .val (.int p2), .val (.int nn), .val (.int uu), .unset, .unset, .unset, .unset] [(.int nn)]))
    obtain ⟨_, _, ⟨T102, L102, kk102, nn102⟩, -, X102, ⟨Lc102, hQ102, l102, y102, z102⟩, st102⟩ := Jvm.LawKit.callS X0 hx (y := (⟨"com/example/holdfast/holdfast/resources/BitStringBitLengthPinLaw", "make", "(I)[B"⟩ : MethodName)) hown (mvT hZ (hw _ (List.mem_of_getElem? (i := 1) rfl))) (mvT hZ (hw _ (List.mem_of_getElem? (i := 2) rfl))) (mvT hZ (hw _ (List.mem_of_getElem? (i := 3) rfl))) (mvT hZ (hw _ (List.mem_of_getElem? (i := 4) rfl))) (by decide) (backOf (W := 0) (rm0 l Z ar hw [] nn h0 n0 Z0 hnn) hZ (hw _ (List.mem_of_getElem? (i := 4) rfl)) (hw _ (List.mem_of_getElem? (i := 3) rfl)) (by decide) (by decide)) (g := (mkF m 23 #[.val (.int p0), .val (.int p1), .val (.int p2), .val (.int nn), .val (.int uu), .unset, .unset, .unset, .unset] [(.int nn)])) rfl (by rw [hml]; rfl) (argsL := [(.int nn)]) (rest := []) (lenOf pd_0 rfl) rfl (by show 2 * 0 + _ ≤ _; exact Nat.le_of_eq rfl) (hb hby at_23) (fun _ _ => ⟨rfl, e0, (by decide : 0 + 1 ≤ _), (by decide : 0 + 9 ≤ _)⟩)
    dsimp only [Pt.U, Pt.locs, Pt.cells, Pt.slots] at X102 l102 y102 z102 st102 hQ102
    subst l102 y102 z102
    obtain ⟨x102_b, x102_k, rfl, Nq102, K102, P102_0, P102_1, P102_2⟩ := hQ102
    have N102 := Fr.app N0 Nq102
    refine OGo.st st102 ?_
    have ge_x102_b : n0 ≤ x102_b := Nat.le_trans Z0 P102_0
    have sz_x102_b : h0.size ≤ x102_b := Nat.le_trans (Nat.le_refl h0.size) P102_0
    show OGo p.tables e below _ (T102.setTop (mkF m 26 #[.val (.int p0), .val (.int p1), .val (.int p2), .val (.int nn), .val (.int uu), .unset, .unset, .unset, .unset] [(.ref x102_b)]))
    refine OGo.st (fun t k => XS.astore X102.here hx rfl (hb hby at_26) rfl rfl (l' := #[.val (.int p0), .val (.int p1), .val (.int p2), .val (.int nn), .val (.int uu), .val (.ref x102_b), .unset, .unset, .unset]) rfl k) ?_
    show OGo p.tables e below _ (T102.setTop (mkF m 28 #[.val (.int p0), .val (.int p1), .val (.int p2), .val (.int nn), .val (.int uu), .val (.ref x102_b), .unset, .unset, .unset] []))
    refine OGo.st (fun t k => XS.iloadN X102.here hx rfl (hb hby at_28) rfl k) ?_
    show OGo p.tables e below _ (T102.setTop (mkF m 29 #[.val (.int p0), .val (.int p1), .val (.int p2), .val (.int nn), .val (.int uu), .val (.ref x102_b), .unset, .unset, .unset] [(.int nn)]))
    by_cases hc29_103 : (0 : Int32) < nn
    ·
      refine OGo.st (fun t k => XS.ifNo X102.here hx rfl (hb hby at_29) rfl ((if0 _ _).trans (tlt hc29_103).2.2.2) k) ?_
      show OGo p.tables e below _ (T102.setTop (mkF m 32 #[.val (.int p0), .val (.int p1), .val (.int p2), .val (.int nn), .val (.int uu), .val (.ref x102_b), .unset, .unset, .unset] []))
      refine OGo.st (fun t k => XS.aload X102.here hx rfl (hb hby at_32) rfl rfl k) ?_
      show OGo p.tables e below _ (T102.setTop (mkF m 34 #[.val (.int p0), .val (.int p1), .val (.int p2), .val (.int nn), .val (.int uu), .val (.ref x102_b), .unset, .unset, .unset] [(.ref x102_b)]))
      refine OGo.st (fun t k => XS.iconst X102.here hx rfl (hb hby at_34) k) ?_
      show OGo p.tables e below _ (T102.setTop (mkF m 35 #[.val (.int p0), .val (.int p1), .val (.int p2), .val (.int nn), .val (.int uu), .val (.ref x102_b), .unset, .unset, .unset] [(.int (0 : Int32)), (.ref x102_b)]))
      refine OGo.st (fun t k => XS.iloadN X102.here hx rfl (hb hby at_35) rfl k) ?_
      show OGo p.tables e below _ (T102.setTop (mkF m 36 #[.val (.int p0), .val (.int p1), .val (.int p2), .val (.int nn), .val (.int uu), .val (.ref x102_b), .unset, .unset, .unset] [(.int p2), (.int (0 : Int32)), (.ref x102_b)]))
      refine OGo.st (fun t k => XS.i2b X102.here hx rfl (hb hby at_36) rfl k) ?_
      show OGo p.tables e below _ (T102.setTop (mkF m 37 #[.val (.int p0), .val (.int p1), .val (.int p2), .val (.int nn), .val (.int uu), .val (.ref x102_b), .unset, .unset, .unset] [(.int ((p2).toInt8.toInt32)), (.int (0 : Int32)), (.ref x102_b)]))
      obtain ⟨cl104, Ar104, qc104, Sz104, Nz104, Hs104, Gs104⟩ := id P102_2
      have hin104 : ¬ ((0 : Int32) < 0 ∨ cl104.slots.size ≤ ((0 : Int32)).toNatClampNeg) := inb_of Sz104 ⟨by decide, hc29_103⟩
      obtain ⟨T105, h105, X105, e105, W105, st105⟩ := stB X102 hx hZ rfl Ar104 (j := (0 : Int32)) hin104 (g := (mkF m 37 #[.val (.int p0), .val (.int p1), .val (.int p2), .val (.int nn), .val (.int uu), .val (.ref x102_b), .unset, .unset, .unset] [(.int ((p2).toInt8.toInt32)), (.int (0 : Int32)), (.ref x102_b)])) rfl rfl (hb hby at_37)
      refine OGo.st st105 ?_
      have N105 := Fr.snoc X105 N102 ge_x102_b
      have V105 : Arh Z h105 x102_b x102_k .byte nn (((0 : Int32), (.int (((p2).toInt8.toInt32)).toInt8.toInt32)) :: []) [] (.int (0 : Int32)) := Arh.push Ar104 qc104 Sz104 Nz104 Hs104 Gs104 (fits_nar_byte _) W105 hin104
      show OGo p.tables e below _ (T105.setTop (mkF m 38 #[.val (.int p0), .val (.int p1), .val (.int p2), .val (.int nn), .val (.int uu), .val (.ref x102_b), .unset, .unset, .unset] []))
      refine OGo.st (fun t k => XS.aload X105.here hx rfl (hb hby at_38) rfl rfl k) ?_
      show OGo p.tables e below _ (T105.setTop (mkF m 40 #[.val (.int p0), .val (.int p1), .val (.int p2), .val (.int nn), .val (.int uu), .val (.ref x102_b), .unset, .unset, .unset] [(.ref x102_b)]))
      refine OGo.st (fun t k => XS.iloadN X105.here hx rfl (hb hby at_40) rfl k) ?_
      show OGo p.tables e below _ (T105.setTop (mkF m 41 #[.val (.int p0), .val (.int p1), .val (.int p2), .val (.int nn), .val (.int uu), .val (.ref x102_b), .unset, .unset, .unset] [(.int nn), (.ref x102_b)]))
      refine OGo.st (fun t k => XS.iconst X105.here hx rfl (hb hby at_41) k) ?_
      show OGo p.tables e below _ (T105.setTop (mkF m 42 #[.val (.int p0), .val (.int p1), .val (.int p2), .val (.int nn), .val (.int uu), .val (.ref x102_b), .unset, .unset, .unset] [(.int (1 : Int32)), (.int nn), (.ref x102_b)]))
      refine OGo.st (fun t k => XS.isub X105.here hx rfl (hb hby at_42) rfl k) ?_
      show OGo p.tables e below _ (T105.setTop (mkF m 43 #[.val (.int p0), .val (.int p1), .val (.int p2), .val (.int nn), .val (.int uu), .val (.ref x102_b), .unset, .unset, .unset] [(.int (nn - (1 : Int32))), (.ref x102_b)]))
      refine OGo.st (fun t k => XS.iloadN X105.here hx rfl (hb hby at_43) rfl k) ?_
      show OGo p.tables e below _ (T105.setTop (mkF m 44 #[.val (.int p0), .val (.int p1), .val (.int p2), .val (.int nn), .val (.int uu), .val (.ref x102_b), .unset, .unset, .unset] [(.int p2), (.int (nn - (1 : Int32))), (.ref x102_b)]))
      refine OGo.st (fun t k => XS.bipush X105.here hx rfl (hb hby at_44) k) ?_
      show OGo p.tables e below _ (T105.setTop (mkF m 46 #[.val (.int p0), .val (.int p1), .val (.int p2), .val (.int nn), .val (.int uu), .val (.ref x102_b), .unset, .unset, .unset] [(.int (8 : Int32)), (.int p2), (.int (nn - (1 : Int32))), (.ref x102_b)]))
      refine OGo.st (fun t k => XS.iushr X105.here hx rfl (hb hby at_46) rfl k) ?_
      show OGo p.tables e below _ (T105.setTop (mkF m 47 #[.val (.int p0), .val (.int p1), .val (.int p2), .val (.int nn), .val (.int uu), .val (.ref x102_b), .unset, .unset, .unset] [(.int ((p2.toUInt32 >>> ((8 : Int32) &&& 31).toUInt32).toInt32)), (.int (nn - (1 : Int32))), (.ref x102_b)]))
      refine OGo.st (fun t k => XS.i2b X105.here hx rfl (hb hby at_47) rfl k) ?_
      show OGo p.tables e below _ (T105.setTop (mkF m 48 #[.val (.int p0), .val (.int p1), .val (.int p2), .val (.int nn), .val (.int uu), .val (.ref x102_b), .unset, .unset, .unset] [(.int ((((p2.toUInt32 >>> ((8 : Int32) &&& 31).toUInt32).toInt32)).toInt8.toInt32)), (.int (nn - (1 : Int32))), (.ref x102_b)]))
      obtain ⟨cl106, Ar106, qc106, Sz106, Nz106, Hs106, Gs106⟩ := id V105
      have hin106 : ¬ ((nn - (1 : Int32)) < 0 ∨ cl106.slots.size ≤ ((nn - (1 : Int32))).toNatClampNeg) := inb_of Sz106 (own_pred nn hnn hc29_103)
      obtain ⟨T107, h107, X107, e107, W107, st107⟩ := stB X105 hx hZ e105 Ar106 (j := (nn - (1 : Int32))) hin106 (g := (mkF m 48 #[.val (.int p0), .val (.int p1), .val (.int p2), .val (.int nn), .val (.int uu), .val (.ref x102_b), .unset, .unset, .unset] [(.int ((((p2.toUInt32 >>> ((8 : Int32) &&& 31).toUInt32).toInt32)).toInt8.toInt32)), (.int (nn - (1 : Int32))), (.ref x102_b)])) rfl rfl (hb hby at_48)
      refine OGo.st st107 ?_
      have N107 := Fr.snoc X107 N105 ge_x102_b
      have V107 : Arh Z h107 x102_b x102_k .byte nn (((nn - (1 : Int32)), (.int (((((p2.toUInt32 >>> ((8 : Int32) &&& 31).toUInt32).toInt32)).toInt8.toInt32)).toInt8.toInt32)) :: (((0 : Int32), (.int (((p2).toInt8.toInt32)).toInt8.toInt32)) :: [])) [] (.int (0 : Int32)) := Arh.push Ar106 qc106 Sz106 Nz106 Hs106 Gs106 (fits_nar_byte _) W107 hin106
      show OGo p.tables e below _ (T107.setTop (mkF m 49 #[.val (.int p0), .val (.int p1), .val (.int p2), .val (.int nn), .val (.int uu), .val (.ref x102_b), .unset, .unset, .unset] []))
      obtain ⟨T108, h108, X108, e108, E108, A108, D108, -, st108⟩ := newO X107 hx hZ hown (hw _ (List.mem_of_getElem? (i := 6) rfl)) (hw _ (List.mem_of_getElem? (i := 7) rfl)) (hw _ (List.mem_of_getElem? (i := 8) rfl)) e107 (g := (mkF m 49 #[.val (.int p0), .val (.int p1), .val (.int p2), .val (.int nn), .val (.int uu), .val (.ref x102_b), .unset, .unset, .unset] [])) rfl (hb hby at_49) (by decide) (by decide)
      obtain ⟨b108, g108⟩ : ∃ z, z = h107.size := ⟨_, rfl⟩
      rw [← g108] at A108 D108 st108
      have ge_b108 : n0 ≤ b108 := Nat.le_trans (Nat.le_trans (Nat.le_trans (Nat.le_trans Z0 K102.1) (Keep.of_wr W105).1) (Keep.of_wr W107).1) (Nat.le_of_eq g108.symm)
      have sz_b108 : h0.size ≤ b108 := Nat.le_trans (Nat.le_trans (Nat.le_trans (Nat.le_trans (Nat.le_refl h0.size) K102.1) (Keep.of_wr W105).1) (Keep.of_wr W107).1) (Nat.le_of_eq g108.symm)
      have ne_x102_b_b108 : x102_b ≠ b108 := Nat.ne_of_lt (Nat.lt_of_lt_of_le V107.lt (Nat.le_of_eq g108.symm))
      refine OGo.st st108 ?_
      have Fn108_octets : Fld Z h108 b108 "com/example/holdfast/holdfast/resources/DerValue$BitString" "octets" "[B" .null := D108 (Or.inr (hw _ (List.mem_of_getElem? (i := 16) rfl))) (ty := (.array .byte)) (by decide)
      have Fn108_unusedBits : Fld Z h108 b108 "com/example/holdfast/holdfast/resources/DerValue$BitString" "unusedBits" "I" (.int (0 : Int32)) := D108 (Or.inr (hw _ (List.mem_of_getElem? (i := 18) rfl))) (ty := .int) (by decide)
      show OGo p.tables e below _ (T108.setTop (mkF m 52 #[.val (.int p0), .val (.int p1), .val (.int p2), .val (.int nn), .val (.int uu), .val (.ref x102_b), .unset, .unset, .unset] [(.ref b108)]))
      refine OGo.st (fun t k => XS.dup X108.here hx rfl (hb hby at_52) rfl rfl k) ?_
      show OGo p.tables e below _ (T108.setTop (mkF m 53 #[.val (.int p0), .val (.int p1), .val (.int p2), .val (.int nn), .val (.int uu), .val (.ref x102_b), .unset, .unset, .unset] [(.ref b108), (.ref b108)]))
      refine OGo.st (fun t k => XS.aload X108.here hx rfl (hb hby at_53) rfl rfl k) ?_
      show OGo p.tables e below _ (T108.setTop (mkF m 55 #[.val (.int p0), .val (.int p1), .val (.int p2), .val (.int nn), .val (.int uu), .val (.ref x102_b), .unset, .unset, .unset] [(.ref x102_b), (.ref b108), (.ref b108)]))
      refine OGo.st (fun t k => XS.iload X108.here hx rfl (hb hby at_55) rfl k) ?_
      show OGo p.tables e below _ (T108.setTop (mkF m 57 #[.val (.int p0), .val (.int p1), .val (.int p2), .val (.int nn), .val (.int uu), .val (.ref x102_b), .unset, .unset, .unset] [(.int uu), (.ref x102_b), (.ref b108), (.ref b108)]))
      obtain ⟨_, _, ⟨T109, L109, kk109, nn109⟩, -, X109, ⟨Lc109, hQ109, l109, y109, z109⟩, st109⟩ := X108.specialBack hx (y := (⟨"com/example/holdfast/holdfast/resources/DerValue$BitString", "<init>", "([BI)V"⟩ : MethodName)) rfl hown (mvT hZ (hw _ (List.mem_of_getElem? (i := 9) rfl))) (mvT hZ (hw _ (List.mem_of_getElem? (i := 10) rfl))) (mvT hZ (hw _ (List.mem_of_getElem? (i := 11) rfl))) (by decide) (backOf (W := 1) (rm1 l Z ar hw [] b108 x102_b uu h108 n0 (Nat.le_trans (Nat.le_trans (Nat.le_trans (Nat.le_trans Z0 K102.1) (Keep.of_wr W105).1) (Keep.of_wr W107).1) E108.1) A108 ge_b108 Fn108_octets Fn108_unusedBits) hZ (hw _ (List.mem_of_getElem? (i := 11) rfl)) (hw _ (List.mem_of_getElem? (i := 8) rfl)) (by decide) (by decide)) (g := (mkF m 57 #[.val (.int p0), .val (.int p1), .val (.int p2), .val (.int nn), .val (.int uu), .val (.ref x102_b), .unset, .unset, .unset] [(.int uu), (.ref x102_b), (.ref b108), (.ref b108)])) rfl (by rw [hml]; rfl) (Steps.refl _) (a := b108) (argsL := [(.ref x102_b), (.int uu)]) (rest := [(.ref b108)]) (lenOf pd_1 rfl) rfl (by show 2 * 0 + _ ≤ _; exact Nat.le_of_eq rfl) (hb hby at_57) (fun _ _ => ⟨rfl, e108, (by decide : 2 + 0 ≤ _), (by decide : 11 + 0 ≤ _)⟩)
      dsimp only [Pt.U, Pt.locs, Pt.cells, Pt.slots] at X109 l109 y109 z109 st109 hQ109
      subst l109 y109 z109
      obtain ⟨rfl, Nq109, K109, P109_0, P109_1⟩ := hQ109
      have N109 := Fr.app N107 Nq109
      refine OGo.st (fun t k => st109.trans k) ?_
      show OGo p.tables e below _ (T109.setTop (mkF m 60 #[.val (.int p0), .val (.int p1), .val (.int p2), .val (.int nn), .val (.int uu), .val (.ref x102_b), .unset, .unset, .unset] [(.ref b108)]))
      refine OGo.st (fun t k => XS.astore X109.here hx rfl (hb hby at_60) rfl rfl (l' := #[.val (.int p0), .val (.int p1), .val (.int p2), .val (.int nn), .val (.int uu), .val (.ref x102_b), .val (.ref b108), .unset, .unset]) rfl k) ?_
      show OGo p.tables e below _ (T109.setTop (mkF m 62 #[.val (.int p0), .val (.int p1), .val (.int p2), .val (.int nn), .val (.int uu), .val (.ref x102_b), .val (.ref b108), .unset, .unset] []))
      refine OGo.st (fun t k => XS.aload X109.here hx rfl (hb hby at_62) rfl rfl k) ?_
      show OGo p.tables e below _ (T109.setTop (mkF m 64 #[.val (.int p0), .val (.int p1), .val (.int p2), .val (.int nn), .val (.int uu), .val (.ref x102_b), .val (.ref b108), .unset, .unset] [(.ref b108)]))
      have G110 : Arh Z T109.heap x102_b x102_k .byte nn (((nn - (1 : Int32)), (.int (((((p2.toUInt32 >>> ((8 : Int32) &&& 31).toUInt32).toInt32)).toInt8.toInt32)).toInt8.toInt32)) :: (((0 : Int32), (.int (((p2).toInt8.toInt32)).toInt8.toInt32)) :: [])) [] (.int (0 : Int32)) := ((V107.ext E108).keep K109 (ninS ne_x102_b_b108 nin0))
      have G112 : Exa Z T109.heap b108 "com/example/holdfast/holdfast/resources/DerValue$BitString" := (A108.keep K109)
      obtain ⟨cq111, kq111, q111a, q111b, q111c⟩ := isOf hZ rfl G112
      obtain ⟨_, _, ⟨T111, L111, kk111, nn111⟩, -, X111, ⟨Lc111, hQ111, l111, y111, z111⟩, st111⟩ := X109.virtualBack hx (y := (⟨"com/example/holdfast/holdfast/resources/DerValue$BitString", "bitLength", "()I"⟩ : MethodName)) (z := (⟨"com/example/holdfast/holdfast/resources/DerValue$BitString", "bitLength", "()I"⟩ : MethodName)) hown (mvT hZ (hw _ (List.mem_of_getElem? (i := 19) rfl))) (mvT hZ (hw _ (List.mem_of_getElem? (i := 20) rfl))) (notFace_of_selects (args := #[]) (mvT hZ (hw _ (List.mem_of_getElem? (i := 22) rfl)))) (mvT hZ (hw _ (List.mem_of_getElem? (i := 22) rfl))) (mvT hZ (hw _ (List.mem_of_getElem? (i := 21) rfl))) (by decide) (backOf (W := 0) (rm2 l Z ar hw [] b108 x102_b x102_k nn (((nn - (1 : Int32)), (.int (((((p2.toUInt32 >>> ((8 : Int32) &&& 31).toUInt32).toInt32)).toInt8.toInt32)).toInt8.toInt32)) :: (((0 : Int32), (.int (((p2).toInt8.toInt32)).toInt8.toInt32)) :: [])) uu T109.heap n0 (Nat.le_trans (Nat.le_trans (Nat.le_trans (Nat.le_trans (Nat.le_trans Z0 K102.1) (Keep.of_wr W105).1) (Keep.of_wr W107).1) E108.1) K109.1) P109_0 G110 P109_1) hZ (hw _ (List.mem_of_getElem? (i := 23) rfl)) (hw _ (List.mem_of_getElem? (i := 8) rfl)) (by decide) (by decide)) q111a q111c (g := (mkF m 64 #[.val (.int p0), .val (.int p1), .val (.int p2), .val (.int nn), .val (.int uu), .val (.ref x102_b), .val (.ref b108), .unset, .unset] [(.ref b108)])) rfl (by rw [hml]; rfl) (Steps.refl _) (argsL := []) (rest := []) (lenOf pd_2 rfl) rfl (by show 2 * 0 + _ ≤ _; exact Nat.le_of_eq rfl) (hb hby at_64) (fun _ _ => ⟨rfl, rfl, (by decide : 2 + 0 ≤ _), (by decide : 11 + 0 ≤ _)⟩)
      dsimp only [Pt.U, Pt.locs, Pt.cells, Pt.slots] at X111 l111 y111 z111 st111 hQ111
      subst l111 y111 z111
      obtain ⟨rfl, Nq111, hh111⟩ := hQ111
      have N111 := Fr.app N109 Nq111
      refine OGo.st (fun t k => st111.trans k) ?_
      have e111 : T111.heap = T109.heap := hh111
      show OGo p.tables e below _ (T111.setTop (mkF m 67 #[.val (.int p0), .val (.int p1), .val (.int p2), .val (.int nn), .val (.int uu), .val (.ref x102_b), .val (.ref b108), .unset, .unset] [(.int ((nn * (8 : Int32)) - uu))]))
      refine OGo.st (fun t k => XS.istore X111.here hx rfl (hb hby at_67) rfl (l' := #[.val (.int p0), .val (.int p1), .val (.int p2), .val (.int nn), .val (.int uu), .val (.ref x102_b), .val (.ref b108), .val (.int ((nn * (8 : Int32)) - uu)), .unset]) rfl k) ?_
      show OGo p.tables e below _ (T111.setTop (mkF m 69 #[.val (.int p0), .val (.int p1), .val (.int p2), .val (.int nn), .val (.int uu), .val (.ref x102_b), .val (.ref b108), .val (.int ((nn * (8 : Int32)) - uu)), .unset] []))
      refine OGo.st (fun t k => XS.aload X111.here hx rfl (hb hby at_69) rfl rfl k) ?_
      show OGo p.tables e below _ (T111.setTop (mkF m 71 #[.val (.int p0), .val (.int p1), .val (.int p2), .val (.int nn), .val (.int uu), .val (.ref x102_b), .val (.ref b108), .val (.int ((nn * (8 : Int32)) - uu)), .unset] [(.ref b108)]))
      have G113 : Exa Z T109.heap x102_b "[B" := ((Exa.ext E108 (Exa.wr W107 (Exa.wr W105 P102_1))).keep K109)
      obtain ⟨cq114, kq114, q114a, q114b, q114c⟩ := isOf hZ e111 G112
      obtain ⟨_, _, ⟨T114, L114, kk114, nn114⟩, -, X114, ⟨Lc114, hQ114, l114, y114, z114⟩, st114⟩ := X111.virtualBack hx (y := (⟨"com/example/holdfast/holdfast/resources/DerValue$BitString", "octets", "()[B"⟩ : MethodName)) (z := (⟨"com/example/holdfast/holdfast/resources/DerValue$BitString", "octets", "()[B"⟩ : MethodName)) hown (mvT hZ (hw _ (List.mem_of_getElem? (i := 24) rfl))) (mvT hZ (hw _ (List.mem_of_getElem? (i := 25) rfl))) (notFace_of_selects (args := #[]) (mvT hZ (hw _ (List.mem_of_getElem? (i := 27) rfl)))) (mvT hZ (hw _ (List.mem_of_getElem? (i := 27) rfl))) (mvT hZ (hw _ (List.mem_of_getElem? (i := 26) rfl))) (by decide) (backOf (W := 0) (rm3 l Z ar hw [] b108 x102_b x102_k nn (((nn - (1 : Int32)), (.int (((((p2.toUInt32 >>> ((8 : Int32) &&& 31).toUInt32).toInt32)).toInt8.toInt32)).toInt8.toInt32)) :: (((0 : Int32), (.int (((p2).toInt8.toInt32)).toInt8.toInt32)) :: [])) T109.heap n0 (Nat.le_trans (Nat.le_trans (Nat.le_trans (Nat.le_trans (Nat.le_trans Z0 K102.1) (Keep.of_wr W105).1) (Keep.of_wr W107).1) E108.1) K109.1) P109_0 G110 G113 (own_cap nn hnn)) hZ (hw _ (List.mem_of_getElem? (i := 28) rfl)) (hw _ (List.mem_of_getElem? (i := 8) rfl)) (by decide) (by decide)) q114a q114c (g := (mkF m 71 #[.val (.int p0), .val (.int p1), .val (.int p2), .val (.int nn), .val (.int uu), .val (.ref x102_b), .val (.ref b108), .val (.int ((nn * (8 : Int32)) - uu)), .unset] [(.ref b108)])) rfl (by rw [hml]; rfl) (Steps.refl _) (argsL := []) (rest := []) (lenOf pd_3 rfl) rfl (by show 2 * 0 + _ ≤ _; exact Nat.le_of_eq rfl) (hb hby at_71) (fun _ _ => ⟨rfl, e111, (by decide : 2 + 1 ≤ _), (by decide : 11 + 9 ≤ _)⟩)
      dsimp only [Pt.U, Pt.locs, Pt.cells, Pt.slots] at X114 l114 y114 z114 st114 hQ114
      subst l114 y114 z114
      obtain ⟨x114_c, rfl, Nq114, K114, P114_0, P114_1⟩ := hQ114
      have N114 := Fr.app N111 Nq114
      refine OGo.st (fun t k => st114.trans k) ?_
      have ge_x114_c : n0 ≤ x114_c := Nat.le_trans (Nat.le_trans (Nat.le_trans (Nat.le_trans (Nat.le_trans (Nat.le_trans Z0 K102.1) (Keep.of_wr W105).1) (Keep.of_wr W107).1) E108.1) K109.1) P114_0
      have sz_x114_c : h0.size ≤ x114_c := Nat.le_trans (Nat.le_trans (Nat.le_trans (Nat.le_trans (Nat.le_trans (Nat.le_trans (Nat.le_refl h0.size) K102.1) (Keep.of_wr W105).1) (Keep.of_wr W107).1) E108.1) K109.1) P114_0
      have ne_x102_b_x114_c : x102_b ≠ x114_c := Nat.ne_of_lt (Nat.lt_of_lt_of_le G110.lt P114_0)
      have ne_b108_x114_c : b108 ≠ x114_c := Nat.ne_of_lt (Nat.lt_of_lt_of_le G112.lt P114_0)
      show OGo p.tables e below _ (T114.setTop (mkF m 74 #[.val (.int p0), .val (.int p1), .val (.int p2), .val (.int nn), .val (.int uu), .val (.ref x102_b), .val (.ref b108), .val (.int ((nn * (8 : Int32)) - uu)), .unset] [(.ref x114_c)]))
      obtain ⟨cl115, Ar115, qc115, Sz115, Nz115, Hs115, Gs115⟩ := id P114_1
      refine OGo.st (fun t k => X114.arraylength hx Ar115.1 (State.isArrayOf_alike hZ.alike Ar115.2.1) (g := (mkF m 74 #[.val (.int p0), .val (.int p1), .val (.int p2), .val (.int nn), .val (.int uu), .val (.ref x102_b), .val (.ref b108), .val (.int ((nn * (8 : Int32)) - uu)), .unset] [(.ref x114_c)])) rfl rfl (hb hby at_74) _ k) ?_
      rw [len_of Sz115 Nz115]
      show OGo p.tables e below _ (T114.setTop (mkF m 75 #[.val (.int p0), .val (.int p1), .val (.int p2), .val (.int nn), .val (.int uu), .val (.ref x102_b), .val (.ref b108), .val (.int ((nn * (8 : Int32)) - uu)), .unset] [(.int nn)]))
      refine OGo.st (fun t k => XS.istore X114.here hx rfl (hb hby at_75) rfl (l' := #[.val (.int p0), .val (.int p1), .val (.int p2), .val (.int nn), .val (.int uu), .val (.ref x102_b), .val (.ref b108), .val (.int ((nn * (8 : Int32)) - uu)), .val (.int nn)]) rfl k) ?_
      show OGo p.tables e below _ (T114.setTop (mkF m 77 #[.val (.int p0), .val (.int p1), .val (.int p2), .val (.int nn), .val (.int uu), .val (.ref x102_b), .val (.ref b108), .val (.int ((nn * (8 : Int32)) - uu)), .val (.int nn)] []))
      refine OGo.st (fun t k => XS.iload X114.here hx rfl (hb hby at_77) rfl k) ?_
      show OGo p.tables e below _ (T114.setTop (mkF m 79 #[.val (.int p0), .val (.int p1), .val (.int p2), .val (.int nn), .val (.int uu), .val (.ref x102_b), .val (.ref b108), .val (.int ((nn * (8 : Int32)) - uu)), .val (.int nn)] [(.int ((nn * (8 : Int32)) - uu))]))
      refine OGo.st (fun t k => XS.ifNo X114.here hx rfl (hb hby at_79) rfl ((if0 _ _).trans (flt ((own_b79 nn uu hnn hj20_101.1 hj20_101.2) : ¬ (((nn * (8 : Int32)) - uu) < (0 : Int32)))).1) k) ?_
      show OGo p.tables e below _ (T114.setTop (mkF m 82 #[.val (.int p0), .val (.int p1), .val (.int p2), .val (.int nn), .val (.int uu), .val (.ref x102_b), .val (.ref b108), .val (.int ((nn * (8 : Int32)) - uu)), .val (.int nn)] []))
      refine OGo.st (fun t k => XS.iload X114.here hx rfl (hb hby at_82) rfl k) ?_
      show OGo p.tables e below _ (T114.setTop (mkF m 84 #[.val (.int p0), .val (.int p1), .val (.int p2), .val (.int nn), .val (.int uu), .val (.ref x102_b), .val (.ref b108), .val (.int ((nn * (8 : Int32)) - uu)), .val (.int nn)] [(.int ((nn * (8 : Int32)) - uu))]))
      refine OGo.st (fun t k => XS.bipush X114.here hx rfl (hb hby at_84) k) ?_
      show OGo p.tables e below _ (T114.setTop (mkF m 86 #[.val (.int p0), .val (.int p1), .val (.int p2), .val (.int nn), .val (.int uu), .val (.ref x102_b), .val (.ref b108), .val (.int ((nn * (8 : Int32)) - uu)), .val (.int nn)] [(.int (7 : Int32)), (.int ((nn * (8 : Int32)) - uu))]))
      refine OGo.st (fun t k => XS.iadd X114.here hx rfl (hb hby at_86) rfl k) ?_
      show OGo p.tables e below _ (T114.setTop (mkF m 87 #[.val (.int p0), .val (.int p1), .val (.int p2), .val (.int nn), .val (.int uu), .val (.ref x102_b), .val (.ref b108), .val (.int ((nn * (8 : Int32)) - uu)), .val (.int nn)] [(.int (((nn * (8 : Int32)) - uu) + (7 : Int32)))]))
      refine OGo.st (fun t k => XS.iconst X114.here hx rfl (hb hby at_87) k) ?_
      show OGo p.tables e below _ (T114.setTop (mkF m 88 #[.val (.int p0), .val (.int p1), .val (.int p2), .val (.int nn), .val (.int uu), .val (.ref x102_b), .val (.ref b108), .val (.int ((nn * (8 : Int32)) - uu)), .val (.int nn)] [(.int (3 : Int32)), (.int (((nn * (8 : Int32)) - uu) + (7 : Int32)))]))
      refine OGo.st (fun t k => XS.ishr X114.here hx rfl (hb hby at_88) rfl k) ?_
      show OGo p.tables e below _ (T114.setTop (mkF m 89 #[.val (.int p0), .val (.int p1), .val (.int p2), .val (.int nn), .val (.int uu), .val (.ref x102_b), .val (.ref b108), .val (.int ((nn * (8 : Int32)) - uu)), .val (.int nn)] [(.int ((((nn * (8 : Int32)) - uu) + (7 : Int32)) >>> ((3 : Int32) &&& 31)))]))
      refine OGo.st (fun t k => XS.iloadN X114.here hx rfl (hb hby at_89) rfl k) ?_
      show OGo p.tables e below _ (T114.setTop (mkF m 90 #[.val (.int p0), .val (.int p1), .val (.int p2), .val (.int nn), .val (.int uu), .val (.ref x102_b), .val (.ref b108), .val (.int ((nn * (8 : Int32)) - uu)), .val (.int nn)] [(.int nn), (.int ((((nn * (8 : Int32)) - uu) + (7 : Int32)) >>> ((3 : Int32) &&& 31)))]))
      refine OGo.st (fun t k => XS.icmpNo X114.here hx rfl (hb hby at_90) rfl (teq ((own_b90 nn uu hnn hj20_101.1 hj20_101.2) : ((((nn * (8 : Int32)) - uu) + (7 : Int32)) >>> ((3 : Int32) &&& 31)) = nn)).2 k) ?_
      show OGo p.tables e below _ (T114.setTop (mkF m 93 #[.val (.int p0), .val (.int p1), .val (.int p2), .val (.int nn), .val (.int uu), .val (.ref x102_b), .val (.ref b108), .val (.int ((nn * (8 : Int32)) - uu)), .val (.int nn)] []))
      refine OGo.st (fun t k => XS.iload X114.here hx rfl (hb hby at_93) rfl k) ?_
      show OGo p.tables e below _ (T114.setTop (mkF m 95 #[.val (.int p0), .val (.int p1), .val (.int p2), .val (.int nn), .val (.int uu), .val (.ref x102_b), .val (.ref b108), .val (.int ((nn * (8 : Int32)) - uu)), .val (.int nn)] [(.int nn)]))
      refine OGo.st (fun t k => XS.iloadN X114.here hx rfl (hb hby at_95) rfl k) ?_
      show OGo p.tables e below _ (T114.setTop (mkF m 96 #[.val (.int p0), .val (.int p1), .val (.int p2), .val (.int nn), .val (.int uu), .val (.ref x102_b), .val (.ref b108), .val (.int ((nn * (8 : Int32)) - uu)), .val (.int nn)] [(.int nn), (.int nn)]))
      refine OGo.st (fun t k => XS.icmpNo X114.here hx rfl (hb hby at_96) rfl (teq (rfl : nn = nn)).2 k) ?_
      show OGo p.tables e below _ (T114.setTop (mkF m 99 #[.val (.int p0), .val (.int p1), .val (.int p2), .val (.int nn), .val (.int uu), .val (.ref x102_b), .val (.ref b108), .val (.int ((nn * (8 : Int32)) - uu)), .val (.int nn)] []))
      refine OGo.st (fun t k => XS.iload X114.here hx rfl (hb hby at_99) rfl k) ?_
      show OGo p.tables e below _ (T114.setTop (mkF m 101 #[.val (.int p0), .val (.int p1), .val (.int p2), .val (.int nn), .val (.int uu), .val (.ref x102_b), .val (.ref b108), .val (.int ((nn * (8 : Int32)) - uu)), .val (.int nn)] [(.int ((nn * (8 : Int32)) - uu))]))
      refine OGo.st (fun t k => XS.bipush X114.here hx rfl (hb hby at_101) k) ?_
      show OGo p.tables e below _ (T114.setTop (mkF m 103 #[.val (.int p0), .val (.int p1), .val (.int p2), .val (.int nn), .val (.int uu), .val (.ref x102_b), .val (.ref b108), .val (.int ((nn * (8 : Int32)) - uu)), .val (.int nn)] [(.int (7 : Int32)), (.int ((nn * (8 : Int32)) - uu))]))
      refine OGo.st (fun t k => XS.iand X114.here hx rfl (hb hby at_103) rfl k) ?_
      show OGo p.tables e below _ (T114.setTop (mkF m 104 #[.val (.int p0), .val (.int p1), .val (.int p2), .val (.int nn), .val (.int uu), .val (.ref x102_b), .val (.ref b108), .val (.int ((nn * (8 : Int32)) - uu)), .val (.int nn)] [(.int (((nn * (8 : Int32)) - uu) &&& (7 : Int32)))]))
      refine OGo.st (fun t k => XS.bipush X114.here hx rfl (hb hby at_104) k) ?_
      show OGo p.tables e below _ (T114.setTop (mkF m 106 #[.val (.int p0), .val (.int p1), .val (.int p2), .val (.int nn), .val (.int uu), .val (.ref x102_b), .val (.ref b108), .val (.int ((nn * (8 : Int32)) - uu)), .val (.int nn)] [(.int (8 : Int32)), (.int (((nn * (8 : Int32)) - uu) &&& (7 : Int32)))]))
      refine OGo.st (fun t k => XS.iload X114.here hx rfl (hb hby at_106) rfl k) ?_
      show OGo p.tables e below _ (T114.setTop (mkF m 108 #[.val (.int p0), .val (.int p1), .val (.int p2), .val (.int nn), .val (.int uu), .val (.ref x102_b), .val (.ref b108), .val (.int ((nn * (8 : Int32)) - uu)), .val (.int nn)] [(.int uu), (.int (8 : Int32)), (.int (((nn * (8 : Int32)) - uu) &&& (7 : Int32)))]))
      refine OGo.st (fun t k => XS.isub X114.here hx rfl (hb hby at_108) rfl k) ?_
      show OGo p.tables e below _ (T114.setTop (mkF m 109 #[.val (.int p0), .val (.int p1), .val (.int p2), .val (.int nn), .val (.int uu), .val (.ref x102_b), .val (.ref b108), .val (.int ((nn * (8 : Int32)) - uu)), .val (.int nn)] [(.int ((8 : Int32) - uu)), (.int (((nn * (8 : Int32)) - uu) &&& (7 : Int32)))]))
      refine OGo.st (fun t k => XS.bipush X114.here hx rfl (hb hby at_109) k) ?_
      show OGo p.tables e below _ (T114.setTop (mkF m 111 #[.val (.int p0), .val (.int p1), .val (.int p2), .val (.int nn), .val (.int uu), .val (.ref x102_b), .val (.ref b108), .val (.int ((nn * (8 : Int32)) - uu)), .val (.int nn)] [(.int (7 : Int32)), (.int ((8 : Int32) - uu)), (.int (((nn * (8 : Int32)) - uu) &&& (7 : Int32)))]))
      refine OGo.st (fun t k => XS.iand X114.here hx rfl (hb hby at_111) rfl k) ?_
      show OGo p.tables e below _ (T114.setTop (mkF m 112 #[.val (.int p0), .val (.int p1), .val (.int p2), .val (.int nn), .val (.int uu), .val (.ref x102_b), .val (.ref b108), .val (.int ((nn * (8 : Int32)) - uu)), .val (.int nn)] [(.int (((8 : Int32) - uu) &&& (7 : Int32))), (.int (((nn * (8 : Int32)) - uu) &&& (7 : Int32)))]))
      refine OGo.st (fun t k => XS.icmpNo X114.here hx rfl (hb hby at_112) rfl (teq ((own_b112 nn uu hnn hj20_101.1 hj20_101.2) : (((nn * (8 : Int32)) - uu) &&& (7 : Int32)) = (((8 : Int32) - uu) &&& (7 : Int32)))).2 k) ?_
      show OGo p.tables e below _ (T114.setTop (mkF m 115 #[.val (.int p0), .val (.int p1), .val (.int p2), .val (.int nn), .val (.int uu), .val (.ref x102_b), .val (.ref b108), .val (.int ((nn * (8 : Int32)) - uu)), .val (.int nn)] []))
      refine OGo.st (fun t k => XS.aload X114.here hx rfl (hb hby at_115) rfl rfl k) ?_
      show OGo p.tables e below _ (T114.setTop (mkF m 117 #[.val (.int p0), .val (.int p1), .val (.int p2), .val (.int nn), .val (.int uu), .val (.ref x102_b), .val (.ref b108), .val (.int ((nn * (8 : Int32)) - uu)), .val (.int nn)] [(.ref b108)]))
      have G116 : Fld Z T114.heap b108 "com/example/holdfast/holdfast/resources/DerValue$BitString" "octets" "[B" (.ref x102_b) := (P109_0.keep K114 nin0)
      have G117 : Arh Z T114.heap x102_b x102_k .byte nn (((nn - (1 : Int32)), (.int (((((p2.toUInt32 >>> ((8 : Int32) &&& 31).toUInt32).toInt32)).toInt8.toInt32)).toInt8.toInt32)) :: (((0 : Int32), (.int (((p2).toInt8.toInt32)).toInt8.toInt32)) :: [])) [] (.int (0 : Int32)) := (G110.keep K114 nin0)
      have G118 : Fld Z T114.heap b108 "com/example/holdfast/holdfast/resources/DerValue$BitString" "unusedBits" "I" (.int uu) := (P109_1.keep K114 nin0)
      have G120 : Exa Z T114.heap b108 "com/example/holdfast/holdfast/resources/DerValue$BitString" := (G112.keep K114)
      obtain ⟨cq119, kq119, q119a, q119b, q119c⟩ := isOf hZ rfl G120
      obtain ⟨_, _, ⟨T119, L119, kk119, nn119⟩, -, X119, ⟨Lc119, hQ119, l119, y119, z119⟩, st119⟩ := X114.virtualBack hx (y := (⟨"com/example/holdfast/holdfast/resources/DerValue$BitString", "bitLength", "()I"⟩ : MethodName)) (z := (⟨"com/example/holdfast/holdfast/resources/DerValue$BitString", "bitLength", "()I"⟩ : MethodName)) hown (mvT hZ (hw _ (List.mem_of_getElem? (i := 19) rfl))) (mvT hZ (hw _ (List.mem_of_getElem? (i := 20) rfl))) (notFace_of_selects (args := #[]) (mvT hZ (hw _ (List.mem_of_getElem? (i := 22) rfl)))) (mvT hZ (hw _ (List.mem_of_getElem? (i := 22) rfl))) (mvT hZ (hw _ (List.mem_of_getElem? (i := 21) rfl))) (by decide) (backOf (W := 0) (rm2 l Z ar hw [] b108 x102_b x102_k nn (((nn - (1 : Int32)), (.int (((((p2.toUInt32 >>> ((8 : Int32) &&& 31).toUInt32).toInt32)).toInt8.toInt32)).toInt8.toInt32)) :: (((0 : Int32), (.int (((p2).toInt8.toInt32)).toInt8.toInt32)) :: [])) uu T114.heap n0 (Nat.le_trans (Nat.le_trans (Nat.le_trans (Nat.le_trans (Nat.le_trans (Nat.le_trans Z0 K102.1) (Keep.of_wr W105).1) (Keep.of_wr W107).1) E108.1) K109.1) K114.1) G116 G117 G118) hZ (hw _ (List.mem_of_getElem? (i := 23) rfl)) (hw _ (List.mem_of_getElem? (i := 8) rfl)) (by decide) (by decide)) q119a q119c (g := (mkF m 117 #[.val (.int p0), .val (.int p1), .val (.int p2), .val (.int nn), .val (.int uu), .val (.ref x102_b), .val (.ref b108), .val (.int ((nn * (8 : Int32)) - uu)), .val (.int nn)] [(.ref b108)])) rfl (by rw [hml]; rfl) (Steps.refl _) (argsL := []) (rest := []) (lenOf pd_2 rfl) rfl (by show 2 * 0 + _ ≤ _; exact Nat.le_of_eq rfl) (hb hby at_117) (fun _ _ => ⟨rfl, rfl, (by decide : 3 + 0 ≤ _), (by decide : 20 + 0 ≤ _)⟩)
      dsimp only [Pt.U, Pt.locs, Pt.cells, Pt.slots] at X119 l119 y119 z119 st119 hQ119
      subst l119 y119 z119
      obtain ⟨rfl, Nq119, hh119⟩ := hQ119
      have N119 := Fr.app N114 Nq119
      refine OGo.st (fun t k => st119.trans k) ?_
      have e119 : T119.heap = T114.heap := hh119
      show OGo p.tables e below _ (T119.setTop (mkF m 120 #[.val (.int p0), .val (.int p1), .val (.int p2), .val (.int nn), .val (.int uu), .val (.ref x102_b), .val (.ref b108), .val (.int ((nn * (8 : Int32)) - uu)), .val (.int nn)] [(.int ((nn * (8 : Int32)) - uu))]))
      refine OGo.st (fun t k => XS.iload X119.here hx rfl (hb hby at_120) rfl k) ?_
      show OGo p.tables e below _ (T119.setTop (mkF m 122 #[.val (.int p0), .val (.int p1), .val (.int p2), .val (.int nn), .val (.int uu), .val (.ref x102_b), .val (.ref b108), .val (.int ((nn * (8 : Int32)) - uu)), .val (.int nn)] [(.int ((nn * (8 : Int32)) - uu)), (.int ((nn * (8 : Int32)) - uu))]))
      refine OGo.st (fun t k => XS.icmpNo X119.here hx rfl (hb hby at_122) rfl (teq (rfl : ((nn * (8 : Int32)) - uu) = ((nn * (8 : Int32)) - uu))).2 k) ?_
      show OGo p.tables e below _ (T119.setTop (mkF m 125 #[.val (.int p0), .val (.int p1), .val (.int p2), .val (.int nn), .val (.int uu), .val (.ref x102_b), .val (.ref b108), .val (.int ((nn * (8 : Int32)) - uu)), .val (.int nn)] []))
      refine OGo.st (fun t k => XS.iconst X119.here hx rfl (hb hby at_125) k) ?_
      show OGo p.tables e below _ (T119.setTop (mkF m 126 #[.val (.int p0), .val (.int p1), .val (.int p2), .val (.int nn), .val (.int uu), .val (.ref x102_b), .val (.ref b108), .val (.int ((nn * (8 : Int32)) - uu)), .val (.int nn)] [(.int (1 : Int32))]))
      refine OGo.st (fun t k => XS.goto X119.here hx rfl (pc0 := 126) (pc' := 130) rfl (hb hby at_126) (by decide) (by decide) k) ?_
      show OGo p.tables e below _ (T119.setTop (mkF m 130 #[.val (.int p0), .val (.int p1), .val (.int p2), .val (.int nn), .val (.int uu), .val (.ref x102_b), .val (.ref b108), .val (.int ((nn * (8 : Int32)) - uu)), .val (.int nn)] [(.int (1 : Int32))]))
      obtain ⟨fs, hr, hrun, hended, hW, hsame⟩ := X119.leave (v := some (.int (1 : Int32))) (fun h => by rw [Bd.returns] at h; cases h)
      refine OGo.done (retN X119 hx (t := .boolean) Bd.returns (by simp) (hb hby at_130) hr) ⟨hrun, hended, _, _, rfl, ?_, ⟨_, rfl⟩, hW, hsame.mono (by decide) (by decide)⟩
      show Q4 Z p0 p1 p2 h0 n0 _ T119.heap _
      rw [e119]
      exact ⟨rfl, N119⟩
    ·
      refine OGo.st (fun t k => XS.ifYes X102.here hx rfl (pc0 := 29) (pc' := 49) rfl (hb hby at_29) rfl ((if0 _ _).trans (flt hc29_103).2.2.2) (by decide) (by decide) k) ?_
      show OGo p.tables e below _ (T102.setTop (mkF m 49 #[.val (.int p0), .val (.int p1), .val (.int p2), .val (.int nn), .val (.int uu), .val (.ref x102_b), .unset, .unset, .unset] []))
      obtain ⟨T122, h122, X122, e122, E122, A122, D122, -, st122⟩ := newO X102 hx hZ hown (hw _ (List.mem_of_getElem? (i := 6) rfl)) (hw _ (List.mem_of_getElem? (i := 7) rfl)) (hw _ (List.mem_of_getElem? (i := 8) rfl)) rfl (g := (mkF m 49 #[.val (.int p0), .val (.int p1), .val (.int p2), .val (.int nn), .val (.int uu), .val (.ref x102_b), .unset, .unset, .unset] [])) rfl (hb hby at_49) (by decide) (by decide)
      obtain ⟨b122, g122⟩ : ∃ z, z = T102.heap.size := ⟨_, rfl⟩
      rw [← g122] at A122 D122 st122
      have ge_b122 : n0 ≤ b122 := Nat.le_trans (Nat.le_trans Z0 K102.1) (Nat.le_of_eq g122.symm)
      have sz_b122 : h0.size ≤ b122 := Nat.le_trans (Nat.le_trans (Nat.le_refl h0.size) K102.1) (Nat.le_of_eq g122.symm)
      have ne_x102_b_b122 : x102_b ≠ b122 := Nat.ne_of_lt (Nat.lt_of_lt_of_le P102_2.lt (Nat.le_of_eq g122.symm))
      refine OGo.st st122 ?_
      have Fn122_octets : Fld Z h122 b122 "com/example/holdfast/holdfast/resources/DerValue$BitString" "octets" "[B" .null := D122 (Or.inr (hw _ (List.mem_of_getElem? (i := 16) rfl))) (ty := (.array .byte)) (by decide)
      have Fn122_unusedBits : Fld Z h122 b122 "com/example/holdfast/holdfast/resources/DerValue$BitString" "unusedBits" "I" (.int (0 : Int32)) := D122 (Or.inr (hw _ (List.mem_of_getElem? (i := 18) rfl))) (ty := .int) (by decide)
      show OGo p.tables e below _ (T122.setTop (mkF m 52 #[.val (.int p0), .val (.int p1), .val (.int p2), .val (.int nn), .val (.int uu), .val (.ref x102_b), .unset, .unset, .unset] [(.ref b122)]))
      refine OGo.st (fun t k => XS.dup X122.here hx rfl (hb hby at_52) rfl rfl k) ?_
      show OGo p.tables e below _ (T122.setTop (mkF m 53 #[.val (.int p0), .val (.int p1), .val (.int p2), .val (.int nn), .val (.int uu), .val (.ref x102_b), .unset, .unset, .unset] [(.ref b122), (.ref b122)]))
      refine OGo.st (fun t k => XS.aload X122.here hx rfl (hb hby at_53) rfl rfl k) ?_
      show OGo p.tables e below _ (T122.setTop (mkF m 55 #[.val (.int p0), .val (.int p1), .val (.int p2), .val (.int nn), .val (.int uu), .val (.ref x102_b), .unset, .unset, .unset] [(.ref x102_b), (.ref b122), (.ref b122)]))
      refine OGo.st (fun t k => XS.iload X122.here hx rfl (hb hby at_55) rfl k) ?_
      show OGo p.tables e below _ (T122.setTop (mkF m 57 #[.val (.int p0), .val (.int p1), .val (.int p2), .val (.int nn), .val (.int uu), .val (.ref x102_b), .unset, .unset, .unset] [(.int uu), (.ref x102_b), (.ref b122), (.ref b122)]))
      obtain ⟨_, _, ⟨T123, L123, kk123, nn123⟩, -, X123, ⟨Lc123, hQ123, l123, y123, z123⟩, st123⟩ := X122.specialBack hx (y := (⟨"com/example/holdfast/holdfast/resources/DerValue$BitString", "<init>", "([BI)V"⟩ : MethodName)) rfl hown (mvT hZ (hw _ (List.mem_of_getElem? (i := 9) rfl))) (mvT hZ (hw _ (List.mem_of_getElem? (i := 10) rfl))) (mvT hZ (hw _ (List.mem_of_getElem? (i := 11) rfl))) (by decide) (backOf (W := 1) (rm1 l Z ar hw [] b122 x102_b uu h122 n0 (Nat.le_trans (Nat.le_trans Z0 K102.1) E122.1) A122 ge_b122 Fn122_octets Fn122_unusedBits) hZ (hw _ (List.mem_of_getElem? (i := 11) rfl)) (hw _ (List.mem_of_getElem? (i := 8) rfl)) (by decide) (by decide)) (g := (mkF m 57 #[.val (.int p0), .val (.int p1), .val (.int p2), .val (.int nn), .val (.int uu), .val (.ref x102_b), .unset, .unset, .unset] [(.int uu), (.ref x102_b), (.ref b122), (.ref b122)])) rfl (by rw [hml]; rfl) (Steps.refl _) (a := b122) (argsL := [(.ref x102_b), (.int uu)]) (rest := [(.ref b122)]) (lenOf pd_1 rfl) rfl (by show 2 * 0 + _ ≤ _; exact Nat.le_of_eq rfl) (hb hby at_57) (fun _ _ => ⟨rfl, e122, (by decide : 2 + 0 ≤ _), (by decide : 11 + 0 ≤ _)⟩)
      dsimp only [Pt.U, Pt.locs, Pt.cells, Pt.slots] at X123 l123 y123 z123 st123 hQ123
      subst l123 y123 z123
      obtain ⟨rfl, Nq123, K123, P123_0, P123_1⟩ := hQ123
      have N123 := Fr.app N102 Nq123
      refine OGo.st (fun t k => st123.trans k) ?_
      show OGo p.tables e below _ (T123.setTop (mkF m 60 #[.val (.int p0), .val (.int p1), .val (.int p2), .val (.int nn), .val (.int uu), .val (.ref x102_b), .unset, .unset, .unset] [(.ref b122)]))
      refine OGo.st (fun t k => XS.astore X123.here hx rfl (hb hby at_60) rfl rfl (l' := #[.val (.int p0), .val (.int p1), .val (.int p2), .val (.int nn), .val (.int uu), .val (.ref x102_b), .val (.ref b122), .unset, .unset]) rfl k) ?_
      show OGo p.tables e below _ (T123.setTop (mkF m 62 #[.val (.int p0), .val (.int p1), .val (.int p2), .val (.int nn), .val (.int uu), .val (.ref x102_b), .val (.ref b122), .unset, .unset] []))
      refine OGo.st (fun t k => XS.aload X123.here hx rfl (hb hby at_62) rfl rfl k) ?_
      show OGo p.tables e below _ (T123.setTop (mkF m 64 #[.val (.int p0), .val (.int p1), .val (.int p2), .val (.int nn), .val (.int uu), .val (.ref x102_b), .val (.ref b122), .unset, .unset] [(.ref b122)]))
      have G124 : Arh Z T123.heap x102_b x102_k .byte nn [] [] (.int (0 : Int32)) := ((P102_2.ext E122).keep K123 (ninS ne_x102_b_b122 nin0))
      have G126 : Exa Z T123.heap b122 "com/example/holdfast/holdfast/resources/DerValue$BitString" := (A122.keep K123)
      obtain ⟨cq125, kq125, q125a, q125b, q125c⟩ := isOf hZ rfl G126
      obtain ⟨_, _, ⟨T125, L125, kk125, nn125⟩, -, X125, ⟨Lc125, hQ125, l125, y125, z125⟩, st125⟩ := X123.virtualBack hx (y := (⟨"com/example/holdfast/holdfast/resources/DerValue$BitString", "bitLength", "()I"⟩ : MethodName)) (z := (⟨"com/example/holdfast/holdfast/resources/DerValue$BitString", "bitLength", "()I"⟩ : MethodName)) hown (mvT hZ (hw _ (List.mem_of_getElem? (i := 19) rfl))) (mvT hZ (hw _ (List.mem_of_getElem? (i := 20) rfl))) (notFace_of_selects (args := #[]) (mvT hZ (hw _ (List.mem_of_getElem? (i := 22) rfl)))) (mvT hZ (hw _ (List.mem_of_getElem? (i := 22) rfl))) (mvT hZ (hw _ (List.mem_of_getElem? (i := 21) rfl))) (by decide) (backOf (W := 0) (rm2 l Z ar hw [] b122 x102_b x102_k nn [] uu T123.heap n0 (Nat.le_trans (Nat.le_trans (Nat.le_trans Z0 K102.1) E122.1) K123.1) P123_0 G124 P123_1) hZ (hw _ (List.mem_of_getElem? (i := 23) rfl)) (hw _ (List.mem_of_getElem? (i := 8) rfl)) (by decide) (by decide)) q125a q125c (g := (mkF m 64 #[.val (.int p0), .val (.int p1), .val (.int p2), .val (.int nn), .val (.int uu), .val (.ref x102_b), .val (.ref b122), .unset, .unset] [(.ref b122)])) rfl (by rw [hml]; rfl) (Steps.refl _) (argsL := []) (rest := []) (lenOf pd_2 rfl) rfl (by show 2 * 0 + _ ≤ _; exact Nat.le_of_eq rfl) (hb hby at_64) (fun _ _ => ⟨rfl, rfl, (by decide : 2 + 0 ≤ _), (by decide : 11 + 0 ≤ _)⟩)
      dsimp only [Pt.U, Pt.locs, Pt.cells, Pt.slots] at X125 l125 y125 z125 st125 hQ125
      subst l125 y125 z125
      obtain ⟨rfl, Nq125, hh125⟩ := hQ125
      have N125 := Fr.app N123 Nq125
      refine OGo.st (fun t k => st125.trans k) ?_
      have e125 : T125.heap = T123.heap := hh125
      show OGo p.tables e below _ (T125.setTop (mkF m 67 #[.val (.int p0), .val (.int p1), .val (.int p2), .val (.int nn), .val (.int uu), .val (.ref x102_b), .val (.ref b122), .unset, .unset] [(.int ((nn * (8 : Int32)) - uu))]))
      refine OGo.st (fun t k => XS.istore X125.here hx rfl (hb hby at_67) rfl (l' := #[.val (.int p0), .val (.int p1), .val (.int p2), .val (.int nn), .val (.int uu), .val (.ref x102_b), .val (.ref b122), .val (.int ((nn * (8 : Int32)) - uu)), .unset]) rfl k) ?_
      show OGo p.tables e below _ (T125.setTop (mkF m 69 #[.val (.int p0), .val (.int p1), .val (.int p2), .val (.int nn), .val (.int uu), .val (.ref x102_b), .val (.ref b122), .val (.int ((nn * (8 : Int32)) - uu)), .unset] []))
      refine OGo.st (fun t k => XS.aload X125.here hx rfl (hb hby at_69) rfl rfl k) ?_
      show OGo p.tables e below _ (T125.setTop (mkF m 71 #[.val (.int p0), .val (.int p1), .val (.int p2), .val (.int nn), .val (.int uu), .val (.ref x102_b), .val (.ref b122), .val (.int ((nn * (8 : Int32)) - uu)), .unset] [(.ref b122)]))
      have G127 : Exa Z T123.heap x102_b "[B" := ((Exa.ext E122 P102_1).keep K123)
      obtain ⟨cq128, kq128, q128a, q128b, q128c⟩ := isOf hZ e125 G126
      obtain ⟨_, _, ⟨T128, L128, kk128, nn128⟩, -, X128, ⟨Lc128, hQ128, l128, y128, z128⟩, st128⟩ := X125.virtualBack hx (y := (⟨"com/example/holdfast/holdfast/resources/DerValue$BitString", "octets", "()[B"⟩ : MethodName)) (z := (⟨"com/example/holdfast/holdfast/resources/DerValue$BitString", "octets", "()[B"⟩ : MethodName)) hown (mvT hZ (hw _ (List.mem_of_getElem? (i := 24) rfl))) (mvT hZ (hw _ (List.mem_of_getElem? (i := 25) rfl))) (notFace_of_selects (args := #[]) (mvT hZ (hw _ (List.mem_of_getElem? (i := 27) rfl)))) (mvT hZ (hw _ (List.mem_of_getElem? (i := 27) rfl))) (mvT hZ (hw _ (List.mem_of_getElem? (i := 26) rfl))) (by decide) (backOf (W := 0) (rm3 l Z ar hw [] b122 x102_b x102_k nn [] T123.heap n0 (Nat.le_trans (Nat.le_trans (Nat.le_trans Z0 K102.1) E122.1) K123.1) P123_0 G124 G127 (own_cap nn hnn)) hZ (hw _ (List.mem_of_getElem? (i := 28) rfl)) (hw _ (List.mem_of_getElem? (i := 8) rfl)) (by decide) (by decide)) q128a q128c (g := (mkF m 71 #[.val (.int p0), .val (.int p1), .val (.int p2), .val (.int nn), .val (.int uu), .val (.ref x102_b), .val (.ref b122), .val (.int ((nn * (8 : Int32)) - uu)), .unset] [(.ref b122)])) rfl (by rw [hml]; rfl) (Steps.refl _) (argsL := []) (rest := []) (lenOf pd_3 rfl) rfl (by show 2 * 0 + _ ≤ _; exact Nat.le_of_eq rfl) (hb hby at_71) (fun _ _ => ⟨rfl, e125, (by decide : 2 + 1 ≤ _), (by decide : 11 + 9 ≤ _)⟩)
      dsimp only [Pt.U, Pt.locs, Pt.cells, Pt.slots] at X128 l128 y128 z128 st128 hQ128
      subst l128 y128 z128
      obtain ⟨x128_c, rfl, Nq128, K128, P128_0, P128_1⟩ := hQ128
      have N128 := Fr.app N125 Nq128
      refine OGo.st (fun t k => st128.trans k) ?_
      have ge_x128_c : n0 ≤ x128_c := Nat.le_trans (Nat.le_trans (Nat.le_trans (Nat.le_trans Z0 K102.1) E122.1) K123.1) P128_0
      have sz_x128_c : h0.size ≤ x128_c := Nat.le_trans (Nat.le_trans (Nat.le_trans (Nat.le_trans (Nat.le_refl h0.size) K102.1) E122.1) K123.1) P128_0
      have ne_x102_b_x128_c : x102_b ≠ x128_c := Nat.ne_of_lt (Nat.lt_of_lt_of_le G124.lt P128_0)
      have ne_b122_x128_c : b122 ≠ x128_c := Nat.ne_of_lt (Nat.lt_of_lt_of_le G126.lt P128_0)
      show OGo p.tables e below _ (T128.setTop (mkF m 74 #[.val (.int p0), .val (.int p1), .val (.int p2), .val (.int nn), .val (.int uu), .val (.ref x102_b), .val (.ref b122), .val (.int ((nn * (8 : Int32)) - uu)), .unset] [(.ref x128_c)]))
      obtain ⟨cl129, Ar129, qc129, Sz129, Nz129, Hs129, Gs129⟩ := id P128_1
      refine OGo.st (fun t k => X128.arraylength hx Ar129.1 (State.isArrayOf_alike hZ.alike Ar129.2.1) (g := (mkF m 74 #[.val (.int p0), .val (.int p1), .val (.int p2), .val (.int nn), .val (.int uu), .val (.ref x102_b), .val (.ref b122), .val (.int ((nn * (8 : Int32)) - uu)), .unset] [(.ref x128_c)])) rfl rfl (hb hby at_74) _ k) ?_
      rw [len_of Sz129 Nz129]
      show OGo p.tables e below _ (T128.setTop (mkF m 75 #[.val (.int p0), .val (.int p1), .val (.int p2), .val (.int nn), .val (.int uu), .val (.ref x102_b), .val (.ref b122), .val (.int ((nn * (8 : Int32)) - uu)), .unset] [(.int nn)]))
      refine OGo.st (fun t k => XS.istore X128.here hx rfl (hb hby at_75) rfl (l' := #[.val (.int p0), .val (.int p1), .val (.int p2), .val (.int nn), .val (.int uu), .val (.ref x102_b), .val (.ref b122), .val (.int ((nn * (8 : Int32)) - uu)), .val (.int nn)]) rfl k) ?_
      show OGo p.tables e below _ (T128.setTop (mkF m 77 #[.val (.int p0), .val (.int p1), .val (.int p2), .val (.int nn), .val (.int uu), .val (.ref x102_b), .val (.ref b122), .val (.int ((nn * (8 : Int32)) - uu)), .val (.int nn)] []))
      refine OGo.st (fun t k => XS.iload X128.here hx rfl (hb hby at_77) rfl k) ?_
      show OGo p.tables e below _ (T128.setTop (mkF m 79 #[.val (.int p0), .val (.int p1), .val (.int p2), .val (.int nn), .val (.int uu), .val (.ref x102_b), .val (.ref b122), .val (.int ((nn * (8 : Int32)) - uu)), .val (.int nn)] [(.int ((nn * (8 : Int32)) - uu))]))
      refine OGo.st (fun t k => XS.ifNo X128.here hx rfl (hb hby at_79) rfl ((if0 _ _).trans (flt ((own_b79 nn uu hnn hj20_101.1 hj20_101.2) : ¬ (((nn * (8 : Int32)) - uu) < (0 : Int32)))).1) k) ?_
      show OGo p.tables e below _ (T128.setTop (mkF m 82 #[.val (.int p0), .val (.int p1), .val (.int p2), .val (.int nn), .val (.int uu), .val (.ref x102_b), .val (.ref b122), .val (.int ((nn * (8 : Int32)) - uu)), .val (.int nn)] []))
      refine OGo.st (fun t k => XS.iload X128.here hx rfl (hb hby at_82) rfl k) ?_
      show OGo p.tables e below _ (T128.setTop (mkF m 84 #[.val (.int p0), .val (.int p1), .val (.int p2), .val (.int nn), .val (.int uu), .val (.ref x102_b), .val (.ref b122), .val (.int ((nn * (8 : Int32)) - uu)), .val (.int nn)] [(.int ((nn * (8 : Int32)) - uu))]))
      refine OGo.st (fun t k => XS.bipush X128.here hx rfl (hb hby at_84) k) ?_
      show OGo p.tables e below _ (T128.setTop (mkF m 86 #[.val (.int p0), .val (.int p1), .val (.int p2), .val (.int nn), .val (.int uu), .val (.ref x102_b), .val (.ref b122), .val (.int ((nn * (8 : Int32)) - uu)), .val (.int nn)] [(.int (7 : Int32)), (.int ((nn * (8 : Int32)) - uu))]))
      refine OGo.st (fun t k => XS.iadd X128.here hx rfl (hb hby at_86) rfl k) ?_
      show OGo p.tables e below _ (T128.setTop (mkF m 87 #[.val (.int p0), .val (.int p1), .val (.int p2), .val (.int nn), .val (.int uu), .val (.ref x102_b), .val (.ref b122), .val (.int ((nn * (8 : Int32)) - uu)), .val (.int nn)] [(.int (((nn * (8 : Int32)) - uu) + (7 : Int32)))]))
      refine OGo.st (fun t k => XS.iconst X128.here hx rfl (hb hby at_87) k) ?_
      show OGo p.tables e below _ (T128.setTop (mkF m 88 #[.val (.int p0), .val (.int p1), .val (.int p2), .val (.int nn), .val (.int uu), .val (.ref x102_b), .val (.ref b122), .val (.int ((nn * (8 : Int32)) - uu)), .val (.int nn)] [(.int (3 : Int32)), (.int (((nn * (8 : Int32)) - uu) + (7 : Int32)))]))
      refine OGo.st (fun t k => XS.ishr X128.here hx rfl (hb hby at_88) rfl k) ?_
      show OGo p.tables e below _ (T128.setTop (mkF m 89 #[.val (.int p0), .val (.int p1), .val (.int p2), .val (.int nn), .val (.int uu), .val (.ref x102_b), .val (.ref b122), .val (.int ((nn * (8 : Int32)) - uu)), .val (.int nn)] [(.int ((((nn * (8 : Int32)) - uu) + (7 : Int32)) >>> ((3 : Int32) &&& 31)))]))
      refine OGo.st (fun t k => XS.iloadN X128.here hx rfl (hb hby at_89) rfl k) ?_
      show OGo p.tables e below _ (T128.setTop (mkF m 90 #[.val (.int p0), .val (.int p1), .val (.int p2), .val (.int nn), .val (.int uu), .val (.ref x102_b), .val (.ref b122), .val (.int ((nn * (8 : Int32)) - uu)), .val (.int nn)] [(.int nn), (.int ((((nn * (8 : Int32)) - uu) + (7 : Int32)) >>> ((3 : Int32) &&& 31)))]))
      refine OGo.st (fun t k => XS.icmpNo X128.here hx rfl (hb hby at_90) rfl (teq ((own_b90 nn uu hnn hj20_101.1 hj20_101.2) : ((((nn * (8 : Int32)) - uu) + (7 : Int32)) >>> ((3 : Int32) &&& 31)) = nn)).2 k) ?_
      show OGo p.tables e below _ (T128.setTop (mkF m 93 #[.val (.int p0), .val (.int p1), .val (.int p2), .val (.int nn), .val (.int uu), .val (.ref x102_b), .val (.ref b122), .val (.int ((nn * (8 : Int32)) - uu)), .val (.int nn)] []))
      refine OGo.st (fun t k => XS.iload X128.here hx rfl (hb hby at_93) rfl k) ?_
      show OGo p.tables e below _ (T128.setTop (mkF m 95 #[.val (.int p0), .val (.int p1), .val (.int p2), .val (.int nn), .val (.int uu), .val (.ref x102_b), .val (.ref b122), .val (.int ((nn * (8 : Int32)) - uu)), .val (.int nn)] [(.int nn)]))
      refine OGo.st (fun t k => XS.iloadN X128.here hx rfl (hb hby at_95) rfl k) ?_
      show OGo p.tables e below _ (T128.setTop (mkF m 96 #[.val (.int p0), .val (.int p1), .val (.int p2), .val (.int nn), .val (.int uu), .val (.ref x102_b), .val (.ref b122), .val (.int ((nn * (8 : Int32)) - uu)), .val (.int nn)] [(.int nn), (.int nn)]))
      refine OGo.st (fun t k => XS.icmpNo X128.here hx rfl (hb hby at_96) rfl (teq (rfl : nn = nn)).2 k) ?_
      show OGo p.tables e below _ (T128.setTop (mkF m 99 #[.val (.int p0), .val (.int p1), .val (.int p2), .val (.int nn), .val (.int uu), .val (.ref x102_b), .val (.ref b122), .val (.int ((nn * (8 : Int32)) - uu)), .val (.int nn)] []))
      refine OGo.st (fun t k => XS.iload X128.here hx rfl (hb hby at_99) rfl k) ?_
      show OGo p.tables e below _ (T128.setTop (mkF m 101 #[.val (.int p0), .val (.int p1), .val (.int p2), .val (.int nn), .val (.int uu), .val (.ref x102_b), .val (.ref b122), .val (.int ((nn * (8 : Int32)) - uu)), .val (.int nn)] [(.int ((nn * (8 : Int32)) - uu))]))
      refine OGo.st (fun t k => XS.bipush X128.here hx rfl (hb hby at_101) k) ?_
      show OGo p.tables e below _ (T128.setTop (mkF m 103 #[.val (.int p0), .val (.int p1), .val (.int p2), .val (.int nn), .val (.int uu), .val (.ref x102_b), .val (.ref b122), .val (.int ((nn * (8 : Int32)) - uu)), .val (.int nn)] [(.int (7 : Int32)), (.int ((nn * (8 : Int32)) - uu))]))
      refine OGo.st (fun t k => XS.iand X128.here hx rfl (hb hby at_103) rfl k) ?_
      show OGo p.tables e below _ (T128.setTop (mkF m 104 #[.val (.int p0), .val (.int p1), .val (.int p2), .val (.int nn), .val (.int uu), .val (.ref x102_b), .val (.ref b122), .val (.int ((nn * (8 : Int32)) - uu)), .val (.int nn)] [(.int (((nn * (8 : Int32)) - uu) &&& (7 : Int32)))]))
      refine OGo.st (fun t k => XS.bipush X128.here hx rfl (hb hby at_104) k) ?_
      show OGo p.tables e below _ (T128.setTop (mkF m 106 #[.val (.int p0), .val (.int p1), .val (.int p2), .val (.int nn), .val (.int uu), .val (.ref x102_b), .val (.ref b122), .val (.int ((nn * (8 : Int32)) - uu)), .val (.int nn)] [(.int (8 : Int32)), (.int (((nn * (8 : Int32)) - uu) &&& (7 : Int32)))]))
      refine OGo.st (fun t k => XS.iload X128.here hx rfl (hb hby at_106) rfl k) ?_
      show OGo p.tables e below _ (T128.setTop (mkF m 108 #[.val (.int p0), .val (.int p1), .val (.int p2), .val (.int nn), .val (.int uu), .val (.ref x102_b), .val (.ref b122), .val (.int ((nn * (8 : Int32)) - uu)), .val (.int nn)] [(.int uu), (.int (8 : Int32)), (.int (((nn * (8 : Int32)) - uu) &&& (7 : Int32)))]))
      refine OGo.st (fun t k => XS.isub X128.here hx rfl (hb hby at_108) rfl k) ?_
      show OGo p.tables e below _ (T128.setTop (mkF m 109 #[.val (.int p0), .val (.int p1), .val (.int p2), .val (.int nn), .val (.int uu), .val (.ref x102_b), .val (.ref b122), .val (.int ((nn * (8 : Int32)) - uu)), .val (.int nn)] [(.int ((8 : Int32) - uu)), (.int (((nn * (8 : Int32)) - uu) &&& (7 : Int32)))]))
      refine OGo.st (fun t k => XS.bipush X128.here hx rfl (hb hby at_109) k) ?_
      show OGo p.tables e below _ (T128.setTop (mkF m 111 #[.val (.int p0), .val (.int p1), .val (.int p2), .val (.int nn), .val (.int uu), .val (.ref x102_b), .val (.ref b122), .val (.int ((nn * (8 : Int32)) - uu)), .val (.int nn)] [(.int (7 : Int32)), (.int ((8 : Int32) - uu)), (.int (((nn * (8 : Int32)) - uu) &&& (7 : Int32)))]))
      refine OGo.st (fun t k => XS.iand X128.here hx rfl (hb hby at_111) rfl k) ?_
      show OGo p.tables e below _ (T128.setTop (mkF m 112 #[.val (.int p0), .val (.int p1), .val (.int p2), .val (.int nn), .val (.int uu), .val (.ref x102_b), .val (.ref b122), .val (.int ((nn * (8 : Int32)) - uu)), .val (.int nn)] [(.int (((8 : Int32) - uu) &&& (7 : Int32))), (.int (((nn * (8 : Int32)) - uu) &&& (7 : Int32)))]))
      refine OGo.st (fun t k => XS.icmpNo X128.here hx rfl (hb hby at_112) rfl (teq ((own_b112 nn uu hnn hj20_101.1 hj20_101.2) : (((nn * (8 : Int32)) - uu) &&& (7 : Int32)) = (((8 : Int32) - uu) &&& (7 : Int32)))).2 k) ?_
      show OGo p.tables e below _ (T128.setTop (mkF m 115 #[.val (.int p0), .val (.int p1), .val (.int p2), .val (.int nn), .val (.int uu), .val (.ref x102_b), .val (.ref b122), .val (.int ((nn * (8 : Int32)) - uu)), .val (.int nn)] []))
      refine OGo.st (fun t k => XS.aload X128.here hx rfl (hb hby at_115) rfl rfl k) ?_
      show OGo p.tables e below _ (T128.setTop (mkF m 117 #[.val (.int p0), .val (.int p1), .val (.int p2), .val (.int nn), .val (.int uu), .val (.ref x102_b), .val (.ref b122), .val (.int ((nn * (8 : Int32)) - uu)), .val (.int nn)] [(.ref b122)]))
      have G130 : Fld Z T128.heap b122 "com/example/holdfast/holdfast/resources/DerValue$BitString" "octets" "[B" (.ref x102_b) := (P123_0.keep K128 nin0)
      have G131 : Arh Z T128.heap x102_b x102_k .byte nn [] [] (.int (0 : Int32)) := (G124.keep K128 nin0)
      have G132 : Fld Z T128.heap b122 "com/example/holdfast/holdfast/resources/DerValue$BitString" "unusedBits" "I" (.int uu) := (P123_1.keep K128 nin0)
      have G134 : Exa Z T128.heap b122 "com/example/holdfast/holdfast/resources/DerValue$BitString" := (G126.keep K128)
      obtain ⟨cq133, kq133, q133a, q133b, q133c⟩ := isOf hZ rfl G134
      obtain ⟨_, _, ⟨T133, L133, kk133, nn133⟩, -, X133, ⟨Lc133, hQ133, l133, y133, z133⟩, st133⟩ := X128.virtualBack hx (y := (⟨"com/example/holdfast/holdfast/resources/DerValue$BitString", "bitLength", "()I"⟩ : MethodName)) (z := (⟨"com/example/holdfast/holdfast/resources/DerValue$BitString", "bitLength", "()I"⟩ : MethodName)) hown (mvT hZ (hw _ (List.mem_of_getElem? (i := 19) rfl))) (mvT hZ (hw _ (List.mem_of_getElem? (i := 20) rfl))) (notFace_of_selects (args := #[]) (mvT hZ (hw _ (List.mem_of_getElem? (i := 22) rfl)))) (mvT hZ (hw _ (List.mem_of_getElem? (i := 22) rfl))) (mvT hZ (hw _ (List.mem_of_getElem? (i := 21) rfl))) (by decide) (backOf (W := 0) (rm2 l Z ar hw [] b122 x102_b x102_k nn [] uu T128.heap n0 (Nat.le_trans (Nat.le_trans (Nat.le_trans (Nat.le_trans Z0 K102.1) E122.1) K123.1) K128.1) G130 G131 G132) hZ (hw _ (List.mem_of_getElem? (i := 23) rfl)) (hw _ (List.mem_of_getElem? (i := 8) rfl)) (by decide) (by decide)) q133a q133c (g := (mkF m 117 #[.val (.int p0), .val (.int p1), .val (.int p2), .val (.int nn), .val (.int uu), .val (.ref x102_b), .val (.ref b122), .val (.int ((nn * (8 : Int32)) - uu)), .val (.int nn)] [(.ref b122)])) rfl (by rw [hml]; rfl) (Steps.refl _) (argsL := []) (rest := []) (lenOf pd_2 rfl) rfl (by show 2 * 0 + _ ≤ _; exact Nat.le_of_eq rfl) (hb hby at_117) (fun _ _ => ⟨rfl, rfl, (by decide : 3 + 0 ≤ _), (by decide : 20 + 0 ≤ _)⟩)
      dsimp only [Pt.U, Pt.locs, Pt.cells, Pt.slots] at X133 l133 y133 z133 st133 hQ133
      subst l133 y133 z133
      obtain ⟨rfl, Nq133, hh133⟩ := hQ133
      have N133 := Fr.app N128 Nq133
      refine OGo.st (fun t k => st133.trans k) ?_
      have e133 : T133.heap = T128.heap := hh133
      show OGo p.tables e below _ (T133.setTop (mkF m 120 #[.val (.int p0), .val (.int p1), .val (.int p2), .val (.int nn), .val (.int uu), .val (.ref x102_b), .val (.ref b122), .val (.int ((nn * (8 : Int32)) - uu)), .val (.int nn)] [(.int ((nn * (8 : Int32)) - uu))]))
      refine OGo.st (fun t k => XS.iload X133.here hx rfl (hb hby at_120) rfl k) ?_
      show OGo p.tables e below _ (T133.setTop (mkF m 122 #[.val (.int p0), .val (.int p1), .val (.int p2), .val (.int nn), .val (.int uu), .val (.ref x102_b), .val (.ref b122), .val (.int ((nn * (8 : Int32)) - uu)), .val (.int nn)] [(.int ((nn * (8 : Int32)) - uu)), (.int ((nn * (8 : Int32)) - uu))]))
      refine OGo.st (fun t k => XS.icmpNo X133.here hx rfl (hb hby at_122) rfl (teq (rfl : ((nn * (8 : Int32)) - uu) = ((nn * (8 : Int32)) - uu))).2 k) ?_
      show OGo p.tables e below _ (T133.setTop (mkF m 125 #[.val (.int p0), .val (.int p1), .val (.int p2), .val (.int nn), .val (.int uu), .val (.ref x102_b), .val (.ref b122), .val (.int ((nn * (8 : Int32)) - uu)), .val (.int nn)] []))
      refine OGo.st (fun t k => XS.iconst X133.here hx rfl (hb hby at_125) k) ?_
      show OGo p.tables e below _ (T133.setTop (mkF m 126 #[.val (.int p0), .val (.int p1), .val (.int p2), .val (.int nn), .val (.int uu), .val (.ref x102_b), .val (.ref b122), .val (.int ((nn * (8 : Int32)) - uu)), .val (.int nn)] [(.int (1 : Int32))]))
      refine OGo.st (fun t k => XS.goto X133.here hx rfl (pc0 := 126) (pc' := 130) rfl (hb hby at_126) (by decide) (by decide) k) ?_
      show OGo p.tables e below _ (T133.setTop (mkF m 130 #[.val (.int p0), .val (.int p1), .val (.int p2), .val (.int nn), .val (.int uu), .val (.ref x102_b), .val (.ref b122), .val (.int ((nn * (8 : Int32)) - uu)), .val (.int nn)] [(.int (1 : Int32))]))
      obtain ⟨fs, hr, hrun, hended, hW, hsame⟩ := X133.leave (v := some (.int (1 : Int32))) (fun h => by rw [Bd.returns] at h; cases h)
      refine OGo.done (retN X133 hx (t := .boolean) Bd.returns (by simp) (hb hby at_130) hr) ⟨hrun, hended, _, _, rfl, ?_, ⟨_, rfl⟩, hW, hsame.mono (by decide) (by decide)⟩
      show Q4 Z p0 p1 p2 h0 n0 _ T133.heap _
      rw [e133]
      exact ⟨rfl, N133⟩
  refine OGo.st (fun t k => XS.iloadN X0.here hx rfl (hb hby at_8) rfl k) ?_
  show OGo p.tables e below _ (s₁.setTop (mkF m 9 #[.val (.int p0), .val (.int p1), .val (.int p2), .val (.int nn), .unset, .unset, .unset, .unset, .unset] [(.int nn)]))
  by_cases hc9_136 : nn = (0 : Int32)
  ·
    refine OGo.st (fun t k => XS.ifNo X0.here hx rfl (hb hby at_9) rfl ((if0 _ _).trans (teq hc9_136).2) k) ?_
    show OGo p.tables e below _ (s₁.setTop (mkF m 12 #[.val (.int p0), .val (.int p1), .val (.int p2), .val (.int nn), .unset, .unset, .unset, .unset, .unset] []))
    refine OGo.st (fun t k => XS.iconst X0.here hx rfl (hb hby at_12) k) ?_
    show OGo p.tables e below _ (s₁.setTop (mkF m 13 #[.val (.int p0), .val (.int p1), .val (.int p2), .val (.int nn), .unset, .unset, .unset, .unset, .unset] [(.int (0 : Int32))]))
    refine OGo.st (fun t k => XS.goto X0.here hx rfl (pc0 := 13) (pc' := 20) rfl (hb hby at_13) (by decide) (by decide) k) ?_
    show OGo p.tables e below _ (s₁.setTop (mkF m 20 #[.val (.int p0), .val (.int p1), .val (.int p2), .val (.int nn), .unset, .unset, .unset, .unset, .unset] [(.int (0 : Int32))]))
    exact jn20_101 (0 : Int32) ⟨by decide, fun _ => rfl⟩
  ·
    refine OGo.st (fun t k => XS.ifYes X0.here hx rfl (pc0 := 9) (pc' := 16) rfl (hb hby at_9) rfl ((if0 _ _).trans (feq hc9_136).2) (by decide) (by decide) k) ?_
    show OGo p.tables e below _ (s₁.setTop (mkF m 16 #[.val (.int p0), .val (.int p1), .val (.int p2), .val (.int nn), .unset, .unset, .unset, .unset, .unset] []))
    refine OGo.st (fun t k => XS.iloadN X0.here hx rfl (hb hby at_16) rfl k) ?_
    show OGo p.tables e below _ (s₁.setTop (mkF m 17 #[.val (.int p0), .val (.int p1), .val (.int p2), .val (.int nn), .unset, .unset, .unset, .unset, .unset] [(.int p1)]))
    refine OGo.st (fun t k => XS.bipush X0.here hx rfl (hb hby at_17) k) ?_
    show OGo p.tables e below _ (s₁.setTop (mkF m 19 #[.val (.int p0), .val (.int p1), .val (.int p2), .val (.int nn), .unset, .unset, .unset, .unset, .unset] [(.int (7 : Int32)), (.int p1)]))
    refine OGo.st (fun t k => XS.iand X0.here hx rfl (hb hby at_19) rfl k) ?_
    show OGo p.tables e below _ (s₁.setTop (mkF m 20 #[.val (.int p0), .val (.int p1), .val (.int p2), .val (.int nn), .unset, .unset, .unset, .unset, .unset] [(.int (p1 &&& (7 : Int32)))]))
    exact jn20_101 (p1 &&& (7 : Int32)) ⟨own_m7 p1, fun q => absurd q hc9_136⟩
set_option maxRecDepth 65536 in
set_option maxHeartbeats 40000000 in
theorem comes_1 {Post : Tables → Env → Array Value → State → Outcome → State → Prop} (hpost : ∀ tb e args s v u, (limb_1_1.after args s (.returned v) u = true ∧ limb_1_2.after args s (.returned v) u = true ∧ True) → FrameEnd s (.returned v) u (Jvm.fieldLocs frame_1_writes args s ++ Jvm.arrayLocs frame_1_arrays args s ++ Jvm.staticLocs frame_1_statics s) 16 128 → Post tb e args s (.returned v) u) :
    ArmFor flags0 classFile x code maxLocals ret World_1 tables_1 room_1 Calls_1 rest_1 Pre_1 Post := by
  intro l hfl _ _ p e ha hc hk s m args below hf hA hF happ hP
  obtain ⟨hcalls, hrest, hpre⟩ := hP
  obtain ⟨-, -, -, hnamed, -, -, -, hat⟩ := (Spec.applies_iff hf).mp happ
  obtain ⟨hg, hn⟩ := and_e (Cond.before_iff.mp (show (Jvm.Cond.and given_1 narrow_1).before args s = true from hpre))
  obtain ⟨gc, gr0⟩ := and_e hg
  obtain ⟨g_0, gr1⟩ := and_e gr0
  obtain ⟨g_1, gr2⟩ := and_e gr1
  have g_2 := gr2
  obtain ⟨w0, w1, w2, rfl⟩ : ∃ w0 w1 w2 : Value, args = #[w0, w1, w2] := by
    have hs : args.size = 3 := by simpa [Cond.value, given_1] using gc
    obtain ⟨L⟩ := args
    match L, hs with
    | [w0, w1, w2], _ => exact ⟨w0, w1, w2, rfl⟩
  have hw := fun d (hd : d ∈ tables_1) => atoms_spec (ws := Jvm.Cond.code x code maxLocals ret :: tables_1) hat d (List.mem_cons_of_mem _ hd)
  have hfit : Fit s := fun {y c} hc i hi => by
    obtain ⟨ha, rfl⟩ := Array.getElem?_eq_some_iff.mp hc
    have q := List.all_eq_true.mp ((Array.all_eq_true_iff_forall_mem.mp hF) _ (Array.getElem_mem ha)) i (List.mem_range.mpr hi)
    simpa [Array.getElem?_eq_getElem hi] using q
  obtain ⟨i0, ei0⟩ := is_v g_0
  obtain rfl : w0 = (.int i0) := Option.some.inj ei0
  obtain ⟨i1, ei1⟩ := is_v g_1
  obtain rfl : w1 = (.int i1) := Option.some.inj ei1
  obtain ⟨i2, ei2⟩ := is_v g_2
  obtain rfl : w2 = (.int i2) := Option.some.inj ei2
  obtain ⟨n, o, h1, h2, h3, _, L, rfl, ⟨rfl, N⟩, hq⟩ := rm4 l s _ hw tables_1 i0 i1 i2 s.heap s.heap.size (Nat.le_refl _)  p e ha hc hk s m _ below hf ((Spec.applies_iff_loose hf).mp happ).1 ⟨rfl, State.Warmed39.refl s, rfl⟩ trivial
  refine ⟨n, _, h1, h2, h3, hpost _ _ _ _ _ _ ⟨Cond.after_iff.mpr rfl, Cond.after_iff.mpr (eq_i res_at (Term.int_eval (1)) rfl), trivial⟩ ⟨hq.1, hq.2.1, (hq.2.2.sift fun y hy => Or.inr (N y hy)).mono (by decide) (by decide)⟩⟩
theorem main_1_1 : Claimed_1_1 := comes_1 fun _ _ _ _ _ _ h hF => ⟨h.1, hF⟩
theorem main_1_2 : Claimed_1_2 := comes_1 fun _ _ _ _ _ _ h hF => ⟨h.2.1, hF⟩
end Jvm.Pilot.@@N@@
namespace Jvm.Pilot.@@N@@
open Jvm Jvm.ClassFile Sem Op Lib Jvm.Free Jvm.Stand Jvm.Pilot.@@N@@.Jvm.D
/-! MADE BY PROGRAM (witnessworld.py) out of the Statement's table words and the real class files: 9 classes; the members and pool entries that the words name. The judged class is class 1, her method 2. -/
namespace start1
open Jvm.ClassFile
def u (s : String) : CpInfo := .utf8 (stringToUtf16 s)
/-- a pool by its gaps: so many unusable entries, then the entry; so many at the end -/
def gap : Nat → List CpInfo → List CpInfo
  | 0, r => r
  | n + 1, r => .unusable :: gap n r
def poolList (es : List (Nat × CpInfo)) (last : Nat) : List CpInfo := es.foldr (fun e r => gap e.1 (e.2 :: r)) (gap last [])
def pool (es : List (Nat × CpInfo)) (last : Nat) : Array CpInfo := ⟨poolList es last⟩
def fileOf (pool : Array CpInfo) (this : Nat) (attrs : Array Attribute := #[]) (ms : Array MethodInfo := #[]) (fl : Nat := 33) (sup : Nat := 0) (ifs : Array Nat := #[]) (fds : Array FieldInfo := #[]) : ClassFile where
  minorVersion := 0
  majorVersion := 65
  constantPool := pool
  accessFlags := fl
  thisClass := this
  superClass := sup
  interfaces := ifs
  fields := fds
  methods := ms
  attributes := attrs
def plain (name : String) (sup : Option ClassId) : Class where
  name := name
  kind := .ordinary
  loader := none
  accessFlags := 33
  super := sup
  interfaces := #[]
  cf := none
  fields := #[]
  methods := #[]
  instanceTypes := #[]
  staticTypes := #[]
  resolved := #[]
  callSites := []
  init := .initialized
  statics := none
  mirror := none

def pool0 : Array CpInfo := pool [(5, u "<init>"), (0, u "()V"), (1, .class_ 10), (1, u "java/lang/Object"), (85, u "clone"), (0, u "()Ljava/lang/Object;")] 26

def k0c0 : Code := { maxStack := 0, maxLocals := 1, code := object_method_1_code, exceptionTable := #[], attributes := #[] }
def k0m0 : Method := { name := "<init>", desc := "()V", sig := { parameters := [], returnType := none }, accessFlags := 1, code := some k0c0 }
def k0m1 : Method := { name := "clone", desc := "()Ljava/lang/Object;", sig := { parameters := [], returnType := some (.object "java/lang/Object") }, accessFlags := 260, code := none }
/-- java/lang/Object -/
def k0 : Class := { plain "java/lang/Object" none with
  accessFlags := 33
  interfaces := #[]
  cf := some (fileOf pool0 8 #[] #[{ accessFlags := 1, nameIndex := 5, descriptorIndex := 6, attributes := #[] }, { accessFlags := 260, nameIndex := 96, descriptorIndex := 97, attributes := #[] }] 33 0 #[] #[])
  fields := #[]
  methods := #[k0m0, k0m1]
  instanceTypes := #[]
  staticTypes := #[]
  resolved := Array.replicate 124 none
  statics := none }

def pool1 : Array CpInfo := pool [(2, .class_ 4), (1, u "java/lang/Object"), (0, u "<init>"), (0, u "()V"), (0, .integer 2147483647), (0, .methodref 9 10), (0, .class_ 11), (0, .nameAndType 12 13), (0, u "com/example/holdfast/holdfast/resources/BitStringBitLengthPinLaw"), (0, u "make"), (0, u "(I)[B"), (0, .class_ 15), (0, u "com/example/holdfast/holdfast/resources/DerValue$BitString"), (0, .methodref 14 17), (0, .nameAndType 5 18), (0, u "([BI)V"), (0, .methodref 14 20), (0, .nameAndType 21 22), (0, u "bitLength"), (0, u "()I"), (0, .methodref 14 24), (0, .nameAndType 25 26), (0, u "octets"), (0, u "()[B"), (3, u "law"), (0, u "(III)Z")] 8

def k1m0 : Method := { name := "<init>", desc := "()V", sig := { parameters := [], returnType := none }, accessFlags := 1, code := none }
def k1c1 : Code := { maxStack := 2, maxLocals := 1, code := method_2_code, exceptionTable := #[], attributes := #[] }
def k1m1 : Method := { name := "make", desc := "(I)[B", sig := { parameters := [.int], returnType := some (.array .byte) }, accessFlags := 10, code := some k1c1 }
def k1c2 : Code := { maxStack := 4, maxLocals := 9, code := code, exceptionTable := #[], attributes := #[] }
def k1m2 : Method := { name := "law", desc := "(III)Z", sig := { parameters := [.int, .int, .int], returnType := some .boolean }, accessFlags := 9, code := some k1c2 }
/-- com/example/holdfast/holdfast/resources/BitStringBitLengthPinLaw -/
def k1 : Class := { plain "com/example/holdfast/holdfast/resources/BitStringBitLengthPinLaw" (some 0) with
  accessFlags := 49
  interfaces := #[]
  cf := some (fileOf pool1 9 #[] #[{ accessFlags := 1, nameIndex := 5, descriptorIndex := 6, attributes := #[] }, { accessFlags := 10, nameIndex := 12, descriptorIndex := 13, attributes := #[] }, { accessFlags := 9, nameIndex := 30, descriptorIndex := 31, attributes := #[] }] 49 2 #[] #[])
  fields := #[]
  methods := #[k1m0, k1m1, k1m2]
  instanceTypes := #[]
  staticTypes := #[]
  resolved := Array.replicate 40 none
  statics := none }

def pool2 : Array CpInfo := pool [(1, .methodref 2 3), (0, .class_ 4), (0, .nameAndType 5 6), (0, u "java/lang/Object"), (0, u "<init>"), (0, u "()V"), (0, .fieldref 8 9), (0, .class_ 10), (0, .nameAndType 11 12), (0, u "com/example/holdfast/holdfast/resources/DerValue$BitString"), (0, u "octets"), (0, u "[B"), (0, .fieldref 8 14), (0, .nameAndType 15 16), (0, u "unusedBits"), (0, u "I"), (0, .methodref 18 19), (0, .class_ 12), (0, .nameAndType 20 21), (0, u "clone"), (0, u "()Ljava/lang/Object;"), (9, u "([BI)V"), (2, u "bitLength"), (0, u "()I"), (0, u "()[B"), (8, .class_ 46), (0, u "com/example/holdfast/holdfast/resources/DerValue")] 2

def k2c0 : Code := { maxStack := 2, maxLocals := 3, code := prog_46_method_1_code, exceptionTable := #[], attributes := #[] }
def k2m0 : Method := { name := "<init>", desc := "([BI)V", sig := { parameters := [(.array .byte), .int], returnType := none }, accessFlags := 0, code := some k2c0 }
def k2c1 : Code := { maxStack := 2, maxLocals := 1, code := prog_46_method_2_code, exceptionTable := #[], attributes := #[] }
def k2m1 : Method := { name := "bitLength", desc := "()I", sig := { parameters := [], returnType := some .int }, accessFlags := 1, code := some k2c1 }
def k2c2 : Code := { maxStack := 1, maxLocals := 1, code := prog_46_method_3_code, exceptionTable := #[], attributes := #[] }
def k2m2 : Method := { name := "octets", desc := "()[B", sig := { parameters := [], returnType := some (.array .byte) }, accessFlags := 1, code := some k2c2 }
/-- com/example/holdfast/holdfast/resources/DerValue$BitString -/
def k2 : Class := { plain "com/example/holdfast/holdfast/resources/DerValue$BitString" (some 0) with
  accessFlags := 49
  interfaces := #[]
  cf := some (fileOf pool2 8 #[.nestHost 45] #[{ accessFlags := 0, nameIndex := 5, descriptorIndex := 31, attributes := #[] }, { accessFlags := 1, nameIndex := 34, descriptorIndex := 35, attributes := #[] }, { accessFlags := 1, nameIndex := 11, descriptorIndex := 36, attributes := #[] }] 49 2 #[] #[{ accessFlags := 18, nameIndex := 11, descriptorIndex := 12, attributes := #[] }, { accessFlags := 18, nameIndex := 15, descriptorIndex := 16, attributes := #[] }])
  fields := #[{ name := "octets", type := (.array .byte), accessFlags := 18, slot := 0, constantValue := 0 }, { name := "unusedBits", type := .int, accessFlags := 18, slot := 1, constantValue := 0 }]
  methods := #[k2m0, k2m1, k2m2]
  instanceTypes := #[(.array .byte), .int]
  staticTypes := #[]
  resolved := Array.replicate 49 none
  statics := none }

def pool3 : Array CpInfo := pool [(1, .class_ 2), (0, u "java/lang/Cloneable"), (0, .class_ 4), (0, u "java/lang/Object")] 2

/-- java/lang/Cloneable -/
def k3 : Class := { plain "java/lang/Cloneable" (some 0) with
  accessFlags := 1537
  interfaces := #[]
  cf := some (fileOf pool3 1 #[] #[] 1537 3 #[] #[])
  fields := #[]
  methods := #[]
  instanceTypes := #[]
  staticTypes := #[]
  resolved := Array.replicate 7 none
  statics := none }

def pool4 : Array CpInfo := pool [(1, u "java/io/Serializable"), (0, .class_ 1), (0, u "java/lang/Object"), (0, .class_ 3)] 3

/-- java/io/Serializable -/
def k4 : Class := { plain "java/io/Serializable" (some 0) with
  accessFlags := 1537
  interfaces := #[]
  cf := some (fileOf pool4 2 #[] #[] 1537 4 #[] #[])
  fields := #[]
  methods := #[]
  instanceTypes := #[]
  staticTypes := #[]
  resolved := Array.replicate 8 none
  statics := none }

/-- the primitive byte -/
def k5 : Class := { plain "byte" none with kind := .primitive 'B', accessFlags := 0x411 }
/-- [B -/
def k6 : Class := { plain "[B" (some 0) with kind := .array 5 .byte, interfaces := #[3, 4], accessFlags := 1041 }

/-- the primitive int -/
def k7 : Class := { plain "int" none with kind := .primitive 'I', accessFlags := 0x411 }
/-- [I -/
def k8 : Class := { plain "[I" (some 0) with kind := .array 7 .int, interfaces := #[3, 4], accessFlags := 1041 }

def heap : Heap := #[]
def classes : Array Class := #[k0, k1, k2, k3, k4, k5, k6, k7, k8]
def interned : List (Array UInt16 × Addr) := []
def slotsUsed : Nat := 0
def theMethod : MethodId := ⟨1, 2⟩
def args0 : Array Value := #[.int 1, .int 2, .int 3]
def aboutOver (below : List Frame) : State where
  vm := { classes := classes, interned := interned.toArray }
  heap := heap
  slotsUsed := slotsUsed
  threads := #[{ frames := .invoking theMethod args0 :: below }]
def below0 : List Frame := [.native { method := ⟨0, 0⟩, args := #[] }]
def about1 : State := aboutOver below0
def p0 : Program := .bare "" "" ""
def e0 : Env := launch0.env 0 0 0
theorem w_frames : about1.frames = Frame.invoking theMethod args0 :: below0 := rfl
set_option maxRecDepth 65536 in
theorem w_args : argsFit about1.vm theMethod args0 = true := by decide +kernel
set_option maxRecDepth 65536 in
theorem w_heap : heapFits about1 = true := by decide +kernel
set_option maxRecDepth 65536 in
theorem w_runnable : about1.curStatus? = some .runnable := by decide +kernel
set_option maxRecDepth 65536 in
theorem w_alone : about1.alone = true := by decide +kernel
set_option maxRecDepth 65536 in
theorem w_named : about1.methodNamed? x = some theMethod := by decide +kernel
set_option maxRecDepth 65536 in
theorem w_hears : about1.hears theMethod below0 = true := by decide +kernel
set_option maxRecDepth 65536 in
theorem w_ripe : about1.ripe theMethod args0 below0 = true := by decide +kernel
theorem w_running : about1.status = .running := rfl
set_option maxRecDepth 65536 in
theorem w_room : about1.hasRoom e0.platform room_1 = true :=
  launch0.hasRoom_least _ room_1 (by decide +kernel) (by decide +kernel) (by decide +kernel) (by decide +kernel) (by decide +kernel) (by decide +kernel)
theorem allAtoms_all (ts : List Jvm.Cond) (a : Array Jvm.Value) (st : Jvm.State) : (allAtoms ts).before a st = ts.all (fun c => c.before a st) := by
  induction ts with
  | nil => rfl
  | cons c t ih =>
    show (Jvm.Cond.and c (allAtoms t)).before a st = _
    rw [Jvm.Cond.before_and, ih, List.all_cons]
def words1 : List Jvm.Cond := Jvm.Cond.code x code maxLocals ret :: tables_1
/-- a 'code' word, met by the world's own term for the bytes: nothing is compared byte by byte -/
theorem code_word {y : MethodName} {bytes : ByteArray} {mx : Nat} {rt : Option FieldType} {a : Array Value} {s : State} {m : MethodId} {meth : Method} {c : Code} (h1 : s.methodNamed? y = some m) (h2 : s.vm.method? m = some meth) (h3 : meth.code = some c) (h4 : c.code = bytes)
    (h5 : (c.maxLocals == mx && c.exceptionTable.isEmpty && decide (c.maxStack ≤ mostOperands) && decide (meth.sig.returnType = rt) && !meth.locks && decide (parseMethodDescriptor y.desc = some meth.sig)) = true) : (Jvm.Cond.code y bytes mx rt).before a s = true := by
  simp only [Bool.and_eq_true, beq_iff_eq, Bool.not_eq_true', decide_eq_true_eq] at h5
  obtain ⟨⟨⟨⟨⟨g1, g2⟩, g3⟩, g4⟩, g5⟩, g6⟩ := h5
  simp [Cond.before, Cond.holds, Cond.value, h1, h2, h3, h4, g1, g2, g3, g4, g5, g6]
def isCode : Jvm.Cond → Bool
  | .code _ _ _ _ => true
  | _ => false
theorem all_split {L : List Jvm.Cond} {P : Jvm.Cond → Bool} (h1 : L.all (fun c => isCode c || P c) = true) (h2 : ∀ c ∈ L.filter isCode, P c = true) : L.all P = true := by
  refine List.all_eq_true.mpr fun c hc => ?_
  have h := List.all_eq_true.mp h1 c hc
  rcases Bool.eq_false_or_eq_true (isCode c) with hi | hi
  · exact h2 c (List.mem_filter.mpr ⟨hc, hi⟩)
  · simpa [hi] using h
set_option maxRecDepth 65536 in
theorem w_c0 : (Jvm.Cond.code x code maxLocals ret).before args0 about1 = true := code_word (m := ⟨1, 2⟩) (meth := k1m2) (c := k1c2) (by decide +kernel) rfl rfl rfl (by decide +kernel)
set_option maxRecDepth 65536 in
theorem w_c1 : (Jvm.Cond.code ({ cls := "com/example/holdfast/holdfast/resources/BitStringBitLengthPinLaw", name := "make", desc := "(I)[B" } : Jvm.MethodName) method_2_code (1 : Nat) (Option.some (Jvm.ClassFile.FieldType.array Jvm.ClassFile.FieldType.byte))).before args0 about1 = true := code_word (m := ⟨1, 1⟩) (meth := k1m1) (c := k1c1) (by decide +kernel) rfl rfl rfl (by decide +kernel)
set_option maxRecDepth 65536 in
theorem w_c2 : (Jvm.Cond.code ({ cls := "com/example/holdfast/holdfast/resources/DerValue$BitString", name := "<init>", desc := "([BI)V" } : Jvm.MethodName) prog_46_method_1_code (3 : Nat) (Option.none : Option Jvm.ClassFile.FieldType)).before args0 about1 = true := code_word (m := ⟨2, 0⟩) (meth := k2m0) (c := k2c0) (by decide +kernel) rfl rfl rfl (by decide +kernel)
set_option maxRecDepth 65536 in
theorem w_c3 : (Jvm.Cond.code ({ cls := "java/lang/Object", name := "<init>", desc := "()V" } : Jvm.MethodName) object_method_1_code (1 : Nat) (Option.none : Option Jvm.ClassFile.FieldType)).before args0 about1 = true := code_word (m := ⟨0, 0⟩) (meth := k0m0) (c := k0c0) (by decide +kernel) rfl rfl rfl (by decide +kernel)
set_option maxRecDepth 65536 in
theorem w_c4 : (Jvm.Cond.code ({ cls := "com/example/holdfast/holdfast/resources/DerValue$BitString", name := "bitLength", desc := "()I" } : Jvm.MethodName) prog_46_method_2_code (1 : Nat) (Option.some Jvm.ClassFile.FieldType.int)).before args0 about1 = true := code_word (m := ⟨2, 1⟩) (meth := k2m1) (c := k2c1) (by decide +kernel) rfl rfl rfl (by decide +kernel)
set_option maxRecDepth 65536 in
theorem w_c5 : (Jvm.Cond.code ({ cls := "com/example/holdfast/holdfast/resources/DerValue$BitString", name := "octets", desc := "()[B" } : Jvm.MethodName) prog_46_method_3_code (1 : Nat) (Option.some (Jvm.ClassFile.FieldType.array Jvm.ClassFile.FieldType.byte))).before args0 about1 = true := code_word (m := ⟨2, 2⟩) (meth := k2m2) (c := k2c2) (by decide +kernel) rfl rfl rfl (by decide +kernel)
def codes1 : List Jvm.Cond := [Jvm.Cond.code x code maxLocals ret, Jvm.Cond.code ({ cls := "com/example/holdfast/holdfast/resources/BitStringBitLengthPinLaw", name := "make", desc := "(I)[B" } : Jvm.MethodName) method_2_code (1 : Nat) (Option.some (Jvm.ClassFile.FieldType.array Jvm.ClassFile.FieldType.byte)), Jvm.Cond.code ({ cls := "com/example/holdfast/holdfast/resources/DerValue$BitString", name := "<init>", desc := "([BI)V" } : Jvm.MethodName) prog_46_method_1_code (3 : Nat) (Option.none : Option Jvm.ClassFile.FieldType), Jvm.Cond.code ({ cls := "java/lang/Object", name := "<init>", desc := "()V" } : Jvm.MethodName) object_method_1_code (1 : Nat) (Option.none : Option Jvm.ClassFile.FieldType), Jvm.Cond.code ({ cls := "com/example/holdfast/holdfast/resources/DerValue$BitString", name := "bitLength", desc := "()I" } : Jvm.MethodName) prog_46_method_2_code (1 : Nat) (Option.some Jvm.ClassFile.FieldType.int), Jvm.Cond.code ({ cls := "com/example/holdfast/holdfast/resources/DerValue$BitString", name := "octets", desc := "()[B" } : Jvm.MethodName) prog_46_method_3_code (1 : Nat) (Option.some (Jvm.ClassFile.FieldType.array Jvm.ClassFile.FieldType.byte))]
set_option maxRecDepth 65536 in
theorem codes_eq : words1.filter isCode = codes1 := rfl
theorem w_codes : ∀ c ∈ words1.filter isCode, c.before args0 about1 = true := by
  rw [codes_eq]
  intro c hc
  simp only [codes1, List.mem_cons, List.not_mem_nil, or_false] at hc
  rcases hc with rfl | rfl | rfl | rfl | rfl | rfl
  · exact w_c0
  · exact w_c1
  · exact w_c2
  · exact w_c3
  · exact w_c4
  · exact w_c5
set_option maxRecDepth 65536 in
theorem w_t1 : (words1.take 24).all (fun c => isCode c || c.before args0 about1) = true := by decide +kernel
set_option maxRecDepth 65536 in
theorem w_t2 : (words1.drop 24).all (fun c => isCode c || c.before args0 about1) = true := by decide +kernel
theorem w_tables : (allAtoms (Jvm.Cond.code x code maxLocals ret :: tables_1)).before args0 about1 = true := by
  rw [allAtoms_all]
  show words1.all (fun c => c.before args0 about1) = true
  refine all_split ?_ w_codes
  rw [← List.take_append_drop 24 words1, List.all_append, w_t1, w_t2]
  rfl
set_option maxRecDepth 65536 in
theorem w_case : (Jvm.Cond.and given_1 narrow_1).before args0 about1 = true := by decide +kernel
theorem w_applies : (headSpec (Jvm.Cond.code x code maxLocals ret :: tables_1) room_1).applies x e0.platform about1 = true :=
  (Spec.applies_iff w_frames).mpr ⟨w_running, w_runnable, w_alone, w_named, w_hears, w_ripe, w_room, w_tables⟩
theorem atStart : AtStart classFile x code maxLocals ret World_1 tables_1 room_1 Calls_1 rest_1 Pre_1 launch0 p0 e0 about1 theMethod args0 below0 :=
  ⟨lists_1, trivial, launch0.admits_env _ _ _, launch0.least_env, fairChoices_fair.cas, fairChoices_fair.clock, w_frames, w_args, w_heap, w_applies, trivial, trivial, w_case⟩
end start1
theorem witness_1 : WitnessClaimed_1 := ⟨start1.p0, start1.e0, start1.about1, start1.theMethod, start1.args0, start1.below0, start1.atStart⟩
end Jvm.Pilot.@@N@@
