import JvmDerived
import JvmDerived.Pilot.@@N@@Statement
import JvmDerived.Pilot.@@N@@Code
set_option linter.unusedVariables false
set_option linter.unusedSimpArgs false
namespace Jvm.RoadKit
open Sem ClassFile Op Lib Jvm.Stand Jvm.Free Jvm.LawKit
section New
variable {p : Program} {l : Launch} {e : Env} {R : Room} {s : State} {m : MethodId} {args : Array Value} {below : List Frame} {meth : Method} {c : Code} {T : State} {locs : List Loc} {cells slots : Nat}
theorem retI (X : Stand p l e R s m args below meth c T locs cells slots) (hx : p.tables.exec = Jvm.exec) {pc : Nat} {Ls : Array Slot} {z : Int32} {rest : List Value} (hret : meth.sig.returnType = some .int) (hd : decode c.code pc = .ok (.ireturn, 1)) {fs : List Frame}
    (hl : ∀ (f : JFrame) (acts : List Action), f.method = m → f.locked = none → f.entered = [] → (doReturn e (T.setTop f) acts (some (.int z))).1 = T.setFrames fs) : Steps p.tables e below (T.setTop (mkF m pc Ls (.int z :: rest))) (T.setFrames fs) := by
  have hm' : T.vm.method? m = some meth := X.method'
  have hn : narrow .int (.int z) = .int z := rfl
  show Steps p.tables e below (T.setTop { method := m, pc := pc, locals := Ls, stack := _ :: rest, locked := none }) _
  jvm_step X.here [X.here.top, hx, hd, hm', hret, hn]
  first | (intro acts; rw [hl _ acts rfl rfl rfl]) | rw [hl _ _ rfl rfl rfl]
  exact Steps.refl _
theorem own_retL (X : Stand p l e R s m args below meth c T locs cells slots) (hx : p.tables.exec = Jvm.exec) {pc : Nat} {Ls : Array Slot} {z : Int64} {rest : List Value} (hret : meth.sig.returnType = some .long) (hd : decode c.code pc = .ok (.lreturn, 1)) {fs : List Frame}
    (hl : ∀ (f : JFrame) (acts : List Action), f.method = m → f.locked = none → f.entered = [] → (doReturn e (T.setTop f) acts (some (.long z))).1 = T.setFrames fs) : Steps p.tables e below (T.setTop (mkF m pc Ls (.long z :: rest))) (T.setFrames fs) := by
  have hm' : T.vm.method? m = some meth := X.method'
  have hn : narrow .long (.long z) = .long z := rfl
  show Steps p.tables e below (T.setTop { method := m, pc := pc, locals := Ls, stack := _ :: rest, locked := none }) _
  jvm_step X.here [X.here.top, hx, hd, hm', hret, hn]
  first | (intro acts; rw [hl _ acts rfl rfl rfl]) | rw [hl _ _ rfl rfl rfl]
  exact Steps.refl _
theorem own_retR (X : Stand p l e R s m args below meth c T locs cells slots) (hx : p.tables.exec = Jvm.exec) {pc : Nat} {Ls : Array Slot} {v : Value} {t : FieldType} {rest : List Value} (hret : meth.sig.returnType = some t) (ht : t.isReference = true) (hv : v.isRef = true) (hd : decode c.code pc = .ok (.areturn, 1)) {fs : List Frame}
    (hl : ∀ (f : JFrame) (acts : List Action), f.method = m → f.locked = none → f.entered = [] → (doReturn e (T.setTop f) acts (some v)).1 = T.setFrames fs) : Steps p.tables e below (T.setTop (mkF m pc Ls (v :: rest))) (T.setFrames fs) := by
  have hm' : T.vm.method? m = some meth := X.method'
  show Steps p.tables e below (T.setTop { method := m, pc := pc, locals := Ls, stack := _ :: rest, locked := none }) _
  rcases ref_cases hv with rfl | ⟨a, rfl⟩
  · jvm_step X.here [X.here.top, hx, hd, hm', hret, ht, Value.isRef]
    first | (intro acts; rw [hl _ acts rfl rfl rfl]) | rw [hl _ _ rfl rfl rfl]
    exact Steps.refl _
  · jvm_step X.here [X.here.top, hx, hd, hm', hret, ht, Value.isRef]
    first | (intro acts; rw [hl _ acts rfl rfl rfl]) | rw [hl _ _ rfl rfl rfl]
    exact Steps.refl _
end New
/-- an end that the run comes to from S, with what is said of it -/
def OGo (tb : Tables) (e : Env) (below : List Frame) (Φ : State → Outcome → Prop) (S : State) : Prop := ∃ t o, Steps tb e below S t ∧ Φ t o
section Own
variable {tb : Tables} {e : Env} {below : List Frame} {Φ : State → Outcome → Prop} {S S' t : State} {o : Outcome}
theorem OGo.start (pre : ∀ t, Steps tb e below S' t → Steps tb e below S t) (k : OGo tb e below Φ S') : ∃ t o, Steps tb e below S t ∧ Φ t o := by
  obtain ⟨t, o, h1, h2⟩ := k
  exact ⟨t, o, pre t h1, h2⟩
theorem OGo.st (h : ∀ t, Steps tb e below S' t → Steps tb e below S t) (k : OGo tb e below Φ S') : OGo tb e below Φ S := OGo.start h k
theorem OGo.tr (h : Steps tb e below S S') (k : OGo tb e below Φ S') : OGo tb e below Φ S := OGo.start (fun _ q => h.trans q) k
theorem OGo.done (h : Steps tb e below S t) (q : Φ t o) : OGo tb e below Φ S := ⟨t, o, h, q⟩
theorem OGo.join {α : Type} (P : α → Prop) (F : α → State) (h : ∀ v, P v → OGo tb e below Φ (F v)) (k : (∀ v, P v → OGo tb e below Φ (F v)) → OGo tb e below Φ S) : OGo tb e below Φ S := k h
theorem own_fld {Z : State} {h : Heap} {a : Addr} {C n d : String} {v w : Value} (F : Fld Z h a C n d v) (q : v = w) : Fld Z h a C n d w := q ▸ F
end Own
end Jvm.RoadKit
namespace Jvm.Pilot.@@N@@
open Jvm Jvm.ClassFile Sem Op Lib Jvm.Free Jvm.Stand Jvm.LawKit Jvm.RoadKit Bundle Jvm.Pilot.@@N@@.Jvm.D
def own_wd (n : Int64) (c : Int32) : Int64 := if n < 100000000000000000 then n * 10 + (c - 48).toInt64 else 9223372036854775807
theorem own_d (g : Int32) : 0 ≤ ((g &&& 2147483647) - ((g &&& 2147483647) / 10) * 10).toInt ∧ ((g &&& 2147483647) - ((g &&& 2147483647) / 10) * 10).toInt < 10 := by
  have h1 := c_mask g 2147483647 31 (by decide) (by decide)
  have h2 := (c_irem (g &&& 2147483647) 10 10 rfl).1
  have h3 : ((2 ^ 31 : Nat) : Int) = 2147483648 := rfl
  rw [h3] at h1
  have h4 : (g &&& 2147483647) - ((g &&& 2147483647) / 10) * 10 = (g &&& 2147483647) % 10 := irem_eq_mod _ _
  rw [h4, h2 (by omega)]
  omega
theorem own_ch (d : Int32) (h0 : 0 ≤ d.toInt) (h1 : d.toInt < 10) : ((48 + d).toUInt32.toUInt16.toUInt32.toInt32 - 48).toInt = d.toInt := by
  have a := c_iadd 48 d
  have b := c_i2c (48 + d)
  have c := c_isub ((48 + d).toUInt32.toUInt16.toUInt32.toInt32) 48
  have e : (48 : Int32).toInt = 48 := rfl
  rw [e] at a c
  have r1 := rng32 ((48 + d).toUInt32.toUInt16.toUInt32.toInt32 - 48)
  have r2 := rng32 (48 + d)
  omega
theorem own_wd1 (n : Int64) (c d : Int32) (hn : 0 ≤ n.toInt) (hlt : n < 100000000000000000) (hc : (c - 48).toInt = d.toInt) (h0 : 0 ≤ d.toInt) (h1 : d.toInt < 10) : (own_wd n c).toInt = n.toInt * 10 + d.toInt := by
  rw [own_wd, if_pos hlt]
  rw [Int64.lt_iff_toInt_lt] at hlt
  have e1 : (100000000000000000 : Int64).toInt = 100000000000000000 := rfl
  have e2 : (10 : Int64).toInt = 10 := rfl
  rw [e1] at hlt
  have a := c_lmul n 10
  have b := c_ladd (n * 10) (c - 48).toInt64
  have i := c_i2l (c - 48)
  have r1 := rng64 (n * 10 + (c - 48).toInt64)
  have r2 := rng64 (n * 10)
  rw [e2] at a
  omega
theorem own_n1 (x : Int64) : 0 ≤ (x &&& 9223372036854775807).toInt := by
  have h1 := c_maskL x 9223372036854775807 63 (by decide) (by decide)
  have h3 : ((2 ^ 63 : Nat) : Int) = 9223372036854775808 := rfl
  rw [h3] at h1; omega
theorem own_n2 (x y : Int64) (d : Int) (hy : y.toInt = d) (hd : 0 < d) : 0 ≤ ((x &&& 9223372036854775807) - ((x &&& 9223372036854775807) / y) * y).toInt := by
  have h := (c_lrem (x &&& 9223372036854775807) y d hy).1 (own_n1 x)
  rw [h]; exact Int.emod_nonneg _ (by omega)
theorem own_n3 (x : Int64) : 0 ≤ ((100000000000000000 - 8) + (x &&& 15)).toInt := by
  have h1 := c_maskL x 15 4 (by decide) (by decide)
  have h3 : ((2 ^ 4 : Nat) : Int) = 16 := rfl
  rw [h3] at h1
  have a := c_ladd (100000000000000000 - 8) (x &&& 15)
  have e : ((100000000000000000 : Int64) - 8).toInt = 99999999999999992 := rfl
  rw [e] at a
  have r := rng64 ((100000000000000000 - 8) + (x &&& 15))
  omega
theorem own_max (c : Int32) : own_wd 9223372036854775807 c = 9223372036854775807 := by
  rw [own_wd, if_neg (by decide)]
theorem own_div (r n : Int64) (d : Int) (hr : r.toInt = n.toInt * 10 + d) (hn : 0 ≤ n.toInt) (h0 : 0 ≤ d) (h1 : d < 10) : r / 10 = n := by
  apply Int64.toInt_inj.mp
  rw [(c_ldiv r 10 10 rfl (by decide)).1 (by omega)]; omega
theorem own_rem (r n : Int64) (d : Int32) (hr : r.toInt = n.toInt * 10 + d.toInt) (hn : 0 ≤ n.toInt) (h0 : 0 ≤ d.toInt) (h1 : d.toInt < 10) : r - (r / 10) * 10 = d.toInt64 := by
  apply Int64.toInt_inj.mp
  rw [(c_lrem r 10 10 rfl).1 (by omega), c_i2l]; omega
theorem own_nn (r n : Int64) (d : Int) (hr : r.toInt = n.toInt * 10 + d) (hn : 0 ≤ n.toInt) (h0 : 0 ≤ d) : ¬ r < 0 := by
  rw [Int64.lt_iff_toInt_lt]; have e : (0 : Int64).toInt = 0 := rfl; omega
theorem d0_0 : decode prog_29_method_5_code 0 = .ok (.lload_n 0, 1) := by decide +kernel
theorem d0_1 : decode prog_29_method_5_code 1 = .ok (.ldc2_w 52, 3) := by decide +kernel
theorem d0_4 : decode prog_29_method_5_code 4 = .ok (.lcmp, 1) := by decide +kernel
theorem d0_5 : decode prog_29_method_5_code 5 = .ok (.ifCond .lt 9, 3) := by decide +kernel
theorem d0_8 : decode prog_29_method_5_code 8 = .ok (.ldc2_w 56, 3) := by decide +kernel
theorem d0_11 : decode prog_29_method_5_code 11 = .ok (.goto 14, 3) := by decide +kernel
theorem d0_14 : decode prog_29_method_5_code 14 = .ok (.lload_n 0, 1) := by decide +kernel
theorem d0_15 : decode prog_29_method_5_code 15 = .ok (.ldc2_w 58, 3) := by decide +kernel
theorem d0_18 : decode prog_29_method_5_code 18 = .ok (.lmul, 1) := by decide +kernel
theorem d0_19 : decode prog_29_method_5_code 19 = .ok (.iload_n 2, 1) := by decide +kernel
theorem d0_20 : decode prog_29_method_5_code 20 = .ok (.bipush 48, 2) := by decide +kernel
theorem d0_22 : decode prog_29_method_5_code 22 = .ok (.isub, 1) := by decide +kernel
theorem d0_23 : decode prog_29_method_5_code 23 = .ok (.i2l, 1) := by decide +kernel
theorem d0_24 : decode prog_29_method_5_code 24 = .ok (.ladd, 1) := by decide +kernel
theorem d0_25 : decode prog_29_method_5_code 25 = .ok (.lreturn, 1) := by decide +kernel
theorem pn_0 : plainName "com/example/montage_book/montagebook/Numerals" = true := by first | (simp [plainName, overriddenIn]; done) | decide +kernel
theorem ef_0 (m : MethodId) (x0 : Int64) (x1 : Int32) : entryFrame m #[(.long x0), (.int x1)] 3 = mkF m 0 #[.val (.long x0), .second, .val (.int x1)] [] := by first | (simp [entryFrame, mkF, argsToLocals, Value.category]; done) | rfl
def Q0 (Z : State) (q0 : Int64) (p1 : Int32) (h0 : Heap) (n0 : Nat) (v : Option Value) (h : Heap) (L : List Loc) : Prop := v = some (.long (own_wd q0 p1)) ∧ Fr n0 L ∧ h = h0
set_option maxRecDepth 65536 in
set_option maxHeartbeats 40000000 in
theorem rm0 (l : Launch) (Z : State) (ar : Array Value) (hw : ∀ d ∈ tables_1, d.before ar Z = true) (ws : List Jvm.Cond) (q0 : Int64) (p1 : Int32) (h0 : Heap) (n0 : Nat) (Z0 : n0 ≤ h0.size)  :
    MetFree l (⟨"com/example/montage_book/montagebook/Numerals", "withDigit", "(JC)J"⟩ : MethodName) (head1 (Jvm.Cond.code (⟨"com/example/montage_book/montagebook/Numerals", "withDigit", "(JC)J"⟩ : MethodName) prog_29_method_5_code 3 (some .long) :: ws) ({ frames := 0, cells := 0, slots := 0, locals := 0 } : Room)) (fun a U => a = #[(.long q0), (.int p1)] ∧ Z.Warmed39 U.vm ∧ U.heap = h0) (fun _ _ _ _ _ => True) (fun _ U o U' => ∃ v L, o = .returned v ∧ Q0 Z q0 p1 h0 n0 v U'.heap L ∧ FrameEnd U o U' L ({ frames := 0, cells := 0, slots := 0, locals := 0 } : Room).cells ({ frames := 0, cells := 0, slots := 0, locals := 0 } : Room).slots) := by
  refine MetFree.of_bodySF (plainFor_of_name pn_0) hisR ?_
  intro p e s m args below meth c s₁ Bd hml0 hP hK
  obtain ⟨rfl, hZ, hh⟩ := hP
  have hx := Bd.exec
  have hby := Bd.bytes
  have hml : c.maxLocals = 3 := hml0
  have hown : s.vm.findClass "com/example/montage_book/montagebook/Numerals" = some m.cls := findClass_of_methodNamed Bd.named
  have hnm := (name_of_methodNamed Bd.named Bd.method).1
  have X0 : Stand p l e ({ frames := 0, cells := 0, slots := 0, locals := 0 } : Room) s m #[(.long q0), (.int p1)] below meth c s₁ [] 0 0 := Stand.of_body Bd
  have e0 : s₁.heap = h0 := by rw [← hh, Bd.state]; rfl
  have N0 := Fr.nil n0
  have pre0 : ∀ t, Steps p.tables e below (s₁.setTop (mkF m 0 #[.val (.long q0), .second, .val (.int p1)] [])) t → Steps p.tables e below (s₁.setTop (entryFrame m #[(.long q0), (.int p1)] 3)) t := fun t k => castTop (ef_0 m q0 p1) k
  refine OGo.start pre0 ?_
  show OGo p.tables e below _ (s₁.setTop (mkF m 0 #[.val (.long q0), .second, .val (.int p1)] []))
  refine OGo.st (fun t k => XS.lloadN X0.here hx rfl (hb hby d0_0) rfl k) ?_
  show OGo p.tables e below _ (s₁.setTop (mkF m 1 #[.val (.long q0), .second, .val (.int p1)] [(.long q0)]))
  refine OGo.st (fun t k => X0.ldc2Long hx hown (mvT hZ (hw _ (List.mem_of_getElem? (i := 9) rfl))) (g := (mkF m 1 #[.val (.long q0), .second, .val (.int p1)] [(.long q0)])) rfl (hb hby d0_1) _ k) ?_
  show OGo p.tables e below _ (s₁.setTop (mkF m 4 #[.val (.long q0), .second, .val (.int p1)] [(.long (100000000000000000 : Int64)), (.long q0)]))
  refine OGo.st (fun t k => XS.lcmp X0.here hx rfl (hb hby d0_4) rfl k) ?_
  show OGo p.tables e below _ (s₁.setTop (mkF m 5 #[.val (.long q0), .second, .val (.int p1)] [(.int (lcmpW q0 (100000000000000000 : Int64)))]))
  by_cases hc5_101 : (lcmpW q0 (100000000000000000 : Int64)) < (0 : Int32)
  ·
    refine OGo.st (fun t k => XS.ifYes X0.here hx rfl (pc0 := 5) (pc' := 14) rfl (hb hby d0_5) rfl ((if0 _ _).trans (tlt hc5_101).1) (by decide) (by decide) k) ?_
    show OGo p.tables e below _ (s₁.setTop (mkF m 14 #[.val (.long q0), .second, .val (.int p1)] []))
    refine OGo.st (fun t k => XS.lloadN X0.here hx rfl (hb hby d0_14) rfl k) ?_
    show OGo p.tables e below _ (s₁.setTop (mkF m 15 #[.val (.long q0), .second, .val (.int p1)] [(.long q0)]))
    refine OGo.st (fun t k => X0.ldc2Long hx hown (mvT hZ (hw _ (List.mem_of_getElem? (i := 10) rfl))) (g := (mkF m 15 #[.val (.long q0), .second, .val (.int p1)] [(.long q0)])) rfl (hb hby d0_15) _ k) ?_
    show OGo p.tables e below _ (s₁.setTop (mkF m 18 #[.val (.long q0), .second, .val (.int p1)] [(.long (10 : Int64)), (.long q0)]))
    refine OGo.st (fun t k => XS.lmul X0.here hx rfl (hb hby d0_18) rfl k) ?_
    show OGo p.tables e below _ (s₁.setTop (mkF m 19 #[.val (.long q0), .second, .val (.int p1)] [(.long (q0 * (10 : Int64)))]))
    refine OGo.st (fun t k => XS.iloadN X0.here hx rfl (hb hby d0_19) rfl k) ?_
    show OGo p.tables e below _ (s₁.setTop (mkF m 20 #[.val (.long q0), .second, .val (.int p1)] [(.int p1), (.long (q0 * (10 : Int64)))]))
    refine OGo.st (fun t k => XS.bipush X0.here hx rfl (hb hby d0_20) k) ?_
    show OGo p.tables e below _ (s₁.setTop (mkF m 22 #[.val (.long q0), .second, .val (.int p1)] [(.int (48 : Int32)), (.int p1), (.long (q0 * (10 : Int64)))]))
    refine OGo.st (fun t k => XS.isub X0.here hx rfl (hb hby d0_22) rfl k) ?_
    show OGo p.tables e below _ (s₁.setTop (mkF m 23 #[.val (.long q0), .second, .val (.int p1)] [(.int (p1 - (48 : Int32))), (.long (q0 * (10 : Int64)))]))
    refine OGo.st (fun t k => XS.i2l X0.here hx rfl (hb hby d0_23) rfl k) ?_
    show OGo p.tables e below _ (s₁.setTop (mkF m 24 #[.val (.long q0), .second, .val (.int p1)] [(.long (((p1 - (48 : Int32))).toInt64)), (.long (q0 * (10 : Int64)))]))
    refine OGo.st (fun t k => XS.ladd X0.here hx rfl (hb hby d0_24) rfl k) ?_
    show OGo p.tables e below _ (s₁.setTop (mkF m 25 #[.val (.long q0), .second, .val (.int p1)] [(.long ((q0 * (10 : Int64)) + (((p1 - (48 : Int32))).toInt64)))]))
    obtain ⟨fs, hr, hrun, hended, hW, hsame⟩ := X0.leave (v := some (.long ((q0 * (10 : Int64)) + (((p1 - (48 : Int32))).toInt64)))) (fun h => by rw [Bd.returns] at h; cases h)
    refine OGo.done (own_retL X0 hx Bd.returns (hb hby d0_25) hr) ⟨hrun, hended, _, _, rfl, ?_, ⟨_, rfl⟩, hW, hsame.mono (by decide) (by decide)⟩
    show Q0 Z q0 p1 h0 n0 _ s₁.heap _
    rw [e0]
    exact ⟨(congrArg (fun z => some (Value.long z)) (show ((q0 * (10 : Int64)) + (((p1 - (48 : Int32))).toInt64)) = (own_wd q0 p1) from by rw [own_wd, if_pos ((lw_lt _ _).mp hc5_101)])), N0, rfl⟩
  ·
    refine OGo.st (fun t k => XS.ifNo X0.here hx rfl (hb hby d0_5) rfl ((if0 _ _).trans (flt hc5_101).1) k) ?_
    show OGo p.tables e below _ (s₁.setTop (mkF m 8 #[.val (.long q0), .second, .val (.int p1)] []))
    refine OGo.st (fun t k => X0.ldc2Long hx hown (mvT hZ (hw _ (List.mem_of_getElem? (i := 12) rfl))) (g := (mkF m 8 #[.val (.long q0), .second, .val (.int p1)] [])) rfl (hb hby d0_8) _ k) ?_
    show OGo p.tables e below _ (s₁.setTop (mkF m 11 #[.val (.long q0), .second, .val (.int p1)] [(.long (9223372036854775807 : Int64))]))
    refine OGo.st (fun t k => XS.goto X0.here hx rfl (pc0 := 11) (pc' := 25) rfl (hb hby d0_11) (by decide) (by decide) k) ?_
    show OGo p.tables e below _ (s₁.setTop (mkF m 25 #[.val (.long q0), .second, .val (.int p1)] [(.long (9223372036854775807 : Int64))]))
    obtain ⟨fs, hr, hrun, hended, hW, hsame⟩ := X0.leave (v := some (.long (9223372036854775807 : Int64))) (fun h => by rw [Bd.returns] at h; cases h)
    refine OGo.done (own_retL X0 hx Bd.returns (hb hby d0_25) hr) ⟨hrun, hended, _, _, rfl, ?_, ⟨_, rfl⟩, hW, hsame.mono (by decide) (by decide)⟩
    show Q0 Z q0 p1 h0 n0 _ s₁.heap _
    rw [e0]
    exact ⟨(congrArg (fun z => some (Value.long z)) (show (9223372036854775807 : Int64) = (own_wd q0 p1) from by rw [own_wd, if_neg (fun q => hc5_101 ((lw_lt _ _).mpr q))])), N0, rfl⟩
theorem pd_0 : parseMethodDescriptor "(JC)J" = some ⟨[.long, .char], some .long⟩ := by decide +kernel
theorem pn_1 : plainName "com/example/montage_book/montagebook/NumeralsWithDigitPinLaw" = true := by first | (simp [plainName, overriddenIn]; done) | decide +kernel
theorem ef_1 (m : MethodId) (x0 : Int64) (x1 : Int32) (x2 : Int32) : entryFrame m #[(.long x0), (.int x1), (.int x2)] maxLocals = mkF m 0 #[.val (.long x0), .second, .val (.int x1), .val (.int x2), .unset, .unset, .unset, .unset, .unset, .unset, .unset, .unset, .unset, .unset, .unset, .unset] [] := by first | (simp [entryFrame, mkF, argsToLocals, Value.category, maxLocals]; done) | rfl
def Q1 (Z : State) (q0 : Int64) (p1 : Int32) (p2 : Int32) (h0 : Heap) (n0 : Nat) (v : Option Value) (h : Heap) (L : List Loc) : Prop := v = some (.int (1 : Int32)) ∧ Fr n0 L
set_option maxRecDepth 65536 in
set_option maxHeartbeats 40000000 in
theorem rm1 (l : Launch) (Z : State) (ar : Array Value) (hw : ∀ d ∈ tables_1, d.before ar Z = true) (ws : List Jvm.Cond) (q0 : Int64) (p1 : Int32) (p2 : Int32) (h0 : Heap) (n0 : Nat) (Z0 : n0 ≤ h0.size)  :
    MetFree l x (head1 (Jvm.Cond.code x code maxLocals ret :: ws) room_1) (fun a U => a = #[(.long q0), (.int p1), (.int p2)] ∧ Z.Warmed39 U.vm ∧ U.heap = h0) (fun _ _ _ _ _ => True) (fun _ U o U' => ∃ v L, o = .returned v ∧ Q1 Z q0 p1 p2 h0 n0 v U'.heap L ∧ FrameEnd U o U' L room_1.cells room_1.slots) := by
  refine MetFree.of_bodySF (plainFor_of_name pn_1) hisR ?_
  intro p e s m args below meth c s₁ Bd hml0 hP hK
  obtain ⟨rfl, hZ, hh⟩ := hP
  have hx := Bd.exec
  have hby := Bd.bytes
  have hml : c.maxLocals = 16 := hml0
  have hown : s.vm.findClass "com/example/montage_book/montagebook/NumeralsWithDigitPinLaw" = some m.cls := findClass_of_methodNamed Bd.named
  have hnm := (name_of_methodNamed Bd.named Bd.method).1
  have X0 : Stand p l e room_1 s m #[(.long q0), (.int p1), (.int p2)] below meth c s₁ [] 0 0 := Stand.of_body Bd
  have e0 : s₁.heap = h0 := by rw [← hh, Bd.state]; rfl
  have N0 := Fr.nil n0
  have pre0 : ∀ t, Steps p.tables e below (s₁.setTop (mkF m 0 #[.val (.long q0), .second, .val (.int p1), .val (.int p2), .unset, .unset, .unset, .unset, .unset, .unset, .unset, .unset, .unset, .unset, .unset, .unset] [])) t → Steps p.tables e below (s₁.setTop (entryFrame m #[(.long q0), (.int p1), (.int p2)] maxLocals)) t := fun t k => castTop (ef_1 m q0 p1 p2) k
  refine OGo.start pre0 ?_
  show OGo p.tables e below _ (s₁.setTop (mkF m 0 #[.val (.long q0), .second, .val (.int p1), .val (.int p2), .unset, .unset, .unset, .unset, .unset, .unset, .unset, .unset, .unset, .unset, .unset, .unset] []))
  refine OGo.join (α := Int64) (fun n9 => 0 ≤ n9.toInt) (fun n9 => s₁.setTop (mkF m 76 #[.val (.long q0), .second, .val (.int p1), .val (.int p2), .val (.long (100000000000000000 : Int64)), .second, .val (.long (q0 &&& (9223372036854775807 : Int64))), .second, .val (.int (p1 &&& (3 : Int32))), .val (.long n9), .second, .unset, .unset, .unset, .unset, .unset] [])) ?_ (fun jn76_101 => ?_)
  ·
    intro n9 hj76_101
    show OGo p.tables e below _ (s₁.setTop (mkF m 76 #[.val (.long q0), .second, .val (.int p1), .val (.int p2), .val (.long (100000000000000000 : Int64)), .second, .val (.long (q0 &&& (9223372036854775807 : Int64))), .second, .val (.int (p1 &&& (3 : Int32))), .val (.long n9), .second, .unset, .unset, .unset, .unset, .unset] []))
    refine OGo.st (fun t k => XS.iloadN X0.here hx rfl (hb hby at_76) rfl k) ?_
    show OGo p.tables e below _ (s₁.setTop (mkF m 77 #[.val (.long q0), .second, .val (.int p1), .val (.int p2), .val (.long (100000000000000000 : Int64)), .second, .val (.long (q0 &&& (9223372036854775807 : Int64))), .second, .val (.int (p1 &&& (3 : Int32))), .val (.long n9), .second, .unset, .unset, .unset, .unset, .unset] [(.int p2)]))
    refine OGo.st (fun t k => X0.ldcInt hx hown (mvT hZ (hw _ (List.mem_of_getElem? (i := 4) rfl))) (g := (mkF m 77 #[.val (.long q0), .second, .val (.int p1), .val (.int p2), .val (.long (100000000000000000 : Int64)), .second, .val (.long (q0 &&& (9223372036854775807 : Int64))), .second, .val (.int (p1 &&& (3 : Int32))), .val (.long n9), .second, .unset, .unset, .unset, .unset, .unset] [(.int p2)])) rfl (hb hby at_77) _ k) ?_
    show OGo p.tables e below _ (s₁.setTop (mkF m 79 #[.val (.long q0), .second, .val (.int p1), .val (.int p2), .val (.long (100000000000000000 : Int64)), .second, .val (.long (q0 &&& (9223372036854775807 : Int64))), .second, .val (.int (p1 &&& (3 : Int32))), .val (.long n9), .second, .unset, .unset, .unset, .unset, .unset] [(.int (2147483647 : Int32)), (.int p2)]))
    refine OGo.st (fun t k => XS.iand X0.here hx rfl (hb hby at_79) rfl k) ?_
    show OGo p.tables e below _ (s₁.setTop (mkF m 80 #[.val (.long q0), .second, .val (.int p1), .val (.int p2), .val (.long (100000000000000000 : Int64)), .second, .val (.long (q0 &&& (9223372036854775807 : Int64))), .second, .val (.int (p1 &&& (3 : Int32))), .val (.long n9), .second, .unset, .unset, .unset, .unset, .unset] [(.int (p2 &&& (2147483647 : Int32)))]))
    refine OGo.st (fun t k => XS.bipush X0.here hx rfl (hb hby at_80) k) ?_
    show OGo p.tables e below _ (s₁.setTop (mkF m 82 #[.val (.long q0), .second, .val (.int p1), .val (.int p2), .val (.long (100000000000000000 : Int64)), .second, .val (.long (q0 &&& (9223372036854775807 : Int64))), .second, .val (.int (p1 &&& (3 : Int32))), .val (.long n9), .second, .unset, .unset, .unset, .unset, .unset] [(.int (10 : Int32)), (.int (p2 &&& (2147483647 : Int32)))]))
    refine OGo.st (fun t k => XS.irem X0.here hx rfl (hb hby at_82) rfl (by decide) k) ?_
    show OGo p.tables e below _ (s₁.setTop (mkF m 83 #[.val (.long q0), .second, .val (.int p1), .val (.int p2), .val (.long (100000000000000000 : Int64)), .second, .val (.long (q0 &&& (9223372036854775807 : Int64))), .second, .val (.int (p1 &&& (3 : Int32))), .val (.long n9), .second, .unset, .unset, .unset, .unset, .unset] [(.int ((p2 &&& (2147483647 : Int32)) - ((p2 &&& (2147483647 : Int32)) / (10 : Int32)) * (10 : Int32)))]))
    refine OGo.st (fun t k => XS.istore X0.here hx rfl (hb hby at_83) rfl (l' := #[.val (.long q0), .second, .val (.int p1), .val (.int p2), .val (.long (100000000000000000 : Int64)), .second, .val (.long (q0 &&& (9223372036854775807 : Int64))), .second, .val (.int (p1 &&& (3 : Int32))), .val (.long n9), .second, .val (.int ((p2 &&& (2147483647 : Int32)) - ((p2 &&& (2147483647 : Int32)) / (10 : Int32)) * (10 : Int32))), .unset, .unset, .unset, .unset]) rfl k) ?_
    show OGo p.tables e below _ (s₁.setTop (mkF m 85 #[.val (.long q0), .second, .val (.int p1), .val (.int p2), .val (.long (100000000000000000 : Int64)), .second, .val (.long (q0 &&& (9223372036854775807 : Int64))), .second, .val (.int (p1 &&& (3 : Int32))), .val (.long n9), .second, .val (.int ((p2 &&& (2147483647 : Int32)) - ((p2 &&& (2147483647 : Int32)) / (10 : Int32)) * (10 : Int32))), .unset, .unset, .unset, .unset] []))
    have hd := own_d p2
    generalize ((p2 &&& (2147483647 : Int32)) - ((p2 &&& (2147483647 : Int32)) / (10 : Int32)) * (10 : Int32)) = dd at hd ⊢
    show OGo p.tables e below _ (s₁.setTop (mkF m 85 #[.val (.long q0), .second, .val (.int p1), .val (.int p2), .val (.long (100000000000000000 : Int64)), .second, .val (.long (q0 &&& (9223372036854775807 : Int64))), .second, .val (.int (p1 &&& (3 : Int32))), .val (.long n9), .second, .val (.int dd), .unset, .unset, .unset, .unset] []))
    refine OGo.st (fun t k => XS.bipush X0.here hx rfl (hb hby at_85) k) ?_
    show OGo p.tables e below _ (s₁.setTop (mkF m 87 #[.val (.long q0), .second, .val (.int p1), .val (.int p2), .val (.long (100000000000000000 : Int64)), .second, .val (.long (q0 &&& (9223372036854775807 : Int64))), .second, .val (.int (p1 &&& (3 : Int32))), .val (.long n9), .second, .val (.int dd), .unset, .unset, .unset, .unset] [(.int (48 : Int32))]))
    refine OGo.st (fun t k => XS.iload X0.here hx rfl (hb hby at_87) rfl k) ?_
    show OGo p.tables e below _ (s₁.setTop (mkF m 89 #[.val (.long q0), .second, .val (.int p1), .val (.int p2), .val (.long (100000000000000000 : Int64)), .second, .val (.long (q0 &&& (9223372036854775807 : Int64))), .second, .val (.int (p1 &&& (3 : Int32))), .val (.long n9), .second, .val (.int dd), .unset, .unset, .unset, .unset] [(.int dd), (.int (48 : Int32))]))
    refine OGo.st (fun t k => XS.iadd X0.here hx rfl (hb hby at_89) rfl k) ?_
    show OGo p.tables e below _ (s₁.setTop (mkF m 90 #[.val (.long q0), .second, .val (.int p1), .val (.int p2), .val (.long (100000000000000000 : Int64)), .second, .val (.long (q0 &&& (9223372036854775807 : Int64))), .second, .val (.int (p1 &&& (3 : Int32))), .val (.long n9), .second, .val (.int dd), .unset, .unset, .unset, .unset] [(.int ((48 : Int32) + dd))]))
    refine OGo.st (fun t k => XS.i2c X0.here hx rfl (hb hby at_90) rfl k) ?_
    show OGo p.tables e below _ (s₁.setTop (mkF m 91 #[.val (.long q0), .second, .val (.int p1), .val (.int p2), .val (.long (100000000000000000 : Int64)), .second, .val (.long (q0 &&& (9223372036854775807 : Int64))), .second, .val (.int (p1 &&& (3 : Int32))), .val (.long n9), .second, .val (.int dd), .unset, .unset, .unset, .unset] [(.int ((((48 : Int32) + dd)).toUInt32.toUInt16.toUInt32.toInt32))]))
    refine OGo.st (fun t k => XS.istore X0.here hx rfl (hb hby at_91) rfl (l' := #[.val (.long q0), .second, .val (.int p1), .val (.int p2), .val (.long (100000000000000000 : Int64)), .second, .val (.long (q0 &&& (9223372036854775807 : Int64))), .second, .val (.int (p1 &&& (3 : Int32))), .val (.long n9), .second, .val (.int dd), .val (.int ((((48 : Int32) + dd)).toUInt32.toUInt16.toUInt32.toInt32)), .unset, .unset, .unset]) rfl k) ?_
    show OGo p.tables e below _ (s₁.setTop (mkF m 93 #[.val (.long q0), .second, .val (.int p1), .val (.int p2), .val (.long (100000000000000000 : Int64)), .second, .val (.long (q0 &&& (9223372036854775807 : Int64))), .second, .val (.int (p1 &&& (3 : Int32))), .val (.long n9), .second, .val (.int dd), .val (.int ((((48 : Int32) + dd)).toUInt32.toUInt16.toUInt32.toInt32)), .unset, .unset, .unset] []))
    have hch := own_ch dd hd.1 hd.2
    generalize ((((48 : Int32) + dd)).toUInt32.toUInt16.toUInt32.toInt32) = cc at hch ⊢
    show OGo p.tables e below _ (s₁.setTop (mkF m 93 #[.val (.long q0), .second, .val (.int p1), .val (.int p2), .val (.long (100000000000000000 : Int64)), .second, .val (.long (q0 &&& (9223372036854775807 : Int64))), .second, .val (.int (p1 &&& (3 : Int32))), .val (.long n9), .second, .val (.int dd), .val (.int cc), .unset, .unset, .unset] []))
    refine OGo.st (fun t k => XS.lload X0.here hx rfl (hb hby at_93) rfl k) ?_
    show OGo p.tables e below _ (s₁.setTop (mkF m 95 #[.val (.long q0), .second, .val (.int p1), .val (.int p2), .val (.long (100000000000000000 : Int64)), .second, .val (.long (q0 &&& (9223372036854775807 : Int64))), .second, .val (.int (p1 &&& (3 : Int32))), .val (.long n9), .second, .val (.int dd), .val (.int cc), .unset, .unset, .unset] [(.long n9)]))
    refine OGo.st (fun t k => XS.iload X0.here hx rfl (hb hby at_95) rfl k) ?_
    show OGo p.tables e below _ (s₁.setTop (mkF m 97 #[.val (.long q0), .second, .val (.int p1), .val (.int p2), .val (.long (100000000000000000 : Int64)), .second, .val (.long (q0 &&& (9223372036854775807 : Int64))), .second, .val (.int (p1 &&& (3 : Int32))), .val (.long n9), .second, .val (.int dd), .val (.int cc), .unset, .unset, .unset] [(.int cc), (.long n9)]))
    obtain ⟨_, _, ⟨T102, L102, kk102, nn102⟩, -, X102, ⟨Lc102, hQ102, l102, y102, z102⟩, st102⟩ := Jvm.LawKit.callS X0 hx (y := (⟨"com/example/montage_book/montagebook/Numerals", "withDigit", "(JC)J"⟩ : MethodName)) hown (mvT hZ (hw _ (List.mem_of_getElem? (i := 5) rfl))) (mvT hZ (hw _ (List.mem_of_getElem? (i := 6) rfl))) (mvT hZ (hw _ (List.mem_of_getElem? (i := 7) rfl))) (mvT hZ (hw _ (List.mem_of_getElem? (i := 8) rfl))) (by decide) (backOf (W := 0) (rm0 l Z ar hw [] n9 cc h0 n0 Z0 ) hZ (hw _ (List.mem_of_getElem? (i := 8) rfl)) (hw _ (List.mem_of_getElem? (i := 7) rfl)) (by decide) (by decide)) (g := (mkF m 97 #[.val (.long q0), .second, .val (.int p1), .val (.int p2), .val (.long (100000000000000000 : Int64)), .second, .val (.long (q0 &&& (9223372036854775807 : Int64))), .second, .val (.int (p1 &&& (3 : Int32))), .val (.long n9), .second, .val (.int dd), .val (.int cc), .unset, .unset, .unset] [(.int cc), (.long n9)])) rfl (by rw [hml]; rfl) (argsL := [(.long n9), (.int cc)]) (rest := []) (lenOf pd_0 rfl) rfl (by show 2 * 0 + _ ≤ _; exact Nat.le_of_eq rfl) (hb hby at_97) (fun _ _ => ⟨rfl, e0, (by decide : 0 + 0 ≤ _), (by decide : 0 + 0 ≤ _)⟩)
    dsimp only [Pt.U, Pt.locs, Pt.cells, Pt.slots] at X102 l102 y102 z102 st102 hQ102
    subst l102 y102 z102
    obtain ⟨rfl, Nq102, hh102⟩ := hQ102
    have N102 := Fr.app N0 Nq102
    refine OGo.st st102 ?_
    have e102 : T102.heap = h0 := hh102
    show OGo p.tables e below _ (T102.setTop (mkF m 100 #[.val (.long q0), .second, .val (.int p1), .val (.int p2), .val (.long (100000000000000000 : Int64)), .second, .val (.long (q0 &&& (9223372036854775807 : Int64))), .second, .val (.int (p1 &&& (3 : Int32))), .val (.long n9), .second, .val (.int dd), .val (.int cc), .unset, .unset, .unset] [(.long (own_wd n9 cc))]))
    refine OGo.st (fun t k => XS.lstore X102.here hx rfl (hb hby at_100) rfl (l' := #[.val (.long q0), .second, .val (.int p1), .val (.int p2), .val (.long (100000000000000000 : Int64)), .second, .val (.long (q0 &&& (9223372036854775807 : Int64))), .second, .val (.int (p1 &&& (3 : Int32))), .val (.long n9), .second, .val (.int dd), .val (.int cc), .val (.long (own_wd n9 cc)), .second, .unset]) rfl k) ?_
    show OGo p.tables e below _ (T102.setTop (mkF m 102 #[.val (.long q0), .second, .val (.int p1), .val (.int p2), .val (.long (100000000000000000 : Int64)), .second, .val (.long (q0 &&& (9223372036854775807 : Int64))), .second, .val (.int (p1 &&& (3 : Int32))), .val (.long n9), .second, .val (.int dd), .val (.int cc), .val (.long (own_wd n9 cc)), .second, .unset] []))
    have hwd := own_wd1 n9 cc dd hj76_101
    refine OGo.st (fun t k => XS.lload X102.here hx rfl (hb hby at_102) rfl k) ?_
    show OGo p.tables e below _ (T102.setTop (mkF m 104 #[.val (.long q0), .second, .val (.int p1), .val (.int p2), .val (.long (100000000000000000 : Int64)), .second, .val (.long (q0 &&& (9223372036854775807 : Int64))), .second, .val (.int (p1 &&& (3 : Int32))), .val (.long n9), .second, .val (.int dd), .val (.int cc), .val (.long (own_wd n9 cc)), .second, .unset] [(.long n9)]))
    refine OGo.st (fun t k => XS.lload X102.here hx rfl (hb hby at_104) rfl k) ?_
    show OGo p.tables e below _ (T102.setTop (mkF m 106 #[.val (.long q0), .second, .val (.int p1), .val (.int p2), .val (.long (100000000000000000 : Int64)), .second, .val (.long (q0 &&& (9223372036854775807 : Int64))), .second, .val (.int (p1 &&& (3 : Int32))), .val (.long n9), .second, .val (.int dd), .val (.int cc), .val (.long (own_wd n9 cc)), .second, .unset] [(.long (100000000000000000 : Int64)), (.long n9)]))
    refine OGo.st (fun t k => XS.lcmp X102.here hx rfl (hb hby at_106) rfl k) ?_
    show OGo p.tables e below _ (T102.setTop (mkF m 107 #[.val (.long q0), .second, .val (.int p1), .val (.int p2), .val (.long (100000000000000000 : Int64)), .second, .val (.long (q0 &&& (9223372036854775807 : Int64))), .second, .val (.int (p1 &&& (3 : Int32))), .val (.long n9), .second, .val (.int dd), .val (.int cc), .val (.long (own_wd n9 cc)), .second, .unset] [(.int (lcmpW n9 (100000000000000000 : Int64)))]))
    by_cases hc107_103 : (lcmpW n9 (100000000000000000 : Int64)) < (0 : Int32)
    ·
      refine OGo.st (fun t k => XS.ifNo X102.here hx rfl (hb hby at_107) rfl ((if0 _ _).trans (tlt hc107_103).2.1) k) ?_
      show OGo p.tables e below _ (T102.setTop (mkF m 110 #[.val (.long q0), .second, .val (.int p1), .val (.int p2), .val (.long (100000000000000000 : Int64)), .second, .val (.long (q0 &&& (9223372036854775807 : Int64))), .second, .val (.int (p1 &&& (3 : Int32))), .val (.long n9), .second, .val (.int dd), .val (.int cc), .val (.long (own_wd n9 cc)), .second, .unset] []))
      refine OGo.st (fun t k => XS.lload X102.here hx rfl (hb hby at_110) rfl k) ?_
      show OGo p.tables e below _ (T102.setTop (mkF m 112 #[.val (.long q0), .second, .val (.int p1), .val (.int p2), .val (.long (100000000000000000 : Int64)), .second, .val (.long (q0 &&& (9223372036854775807 : Int64))), .second, .val (.int (p1 &&& (3 : Int32))), .val (.long n9), .second, .val (.int dd), .val (.int cc), .val (.long (own_wd n9 cc)), .second, .unset] [(.long (own_wd n9 cc))]))
      refine OGo.st (fun t k => XS.lconst X102.here hx rfl (hb hby at_112) k) ?_
      show OGo p.tables e below _ (T102.setTop (mkF m 113 #[.val (.long q0), .second, .val (.int p1), .val (.int p2), .val (.long (100000000000000000 : Int64)), .second, .val (.long (q0 &&& (9223372036854775807 : Int64))), .second, .val (.int (p1 &&& (3 : Int32))), .val (.long n9), .second, .val (.int dd), .val (.int cc), .val (.long (own_wd n9 cc)), .second, .unset] [(.long (0 : Int64)), (.long (own_wd n9 cc))]))
      refine OGo.st (fun t k => XS.lcmp X102.here hx rfl (hb hby at_113) rfl k) ?_
      show OGo p.tables e below _ (T102.setTop (mkF m 114 #[.val (.long q0), .second, .val (.int p1), .val (.int p2), .val (.long (100000000000000000 : Int64)), .second, .val (.long (q0 &&& (9223372036854775807 : Int64))), .second, .val (.int (p1 &&& (3 : Int32))), .val (.long n9), .second, .val (.int dd), .val (.int cc), .val (.long (own_wd n9 cc)), .second, .unset] [(.int (lcmpW (own_wd n9 cc) (0 : Int64)))]))
      refine OGo.st (fun t k => XS.ifNo X102.here hx rfl (hb hby at_114) rfl ((if0 _ _).trans (flt ((fun q => own_nn _ n9 _ (hwd ((lw_lt _ _).mp hc107_103) hch hd.1 hd.2) hj76_101 hd.1 ((lw_lt _ _).mp q)) : ¬ ((lcmpW (own_wd n9 cc) (0 : Int64)) < (0 : Int32)))).1) k) ?_
      show OGo p.tables e below _ (T102.setTop (mkF m 117 #[.val (.long q0), .second, .val (.int p1), .val (.int p2), .val (.long (100000000000000000 : Int64)), .second, .val (.long (q0 &&& (9223372036854775807 : Int64))), .second, .val (.int (p1 &&& (3 : Int32))), .val (.long n9), .second, .val (.int dd), .val (.int cc), .val (.long (own_wd n9 cc)), .second, .unset] []))
      refine OGo.st (fun t k => XS.lload X102.here hx rfl (hb hby at_117) rfl k) ?_
      show OGo p.tables e below _ (T102.setTop (mkF m 119 #[.val (.long q0), .second, .val (.int p1), .val (.int p2), .val (.long (100000000000000000 : Int64)), .second, .val (.long (q0 &&& (9223372036854775807 : Int64))), .second, .val (.int (p1 &&& (3 : Int32))), .val (.long n9), .second, .val (.int dd), .val (.int cc), .val (.long (own_wd n9 cc)), .second, .unset] [(.long (own_wd n9 cc))]))
      refine OGo.st (fun t k => X102.ldc2Long hx hown (mvT hZ (hw _ (List.mem_of_getElem? (i := 11) rfl))) (g := (mkF m 119 #[.val (.long q0), .second, .val (.int p1), .val (.int p2), .val (.long (100000000000000000 : Int64)), .second, .val (.long (q0 &&& (9223372036854775807 : Int64))), .second, .val (.int (p1 &&& (3 : Int32))), .val (.long n9), .second, .val (.int dd), .val (.int cc), .val (.long (own_wd n9 cc)), .second, .unset] [(.long (own_wd n9 cc))])) rfl (hb hby at_119) _ k) ?_
      show OGo p.tables e below _ (T102.setTop (mkF m 122 #[.val (.long q0), .second, .val (.int p1), .val (.int p2), .val (.long (100000000000000000 : Int64)), .second, .val (.long (q0 &&& (9223372036854775807 : Int64))), .second, .val (.int (p1 &&& (3 : Int32))), .val (.long n9), .second, .val (.int dd), .val (.int cc), .val (.long (own_wd n9 cc)), .second, .unset] [(.long (10 : Int64)), (.long (own_wd n9 cc))]))
      refine OGo.st (fun t k => XS.ldiv X102.here hx rfl (hb hby at_122) rfl (by decide) k) ?_
      show OGo p.tables e below _ (T102.setTop (mkF m 123 #[.val (.long q0), .second, .val (.int p1), .val (.int p2), .val (.long (100000000000000000 : Int64)), .second, .val (.long (q0 &&& (9223372036854775807 : Int64))), .second, .val (.int (p1 &&& (3 : Int32))), .val (.long n9), .second, .val (.int dd), .val (.int cc), .val (.long (own_wd n9 cc)), .second, .unset] [(.long ((own_wd n9 cc) / (10 : Int64)))]))
      refine OGo.st (fun t k => XS.lload X102.here hx rfl (hb hby at_123) rfl k) ?_
      show OGo p.tables e below _ (T102.setTop (mkF m 125 #[.val (.long q0), .second, .val (.int p1), .val (.int p2), .val (.long (100000000000000000 : Int64)), .second, .val (.long (q0 &&& (9223372036854775807 : Int64))), .second, .val (.int (p1 &&& (3 : Int32))), .val (.long n9), .second, .val (.int dd), .val (.int cc), .val (.long (own_wd n9 cc)), .second, .unset] [(.long n9), (.long ((own_wd n9 cc) / (10 : Int64)))]))
      refine OGo.st (fun t k => XS.lcmp X102.here hx rfl (hb hby at_125) rfl k) ?_
      show OGo p.tables e below _ (T102.setTop (mkF m 126 #[.val (.long q0), .second, .val (.int p1), .val (.int p2), .val (.long (100000000000000000 : Int64)), .second, .val (.long (q0 &&& (9223372036854775807 : Int64))), .second, .val (.int (p1 &&& (3 : Int32))), .val (.long n9), .second, .val (.int dd), .val (.int cc), .val (.long (own_wd n9 cc)), .second, .unset] [(.int (lcmpW ((own_wd n9 cc) / (10 : Int64)) n9))]))
      refine OGo.st (fun t k => XS.ifNo X102.here hx rfl (hb hby at_126) rfl ((if0 _ _).trans (teq (((lw_eq _ _).mpr (own_div _ n9 _ (hwd ((lw_lt _ _).mp hc107_103) hch hd.1 hd.2) hj76_101 hd.1 hd.2)) : (lcmpW ((own_wd n9 cc) / (10 : Int64)) n9) = (0 : Int32))).2) k) ?_
      show OGo p.tables e below _ (T102.setTop (mkF m 129 #[.val (.long q0), .second, .val (.int p1), .val (.int p2), .val (.long (100000000000000000 : Int64)), .second, .val (.long (q0 &&& (9223372036854775807 : Int64))), .second, .val (.int (p1 &&& (3 : Int32))), .val (.long n9), .second, .val (.int dd), .val (.int cc), .val (.long (own_wd n9 cc)), .second, .unset] []))
      refine OGo.st (fun t k => XS.lload X102.here hx rfl (hb hby at_129) rfl k) ?_
      show OGo p.tables e below _ (T102.setTop (mkF m 131 #[.val (.long q0), .second, .val (.int p1), .val (.int p2), .val (.long (100000000000000000 : Int64)), .second, .val (.long (q0 &&& (9223372036854775807 : Int64))), .second, .val (.int (p1 &&& (3 : Int32))), .val (.long n9), .second, .val (.int dd), .val (.int cc), .val (.long (own_wd n9 cc)), .second, .unset] [(.long (own_wd n9 cc))]))
      refine OGo.st (fun t k => X102.ldc2Long hx hown (mvT hZ (hw _ (List.mem_of_getElem? (i := 11) rfl))) (g := (mkF m 131 #[.val (.long q0), .second, .val (.int p1), .val (.int p2), .val (.long (100000000000000000 : Int64)), .second, .val (.long (q0 &&& (9223372036854775807 : Int64))), .second, .val (.int (p1 &&& (3 : Int32))), .val (.long n9), .second, .val (.int dd), .val (.int cc), .val (.long (own_wd n9 cc)), .second, .unset] [(.long (own_wd n9 cc))])) rfl (hb hby at_131) _ k) ?_
      show OGo p.tables e below _ (T102.setTop (mkF m 134 #[.val (.long q0), .second, .val (.int p1), .val (.int p2), .val (.long (100000000000000000 : Int64)), .second, .val (.long (q0 &&& (9223372036854775807 : Int64))), .second, .val (.int (p1 &&& (3 : Int32))), .val (.long n9), .second, .val (.int dd), .val (.int cc), .val (.long (own_wd n9 cc)), .second, .unset] [(.long (10 : Int64)), (.long (own_wd n9 cc))]))
      refine OGo.st (fun t k => XS.lrem X102.here hx rfl (hb hby at_134) rfl (by decide) k) ?_
      show OGo p.tables e below _ (T102.setTop (mkF m 135 #[.val (.long q0), .second, .val (.int p1), .val (.int p2), .val (.long (100000000000000000 : Int64)), .second, .val (.long (q0 &&& (9223372036854775807 : Int64))), .second, .val (.int (p1 &&& (3 : Int32))), .val (.long n9), .second, .val (.int dd), .val (.int cc), .val (.long (own_wd n9 cc)), .second, .unset] [(.long ((own_wd n9 cc) - ((own_wd n9 cc) / (10 : Int64)) * (10 : Int64)))]))
      refine OGo.st (fun t k => XS.iload X102.here hx rfl (hb hby at_135) rfl k) ?_
      show OGo p.tables e below _ (T102.setTop (mkF m 137 #[.val (.long q0), .second, .val (.int p1), .val (.int p2), .val (.long (100000000000000000 : Int64)), .second, .val (.long (q0 &&& (9223372036854775807 : Int64))), .second, .val (.int (p1 &&& (3 : Int32))), .val (.long n9), .second, .val (.int dd), .val (.int cc), .val (.long (own_wd n9 cc)), .second, .unset] [(.int dd), (.long ((own_wd n9 cc) - ((own_wd n9 cc) / (10 : Int64)) * (10 : Int64)))]))
      refine OGo.st (fun t k => XS.i2l X102.here hx rfl (hb hby at_137) rfl k) ?_
      show OGo p.tables e below _ (T102.setTop (mkF m 138 #[.val (.long q0), .second, .val (.int p1), .val (.int p2), .val (.long (100000000000000000 : Int64)), .second, .val (.long (q0 &&& (9223372036854775807 : Int64))), .second, .val (.int (p1 &&& (3 : Int32))), .val (.long n9), .second, .val (.int dd), .val (.int cc), .val (.long (own_wd n9 cc)), .second, .unset] [(.long ((dd).toInt64)), (.long ((own_wd n9 cc) - ((own_wd n9 cc) / (10 : Int64)) * (10 : Int64)))]))
      refine OGo.st (fun t k => XS.lcmp X102.here hx rfl (hb hby at_138) rfl k) ?_
      show OGo p.tables e below _ (T102.setTop (mkF m 139 #[.val (.long q0), .second, .val (.int p1), .val (.int p2), .val (.long (100000000000000000 : Int64)), .second, .val (.long (q0 &&& (9223372036854775807 : Int64))), .second, .val (.int (p1 &&& (3 : Int32))), .val (.long n9), .second, .val (.int dd), .val (.int cc), .val (.long (own_wd n9 cc)), .second, .unset] [(.int (lcmpW ((own_wd n9 cc) - ((own_wd n9 cc) / (10 : Int64)) * (10 : Int64)) ((dd).toInt64)))]))
      refine OGo.st (fun t k => XS.ifNo X102.here hx rfl (hb hby at_139) rfl ((if0 _ _).trans (teq (((lw_eq _ _).mpr (own_rem _ n9 _ (hwd ((lw_lt _ _).mp hc107_103) hch hd.1 hd.2) hj76_101 hd.1 hd.2)) : (lcmpW ((own_wd n9 cc) - ((own_wd n9 cc) / (10 : Int64)) * (10 : Int64)) ((dd).toInt64)) = (0 : Int32))).2) k) ?_
      show OGo p.tables e below _ (T102.setTop (mkF m 142 #[.val (.long q0), .second, .val (.int p1), .val (.int p2), .val (.long (100000000000000000 : Int64)), .second, .val (.long (q0 &&& (9223372036854775807 : Int64))), .second, .val (.int (p1 &&& (3 : Int32))), .val (.long n9), .second, .val (.int dd), .val (.int cc), .val (.long (own_wd n9 cc)), .second, .unset] []))
      refine OGo.st (fun t k => XS.iconst X102.here hx rfl (hb hby at_142) k) ?_
      show OGo p.tables e below _ (T102.setTop (mkF m 143 #[.val (.long q0), .second, .val (.int p1), .val (.int p2), .val (.long (100000000000000000 : Int64)), .second, .val (.long (q0 &&& (9223372036854775807 : Int64))), .second, .val (.int (p1 &&& (3 : Int32))), .val (.long n9), .second, .val (.int dd), .val (.int cc), .val (.long (own_wd n9 cc)), .second, .unset] [(.int (1 : Int32))]))
      refine OGo.st (fun t k => XS.goto X102.here hx rfl (pc0 := 143) (pc' := 147) rfl (hb hby at_143) (by decide) (by decide) k) ?_
      show OGo p.tables e below _ (T102.setTop (mkF m 147 #[.val (.long q0), .second, .val (.int p1), .val (.int p2), .val (.long (100000000000000000 : Int64)), .second, .val (.long (q0 &&& (9223372036854775807 : Int64))), .second, .val (.int (p1 &&& (3 : Int32))), .val (.long n9), .second, .val (.int dd), .val (.int cc), .val (.long (own_wd n9 cc)), .second, .unset] [(.int (1 : Int32))]))
      refine OGo.st (fun t k => XS.istore X102.here hx rfl (hb hby at_147) rfl (l' := #[.val (.long q0), .second, .val (.int p1), .val (.int p2), .val (.long (100000000000000000 : Int64)), .second, .val (.long (q0 &&& (9223372036854775807 : Int64))), .second, .val (.int (p1 &&& (3 : Int32))), .val (.long n9), .second, .val (.int dd), .val (.int cc), .val (.long (own_wd n9 cc)), .second, .val (.int (1 : Int32))]) rfl k) ?_
      show OGo p.tables e below _ (T102.setTop (mkF m 149 #[.val (.long q0), .second, .val (.int p1), .val (.int p2), .val (.long (100000000000000000 : Int64)), .second, .val (.long (q0 &&& (9223372036854775807 : Int64))), .second, .val (.int (p1 &&& (3 : Int32))), .val (.long n9), .second, .val (.int dd), .val (.int cc), .val (.long (own_wd n9 cc)), .second, .val (.int (1 : Int32))] []))
      refine OGo.st (fun t k => XS.goto X102.here hx rfl (pc0 := 149) (pc' := 168) rfl (hb hby at_149) (by decide) (by decide) k) ?_
      show OGo p.tables e below _ (T102.setTop (mkF m 168 #[.val (.long q0), .second, .val (.int p1), .val (.int p2), .val (.long (100000000000000000 : Int64)), .second, .val (.long (q0 &&& (9223372036854775807 : Int64))), .second, .val (.int (p1 &&& (3 : Int32))), .val (.long n9), .second, .val (.int dd), .val (.int cc), .val (.long (own_wd n9 cc)), .second, .val (.int (1 : Int32))] []))
      refine OGo.st (fun t k => XS.iload X102.here hx rfl (hb hby at_168) rfl k) ?_
      show OGo p.tables e below _ (T102.setTop (mkF m 170 #[.val (.long q0), .second, .val (.int p1), .val (.int p2), .val (.long (100000000000000000 : Int64)), .second, .val (.long (q0 &&& (9223372036854775807 : Int64))), .second, .val (.int (p1 &&& (3 : Int32))), .val (.long n9), .second, .val (.int dd), .val (.int cc), .val (.long (own_wd n9 cc)), .second, .val (.int (1 : Int32))] [(.int (1 : Int32))]))
      refine OGo.st (fun t k => XS.ifNo X102.here hx rfl (hb hby at_170) rfl ((if0 _ _).trans (feq (by decide : ¬ ((1 : Int32) = (0 : Int32)))).1) k) ?_
      show OGo p.tables e below _ (T102.setTop (mkF m 173 #[.val (.long q0), .second, .val (.int p1), .val (.int p2), .val (.long (100000000000000000 : Int64)), .second, .val (.long (q0 &&& (9223372036854775807 : Int64))), .second, .val (.int (p1 &&& (3 : Int32))), .val (.long n9), .second, .val (.int dd), .val (.int cc), .val (.long (own_wd n9 cc)), .second, .val (.int (1 : Int32))] []))
      refine OGo.st (fun t k => X102.ldc2Long hx hown (mvT hZ (hw _ (List.mem_of_getElem? (i := 1) rfl))) (g := (mkF m 173 #[.val (.long q0), .second, .val (.int p1), .val (.int p2), .val (.long (100000000000000000 : Int64)), .second, .val (.long (q0 &&& (9223372036854775807 : Int64))), .second, .val (.int (p1 &&& (3 : Int32))), .val (.long n9), .second, .val (.int dd), .val (.int cc), .val (.long (own_wd n9 cc)), .second, .val (.int (1 : Int32))] [])) rfl (hb hby at_173) _ k) ?_
      show OGo p.tables e below _ (T102.setTop (mkF m 176 #[.val (.long q0), .second, .val (.int p1), .val (.int p2), .val (.long (100000000000000000 : Int64)), .second, .val (.long (q0 &&& (9223372036854775807 : Int64))), .second, .val (.int (p1 &&& (3 : Int32))), .val (.long n9), .second, .val (.int dd), .val (.int cc), .val (.long (own_wd n9 cc)), .second, .val (.int (1 : Int32))] [(.long (9223372036854775807 : Int64))]))
      refine OGo.st (fun t k => XS.iload X102.here hx rfl (hb hby at_176) rfl k) ?_
      show OGo p.tables e below _ (T102.setTop (mkF m 178 #[.val (.long q0), .second, .val (.int p1), .val (.int p2), .val (.long (100000000000000000 : Int64)), .second, .val (.long (q0 &&& (9223372036854775807 : Int64))), .second, .val (.int (p1 &&& (3 : Int32))), .val (.long n9), .second, .val (.int dd), .val (.int cc), .val (.long (own_wd n9 cc)), .second, .val (.int (1 : Int32))] [(.int cc), (.long (9223372036854775807 : Int64))]))
      obtain ⟨_, _, ⟨T104, L104, kk104, nn104⟩, -, X104, ⟨Lc104, hQ104, l104, y104, z104⟩, st104⟩ := Jvm.LawKit.callS X102 hx (y := (⟨"com/example/montage_book/montagebook/Numerals", "withDigit", "(JC)J"⟩ : MethodName)) hown (mvT hZ (hw _ (List.mem_of_getElem? (i := 5) rfl))) (mvT hZ (hw _ (List.mem_of_getElem? (i := 6) rfl))) (mvT hZ (hw _ (List.mem_of_getElem? (i := 7) rfl))) (mvT hZ (hw _ (List.mem_of_getElem? (i := 8) rfl))) (by decide) (backOf (W := 0) (rm0 l Z ar hw [] (9223372036854775807 : Int64) cc h0 n0 Z0 ) hZ (hw _ (List.mem_of_getElem? (i := 8) rfl)) (hw _ (List.mem_of_getElem? (i := 7) rfl)) (by decide) (by decide)) (g := (mkF m 178 #[.val (.long q0), .second, .val (.int p1), .val (.int p2), .val (.long (100000000000000000 : Int64)), .second, .val (.long (q0 &&& (9223372036854775807 : Int64))), .second, .val (.int (p1 &&& (3 : Int32))), .val (.long n9), .second, .val (.int dd), .val (.int cc), .val (.long (own_wd n9 cc)), .second, .val (.int (1 : Int32))] [(.int cc), (.long (9223372036854775807 : Int64))])) rfl (by rw [hml]; rfl) (argsL := [(.long (9223372036854775807 : Int64)), (.int cc)]) (rest := []) (lenOf pd_0 rfl) rfl (by show 2 * 0 + _ ≤ _; exact Nat.le_of_eq rfl) (hb hby at_178) (fun _ _ => ⟨rfl, e102, (by decide : 0 + 0 ≤ _), (by decide : 0 + 0 ≤ _)⟩)
      dsimp only [Pt.U, Pt.locs, Pt.cells, Pt.slots] at X104 l104 y104 z104 st104 hQ104
      subst l104 y104 z104
      obtain ⟨rfl, Nq104, hh104⟩ := hQ104
      have N104 := Fr.app N102 Nq104
      refine OGo.st st104 ?_
      have e104 : T104.heap = h0 := hh104
      show OGo p.tables e below _ (T104.setTop (mkF m 181 #[.val (.long q0), .second, .val (.int p1), .val (.int p2), .val (.long (100000000000000000 : Int64)), .second, .val (.long (q0 &&& (9223372036854775807 : Int64))), .second, .val (.int (p1 &&& (3 : Int32))), .val (.long n9), .second, .val (.int dd), .val (.int cc), .val (.long (own_wd n9 cc)), .second, .val (.int (1 : Int32))] [(.long (own_wd (9223372036854775807 : Int64) cc))]))
      refine OGo.st (fun t k => X104.ldc2Long hx hown (mvT hZ (hw _ (List.mem_of_getElem? (i := 1) rfl))) (g := (mkF m 181 #[.val (.long q0), .second, .val (.int p1), .val (.int p2), .val (.long (100000000000000000 : Int64)), .second, .val (.long (q0 &&& (9223372036854775807 : Int64))), .second, .val (.int (p1 &&& (3 : Int32))), .val (.long n9), .second, .val (.int dd), .val (.int cc), .val (.long (own_wd n9 cc)), .second, .val (.int (1 : Int32))] [(.long (own_wd (9223372036854775807 : Int64) cc))])) rfl (hb hby at_181) _ k) ?_
      show OGo p.tables e below _ (T104.setTop (mkF m 184 #[.val (.long q0), .second, .val (.int p1), .val (.int p2), .val (.long (100000000000000000 : Int64)), .second, .val (.long (q0 &&& (9223372036854775807 : Int64))), .second, .val (.int (p1 &&& (3 : Int32))), .val (.long n9), .second, .val (.int dd), .val (.int cc), .val (.long (own_wd n9 cc)), .second, .val (.int (1 : Int32))] [(.long (9223372036854775807 : Int64)), (.long (own_wd (9223372036854775807 : Int64) cc))]))
      refine OGo.st (fun t k => XS.lcmp X104.here hx rfl (hb hby at_184) rfl k) ?_
      show OGo p.tables e below _ (T104.setTop (mkF m 185 #[.val (.long q0), .second, .val (.int p1), .val (.int p2), .val (.long (100000000000000000 : Int64)), .second, .val (.long (q0 &&& (9223372036854775807 : Int64))), .second, .val (.int (p1 &&& (3 : Int32))), .val (.long n9), .second, .val (.int dd), .val (.int cc), .val (.long (own_wd n9 cc)), .second, .val (.int (1 : Int32))] [(.int (lcmpW (own_wd (9223372036854775807 : Int64) cc) (9223372036854775807 : Int64)))]))
      refine OGo.st (fun t k => XS.ifNo X104.here hx rfl (hb hby at_185) rfl ((if0 _ _).trans (teq (((lw_eq _ _).mpr (own_max _)) : (lcmpW (own_wd (9223372036854775807 : Int64) cc) (9223372036854775807 : Int64)) = (0 : Int32))).2) k) ?_
      show OGo p.tables e below _ (T104.setTop (mkF m 188 #[.val (.long q0), .second, .val (.int p1), .val (.int p2), .val (.long (100000000000000000 : Int64)), .second, .val (.long (q0 &&& (9223372036854775807 : Int64))), .second, .val (.int (p1 &&& (3 : Int32))), .val (.long n9), .second, .val (.int dd), .val (.int cc), .val (.long (own_wd n9 cc)), .second, .val (.int (1 : Int32))] []))
      refine OGo.st (fun t k => XS.iconst X104.here hx rfl (hb hby at_188) k) ?_
      show OGo p.tables e below _ (T104.setTop (mkF m 189 #[.val (.long q0), .second, .val (.int p1), .val (.int p2), .val (.long (100000000000000000 : Int64)), .second, .val (.long (q0 &&& (9223372036854775807 : Int64))), .second, .val (.int (p1 &&& (3 : Int32))), .val (.long n9), .second, .val (.int dd), .val (.int cc), .val (.long (own_wd n9 cc)), .second, .val (.int (1 : Int32))] [(.int (1 : Int32))]))
      refine OGo.st (fun t k => XS.goto X104.here hx rfl (pc0 := 189) (pc' := 193) rfl (hb hby at_189) (by decide) (by decide) k) ?_
      show OGo p.tables e below _ (T104.setTop (mkF m 193 #[.val (.long q0), .second, .val (.int p1), .val (.int p2), .val (.long (100000000000000000 : Int64)), .second, .val (.long (q0 &&& (9223372036854775807 : Int64))), .second, .val (.int (p1 &&& (3 : Int32))), .val (.long n9), .second, .val (.int dd), .val (.int cc), .val (.long (own_wd n9 cc)), .second, .val (.int (1 : Int32))] [(.int (1 : Int32))]))
      obtain ⟨fs, hr, hrun, hended, hW, hsame⟩ := X104.leave (v := some (.int (1 : Int32))) (fun h => by rw [Bd.returns] at h; cases h)
      refine OGo.done (retN X104 hx (t := .boolean) Bd.returns (by simp) (hb hby at_193) hr) ⟨hrun, hended, _, _, rfl, ?_, ⟨_, rfl⟩, hW, hsame.mono (by decide) (by decide)⟩
      show Q1 Z q0 p1 p2 h0 n0 _ T104.heap _
      rw [e104]
      exact ⟨rfl, N104⟩
    ·
      refine OGo.st (fun t k => XS.ifYes X102.here hx rfl (pc0 := 107) (pc' := 152) rfl (hb hby at_107) rfl ((if0 _ _).trans (flt hc107_103).2.1) (by decide) (by decide) k) ?_
      show OGo p.tables e below _ (T102.setTop (mkF m 152 #[.val (.long q0), .second, .val (.int p1), .val (.int p2), .val (.long (100000000000000000 : Int64)), .second, .val (.long (q0 &&& (9223372036854775807 : Int64))), .second, .val (.int (p1 &&& (3 : Int32))), .val (.long n9), .second, .val (.int dd), .val (.int cc), .val (.long (own_wd n9 cc)), .second, .unset] []))
      refine OGo.st (fun t k => XS.lload X102.here hx rfl (hb hby at_152) rfl k) ?_
      show OGo p.tables e below _ (T102.setTop (mkF m 154 #[.val (.long q0), .second, .val (.int p1), .val (.int p2), .val (.long (100000000000000000 : Int64)), .second, .val (.long (q0 &&& (9223372036854775807 : Int64))), .second, .val (.int (p1 &&& (3 : Int32))), .val (.long n9), .second, .val (.int dd), .val (.int cc), .val (.long (own_wd n9 cc)), .second, .unset] [(.long (own_wd n9 cc))]))
      refine OGo.st (fun t k => X102.ldc2Long hx hown (mvT hZ (hw _ (List.mem_of_getElem? (i := 1) rfl))) (g := (mkF m 154 #[.val (.long q0), .second, .val (.int p1), .val (.int p2), .val (.long (100000000000000000 : Int64)), .second, .val (.long (q0 &&& (9223372036854775807 : Int64))), .second, .val (.int (p1 &&& (3 : Int32))), .val (.long n9), .second, .val (.int dd), .val (.int cc), .val (.long (own_wd n9 cc)), .second, .unset] [(.long (own_wd n9 cc))])) rfl (hb hby at_154) _ k) ?_
      show OGo p.tables e below _ (T102.setTop (mkF m 157 #[.val (.long q0), .second, .val (.int p1), .val (.int p2), .val (.long (100000000000000000 : Int64)), .second, .val (.long (q0 &&& (9223372036854775807 : Int64))), .second, .val (.int (p1 &&& (3 : Int32))), .val (.long n9), .second, .val (.int dd), .val (.int cc), .val (.long (own_wd n9 cc)), .second, .unset] [(.long (9223372036854775807 : Int64)), (.long (own_wd n9 cc))]))
      refine OGo.st (fun t k => XS.lcmp X102.here hx rfl (hb hby at_157) rfl k) ?_
      show OGo p.tables e below _ (T102.setTop (mkF m 158 #[.val (.long q0), .second, .val (.int p1), .val (.int p2), .val (.long (100000000000000000 : Int64)), .second, .val (.long (q0 &&& (9223372036854775807 : Int64))), .second, .val (.int (p1 &&& (3 : Int32))), .val (.long n9), .second, .val (.int dd), .val (.int cc), .val (.long (own_wd n9 cc)), .second, .unset] [(.int (lcmpW (own_wd n9 cc) (9223372036854775807 : Int64)))]))
      refine OGo.st (fun t k => XS.ifNo X102.here hx rfl (hb hby at_158) rfl ((if0 _ _).trans (teq (((lw_eq _ _).mpr (by rw [own_wd, if_neg (fun q => hc107_103 ((lw_lt _ _).mpr q))])) : (lcmpW (own_wd n9 cc) (9223372036854775807 : Int64)) = (0 : Int32))).2) k) ?_
      show OGo p.tables e below _ (T102.setTop (mkF m 161 #[.val (.long q0), .second, .val (.int p1), .val (.int p2), .val (.long (100000000000000000 : Int64)), .second, .val (.long (q0 &&& (9223372036854775807 : Int64))), .second, .val (.int (p1 &&& (3 : Int32))), .val (.long n9), .second, .val (.int dd), .val (.int cc), .val (.long (own_wd n9 cc)), .second, .unset] []))
      refine OGo.st (fun t k => XS.iconst X102.here hx rfl (hb hby at_161) k) ?_
      show OGo p.tables e below _ (T102.setTop (mkF m 162 #[.val (.long q0), .second, .val (.int p1), .val (.int p2), .val (.long (100000000000000000 : Int64)), .second, .val (.long (q0 &&& (9223372036854775807 : Int64))), .second, .val (.int (p1 &&& (3 : Int32))), .val (.long n9), .second, .val (.int dd), .val (.int cc), .val (.long (own_wd n9 cc)), .second, .unset] [(.int (1 : Int32))]))
      refine OGo.st (fun t k => XS.goto X102.here hx rfl (pc0 := 162) (pc' := 166) rfl (hb hby at_162) (by decide) (by decide) k) ?_
      show OGo p.tables e below _ (T102.setTop (mkF m 166 #[.val (.long q0), .second, .val (.int p1), .val (.int p2), .val (.long (100000000000000000 : Int64)), .second, .val (.long (q0 &&& (9223372036854775807 : Int64))), .second, .val (.int (p1 &&& (3 : Int32))), .val (.long n9), .second, .val (.int dd), .val (.int cc), .val (.long (own_wd n9 cc)), .second, .unset] [(.int (1 : Int32))]))
      refine OGo.st (fun t k => XS.istore X102.here hx rfl (hb hby at_166) rfl (l' := #[.val (.long q0), .second, .val (.int p1), .val (.int p2), .val (.long (100000000000000000 : Int64)), .second, .val (.long (q0 &&& (9223372036854775807 : Int64))), .second, .val (.int (p1 &&& (3 : Int32))), .val (.long n9), .second, .val (.int dd), .val (.int cc), .val (.long (own_wd n9 cc)), .second, .val (.int (1 : Int32))]) rfl k) ?_
      show OGo p.tables e below _ (T102.setTop (mkF m 168 #[.val (.long q0), .second, .val (.int p1), .val (.int p2), .val (.long (100000000000000000 : Int64)), .second, .val (.long (q0 &&& (9223372036854775807 : Int64))), .second, .val (.int (p1 &&& (3 : Int32))), .val (.long n9), .second, .val (.int dd), .val (.int cc), .val (.long (own_wd n9 cc)), .second, .val (.int (1 : Int32))] []))
      refine OGo.st (fun t k => XS.iload X102.here hx rfl (hb hby at_168) rfl k) ?_
      show OGo p.tables e below _ (T102.setTop (mkF m 170 #[.val (.long q0), .second, .val (.int p1), .val (.int p2), .val (.long (100000000000000000 : Int64)), .second, .val (.long (q0 &&& (9223372036854775807 : Int64))), .second, .val (.int (p1 &&& (3 : Int32))), .val (.long n9), .second, .val (.int dd), .val (.int cc), .val (.long (own_wd n9 cc)), .second, .val (.int (1 : Int32))] [(.int (1 : Int32))]))
      refine OGo.st (fun t k => XS.ifNo X102.here hx rfl (hb hby at_170) rfl ((if0 _ _).trans (feq (by decide : ¬ ((1 : Int32) = (0 : Int32)))).1) k) ?_
      show OGo p.tables e below _ (T102.setTop (mkF m 173 #[.val (.long q0), .second, .val (.int p1), .val (.int p2), .val (.long (100000000000000000 : Int64)), .second, .val (.long (q0 &&& (9223372036854775807 : Int64))), .second, .val (.int (p1 &&& (3 : Int32))), .val (.long n9), .second, .val (.int dd), .val (.int cc), .val (.long (own_wd n9 cc)), .second, .val (.int (1 : Int32))] []))
      refine OGo.st (fun t k => X102.ldc2Long hx hown (mvT hZ (hw _ (List.mem_of_getElem? (i := 1) rfl))) (g := (mkF m 173 #[.val (.long q0), .second, .val (.int p1), .val (.int p2), .val (.long (100000000000000000 : Int64)), .second, .val (.long (q0 &&& (9223372036854775807 : Int64))), .second, .val (.int (p1 &&& (3 : Int32))), .val (.long n9), .second, .val (.int dd), .val (.int cc), .val (.long (own_wd n9 cc)), .second, .val (.int (1 : Int32))] [])) rfl (hb hby at_173) _ k) ?_
      show OGo p.tables e below _ (T102.setTop (mkF m 176 #[.val (.long q0), .second, .val (.int p1), .val (.int p2), .val (.long (100000000000000000 : Int64)), .second, .val (.long (q0 &&& (9223372036854775807 : Int64))), .second, .val (.int (p1 &&& (3 : Int32))), .val (.long n9), .second, .val (.int dd), .val (.int cc), .val (.long (own_wd n9 cc)), .second, .val (.int (1 : Int32))] [(.long (9223372036854775807 : Int64))]))
      refine OGo.st (fun t k => XS.iload X102.here hx rfl (hb hby at_176) rfl k) ?_
      show OGo p.tables e below _ (T102.setTop (mkF m 178 #[.val (.long q0), .second, .val (.int p1), .val (.int p2), .val (.long (100000000000000000 : Int64)), .second, .val (.long (q0 &&& (9223372036854775807 : Int64))), .second, .val (.int (p1 &&& (3 : Int32))), .val (.long n9), .second, .val (.int dd), .val (.int cc), .val (.long (own_wd n9 cc)), .second, .val (.int (1 : Int32))] [(.int cc), (.long (9223372036854775807 : Int64))]))
      obtain ⟨_, _, ⟨T106, L106, kk106, nn106⟩, -, X106, ⟨Lc106, hQ106, l106, y106, z106⟩, st106⟩ := Jvm.LawKit.callS X102 hx (y := (⟨"com/example/montage_book/montagebook/Numerals", "withDigit", "(JC)J"⟩ : MethodName)) hown (mvT hZ (hw _ (List.mem_of_getElem? (i := 5) rfl))) (mvT hZ (hw _ (List.mem_of_getElem? (i := 6) rfl))) (mvT hZ (hw _ (List.mem_of_getElem? (i := 7) rfl))) (mvT hZ (hw _ (List.mem_of_getElem? (i := 8) rfl))) (by decide) (backOf (W := 0) (rm0 l Z ar hw [] (9223372036854775807 : Int64) cc h0 n0 Z0 ) hZ (hw _ (List.mem_of_getElem? (i := 8) rfl)) (hw _ (List.mem_of_getElem? (i := 7) rfl)) (by decide) (by decide)) (g := (mkF m 178 #[.val (.long q0), .second, .val (.int p1), .val (.int p2), .val (.long (100000000000000000 : Int64)), .second, .val (.long (q0 &&& (9223372036854775807 : Int64))), .second, .val (.int (p1 &&& (3 : Int32))), .val (.long n9), .second, .val (.int dd), .val (.int cc), .val (.long (own_wd n9 cc)), .second, .val (.int (1 : Int32))] [(.int cc), (.long (9223372036854775807 : Int64))])) rfl (by rw [hml]; rfl) (argsL := [(.long (9223372036854775807 : Int64)), (.int cc)]) (rest := []) (lenOf pd_0 rfl) rfl (by show 2 * 0 + _ ≤ _; exact Nat.le_of_eq rfl) (hb hby at_178) (fun _ _ => ⟨rfl, e102, (by decide : 0 + 0 ≤ _), (by decide : 0 + 0 ≤ _)⟩)
      dsimp only [Pt.U, Pt.locs, Pt.cells, Pt.slots] at X106 l106 y106 z106 st106 hQ106
      subst l106 y106 z106
      obtain ⟨rfl, Nq106, hh106⟩ := hQ106
      have N106 := Fr.app N102 Nq106
      refine OGo.st st106 ?_
      have e106 : T106.heap = h0 := hh106
      show OGo p.tables e below _ (T106.setTop (mkF m 181 #[.val (.long q0), .second, .val (.int p1), .val (.int p2), .val (.long (100000000000000000 : Int64)), .second, .val (.long (q0 &&& (9223372036854775807 : Int64))), .second, .val (.int (p1 &&& (3 : Int32))), .val (.long n9), .second, .val (.int dd), .val (.int cc), .val (.long (own_wd n9 cc)), .second, .val (.int (1 : Int32))] [(.long (own_wd (9223372036854775807 : Int64) cc))]))
      refine OGo.st (fun t k => X106.ldc2Long hx hown (mvT hZ (hw _ (List.mem_of_getElem? (i := 1) rfl))) (g := (mkF m 181 #[.val (.long q0), .second, .val (.int p1), .val (.int p2), .val (.long (100000000000000000 : Int64)), .second, .val (.long (q0 &&& (9223372036854775807 : Int64))), .second, .val (.int (p1 &&& (3 : Int32))), .val (.long n9), .second, .val (.int dd), .val (.int cc), .val (.long (own_wd n9 cc)), .second, .val (.int (1 : Int32))] [(.long (own_wd (9223372036854775807 : Int64) cc))])) rfl (hb hby at_181) _ k) ?_
      show OGo p.tables e below _ (T106.setTop (mkF m 184 #[.val (.long q0), .second, .val (.int p1), .val (.int p2), .val (.long (100000000000000000 : Int64)), .second, .val (.long (q0 &&& (9223372036854775807 : Int64))), .second, .val (.int (p1 &&& (3 : Int32))), .val (.long n9), .second, .val (.int dd), .val (.int cc), .val (.long (own_wd n9 cc)), .second, .val (.int (1 : Int32))] [(.long (9223372036854775807 : Int64)), (.long (own_wd (9223372036854775807 : Int64) cc))]))
      refine OGo.st (fun t k => XS.lcmp X106.here hx rfl (hb hby at_184) rfl k) ?_
      show OGo p.tables e below _ (T106.setTop (mkF m 185 #[.val (.long q0), .second, .val (.int p1), .val (.int p2), .val (.long (100000000000000000 : Int64)), .second, .val (.long (q0 &&& (9223372036854775807 : Int64))), .second, .val (.int (p1 &&& (3 : Int32))), .val (.long n9), .second, .val (.int dd), .val (.int cc), .val (.long (own_wd n9 cc)), .second, .val (.int (1 : Int32))] [(.int (lcmpW (own_wd (9223372036854775807 : Int64) cc) (9223372036854775807 : Int64)))]))
      refine OGo.st (fun t k => XS.ifNo X106.here hx rfl (hb hby at_185) rfl ((if0 _ _).trans (teq (((lw_eq _ _).mpr (own_max _)) : (lcmpW (own_wd (9223372036854775807 : Int64) cc) (9223372036854775807 : Int64)) = (0 : Int32))).2) k) ?_
      show OGo p.tables e below _ (T106.setTop (mkF m 188 #[.val (.long q0), .second, .val (.int p1), .val (.int p2), .val (.long (100000000000000000 : Int64)), .second, .val (.long (q0 &&& (9223372036854775807 : Int64))), .second, .val (.int (p1 &&& (3 : Int32))), .val (.long n9), .second, .val (.int dd), .val (.int cc), .val (.long (own_wd n9 cc)), .second, .val (.int (1 : Int32))] []))
      refine OGo.st (fun t k => XS.iconst X106.here hx rfl (hb hby at_188) k) ?_
      show OGo p.tables e below _ (T106.setTop (mkF m 189 #[.val (.long q0), .second, .val (.int p1), .val (.int p2), .val (.long (100000000000000000 : Int64)), .second, .val (.long (q0 &&& (9223372036854775807 : Int64))), .second, .val (.int (p1 &&& (3 : Int32))), .val (.long n9), .second, .val (.int dd), .val (.int cc), .val (.long (own_wd n9 cc)), .second, .val (.int (1 : Int32))] [(.int (1 : Int32))]))
      refine OGo.st (fun t k => XS.goto X106.here hx rfl (pc0 := 189) (pc' := 193) rfl (hb hby at_189) (by decide) (by decide) k) ?_
      show OGo p.tables e below _ (T106.setTop (mkF m 193 #[.val (.long q0), .second, .val (.int p1), .val (.int p2), .val (.long (100000000000000000 : Int64)), .second, .val (.long (q0 &&& (9223372036854775807 : Int64))), .second, .val (.int (p1 &&& (3 : Int32))), .val (.long n9), .second, .val (.int dd), .val (.int cc), .val (.long (own_wd n9 cc)), .second, .val (.int (1 : Int32))] [(.int (1 : Int32))]))
      obtain ⟨fs, hr, hrun, hended, hW, hsame⟩ := X106.leave (v := some (.int (1 : Int32))) (fun h => by rw [Bd.returns] at h; cases h)
      refine OGo.done (retN X106 hx (t := .boolean) Bd.returns (by simp) (hb hby at_193) hr) ⟨hrun, hended, _, _, rfl, ?_, ⟨_, rfl⟩, hW, hsame.mono (by decide) (by decide)⟩
      show Q1 Z q0 p1 p2 h0 n0 _ T106.heap _
      rw [e106]
      exact ⟨rfl, N106⟩
  refine OGo.st (fun t k => X0.ldc2Long hx hown (mvT hZ (hw _ (List.mem_of_getElem? (i := 0) rfl))) (g := (mkF m 0 #[.val (.long q0), .second, .val (.int p1), .val (.int p2), .unset, .unset, .unset, .unset, .unset, .unset, .unset, .unset, .unset, .unset, .unset, .unset] [])) rfl (hb hby at_0) _ k) ?_
  show OGo p.tables e below _ (s₁.setTop (mkF m 3 #[.val (.long q0), .second, .val (.int p1), .val (.int p2), .unset, .unset, .unset, .unset, .unset, .unset, .unset, .unset, .unset, .unset, .unset, .unset] [(.long (100000000000000000 : Int64))]))
  refine OGo.st (fun t k => XS.lstore X0.here hx rfl (hb hby at_3) rfl (l' := #[.val (.long q0), .second, .val (.int p1), .val (.int p2), .val (.long (100000000000000000 : Int64)), .second, .unset, .unset, .unset, .unset, .unset, .unset, .unset, .unset, .unset, .unset]) rfl k) ?_
  show OGo p.tables e below _ (s₁.setTop (mkF m 5 #[.val (.long q0), .second, .val (.int p1), .val (.int p2), .val (.long (100000000000000000 : Int64)), .second, .unset, .unset, .unset, .unset, .unset, .unset, .unset, .unset, .unset, .unset] []))
  refine OGo.st (fun t k => XS.lloadN X0.here hx rfl (hb hby at_5) rfl k) ?_
  show OGo p.tables e below _ (s₁.setTop (mkF m 6 #[.val (.long q0), .second, .val (.int p1), .val (.int p2), .val (.long (100000000000000000 : Int64)), .second, .unset, .unset, .unset, .unset, .unset, .unset, .unset, .unset, .unset, .unset] [(.long q0)]))
  refine OGo.st (fun t k => X0.ldc2Long hx hown (mvT hZ (hw _ (List.mem_of_getElem? (i := 1) rfl))) (g := (mkF m 6 #[.val (.long q0), .second, .val (.int p1), .val (.int p2), .val (.long (100000000000000000 : Int64)), .second, .unset, .unset, .unset, .unset, .unset, .unset, .unset, .unset, .unset, .unset] [(.long q0)])) rfl (hb hby at_6) _ k) ?_
  show OGo p.tables e below _ (s₁.setTop (mkF m 9 #[.val (.long q0), .second, .val (.int p1), .val (.int p2), .val (.long (100000000000000000 : Int64)), .second, .unset, .unset, .unset, .unset, .unset, .unset, .unset, .unset, .unset, .unset] [(.long (9223372036854775807 : Int64)), (.long q0)]))
  refine OGo.st (fun t k => XS.land X0.here hx rfl (hb hby at_9) rfl k) ?_
  show OGo p.tables e below _ (s₁.setTop (mkF m 10 #[.val (.long q0), .second, .val (.int p1), .val (.int p2), .val (.long (100000000000000000 : Int64)), .second, .unset, .unset, .unset, .unset, .unset, .unset, .unset, .unset, .unset, .unset] [(.long (q0 &&& (9223372036854775807 : Int64)))]))
  refine OGo.st (fun t k => XS.lstore X0.here hx rfl (hb hby at_10) rfl (l' := #[.val (.long q0), .second, .val (.int p1), .val (.int p2), .val (.long (100000000000000000 : Int64)), .second, .val (.long (q0 &&& (9223372036854775807 : Int64))), .second, .unset, .unset, .unset, .unset, .unset, .unset, .unset, .unset]) rfl k) ?_
  show OGo p.tables e below _ (s₁.setTop (mkF m 12 #[.val (.long q0), .second, .val (.int p1), .val (.int p2), .val (.long (100000000000000000 : Int64)), .second, .val (.long (q0 &&& (9223372036854775807 : Int64))), .second, .unset, .unset, .unset, .unset, .unset, .unset, .unset, .unset] []))
  refine OGo.st (fun t k => XS.iloadN X0.here hx rfl (hb hby at_12) rfl k) ?_
  show OGo p.tables e below _ (s₁.setTop (mkF m 13 #[.val (.long q0), .second, .val (.int p1), .val (.int p2), .val (.long (100000000000000000 : Int64)), .second, .val (.long (q0 &&& (9223372036854775807 : Int64))), .second, .unset, .unset, .unset, .unset, .unset, .unset, .unset, .unset] [(.int p1)]))
  refine OGo.st (fun t k => XS.iconst X0.here hx rfl (hb hby at_13) k) ?_
  show OGo p.tables e below _ (s₁.setTop (mkF m 14 #[.val (.long q0), .second, .val (.int p1), .val (.int p2), .val (.long (100000000000000000 : Int64)), .second, .val (.long (q0 &&& (9223372036854775807 : Int64))), .second, .unset, .unset, .unset, .unset, .unset, .unset, .unset, .unset] [(.int (3 : Int32)), (.int p1)]))
  refine OGo.st (fun t k => XS.iand X0.here hx rfl (hb hby at_14) rfl k) ?_
  show OGo p.tables e below _ (s₁.setTop (mkF m 15 #[.val (.long q0), .second, .val (.int p1), .val (.int p2), .val (.long (100000000000000000 : Int64)), .second, .val (.long (q0 &&& (9223372036854775807 : Int64))), .second, .unset, .unset, .unset, .unset, .unset, .unset, .unset, .unset] [(.int (p1 &&& (3 : Int32)))]))
  refine OGo.st (fun t k => XS.istore X0.here hx rfl (hb hby at_15) rfl (l' := #[.val (.long q0), .second, .val (.int p1), .val (.int p2), .val (.long (100000000000000000 : Int64)), .second, .val (.long (q0 &&& (9223372036854775807 : Int64))), .second, .val (.int (p1 &&& (3 : Int32))), .unset, .unset, .unset, .unset, .unset, .unset, .unset]) rfl k) ?_
  show OGo p.tables e below _ (s₁.setTop (mkF m 17 #[.val (.long q0), .second, .val (.int p1), .val (.int p2), .val (.long (100000000000000000 : Int64)), .second, .val (.long (q0 &&& (9223372036854775807 : Int64))), .second, .val (.int (p1 &&& (3 : Int32))), .unset, .unset, .unset, .unset, .unset, .unset, .unset] []))
  refine OGo.st (fun t k => XS.iload X0.here hx rfl (hb hby at_17) rfl k) ?_
  show OGo p.tables e below _ (s₁.setTop (mkF m 19 #[.val (.long q0), .second, .val (.int p1), .val (.int p2), .val (.long (100000000000000000 : Int64)), .second, .val (.long (q0 &&& (9223372036854775807 : Int64))), .second, .val (.int (p1 &&& (3 : Int32))), .unset, .unset, .unset, .unset, .unset, .unset, .unset] [(.int (p1 &&& (3 : Int32)))]))
  by_cases hc19_108 : (p1 &&& (3 : Int32)) = (0 : Int32)
  ·
    refine OGo.st (fun t k => XS.ifNo X0.here hx rfl (hb hby at_19) rfl ((if0 _ _).trans (teq hc19_108).2) k) ?_
    show OGo p.tables e below _ (s₁.setTop (mkF m 22 #[.val (.long q0), .second, .val (.int p1), .val (.int p2), .val (.long (100000000000000000 : Int64)), .second, .val (.long (q0 &&& (9223372036854775807 : Int64))), .second, .val (.int (p1 &&& (3 : Int32))), .unset, .unset, .unset, .unset, .unset, .unset, .unset] []))
    refine OGo.st (fun t k => XS.lload X0.here hx rfl (hb hby at_22) rfl k) ?_
    show OGo p.tables e below _ (s₁.setTop (mkF m 24 #[.val (.long q0), .second, .val (.int p1), .val (.int p2), .val (.long (100000000000000000 : Int64)), .second, .val (.long (q0 &&& (9223372036854775807 : Int64))), .second, .val (.int (p1 &&& (3 : Int32))), .unset, .unset, .unset, .unset, .unset, .unset, .unset] [(.long (q0 &&& (9223372036854775807 : Int64)))]))
    refine OGo.st (fun t k => XS.lstore X0.here hx rfl (hb hby at_24) rfl (l' := #[.val (.long q0), .second, .val (.int p1), .val (.int p2), .val (.long (100000000000000000 : Int64)), .second, .val (.long (q0 &&& (9223372036854775807 : Int64))), .second, .val (.int (p1 &&& (3 : Int32))), .val (.long (q0 &&& (9223372036854775807 : Int64))), .second, .unset, .unset, .unset, .unset, .unset]) rfl k) ?_
    show OGo p.tables e below _ (s₁.setTop (mkF m 26 #[.val (.long q0), .second, .val (.int p1), .val (.int p2), .val (.long (100000000000000000 : Int64)), .second, .val (.long (q0 &&& (9223372036854775807 : Int64))), .second, .val (.int (p1 &&& (3 : Int32))), .val (.long (q0 &&& (9223372036854775807 : Int64))), .second, .unset, .unset, .unset, .unset, .unset] []))
    refine OGo.st (fun t k => XS.goto X0.here hx rfl (pc0 := 26) (pc' := 76) rfl (hb hby at_26) (by decide) (by decide) k) ?_
    show OGo p.tables e below _ (s₁.setTop (mkF m 76 #[.val (.long q0), .second, .val (.int p1), .val (.int p2), .val (.long (100000000000000000 : Int64)), .second, .val (.long (q0 &&& (9223372036854775807 : Int64))), .second, .val (.int (p1 &&& (3 : Int32))), .val (.long (q0 &&& (9223372036854775807 : Int64))), .second, .unset, .unset, .unset, .unset, .unset] []))
    exact jn76_101 (q0 &&& (9223372036854775807 : Int64)) (own_n1 q0)
  ·
    refine OGo.st (fun t k => XS.ifYes X0.here hx rfl (pc0 := 19) (pc' := 29) rfl (hb hby at_19) rfl ((if0 _ _).trans (feq hc19_108).2) (by decide) (by decide) k) ?_
    show OGo p.tables e below _ (s₁.setTop (mkF m 29 #[.val (.long q0), .second, .val (.int p1), .val (.int p2), .val (.long (100000000000000000 : Int64)), .second, .val (.long (q0 &&& (9223372036854775807 : Int64))), .second, .val (.int (p1 &&& (3 : Int32))), .unset, .unset, .unset, .unset, .unset, .unset, .unset] []))
    refine OGo.st (fun t k => XS.iload X0.here hx rfl (hb hby at_29) rfl k) ?_
    show OGo p.tables e below _ (s₁.setTop (mkF m 31 #[.val (.long q0), .second, .val (.int p1), .val (.int p2), .val (.long (100000000000000000 : Int64)), .second, .val (.long (q0 &&& (9223372036854775807 : Int64))), .second, .val (.int (p1 &&& (3 : Int32))), .unset, .unset, .unset, .unset, .unset, .unset, .unset] [(.int (p1 &&& (3 : Int32)))]))
    refine OGo.st (fun t k => XS.iconst X0.here hx rfl (hb hby at_31) k) ?_
    show OGo p.tables e below _ (s₁.setTop (mkF m 32 #[.val (.long q0), .second, .val (.int p1), .val (.int p2), .val (.long (100000000000000000 : Int64)), .second, .val (.long (q0 &&& (9223372036854775807 : Int64))), .second, .val (.int (p1 &&& (3 : Int32))), .unset, .unset, .unset, .unset, .unset, .unset, .unset] [(.int (1 : Int32)), (.int (p1 &&& (3 : Int32)))]))
    by_cases hc32_109 : (p1 &&& (3 : Int32)) = (1 : Int32)
    ·
      refine OGo.st (fun t k => XS.icmpNo X0.here hx rfl (hb hby at_32) rfl (teq hc32_109).2 k) ?_
      show OGo p.tables e below _ (s₁.setTop (mkF m 35 #[.val (.long q0), .second, .val (.int p1), .val (.int p2), .val (.long (100000000000000000 : Int64)), .second, .val (.long (q0 &&& (9223372036854775807 : Int64))), .second, .val (.int (p1 &&& (3 : Int32))), .unset, .unset, .unset, .unset, .unset, .unset, .unset] []))
      refine OGo.st (fun t k => XS.lload X0.here hx rfl (hb hby at_35) rfl k) ?_
      show OGo p.tables e below _ (s₁.setTop (mkF m 37 #[.val (.long q0), .second, .val (.int p1), .val (.int p2), .val (.long (100000000000000000 : Int64)), .second, .val (.long (q0 &&& (9223372036854775807 : Int64))), .second, .val (.int (p1 &&& (3 : Int32))), .unset, .unset, .unset, .unset, .unset, .unset, .unset] [(.long (q0 &&& (9223372036854775807 : Int64)))]))
      refine OGo.st (fun t k => XS.lload X0.here hx rfl (hb hby at_37) rfl k) ?_
      show OGo p.tables e below _ (s₁.setTop (mkF m 39 #[.val (.long q0), .second, .val (.int p1), .val (.int p2), .val (.long (100000000000000000 : Int64)), .second, .val (.long (q0 &&& (9223372036854775807 : Int64))), .second, .val (.int (p1 &&& (3 : Int32))), .unset, .unset, .unset, .unset, .unset, .unset, .unset] [(.long (100000000000000000 : Int64)), (.long (q0 &&& (9223372036854775807 : Int64)))]))
      refine OGo.st (fun t k => XS.lrem X0.here hx rfl (hb hby at_39) rfl (by decide) k) ?_
      show OGo p.tables e below _ (s₁.setTop (mkF m 40 #[.val (.long q0), .second, .val (.int p1), .val (.int p2), .val (.long (100000000000000000 : Int64)), .second, .val (.long (q0 &&& (9223372036854775807 : Int64))), .second, .val (.int (p1 &&& (3 : Int32))), .unset, .unset, .unset, .unset, .unset, .unset, .unset] [(.long ((q0 &&& (9223372036854775807 : Int64)) - ((q0 &&& (9223372036854775807 : Int64)) / (100000000000000000 : Int64)) * (100000000000000000 : Int64)))]))
      refine OGo.st (fun t k => XS.lstore X0.here hx rfl (hb hby at_40) rfl (l' := #[.val (.long q0), .second, .val (.int p1), .val (.int p2), .val (.long (100000000000000000 : Int64)), .second, .val (.long (q0 &&& (9223372036854775807 : Int64))), .second, .val (.int (p1 &&& (3 : Int32))), .val (.long ((q0 &&& (9223372036854775807 : Int64)) - ((q0 &&& (9223372036854775807 : Int64)) / (100000000000000000 : Int64)) * (100000000000000000 : Int64))), .second, .unset, .unset, .unset, .unset, .unset]) rfl k) ?_
      show OGo p.tables e below _ (s₁.setTop (mkF m 42 #[.val (.long q0), .second, .val (.int p1), .val (.int p2), .val (.long (100000000000000000 : Int64)), .second, .val (.long (q0 &&& (9223372036854775807 : Int64))), .second, .val (.int (p1 &&& (3 : Int32))), .val (.long ((q0 &&& (9223372036854775807 : Int64)) - ((q0 &&& (9223372036854775807 : Int64)) / (100000000000000000 : Int64)) * (100000000000000000 : Int64))), .second, .unset, .unset, .unset, .unset, .unset] []))
      refine OGo.st (fun t k => XS.goto X0.here hx rfl (pc0 := 42) (pc' := 76) rfl (hb hby at_42) (by decide) (by decide) k) ?_
      show OGo p.tables e below _ (s₁.setTop (mkF m 76 #[.val (.long q0), .second, .val (.int p1), .val (.int p2), .val (.long (100000000000000000 : Int64)), .second, .val (.long (q0 &&& (9223372036854775807 : Int64))), .second, .val (.int (p1 &&& (3 : Int32))), .val (.long ((q0 &&& (9223372036854775807 : Int64)) - ((q0 &&& (9223372036854775807 : Int64)) / (100000000000000000 : Int64)) * (100000000000000000 : Int64))), .second, .unset, .unset, .unset, .unset, .unset] []))
      exact jn76_101 ((q0 &&& (9223372036854775807 : Int64)) - ((q0 &&& (9223372036854775807 : Int64)) / (100000000000000000 : Int64)) * (100000000000000000 : Int64)) (own_n2 q0 _ 100000000000000000 rfl (by decide))
    ·
      refine OGo.st (fun t k => XS.icmpYes X0.here hx rfl (pc0 := 32) (pc' := 45) rfl (hb hby at_32) rfl (feq hc32_109).2 (by decide) (by decide) k) ?_
      show OGo p.tables e below _ (s₁.setTop (mkF m 45 #[.val (.long q0), .second, .val (.int p1), .val (.int p2), .val (.long (100000000000000000 : Int64)), .second, .val (.long (q0 &&& (9223372036854775807 : Int64))), .second, .val (.int (p1 &&& (3 : Int32))), .unset, .unset, .unset, .unset, .unset, .unset, .unset] []))
      refine OGo.st (fun t k => XS.iload X0.here hx rfl (hb hby at_45) rfl k) ?_
      show OGo p.tables e below _ (s₁.setTop (mkF m 47 #[.val (.long q0), .second, .val (.int p1), .val (.int p2), .val (.long (100000000000000000 : Int64)), .second, .val (.long (q0 &&& (9223372036854775807 : Int64))), .second, .val (.int (p1 &&& (3 : Int32))), .unset, .unset, .unset, .unset, .unset, .unset, .unset] [(.int (p1 &&& (3 : Int32)))]))
      refine OGo.st (fun t k => XS.iconst X0.here hx rfl (hb hby at_47) k) ?_
      show OGo p.tables e below _ (s₁.setTop (mkF m 48 #[.val (.long q0), .second, .val (.int p1), .val (.int p2), .val (.long (100000000000000000 : Int64)), .second, .val (.long (q0 &&& (9223372036854775807 : Int64))), .second, .val (.int (p1 &&& (3 : Int32))), .unset, .unset, .unset, .unset, .unset, .unset, .unset] [(.int (2 : Int32)), (.int (p1 &&& (3 : Int32)))]))
      by_cases hc48_110 : (p1 &&& (3 : Int32)) = (2 : Int32)
      ·
        refine OGo.st (fun t k => XS.icmpNo X0.here hx rfl (hb hby at_48) rfl (teq hc48_110).2 k) ?_
        show OGo p.tables e below _ (s₁.setTop (mkF m 51 #[.val (.long q0), .second, .val (.int p1), .val (.int p2), .val (.long (100000000000000000 : Int64)), .second, .val (.long (q0 &&& (9223372036854775807 : Int64))), .second, .val (.int (p1 &&& (3 : Int32))), .unset, .unset, .unset, .unset, .unset, .unset, .unset] []))
        refine OGo.st (fun t k => XS.lload X0.here hx rfl (hb hby at_51) rfl k) ?_
        show OGo p.tables e below _ (s₁.setTop (mkF m 53 #[.val (.long q0), .second, .val (.int p1), .val (.int p2), .val (.long (100000000000000000 : Int64)), .second, .val (.long (q0 &&& (9223372036854775807 : Int64))), .second, .val (.int (p1 &&& (3 : Int32))), .unset, .unset, .unset, .unset, .unset, .unset, .unset] [(.long (100000000000000000 : Int64))]))
        refine OGo.st (fun t k => X0.ldc2Long hx hown (mvT hZ (hw _ (List.mem_of_getElem? (i := 2) rfl))) (g := (mkF m 53 #[.val (.long q0), .second, .val (.int p1), .val (.int p2), .val (.long (100000000000000000 : Int64)), .second, .val (.long (q0 &&& (9223372036854775807 : Int64))), .second, .val (.int (p1 &&& (3 : Int32))), .unset, .unset, .unset, .unset, .unset, .unset, .unset] [(.long (100000000000000000 : Int64))])) rfl (hb hby at_53) _ k) ?_
        show OGo p.tables e below _ (s₁.setTop (mkF m 56 #[.val (.long q0), .second, .val (.int p1), .val (.int p2), .val (.long (100000000000000000 : Int64)), .second, .val (.long (q0 &&& (9223372036854775807 : Int64))), .second, .val (.int (p1 &&& (3 : Int32))), .unset, .unset, .unset, .unset, .unset, .unset, .unset] [(.long (8 : Int64)), (.long (100000000000000000 : Int64))]))
        refine OGo.st (fun t k => XS.lsub X0.here hx rfl (hb hby at_56) rfl k) ?_
        show OGo p.tables e below _ (s₁.setTop (mkF m 57 #[.val (.long q0), .second, .val (.int p1), .val (.int p2), .val (.long (100000000000000000 : Int64)), .second, .val (.long (q0 &&& (9223372036854775807 : Int64))), .second, .val (.int (p1 &&& (3 : Int32))), .unset, .unset, .unset, .unset, .unset, .unset, .unset] [(.long (99999999999999992 : Int64))]))
        refine OGo.st (fun t k => XS.lloadN X0.here hx rfl (hb hby at_57) rfl k) ?_
        show OGo p.tables e below _ (s₁.setTop (mkF m 58 #[.val (.long q0), .second, .val (.int p1), .val (.int p2), .val (.long (100000000000000000 : Int64)), .second, .val (.long (q0 &&& (9223372036854775807 : Int64))), .second, .val (.int (p1 &&& (3 : Int32))), .unset, .unset, .unset, .unset, .unset, .unset, .unset] [(.long q0), (.long (99999999999999992 : Int64))]))
        refine OGo.st (fun t k => X0.ldc2Long hx hown (mvT hZ (hw _ (List.mem_of_getElem? (i := 3) rfl))) (g := (mkF m 58 #[.val (.long q0), .second, .val (.int p1), .val (.int p2), .val (.long (100000000000000000 : Int64)), .second, .val (.long (q0 &&& (9223372036854775807 : Int64))), .second, .val (.int (p1 &&& (3 : Int32))), .unset, .unset, .unset, .unset, .unset, .unset, .unset] [(.long q0), (.long (99999999999999992 : Int64))])) rfl (hb hby at_58) _ k) ?_
        show OGo p.tables e below _ (s₁.setTop (mkF m 61 #[.val (.long q0), .second, .val (.int p1), .val (.int p2), .val (.long (100000000000000000 : Int64)), .second, .val (.long (q0 &&& (9223372036854775807 : Int64))), .second, .val (.int (p1 &&& (3 : Int32))), .unset, .unset, .unset, .unset, .unset, .unset, .unset] [(.long (15 : Int64)), (.long q0), (.long (99999999999999992 : Int64))]))
        refine OGo.st (fun t k => XS.land X0.here hx rfl (hb hby at_61) rfl k) ?_
        show OGo p.tables e below _ (s₁.setTop (mkF m 62 #[.val (.long q0), .second, .val (.int p1), .val (.int p2), .val (.long (100000000000000000 : Int64)), .second, .val (.long (q0 &&& (9223372036854775807 : Int64))), .second, .val (.int (p1 &&& (3 : Int32))), .unset, .unset, .unset, .unset, .unset, .unset, .unset] [(.long (q0 &&& (15 : Int64))), (.long (99999999999999992 : Int64))]))
        refine OGo.st (fun t k => XS.ladd X0.here hx rfl (hb hby at_62) rfl k) ?_
        show OGo p.tables e below _ (s₁.setTop (mkF m 63 #[.val (.long q0), .second, .val (.int p1), .val (.int p2), .val (.long (100000000000000000 : Int64)), .second, .val (.long (q0 &&& (9223372036854775807 : Int64))), .second, .val (.int (p1 &&& (3 : Int32))), .unset, .unset, .unset, .unset, .unset, .unset, .unset] [(.long ((99999999999999992 : Int64) + (q0 &&& (15 : Int64))))]))
        refine OGo.st (fun t k => XS.lstore X0.here hx rfl (hb hby at_63) rfl (l' := #[.val (.long q0), .second, .val (.int p1), .val (.int p2), .val (.long (100000000000000000 : Int64)), .second, .val (.long (q0 &&& (9223372036854775807 : Int64))), .second, .val (.int (p1 &&& (3 : Int32))), .val (.long ((99999999999999992 : Int64) + (q0 &&& (15 : Int64)))), .second, .unset, .unset, .unset, .unset, .unset]) rfl k) ?_
        show OGo p.tables e below _ (s₁.setTop (mkF m 65 #[.val (.long q0), .second, .val (.int p1), .val (.int p2), .val (.long (100000000000000000 : Int64)), .second, .val (.long (q0 &&& (9223372036854775807 : Int64))), .second, .val (.int (p1 &&& (3 : Int32))), .val (.long ((99999999999999992 : Int64) + (q0 &&& (15 : Int64)))), .second, .unset, .unset, .unset, .unset, .unset] []))
        refine OGo.st (fun t k => XS.goto X0.here hx rfl (pc0 := 65) (pc' := 76) rfl (hb hby at_65) (by decide) (by decide) k) ?_
        show OGo p.tables e below _ (s₁.setTop (mkF m 76 #[.val (.long q0), .second, .val (.int p1), .val (.int p2), .val (.long (100000000000000000 : Int64)), .second, .val (.long (q0 &&& (9223372036854775807 : Int64))), .second, .val (.int (p1 &&& (3 : Int32))), .val (.long ((99999999999999992 : Int64) + (q0 &&& (15 : Int64)))), .second, .unset, .unset, .unset, .unset, .unset] []))
        exact jn76_101 ((99999999999999992 : Int64) + (q0 &&& (15 : Int64))) (own_n3 q0)
      ·
        refine OGo.st (fun t k => XS.icmpYes X0.here hx rfl (pc0 := 48) (pc' := 68) rfl (hb hby at_48) rfl (feq hc48_110).2 (by decide) (by decide) k) ?_
        show OGo p.tables e below _ (s₁.setTop (mkF m 68 #[.val (.long q0), .second, .val (.int p1), .val (.int p2), .val (.long (100000000000000000 : Int64)), .second, .val (.long (q0 &&& (9223372036854775807 : Int64))), .second, .val (.int (p1 &&& (3 : Int32))), .unset, .unset, .unset, .unset, .unset, .unset, .unset] []))
        refine OGo.st (fun t k => XS.lload X0.here hx rfl (hb hby at_68) rfl k) ?_
        show OGo p.tables e below _ (s₁.setTop (mkF m 70 #[.val (.long q0), .second, .val (.int p1), .val (.int p2), .val (.long (100000000000000000 : Int64)), .second, .val (.long (q0 &&& (9223372036854775807 : Int64))), .second, .val (.int (p1 &&& (3 : Int32))), .unset, .unset, .unset, .unset, .unset, .unset, .unset] [(.long (q0 &&& (9223372036854775807 : Int64)))]))
        refine OGo.st (fun t k => X0.ldc2Long hx hown (mvT hZ (hw _ (List.mem_of_getElem? (i := 13) rfl))) (g := (mkF m 70 #[.val (.long q0), .second, .val (.int p1), .val (.int p2), .val (.long (100000000000000000 : Int64)), .second, .val (.long (q0 &&& (9223372036854775807 : Int64))), .second, .val (.int (p1 &&& (3 : Int32))), .unset, .unset, .unset, .unset, .unset, .unset, .unset] [(.long (q0 &&& (9223372036854775807 : Int64)))])) rfl (hb hby at_70) _ k) ?_
        show OGo p.tables e below _ (s₁.setTop (mkF m 73 #[.val (.long q0), .second, .val (.int p1), .val (.int p2), .val (.long (100000000000000000 : Int64)), .second, .val (.long (q0 &&& (9223372036854775807 : Int64))), .second, .val (.int (p1 &&& (3 : Int32))), .unset, .unset, .unset, .unset, .unset, .unset, .unset] [(.long (1000 : Int64)), (.long (q0 &&& (9223372036854775807 : Int64)))]))
        refine OGo.st (fun t k => XS.lrem X0.here hx rfl (hb hby at_73) rfl (by decide) k) ?_
        show OGo p.tables e below _ (s₁.setTop (mkF m 74 #[.val (.long q0), .second, .val (.int p1), .val (.int p2), .val (.long (100000000000000000 : Int64)), .second, .val (.long (q0 &&& (9223372036854775807 : Int64))), .second, .val (.int (p1 &&& (3 : Int32))), .unset, .unset, .unset, .unset, .unset, .unset, .unset] [(.long ((q0 &&& (9223372036854775807 : Int64)) - ((q0 &&& (9223372036854775807 : Int64)) / (1000 : Int64)) * (1000 : Int64)))]))
        refine OGo.st (fun t k => XS.lstore X0.here hx rfl (hb hby at_74) rfl (l' := #[.val (.long q0), .second, .val (.int p1), .val (.int p2), .val (.long (100000000000000000 : Int64)), .second, .val (.long (q0 &&& (9223372036854775807 : Int64))), .second, .val (.int (p1 &&& (3 : Int32))), .val (.long ((q0 &&& (9223372036854775807 : Int64)) - ((q0 &&& (9223372036854775807 : Int64)) / (1000 : Int64)) * (1000 : Int64))), .second, .unset, .unset, .unset, .unset, .unset]) rfl k) ?_
        show OGo p.tables e below _ (s₁.setTop (mkF m 76 #[.val (.long q0), .second, .val (.int p1), .val (.int p2), .val (.long (100000000000000000 : Int64)), .second, .val (.long (q0 &&& (9223372036854775807 : Int64))), .second, .val (.int (p1 &&& (3 : Int32))), .val (.long ((q0 &&& (9223372036854775807 : Int64)) - ((q0 &&& (9223372036854775807 : Int64)) / (1000 : Int64)) * (1000 : Int64))), .second, .unset, .unset, .unset, .unset, .unset] []))
        exact jn76_101 ((q0 &&& (9223372036854775807 : Int64)) - ((q0 &&& (9223372036854775807 : Int64)) / (1000 : Int64)) * (1000 : Int64)) (own_n2 q0 _ 1000 rfl (by decide))
set_option maxRecDepth 65536 in
set_option maxHeartbeats 40000000 in
theorem comes_1 {Post : Tables → Env → Array Value → State → Outcome → State → Prop} (hpost : ∀ tb e args s v u, (limb_1_1.after args s (.returned v) u = true ∧ limb_1_2.after args s (.returned v) u = true ∧ True) → FrameEnd s (.returned v) u (Jvm.fieldLocs frame_1_writes args s ++ Jvm.arrayLocs frame_1_arrays args s ++ Jvm.staticLocs frame_1_statics s) 0 0 → Post tb e args s (.returned v) u) :
    ArmFor flags0 classFile x code maxLocals ret World_1 tables_1 room_1 Calls_1 rest_1 Pre_1 Post := by
  intro l hfl _ _ p e ha hc hk s m args below hf hA hF happ hP
  obtain ⟨hcalls, hrest, hpre⟩ := hP
  obtain ⟨-, -, -, hnamed, -, -, -, hat⟩ := (Spec.applies_iff hf).mp happ
  obtain ⟨hg, hn⟩ := and_e (Cond.before_iff.mp (show (Jvm.Cond.and given_1 narrow_1).before args s = true from hpre))
  obtain ⟨gc, gr0⟩ := and_e hg
  obtain ⟨g_0, gr1⟩ := and_e gr0
  obtain ⟨g_1, gr2⟩ := and_e gr1
  have g_2 := gr2
  obtain ⟨w0, w1, w2, rfl⟩ : ∃ w0 w1 w2 : Value, args = #[w0, w1, w2] := by
    have hs : args.size = 3 := by simpa [Cond.value, given_1] using gc
    obtain ⟨L⟩ := args
    match L, hs with
    | [w0, w1, w2], _ => exact ⟨w0, w1, w2, rfl⟩
  have hw := fun d (hd : d ∈ tables_1) => atoms_spec (ws := Jvm.Cond.code x code maxLocals ret :: tables_1) hat d (List.mem_cons_of_mem _ hd)
  have hfit : Fit s := fun {y c} hc i hi => by
    obtain ⟨ha, rfl⟩ := Array.getElem?_eq_some_iff.mp hc
    have q := List.all_eq_true.mp ((Array.all_eq_true_iff_forall_mem.mp hF) _ (Array.getElem_mem ha)) i (List.mem_range.mpr hi)
    simpa [Array.getElem?_eq_getElem hi] using q
  obtain ⟨i0, ei0⟩ := isL_v g_0
  obtain rfl : w0 = (.long i0) := Option.some.inj ei0
  obtain ⟨i1, ei1⟩ := is_v g_1
  obtain rfl : w1 = (.int i1) := Option.some.inj ei1
  obtain ⟨i2, ei2⟩ := is_v g_2
  obtain rfl : w2 = (.int i2) := Option.some.inj ei2
  obtain ⟨n, o, h1, h2, h3, _, L, rfl, ⟨rfl, N⟩, hq⟩ := rm1 l s _ hw tables_1 i0 i1 i2 s.heap s.heap.size (Nat.le_refl _)  p e ha hc hk s m _ below hf ((Spec.applies_iff_loose hf).mp happ).1 ⟨rfl, State.Warmed39.refl s, rfl⟩ trivial
  refine ⟨n, _, h1, h2, h3, hpost _ _ _ _ _ _ ⟨Cond.after_iff.mpr rfl, Cond.after_iff.mpr (eq_i res_at (Term.int_eval (1)) rfl), trivial⟩ ⟨hq.1, hq.2.1, (hq.2.2.sift fun y hy => Or.inr (N y hy)).mono (by decide) (by decide)⟩⟩
theorem main_1_1 : Claimed_1_1 := comes_1 fun _ _ _ _ _ _ h hF => ⟨h.1, hF⟩
theorem main_1_2 : Claimed_1_2 := comes_1 fun _ _ _ _ _ _ h hF => ⟨h.2.1, hF⟩
end Jvm.Pilot.@@N@@
namespace Jvm.Pilot.@@N@@
open Jvm Jvm.ClassFile Sem Op Lib Jvm.Free Jvm.Stand Jvm.Pilot.@@N@@.Jvm.D
/-! MADE BY PROGRAM (witnessworld.py) out of the Statement's table words and the real class files: 9 classes; the members and pool entries that the words name. The judged class is class 1, her method 1. -/
namespace start1
open Jvm.ClassFile
def u (s : String) : CpInfo := .utf8 (stringToUtf16 s)
/-- a pool by its gaps: so many unusable entries, then the entry; so many at the end -/
def gap : Nat → List CpInfo → List CpInfo
  | 0, r => r
  | n + 1, r => .unusable :: gap n r
def poolList (es : List (Nat × CpInfo)) (last : Nat) : List CpInfo := es.foldr (fun e r => gap e.1 (e.2 :: r)) (gap last [])
def pool (es : List (Nat × CpInfo)) (last : Nat) : Array CpInfo := ⟨poolList es last⟩
def fileOf (pool : Array CpInfo) (this : Nat) (attrs : Array Attribute := #[]) (ms : Array MethodInfo := #[]) (fl : Nat := 33) (sup : Nat := 0) (ifs : Array Nat := #[]) (fds : Array FieldInfo := #[]) : ClassFile where
  minorVersion := 0
  majorVersion := 65
  constantPool := pool
  accessFlags := fl
  thisClass := this
  superClass := sup
  interfaces := ifs
  fields := fds
  methods := ms
  attributes := attrs
def plain (name : String) (sup : Option ClassId) : Class where
  name := name
  kind := .ordinary
  loader := none
  accessFlags := 33
  super := sup
  interfaces := #[]
  cf := none
  fields := #[]
  methods := #[]
  instanceTypes := #[]
  staticTypes := #[]
  resolved := #[]
  callSites := []
  init := .initialized
  statics := none
  mirror := none

def pool0 : Array CpInfo := pool [(5, u "<init>"), (0, u "()V"), (1, .class_ 10), (1, u "java/lang/Object")] 113

def k0m0 : Method := { name := "<init>", desc := "()V", sig := { parameters := [], returnType := none }, accessFlags := 1, code := none }
/-- java/lang/Object -/
def k0 : Class := { plain "java/lang/Object" none with
  accessFlags := 33
  interfaces := #[]
  cf := some (fileOf pool0 8 #[] #[{ accessFlags := 1, nameIndex := 5, descriptorIndex := 6, attributes := #[] }] 33 0 #[] #[])
  fields := #[]
  methods := #[k0m0]
  instanceTypes := #[]
  staticTypes := #[]
  resolved := Array.replicate 124 none
  statics := none }

def pool1 : Array CpInfo := pool [(2, .class_ 4), (1, u "java/lang/Object"), (0, u "<init>"), (0, u "()V"), (0, .long 100000000000000000), (3, .long 9223372036854775807), (1, .long 8), (1, .long 15), (1, .long 1000), (1, .integer 2147483647), (0, .methodref 21 22), (0, .class_ 23), (0, .nameAndType 24 25), (0, u "com/example/montage_book/montagebook/Numerals"), (0, u "withDigit"), (0, u "(JC)J"), (0, .long 10), (1, .class_ 29), (0, u "com/example/montage_book/montagebook/NumeralsWithDigitPinLaw"), (2, u "law"), (0, u "(JII)Z")] 3

def k1m0 : Method := { name := "<init>", desc := "()V", sig := { parameters := [], returnType := none }, accessFlags := 2, code := none }
def k1c1 : Code := { maxStack := 6, maxLocals := 16, code := code, exceptionTable := #[], attributes := #[] }
def k1m1 : Method := { name := "law", desc := "(JII)Z", sig := { parameters := [.long, .int, .int], returnType := some .boolean }, accessFlags := 9, code := some k1c1 }
/-- com/example/montage_book/montagebook/NumeralsWithDigitPinLaw -/
def k1 : Class := { plain "com/example/montage_book/montagebook/NumeralsWithDigitPinLaw" (some 0) with
  accessFlags := 49
  interfaces := #[]
  cf := some (fileOf pool1 28 #[] #[{ accessFlags := 2, nameIndex := 5, descriptorIndex := 6, attributes := #[] }, { accessFlags := 9, nameIndex := 32, descriptorIndex := 33, attributes := #[] }] 49 2 #[] #[])
  fields := #[]
  methods := #[k1m0, k1m1]
  instanceTypes := #[]
  staticTypes := #[]
  resolved := Array.replicate 37 none
  statics := none }

def pool2 : Array CpInfo := pool [(2, .class_ 4), (1, u "java/lang/Object"), (0, u "<init>"), (0, u "()V"), (3, .class_ 12), (1, u "com/example/montage_book/montagebook/Numerals"), (37, u "withDigit"), (0, u "(JC)J"), (0, .long 100000000000000000), (3, .long 9223372036854775807), (1, .long 10), (6, u "MAX_DIGITS"), (0, u "I"), (2, u "SMALLEST_OF_MAX_DIGITS"), (0, u "J")] 24

def k2m0 : Method := { name := "<init>", desc := "()V", sig := { parameters := [], returnType := none }, accessFlags := 2, code := none }
def k2c1 : Code := { maxStack := 4, maxLocals := 3, code := prog_29_method_5_code, exceptionTable := #[], attributes := #[] }
def k2m1 : Method := { name := "withDigit", desc := "(JC)J", sig := { parameters := [.long, .char], returnType := some .long }, accessFlags := 8, code := some k2c1 }
/-- com/example/montage_book/montagebook/Numerals -/
def k2 : Class := { plain "com/example/montage_book/montagebook/Numerals" (some 0) with
  accessFlags := 48
  interfaces := #[]
  cf := some (fileOf pool2 10 #[] #[{ accessFlags := 2, nameIndex := 5, descriptorIndex := 6, attributes := #[] }, { accessFlags := 8, nameIndex := 50, descriptorIndex := 51, attributes := #[] }] 48 2 #[] #[{ accessFlags := 24, nameIndex := 65, descriptorIndex := 66, attributes := #[] }, { accessFlags := 26, nameIndex := 69, descriptorIndex := 70, attributes := #[] }])
  fields := #[{ name := "MAX_DIGITS", type := .int, accessFlags := 24, slot := 0, constantValue := 0 }, { name := "SMALLEST_OF_MAX_DIGITS", type := .long, accessFlags := 26, slot := 1, constantValue := 0 }]
  methods := #[k2m0, k2m1]
  instanceTypes := #[]
  staticTypes := #[.int, .long]
  resolved := Array.replicate 95 none
  statics := none }

def pool3 : Array CpInfo := pool [(1, u "java/lang/Cloneable"), (0, .class_ 1), (0, u "java/lang/Object"), (0, .class_ 3)] 3

/-- java/lang/Cloneable -/
def k3 : Class := { plain "java/lang/Cloneable" (some 0) with
  accessFlags := 1537
  interfaces := #[]
  cf := some (fileOf pool3 2 #[] #[] 1537 4 #[] #[])
  fields := #[]
  methods := #[]
  instanceTypes := #[]
  staticTypes := #[]
  resolved := Array.replicate 8 none
  statics := none }

def pool4 : Array CpInfo := pool [(1, u "java/io/Serializable"), (0, .class_ 1), (0, u "java/lang/Object"), (0, .class_ 3)] 3

/-- java/io/Serializable -/
def k4 : Class := { plain "java/io/Serializable" (some 0) with
  accessFlags := 1537
  interfaces := #[]
  cf := some (fileOf pool4 2 #[] #[] 1537 4 #[] #[])
  fields := #[]
  methods := #[]
  instanceTypes := #[]
  staticTypes := #[]
  resolved := Array.replicate 8 none
  statics := none }

/-- the primitive byte -/
def k5 : Class := { plain "byte" none with kind := .primitive 'B', accessFlags := 0x411 }
/-- [B -/
def k6 : Class := { plain "[B" (some 0) with kind := .array 5 .byte, interfaces := #[3, 4], accessFlags := 1041 }

/-- the primitive int -/
def k7 : Class := { plain "int" none with kind := .primitive 'I', accessFlags := 0x411 }
/-- [I -/
def k8 : Class := { plain "[I" (some 0) with kind := .array 7 .int, interfaces := #[3, 4], accessFlags := 1041 }

def heap : Heap := #[]
def classes : Array Class := #[k0, k1, k2, k3, k4, k5, k6, k7, k8]
def interned : List (Array UInt16 × Addr) := []
def slotsUsed : Nat := 0
def theMethod : MethodId := ⟨1, 1⟩
def args0 : Array Value := #[.long 5, .int 7, .int 9]
def aboutOver (below : List Frame) : State where
  vm := { classes := classes, interned := interned.toArray }
  heap := heap
  slotsUsed := slotsUsed
  threads := #[{ frames := .invoking theMethod args0 :: below }]
def below0 : List Frame := [.native { method := ⟨0, 0⟩, args := #[] }]
def about1 : State := aboutOver below0
def p0 : Program := .bare "" "" ""
def e0 : Env := launch0.env 0 0 0
theorem w_frames : about1.frames = Frame.invoking theMethod args0 :: below0 := rfl
set_option maxRecDepth 65536 in
theorem w_args : argsFit about1.vm theMethod args0 = true := by decide +kernel
set_option maxRecDepth 65536 in
theorem w_heap : heapFits about1 = true := by decide +kernel
set_option maxRecDepth 65536 in
theorem w_runnable : about1.curStatus? = some .runnable := by decide +kernel
set_option maxRecDepth 65536 in
theorem w_alone : about1.alone = true := by decide +kernel
set_option maxRecDepth 65536 in
theorem w_named : about1.methodNamed? x = some theMethod := by decide +kernel
set_option maxRecDepth 65536 in
theorem w_hears : about1.hears theMethod below0 = true := by decide +kernel
set_option maxRecDepth 65536 in
theorem w_ripe : about1.ripe theMethod args0 below0 = true := by decide +kernel
theorem w_running : about1.status = .running := rfl
set_option maxRecDepth 65536 in
theorem w_room : about1.hasRoom e0.platform room_1 = true :=
  launch0.hasRoom_least _ room_1 (by decide +kernel) (by decide +kernel) (by decide +kernel) (by decide +kernel) (by decide +kernel) (by decide +kernel)
theorem allAtoms_all (ts : List Jvm.Cond) (a : Array Jvm.Value) (st : Jvm.State) : (allAtoms ts).before a st = ts.all (fun c => c.before a st) := by
  induction ts with
  | nil => rfl
  | cons c t ih =>
    show (Jvm.Cond.and c (allAtoms t)).before a st = _
    rw [Jvm.Cond.before_and, ih, List.all_cons]
def words1 : List Jvm.Cond := Jvm.Cond.code x code maxLocals ret :: tables_1
/-- a 'code' word, met by the world's own term for the bytes: nothing is compared byte by byte -/
theorem code_word {y : MethodName} {bytes : ByteArray} {mx : Nat} {rt : Option FieldType} {a : Array Value} {s : State} {m : MethodId} {meth : Method} {c : Code} (h1 : s.methodNamed? y = some m) (h2 : s.vm.method? m = some meth) (h3 : meth.code = some c) (h4 : c.code = bytes)
    (h5 : (c.maxLocals == mx && c.exceptionTable.isEmpty && decide (c.maxStack ≤ mostOperands) && decide (meth.sig.returnType = rt) && !meth.locks && decide (parseMethodDescriptor y.desc = some meth.sig)) = true) : (Jvm.Cond.code y bytes mx rt).before a s = true := by
  simp only [Bool.and_eq_true, beq_iff_eq, Bool.not_eq_true', decide_eq_true_eq] at h5
  obtain ⟨⟨⟨⟨⟨g1, g2⟩, g3⟩, g4⟩, g5⟩, g6⟩ := h5
  simp [Cond.before, Cond.holds, Cond.value, h1, h2, h3, h4, g1, g2, g3, g4, g5, g6]
def isCode : Jvm.Cond → Bool
  | .code _ _ _ _ => true
  | _ => false
theorem all_split {L : List Jvm.Cond} {P : Jvm.Cond → Bool} (h1 : L.all (fun c => isCode c || P c) = true) (h2 : ∀ c ∈ L.filter isCode, P c = true) : L.all P = true := by
  refine List.all_eq_true.mpr fun c hc => ?_
  have h := List.all_eq_true.mp h1 c hc
  rcases Bool.eq_false_or_eq_true (isCode c) with hi | hi
  · exact h2 c (List.mem_filter.mpr ⟨hc, hi⟩)
  · simpa [hi] using h
set_option maxRecDepth 65536 in
theorem w_c0 : (Jvm.Cond.code x code maxLocals ret).before args0 about1 = true := code_word (m := ⟨1, 1⟩) (meth := k1m1) (c := k1c1) (by decide +kernel) rfl rfl rfl (by decide +kernel)
set_option maxRecDepth 65536 in
theorem w_c1 : (Jvm.Cond.code ({ cls := "com/example/montage_book/montagebook/Numerals", name := "withDigit", desc := "(JC)J" } : Jvm.MethodName) prog_29_method_5_code (3 : Nat) (Option.some Jvm.ClassFile.FieldType.long)).before args0 about1 = true := code_word (m := ⟨2, 1⟩) (meth := k2m1) (c := k2c1) (by decide +kernel) rfl rfl rfl (by decide +kernel)
def codes1 : List Jvm.Cond := [Jvm.Cond.code x code maxLocals ret, Jvm.Cond.code ({ cls := "com/example/montage_book/montagebook/Numerals", name := "withDigit", desc := "(JC)J" } : Jvm.MethodName) prog_29_method_5_code (3 : Nat) (Option.some Jvm.ClassFile.FieldType.long)]
set_option maxRecDepth 65536 in
theorem codes_eq : words1.filter isCode = codes1 := rfl
theorem w_codes : ∀ c ∈ words1.filter isCode, c.before args0 about1 = true := by
  rw [codes_eq]
  intro c hc
  simp only [codes1, List.mem_cons, List.not_mem_nil, or_false] at hc
  rcases hc with rfl | rfl
  · exact w_c0
  · exact w_c1
set_option maxRecDepth 65536 in
theorem w_t1 : words1.all (fun c => isCode c || c.before args0 about1) = true := by decide +kernel
theorem w_tables : (allAtoms (Jvm.Cond.code x code maxLocals ret :: tables_1)).before args0 about1 = true := by
  rw [allAtoms_all]
  show words1.all (fun c => c.before args0 about1) = true
  refine all_split ?_ w_codes
  rw [w_t1]
set_option maxRecDepth 65536 in
theorem w_case : (Jvm.Cond.and given_1 narrow_1).before args0 about1 = true := by decide +kernel
theorem w_applies : (headSpec (Jvm.Cond.code x code maxLocals ret :: tables_1) room_1).applies x e0.platform about1 = true :=
  (Spec.applies_iff w_frames).mpr ⟨w_running, w_runnable, w_alone, w_named, w_hears, w_ripe, w_room, w_tables⟩
theorem atStart : AtStart classFile x code maxLocals ret World_1 tables_1 room_1 Calls_1 rest_1 Pre_1 launch0 p0 e0 about1 theMethod args0 below0 :=
  ⟨lists_1, trivial, launch0.admits_env _ _ _, launch0.least_env, fairChoices_fair.cas, fairChoices_fair.clock, w_frames, w_args, w_heap, w_applies, trivial, trivial, w_case⟩
end start1
theorem witness_1 : WitnessClaimed_1 := ⟨start1.p0, start1.e0, start1.about1, start1.theMethod, start1.args0, start1.below0, start1.atStart⟩
end Jvm.Pilot.@@N@@
