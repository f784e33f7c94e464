import JvmDerived
import JvmDerived.Pilot.@@N@@Statement
import JvmDerived.Pilot.@@N@@Code
set_option linter.unusedVariables false
set_option linter.unusedSimpArgs false
namespace Jvm.RoadKit
open Sem ClassFile Op Lib Jvm.Stand Jvm.Free Jvm.LawKit
section New
variable {p : Program} {l : Launch} {e : Env} {R : Room} {s : State} {m : MethodId} {args : Array Value} {below : List Frame} {meth : Method} {c : Code} {T : State} {locs : List Loc} {cells slots : Nat}
theorem retI (X : Stand p l e R s m args below meth c T locs cells slots) (hx : p.tables.exec = Jvm.exec) {pc : Nat} {Ls : Array Slot} {z : Int32} {rest : List Value} (hret : meth.sig.returnType = some .int) (hd : decode c.code pc = .ok (.ireturn, 1)) {fs : List Frame}
    (hl : ∀ (f : JFrame) (acts : List Action), f.method = m → f.locked = none → f.entered = [] → (doReturn e (T.setTop f) acts (some (.int z))).1 = T.setFrames fs) : Steps p.tables e below (T.setTop (mkF m pc Ls (.int z :: rest))) (T.setFrames fs) := by
  have hm' : T.vm.method? m = some meth := X.method'
  have hn : narrow .int (.int z) = .int z := rfl
  show Steps p.tables e below (T.setTop { method := m, pc := pc, locals := Ls, stack := _ :: rest, locked := none }) _
  jvm_step X.here [X.here.top, hx, hd, hm', hret, hn]
  first | (intro acts; rw [hl _ acts rfl rfl rfl]) | rw [hl _ _ rfl rfl rfl]
  exact Steps.refl _
theorem own_retL (X : Stand p l e R s m args below meth c T locs cells slots) (hx : p.tables.exec = Jvm.exec) {pc : Nat} {Ls : Array Slot} {z : Int64} {rest : List Value} (hret : meth.sig.returnType = some .long) (hd : decode c.code pc = .ok (.lreturn, 1)) {fs : List Frame}
    (hl : ∀ (f : JFrame) (acts : List Action), f.method = m → f.locked = none → f.entered = [] → (doReturn e (T.setTop f) acts (some (.long z))).1 = T.setFrames fs) : Steps p.tables e below (T.setTop (mkF m pc Ls (.long z :: rest))) (T.setFrames fs) := by
  have hm' : T.vm.method? m = some meth := X.method'
  have hn : narrow .long (.long z) = .long z := rfl
  show Steps p.tables e below (T.setTop { method := m, pc := pc, locals := Ls, stack := _ :: rest, locked := none }) _
  jvm_step X.here [X.here.top, hx, hd, hm', hret, hn]
  first | (intro acts; rw [hl _ acts rfl rfl rfl]) | rw [hl _ _ rfl rfl rfl]
  exact Steps.refl _
theorem own_retR (X : Stand p l e R s m args below meth c T locs cells slots) (hx : p.tables.exec = Jvm.exec) {pc : Nat} {Ls : Array Slot} {v : Value} {t : FieldType} {rest : List Value} (hret : meth.sig.returnType = some t) (ht : t.isReference = true) (hv : v.isRef = true) (hd : decode c.code pc = .ok (.areturn, 1)) {fs : List Frame}
    (hl : ∀ (f : JFrame) (acts : List Action), f.method = m → f.locked = none → f.entered = [] → (doReturn e (T.setTop f) acts (some v)).1 = T.setFrames fs) : Steps p.tables e below (T.setTop (mkF m pc Ls (v :: rest))) (T.setFrames fs) := by
  have hm' : T.vm.method? m = some meth := X.method'
  show Steps p.tables e below (T.setTop { method := m, pc := pc, locals := Ls, stack := _ :: rest, locked := none }) _
  rcases ref_cases hv with rfl | ⟨a, rfl⟩
  · jvm_step X.here [X.here.top, hx, hd, hm', hret, ht, Value.isRef]
    first | (intro acts; rw [hl _ acts rfl rfl rfl]) | rw [hl _ _ rfl rfl rfl]
    exact Steps.refl _
  · jvm_step X.here [X.here.top, hx, hd, hm', hret, ht, Value.isRef]
    first | (intro acts; rw [hl _ acts rfl rfl rfl]) | rw [hl _ _ rfl rfl rfl]
    exact Steps.refl _
end New
/-- an end that the run comes to from S, with what is said of it -/
def OGo (tb : Tables) (e : Env) (below : List Frame) (Φ : State → Outcome → Prop) (S : State) : Prop := ∃ t o, Steps tb e below S t ∧ Φ t o
section Own
variable {tb : Tables} {e : Env} {below : List Frame} {Φ : State → Outcome → Prop} {S S' t : State} {o : Outcome}
theorem OGo.start (pre : ∀ t, Steps tb e below S' t → Steps tb e below S t) (k : OGo tb e below Φ S') : ∃ t o, Steps tb e below S t ∧ Φ t o := by
  obtain ⟨t, o, h1, h2⟩ := k
  exact ⟨t, o, pre t h1, h2⟩
theorem OGo.st (h : ∀ t, Steps tb e below S' t → Steps tb e below S t) (k : OGo tb e below Φ S') : OGo tb e below Φ S := OGo.start h k
theorem OGo.tr (h : Steps tb e below S S') (k : OGo tb e below Φ S') : OGo tb e below Φ S := OGo.start (fun _ q => h.trans q) k
theorem OGo.done (h : Steps tb e below S t) (q : Φ t o) : OGo tb e below Φ S := ⟨t, o, h, q⟩
theorem OGo.join {α : Type} (P : α → Prop) (F : α → State) (h : ∀ v, P v → OGo tb e below Φ (F v)) (k : (∀ v, P v → OGo tb e below Φ (F v)) → OGo tb e below Φ S) : OGo tb e below Φ S := k h
theorem own_fld {Z : State} {h : Heap} {a : Addr} {C n d : String} {v w : Value} (F : Fld Z h a C n d v) (q : v = w) : Fld Z h a C n d w := q ▸ F
end Own
end Jvm.RoadKit
namespace Jvm.Pilot.@@N@@
open Jvm Jvm.ClassFile Sem Op Lib Jvm.Free Jvm.Stand Jvm.LawKit Jvm.RoadKit Bundle Jvm.Pilot.@@N@@.Jvm.D
def own_x16 (x : Int32) : Int32 := x ^^^ ((x.toUInt32 >>> ((16 : Int32) &&& 31).toUInt32).toInt32)
def own_x13 (x : Int32) : Int32 := x ^^^ ((x.toUInt32 >>> ((13 : Int32) &&& 31).toUInt32).toInt32)
def own_x26 (x : Int32) : Int32 := (x ^^^ ((x.toUInt32 >>> ((13 : Int32) &&& 31).toUInt32).toInt32)) ^^^ ((x.toUInt32 >>> ((26 : Int32) &&& 31).toUInt32).toInt32)
def own_spread (x : Int32) : Int32 := own_x16 (own_x13 (own_x16 x * (-2048144789 : Int32)) * (-1028477387 : Int32))
def own_unspread (x : Int32) : Int32 := own_x16 (own_x26 (own_x16 x * (2127672349 : Int32)) * (-1513385405 : Int32))
theorem own_b16 (x : Int32) : (own_x16 x).toBitVec = x.toBitVec ^^^ (x.toBitVec >>> 16) := rfl
theorem own_b13 (x : Int32) : (own_x13 x).toBitVec = x.toBitVec ^^^ (x.toBitVec >>> 13) := rfl
theorem own_b26 (x : Int32) : (own_x26 x).toBitVec = (x.toBitVec ^^^ (x.toBitVec >>> 13)) ^^^ (x.toBitVec >>> 26) := rfl
theorem own_i16 (x : Int32) : own_x16 (own_x16 x) = x := by
  apply Int32.toBitVec_inj.mp
  rw [own_b16, own_b16]
  apply BitVec.eq_of_getLsbD_eq
  intro i hi
  simp only [BitVec.getLsbD_xor, BitVec.getLsbD_ushiftRight]
  have e : x.toBitVec.getLsbD (16 + (16 + i)) = false := BitVec.getLsbD_of_ge _ _ (by omega)
  rw [e]
  cases x.toBitVec.getLsbD i <;> cases x.toBitVec.getLsbD (16 + i) <;> rfl
theorem own_i13 (x : Int32) : own_x26 (own_x13 x) = x := by
  apply Int32.toBitVec_inj.mp
  rw [own_b26, own_b13]
  apply BitVec.eq_of_getLsbD_eq
  intro i hi
  simp only [BitVec.getLsbD_xor, BitVec.getLsbD_ushiftRight]
  have e : x.toBitVec.getLsbD (13 + (26 + i)) = false := BitVec.getLsbD_of_ge _ _ (by omega)
  have e2 : 13 + (13 + i) = 26 + i := by omega
  rw [e, e2]
  cases x.toBitVec.getLsbD i <;> cases x.toBitVec.getLsbD (13 + i) <;> cases x.toBitVec.getLsbD (26 + i) <;> rfl
theorem own_i26 (x : Int32) : own_x13 (own_x26 x) = x := by
  apply Int32.toBitVec_inj.mp
  rw [own_b13, own_b26]
  apply BitVec.eq_of_getLsbD_eq
  intro i hi
  simp only [BitVec.getLsbD_xor, BitVec.getLsbD_ushiftRight]
  have e : x.toBitVec.getLsbD (26 + (13 + i)) = false := BitVec.getLsbD_of_ge _ _ (by omega)
  have e2 : 13 + (13 + i) = 26 + i := by omega
  rw [e, e2]
  cases x.toBitVec.getLsbD i <;> cases x.toBitVec.getLsbD (13 + i) <;> cases x.toBitVec.getLsbD (26 + i) <;> rfl
theorem own_ma (x : Int32) : x * (-2048144789 : Int32) * (-1513385405 : Int32) = x := by
  rw [Int32.mul_assoc, show (-2048144789 : Int32) * (-1513385405 : Int32) = 1 by decide, Int32.mul_one]
theorem own_ma' (x : Int32) : x * (-1513385405 : Int32) * (-2048144789 : Int32) = x := by
  rw [Int32.mul_assoc, show (-1513385405 : Int32) * (-2048144789 : Int32) = 1 by decide, Int32.mul_one]
theorem own_mb (x : Int32) : x * (-1028477387 : Int32) * (2127672349 : Int32) = x := by
  rw [Int32.mul_assoc, show (-1028477387 : Int32) * (2127672349 : Int32) = 1 by decide, Int32.mul_one]
theorem own_mb' (x : Int32) : x * (2127672349 : Int32) * (-1028477387 : Int32) = x := by
  rw [Int32.mul_assoc, show (2127672349 : Int32) * (-1028477387 : Int32) = 1 by decide, Int32.mul_one]
theorem own_back (x : Int32) : own_unspread (own_spread x) = x := by
  unfold own_unspread own_spread
  rw [own_i16, own_mb, own_i13, own_ma, own_i16]
theorem own_forth (x : Int32) : own_spread (own_unspread x) = x := by
  unfold own_unspread own_spread
  rw [own_i16, own_ma', own_i26, own_mb', own_i16]
theorem d0_0 : decode prog_75_method_25_code 0 = .ok (.iload_n 0, 1) := by decide +kernel
theorem d0_1 : decode prog_75_method_25_code 1 = .ok (.iload_n 0, 1) := by decide +kernel
theorem d0_2 : decode prog_75_method_25_code 2 = .ok (.bipush 16, 2) := by decide +kernel
theorem d0_4 : decode prog_75_method_25_code 4 = .ok (.iushr, 1) := by decide +kernel
theorem d0_5 : decode prog_75_method_25_code 5 = .ok (.ixor, 1) := by decide +kernel
theorem d0_6 : decode prog_75_method_25_code 6 = .ok (.istore_n 1, 1) := by decide +kernel
theorem d0_7 : decode prog_75_method_25_code 7 = .ok (.iload_n 1, 1) := by decide +kernel
theorem d0_8 : decode prog_75_method_25_code 8 = .ok (.ldc 156, 2) := by decide +kernel
theorem d0_10 : decode prog_75_method_25_code 10 = .ok (.imul, 1) := by decide +kernel
theorem d0_11 : decode prog_75_method_25_code 11 = .ok (.istore_n 1, 1) := by decide +kernel
theorem d0_12 : decode prog_75_method_25_code 12 = .ok (.iload_n 1, 1) := by decide +kernel
theorem d0_13 : decode prog_75_method_25_code 13 = .ok (.iload_n 1, 1) := by decide +kernel
theorem d0_14 : decode prog_75_method_25_code 14 = .ok (.bipush 13, 2) := by decide +kernel
theorem d0_16 : decode prog_75_method_25_code 16 = .ok (.iushr, 1) := by decide +kernel
theorem d0_17 : decode prog_75_method_25_code 17 = .ok (.ixor, 1) := by decide +kernel
theorem d0_18 : decode prog_75_method_25_code 18 = .ok (.istore_n 1, 1) := by decide +kernel
theorem d0_19 : decode prog_75_method_25_code 19 = .ok (.iload_n 1, 1) := by decide +kernel
theorem d0_20 : decode prog_75_method_25_code 20 = .ok (.ldc 157, 2) := by decide +kernel
theorem d0_22 : decode prog_75_method_25_code 22 = .ok (.imul, 1) := by decide +kernel
theorem d0_23 : decode prog_75_method_25_code 23 = .ok (.istore_n 1, 1) := by decide +kernel
theorem d0_24 : decode prog_75_method_25_code 24 = .ok (.iload_n 1, 1) := by decide +kernel
theorem d0_25 : decode prog_75_method_25_code 25 = .ok (.iload_n 1, 1) := by decide +kernel
theorem d0_26 : decode prog_75_method_25_code 26 = .ok (.bipush 16, 2) := by decide +kernel
theorem d0_28 : decode prog_75_method_25_code 28 = .ok (.iushr, 1) := by decide +kernel
theorem d0_29 : decode prog_75_method_25_code 29 = .ok (.ixor, 1) := by decide +kernel
theorem d0_30 : decode prog_75_method_25_code 30 = .ok (.ireturn, 1) := by decide +kernel
theorem pn_0 : plainName "com/example/portcullis/portcullis/policy/Records" = true := by first | (simp [plainName, overriddenIn]; done) | decide +kernel
theorem ef_0 (m : MethodId) (x0 : Int32) : entryFrame m #[(.int x0)] 2 = mkF m 0 #[.val (.int x0), .unset] [] := by first | (simp [entryFrame, mkF, argsToLocals, Value.category]; done) | rfl
def Q0 (Z : State) (p0 : Int32) (h0 : Heap) (n0 : Nat) (v : Option Value) (h : Heap) (L : List Loc) : Prop := v = some (.int (own_spread p0)) ∧ Fr n0 L ∧ h = h0
set_option maxRecDepth 65536 in
set_option maxHeartbeats 40000000 in
theorem rm0 (l : Launch) (Z : State) (ar : Array Value) (hw : ∀ d ∈ tables_1, d.before ar Z = true) (ws : List Jvm.Cond) (p0 : Int32) (h0 : Heap) (n0 : Nat) (Z0 : n0 ≤ h0.size)  :
    MetFree l (⟨"com/example/portcullis/portcullis/policy/Records", "spread", "(I)I"⟩ : MethodName) (head1 (Jvm.Cond.code (⟨"com/example/portcullis/portcullis/policy/Records", "spread", "(I)I"⟩ : MethodName) prog_75_method_25_code 2 (some .int) :: ws) ({ frames := 0, cells := 0, slots := 0, locals := 0 } : Room)) (fun a U => a = #[(.int p0)] ∧ Z.Warmed39 U.vm ∧ U.heap = h0) (fun _ _ _ _ _ => True) (fun _ U o U' => ∃ v L, o = .returned v ∧ Q0 Z p0 h0 n0 v U'.heap L ∧ FrameEnd U o U' L ({ frames := 0, cells := 0, slots := 0, locals := 0 } : Room).cells ({ frames := 0, cells := 0, slots := 0, locals := 0 } : Room).slots) := by
  refine MetFree.of_bodySF (plainFor_of_name pn_0) hisR ?_
  intro p e s m args below meth c s₁ Bd hml0 hP hK
  obtain ⟨rfl, hZ, hh⟩ := hP
  have hx := Bd.exec
  have hby := Bd.bytes
  have hml : c.maxLocals = 2 := hml0
  have hown : s.vm.findClass "com/example/portcullis/portcullis/policy/Records" = some m.cls := findClass_of_methodNamed Bd.named
  have hnm := (name_of_methodNamed Bd.named Bd.method).1
  have X0 : Stand p l e ({ frames := 0, cells := 0, slots := 0, locals := 0 } : Room) s m #[(.int p0)] below meth c s₁ [] 0 0 := Stand.of_body Bd
  have e0 : s₁.heap = h0 := by rw [← hh, Bd.state]; rfl
  have N0 := Fr.nil n0
  have pre0 : ∀ t, Steps p.tables e below (s₁.setTop (mkF m 0 #[.val (.int p0), .unset] [])) t → Steps p.tables e below (s₁.setTop (entryFrame m #[(.int p0)] 2)) t := fun t k => castTop (ef_0 m p0) k
  refine OGo.start pre0 ?_
  show OGo p.tables e below _ (s₁.setTop (mkF m 0 #[.val (.int p0), .unset] []))
  refine OGo.st (fun t k => XS.iloadN X0.here hx rfl (hb hby d0_0) rfl k) ?_
  show OGo p.tables e below _ (s₁.setTop (mkF m 1 #[.val (.int p0), .unset] [(.int p0)]))
  refine OGo.st (fun t k => XS.iloadN X0.here hx rfl (hb hby d0_1) rfl k) ?_
  show OGo p.tables e below _ (s₁.setTop (mkF m 2 #[.val (.int p0), .unset] [(.int p0), (.int p0)]))
  refine OGo.st (fun t k => XS.bipush X0.here hx rfl (hb hby d0_2) k) ?_
  show OGo p.tables e below _ (s₁.setTop (mkF m 4 #[.val (.int p0), .unset] [(.int (16 : Int32)), (.int p0), (.int p0)]))
  refine OGo.st (fun t k => XS.iushr X0.here hx rfl (hb hby d0_4) rfl k) ?_
  show OGo p.tables e below _ (s₁.setTop (mkF m 5 #[.val (.int p0), .unset] [(.int ((p0.toUInt32 >>> ((16 : Int32) &&& 31).toUInt32).toInt32)), (.int p0)]))
  refine OGo.st (fun t k => XS.ixor X0.here hx rfl (hb hby d0_5) rfl k) ?_
  show OGo p.tables e below _ (s₁.setTop (mkF m 6 #[.val (.int p0), .unset] [(.int (p0 ^^^ ((p0.toUInt32 >>> ((16 : Int32) &&& 31).toUInt32).toInt32)))]))
  refine OGo.st (fun t k => XS.istoreN X0.here hx rfl (hb hby d0_6) rfl (l' := #[.val (.int p0), .val (.int (p0 ^^^ ((p0.toUInt32 >>> ((16 : Int32) &&& 31).toUInt32).toInt32)))]) rfl k) ?_
  show OGo p.tables e below _ (s₁.setTop (mkF m 7 #[.val (.int p0), .val (.int (p0 ^^^ ((p0.toUInt32 >>> ((16 : Int32) &&& 31).toUInt32).toInt32)))] []))
  show OGo p.tables e below _ (s₁.setTop (mkF m 7 #[.val (.int p0), .val (.int (own_x16 p0))] []))
  refine OGo.st (fun t k => XS.iloadN X0.here hx rfl (hb hby d0_7) rfl k) ?_
  show OGo p.tables e below _ (s₁.setTop (mkF m 8 #[.val (.int p0), .val (.int (own_x16 p0))] [(.int (own_x16 p0))]))
  refine OGo.st (fun t k => X0.ldcInt hx hown (mvT hZ (hw _ (List.mem_of_getElem? (i := 4) rfl))) (g := (mkF m 8 #[.val (.int p0), .val (.int (own_x16 p0))] [(.int (own_x16 p0))])) rfl (hb hby d0_8) _ k) ?_
  show OGo p.tables e below _ (s₁.setTop (mkF m 10 #[.val (.int p0), .val (.int (own_x16 p0))] [(.int (-2048144789 : Int32)), (.int (own_x16 p0))]))
  refine OGo.st (fun t k => XS.imul X0.here hx rfl (hb hby d0_10) rfl k) ?_
  show OGo p.tables e below _ (s₁.setTop (mkF m 11 #[.val (.int p0), .val (.int (own_x16 p0))] [(.int ((own_x16 p0) * (-2048144789 : Int32)))]))
  refine OGo.st (fun t k => XS.istoreN X0.here hx rfl (hb hby d0_11) rfl (l' := #[.val (.int p0), .val (.int ((own_x16 p0) * (-2048144789 : Int32)))]) rfl k) ?_
  show OGo p.tables e below _ (s₁.setTop (mkF m 12 #[.val (.int p0), .val (.int ((own_x16 p0) * (-2048144789 : Int32)))] []))
  refine OGo.st (fun t k => XS.iloadN X0.here hx rfl (hb hby d0_12) rfl k) ?_
  show OGo p.tables e below _ (s₁.setTop (mkF m 13 #[.val (.int p0), .val (.int ((own_x16 p0) * (-2048144789 : Int32)))] [(.int ((own_x16 p0) * (-2048144789 : Int32)))]))
  refine OGo.st (fun t k => XS.iloadN X0.here hx rfl (hb hby d0_13) rfl k) ?_
  show OGo p.tables e below _ (s₁.setTop (mkF m 14 #[.val (.int p0), .val (.int ((own_x16 p0) * (-2048144789 : Int32)))] [(.int ((own_x16 p0) * (-2048144789 : Int32))), (.int ((own_x16 p0) * (-2048144789 : Int32)))]))
  refine OGo.st (fun t k => XS.bipush X0.here hx rfl (hb hby d0_14) k) ?_
  show OGo p.tables e below _ (s₁.setTop (mkF m 16 #[.val (.int p0), .val (.int ((own_x16 p0) * (-2048144789 : Int32)))] [(.int (13 : Int32)), (.int ((own_x16 p0) * (-2048144789 : Int32))), (.int ((own_x16 p0) * (-2048144789 : Int32)))]))
  refine OGo.st (fun t k => XS.iushr X0.here hx rfl (hb hby d0_16) rfl k) ?_
  show OGo p.tables e below _ (s₁.setTop (mkF m 17 #[.val (.int p0), .val (.int ((own_x16 p0) * (-2048144789 : Int32)))] [(.int ((((own_x16 p0) * (-2048144789 : Int32)).toUInt32 >>> ((13 : Int32) &&& 31).toUInt32).toInt32)), (.int ((own_x16 p0) * (-2048144789 : Int32)))]))
  refine OGo.st (fun t k => XS.ixor X0.here hx rfl (hb hby d0_17) rfl k) ?_
  show OGo p.tables e below _ (s₁.setTop (mkF m 18 #[.val (.int p0), .val (.int ((own_x16 p0) * (-2048144789 : Int32)))] [(.int (((own_x16 p0) * (-2048144789 : Int32)) ^^^ ((((own_x16 p0) * (-2048144789 : Int32)).toUInt32 >>> ((13 : Int32) &&& 31).toUInt32).toInt32)))]))
  refine OGo.st (fun t k => XS.istoreN X0.here hx rfl (hb hby d0_18) rfl (l' := #[.val (.int p0), .val (.int (((own_x16 p0) * (-2048144789 : Int32)) ^^^ ((((own_x16 p0) * (-2048144789 : Int32)).toUInt32 >>> ((13 : Int32) &&& 31).toUInt32).toInt32)))]) rfl k) ?_
  show OGo p.tables e below _ (s₁.setTop (mkF m 19 #[.val (.int p0), .val (.int (((own_x16 p0) * (-2048144789 : Int32)) ^^^ ((((own_x16 p0) * (-2048144789 : Int32)).toUInt32 >>> ((13 : Int32) &&& 31).toUInt32).toInt32)))] []))
  show OGo p.tables e below _ (s₁.setTop (mkF m 19 #[.val (.int p0), .val (.int (own_x13 ((own_x16 p0) * (-2048144789 : Int32))))] []))
  refine OGo.st (fun t k => XS.iloadN X0.here hx rfl (hb hby d0_19) rfl k) ?_
  show OGo p.tables e below _ (s₁.setTop (mkF m 20 #[.val (.int p0), .val (.int (own_x13 ((own_x16 p0) * (-2048144789 : Int32))))] [(.int (own_x13 ((own_x16 p0) * (-2048144789 : Int32))))]))
  refine OGo.st (fun t k => X0.ldcInt hx hown (mvT hZ (hw _ (List.mem_of_getElem? (i := 5) rfl))) (g := (mkF m 20 #[.val (.int p0), .val (.int (own_x13 ((own_x16 p0) * (-2048144789 : Int32))))] [(.int (own_x13 ((own_x16 p0) * (-2048144789 : Int32))))])) rfl (hb hby d0_20) _ k) ?_
  show OGo p.tables e below _ (s₁.setTop (mkF m 22 #[.val (.int p0), .val (.int (own_x13 ((own_x16 p0) * (-2048144789 : Int32))))] [(.int (-1028477387 : Int32)), (.int (own_x13 ((own_x16 p0) * (-2048144789 : Int32))))]))
  refine OGo.st (fun t k => XS.imul X0.here hx rfl (hb hby d0_22) rfl k) ?_
  show OGo p.tables e below _ (s₁.setTop (mkF m 23 #[.val (.int p0), .val (.int (own_x13 ((own_x16 p0) * (-2048144789 : Int32))))] [(.int ((own_x13 ((own_x16 p0) * (-2048144789 : Int32))) * (-1028477387 : Int32)))]))
  refine OGo.st (fun t k => XS.istoreN X0.here hx rfl (hb hby d0_23) rfl (l' := #[.val (.int p0), .val (.int ((own_x13 ((own_x16 p0) * (-2048144789 : Int32))) * (-1028477387 : Int32)))]) rfl k) ?_
  show OGo p.tables e below _ (s₁.setTop (mkF m 24 #[.val (.int p0), .val (.int ((own_x13 ((own_x16 p0) * (-2048144789 : Int32))) * (-1028477387 : Int32)))] []))
  refine OGo.st (fun t k => XS.iloadN X0.here hx rfl (hb hby d0_24) rfl k) ?_
  show OGo p.tables e below _ (s₁.setTop (mkF m 25 #[.val (.int p0), .val (.int ((own_x13 ((own_x16 p0) * (-2048144789 : Int32))) * (-1028477387 : Int32)))] [(.int ((own_x13 ((own_x16 p0) * (-2048144789 : Int32))) * (-1028477387 : Int32)))]))
  refine OGo.st (fun t k => XS.iloadN X0.here hx rfl (hb hby d0_25) rfl k) ?_
  show OGo p.tables e below _ (s₁.setTop (mkF m 26 #[.val (.int p0), .val (.int ((own_x13 ((own_x16 p0) * (-2048144789 : Int32))) * (-1028477387 : Int32)))] [(.int ((own_x13 ((own_x16 p0) * (-2048144789 : Int32))) * (-1028477387 : Int32))), (.int ((own_x13 ((own_x16 p0) * (-2048144789 : Int32))) * (-1028477387 : Int32)))]))
  refine OGo.st (fun t k => XS.bipush X0.here hx rfl (hb hby d0_26) k) ?_
  show OGo p.tables e below _ (s₁.setTop (mkF m 28 #[.val (.int p0), .val (.int ((own_x13 ((own_x16 p0) * (-2048144789 : Int32))) * (-1028477387 : Int32)))] [(.int (16 : Int32)), (.int ((own_x13 ((own_x16 p0) * (-2048144789 : Int32))) * (-1028477387 : Int32))), (.int ((own_x13 ((own_x16 p0) * (-2048144789 : Int32))) * (-1028477387 : Int32)))]))
  refine OGo.st (fun t k => XS.iushr X0.here hx rfl (hb hby d0_28) rfl k) ?_
  show OGo p.tables e below _ (s₁.setTop (mkF m 29 #[.val (.int p0), .val (.int ((own_x13 ((own_x16 p0) * (-2048144789 : Int32))) * (-1028477387 : Int32)))] [(.int ((((own_x13 ((own_x16 p0) * (-2048144789 : Int32))) * (-1028477387 : Int32)).toUInt32 >>> ((16 : Int32) &&& 31).toUInt32).toInt32)), (.int ((own_x13 ((own_x16 p0) * (-2048144789 : Int32))) * (-1028477387 : Int32)))]))
  refine OGo.st (fun t k => XS.ixor X0.here hx rfl (hb hby d0_29) rfl k) ?_
  show OGo p.tables e below _ (s₁.setTop (mkF m 30 #[.val (.int p0), .val (.int ((own_x13 ((own_x16 p0) * (-2048144789 : Int32))) * (-1028477387 : Int32)))] [(.int (((own_x13 ((own_x16 p0) * (-2048144789 : Int32))) * (-1028477387 : Int32)) ^^^ ((((own_x13 ((own_x16 p0) * (-2048144789 : Int32))) * (-1028477387 : Int32)).toUInt32 >>> ((16 : Int32) &&& 31).toUInt32).toInt32)))]))
  obtain ⟨fs, hr, hrun, hended, hW, hsame⟩ := X0.leave (v := some (.int (((own_x13 ((own_x16 p0) * (-2048144789 : Int32))) * (-1028477387 : Int32)) ^^^ ((((own_x13 ((own_x16 p0) * (-2048144789 : Int32))) * (-1028477387 : Int32)).toUInt32 >>> ((16 : Int32) &&& 31).toUInt32).toInt32)))) (fun h => by rw [Bd.returns] at h; cases h)
  refine OGo.done (retI X0 hx Bd.returns (hb hby d0_30) hr) ⟨hrun, hended, _, _, rfl, ?_, ⟨_, rfl⟩, hW, hsame.mono (by decide) (by decide)⟩
  show Q0 Z p0 h0 n0 _ s₁.heap _
  rw [e0]
  exact ⟨(congrArg (fun z => some (Value.int z)) (show (((own_x13 ((own_x16 p0) * (-2048144789 : Int32))) * (-1028477387 : Int32)) ^^^ ((((own_x13 ((own_x16 p0) * (-2048144789 : Int32))) * (-1028477387 : Int32)).toUInt32 >>> ((16 : Int32) &&& 31).toUInt32).toInt32)) = (own_spread p0) from by rfl)), N0, rfl⟩
theorem d1_0 : decode method_2_code 0 = .ok (.iload_n 0, 1) := by decide +kernel
theorem d1_1 : decode method_2_code 1 = .ok (.iload_n 0, 1) := by decide +kernel
theorem d1_2 : decode method_2_code 2 = .ok (.bipush 16, 2) := by decide +kernel
theorem d1_4 : decode method_2_code 4 = .ok (.iushr, 1) := by decide +kernel
theorem d1_5 : decode method_2_code 5 = .ok (.ixor, 1) := by decide +kernel
theorem d1_6 : decode method_2_code 6 = .ok (.istore_n 1, 1) := by decide +kernel
theorem d1_7 : decode method_2_code 7 = .ok (.iload_n 1, 1) := by decide +kernel
theorem d1_8 : decode method_2_code 8 = .ok (.ldc 7, 2) := by decide +kernel
theorem d1_10 : decode method_2_code 10 = .ok (.imul, 1) := by decide +kernel
theorem d1_11 : decode method_2_code 11 = .ok (.istore_n 1, 1) := by decide +kernel
theorem d1_12 : decode method_2_code 12 = .ok (.iload_n 1, 1) := by decide +kernel
theorem d1_13 : decode method_2_code 13 = .ok (.iload_n 1, 1) := by decide +kernel
theorem d1_14 : decode method_2_code 14 = .ok (.bipush 13, 2) := by decide +kernel
theorem d1_16 : decode method_2_code 16 = .ok (.iushr, 1) := by decide +kernel
theorem d1_17 : decode method_2_code 17 = .ok (.ixor, 1) := by decide +kernel
theorem d1_18 : decode method_2_code 18 = .ok (.iload_n 1, 1) := by decide +kernel
theorem d1_19 : decode method_2_code 19 = .ok (.bipush 26, 2) := by decide +kernel
theorem d1_21 : decode method_2_code 21 = .ok (.iushr, 1) := by decide +kernel
theorem d1_22 : decode method_2_code 22 = .ok (.ixor, 1) := by decide +kernel
theorem d1_23 : decode method_2_code 23 = .ok (.istore_n 1, 1) := by decide +kernel
theorem d1_24 : decode method_2_code 24 = .ok (.iload_n 1, 1) := by decide +kernel
theorem d1_25 : decode method_2_code 25 = .ok (.ldc 8, 2) := by decide +kernel
theorem d1_27 : decode method_2_code 27 = .ok (.imul, 1) := by decide +kernel
theorem d1_28 : decode method_2_code 28 = .ok (.istore_n 1, 1) := by decide +kernel
theorem d1_29 : decode method_2_code 29 = .ok (.iload_n 1, 1) := by decide +kernel
theorem d1_30 : decode method_2_code 30 = .ok (.iload_n 1, 1) := by decide +kernel
theorem d1_31 : decode method_2_code 31 = .ok (.bipush 16, 2) := by decide +kernel
theorem d1_33 : decode method_2_code 33 = .ok (.iushr, 1) := by decide +kernel
theorem d1_34 : decode method_2_code 34 = .ok (.ixor, 1) := by decide +kernel
theorem d1_35 : decode method_2_code 35 = .ok (.ireturn, 1) := by decide +kernel
theorem pn_1 : plainName "com/example/portcullis/portcullis/policy/RecordsSpreadPinLaw" = true := by first | (simp [plainName, overriddenIn]; done) | decide +kernel
theorem ef_1 (m : MethodId) (x0 : Int32) : entryFrame m #[(.int x0)] 2 = mkF m 0 #[.val (.int x0), .unset] [] := by first | (simp [entryFrame, mkF, argsToLocals, Value.category]; done) | rfl
def Q1 (Z : State) (p0 : Int32) (h0 : Heap) (n0 : Nat) (v : Option Value) (h : Heap) (L : List Loc) : Prop := v = some (.int (own_unspread p0)) ∧ Fr n0 L ∧ h = h0
set_option maxRecDepth 65536 in
set_option maxHeartbeats 40000000 in
theorem rm1 (l : Launch) (Z : State) (ar : Array Value) (hw : ∀ d ∈ tables_1, d.before ar Z = true) (ws : List Jvm.Cond) (p0 : Int32) (h0 : Heap) (n0 : Nat) (Z0 : n0 ≤ h0.size)  :
    MetFree l (⟨"com/example/portcullis/portcullis/policy/RecordsSpreadPinLaw", "unspread", "(I)I"⟩ : MethodName) (head1 (Jvm.Cond.code (⟨"com/example/portcullis/portcullis/policy/RecordsSpreadPinLaw", "unspread", "(I)I"⟩ : MethodName) method_2_code 2 (some .int) :: ws) ({ frames := 0, cells := 0, slots := 0, locals := 0 } : Room)) (fun a U => a = #[(.int p0)] ∧ Z.Warmed39 U.vm ∧ U.heap = h0) (fun _ _ _ _ _ => True) (fun _ U o U' => ∃ v L, o = .returned v ∧ Q1 Z p0 h0 n0 v U'.heap L ∧ FrameEnd U o U' L ({ frames := 0, cells := 0, slots := 0, locals := 0 } : Room).cells ({ frames := 0, cells := 0, slots := 0, locals := 0 } : Room).slots) := by
  refine MetFree.of_bodySF (plainFor_of_name pn_1) hisR ?_
  intro p e s m args below meth c s₁ Bd hml0 hP hK
  obtain ⟨rfl, hZ, hh⟩ := hP
  have hx := Bd.exec
  have hby := Bd.bytes
  have hml : c.maxLocals = 2 := hml0
  have hown : s.vm.findClass "com/example/portcullis/portcullis/policy/RecordsSpreadPinLaw" = some m.cls := findClass_of_methodNamed Bd.named
  have hnm := (name_of_methodNamed Bd.named Bd.method).1
  have X0 : Stand p l e ({ frames := 0, cells := 0, slots := 0, locals := 0 } : Room) s m #[(.int p0)] below meth c s₁ [] 0 0 := Stand.of_body Bd
  have e0 : s₁.heap = h0 := by rw [← hh, Bd.state]; rfl
  have N0 := Fr.nil n0
  have pre0 : ∀ t, Steps p.tables e below (s₁.setTop (mkF m 0 #[.val (.int p0), .unset] [])) t → Steps p.tables e below (s₁.setTop (entryFrame m #[(.int p0)] 2)) t := fun t k => castTop (ef_1 m p0) k
  refine OGo.start pre0 ?_
  show OGo p.tables e below _ (s₁.setTop (mkF m 0 #[.val (.int p0), .unset] []))
  refine OGo.st (fun t k => XS.iloadN X0.here hx rfl (hb hby d1_0) rfl k) ?_
  show OGo p.tables e below _ (s₁.setTop (mkF m 1 #[.val (.int p0), .unset] [(.int p0)]))
  refine OGo.st (fun t k => XS.iloadN X0.here hx rfl (hb hby d1_1) rfl k) ?_
  show OGo p.tables e below _ (s₁.setTop (mkF m 2 #[.val (.int p0), .unset] [(.int p0), (.int p0)]))
  refine OGo.st (fun t k => XS.bipush X0.here hx rfl (hb hby d1_2) k) ?_
  show OGo p.tables e below _ (s₁.setTop (mkF m 4 #[.val (.int p0), .unset] [(.int (16 : Int32)), (.int p0), (.int p0)]))
  refine OGo.st (fun t k => XS.iushr X0.here hx rfl (hb hby d1_4) rfl k) ?_
  show OGo p.tables e below _ (s₁.setTop (mkF m 5 #[.val (.int p0), .unset] [(.int ((p0.toUInt32 >>> ((16 : Int32) &&& 31).toUInt32).toInt32)), (.int p0)]))
  refine OGo.st (fun t k => XS.ixor X0.here hx rfl (hb hby d1_5) rfl k) ?_
  show OGo p.tables e below _ (s₁.setTop (mkF m 6 #[.val (.int p0), .unset] [(.int (p0 ^^^ ((p0.toUInt32 >>> ((16 : Int32) &&& 31).toUInt32).toInt32)))]))
  refine OGo.st (fun t k => XS.istoreN X0.here hx rfl (hb hby d1_6) rfl (l' := #[.val (.int p0), .val (.int (p0 ^^^ ((p0.toUInt32 >>> ((16 : Int32) &&& 31).toUInt32).toInt32)))]) rfl k) ?_
  show OGo p.tables e below _ (s₁.setTop (mkF m 7 #[.val (.int p0), .val (.int (p0 ^^^ ((p0.toUInt32 >>> ((16 : Int32) &&& 31).toUInt32).toInt32)))] []))
  show OGo p.tables e below _ (s₁.setTop (mkF m 7 #[.val (.int p0), .val (.int (own_x16 p0))] []))
  refine OGo.st (fun t k => XS.iloadN X0.here hx rfl (hb hby d1_7) rfl k) ?_
  show OGo p.tables e below _ (s₁.setTop (mkF m 8 #[.val (.int p0), .val (.int (own_x16 p0))] [(.int (own_x16 p0))]))
  refine OGo.st (fun t k => X0.ldcInt hx hown (mvT hZ (hw _ (List.mem_of_getElem? (i := 10) rfl))) (g := (mkF m 8 #[.val (.int p0), .val (.int (own_x16 p0))] [(.int (own_x16 p0))])) rfl (hb hby d1_8) _ k) ?_
  show OGo p.tables e below _ (s₁.setTop (mkF m 10 #[.val (.int p0), .val (.int (own_x16 p0))] [(.int (2127672349 : Int32)), (.int (own_x16 p0))]))
  refine OGo.st (fun t k => XS.imul X0.here hx rfl (hb hby d1_10) rfl k) ?_
  show OGo p.tables e below _ (s₁.setTop (mkF m 11 #[.val (.int p0), .val (.int (own_x16 p0))] [(.int ((own_x16 p0) * (2127672349 : Int32)))]))
  refine OGo.st (fun t k => XS.istoreN X0.here hx rfl (hb hby d1_11) rfl (l' := #[.val (.int p0), .val (.int ((own_x16 p0) * (2127672349 : Int32)))]) rfl k) ?_
  show OGo p.tables e below _ (s₁.setTop (mkF m 12 #[.val (.int p0), .val (.int ((own_x16 p0) * (2127672349 : Int32)))] []))
  refine OGo.st (fun t k => XS.iloadN X0.here hx rfl (hb hby d1_12) rfl k) ?_
  show OGo p.tables e below _ (s₁.setTop (mkF m 13 #[.val (.int p0), .val (.int ((own_x16 p0) * (2127672349 : Int32)))] [(.int ((own_x16 p0) * (2127672349 : Int32)))]))
  refine OGo.st (fun t k => XS.iloadN X0.here hx rfl (hb hby d1_13) rfl k) ?_
  show OGo p.tables e below _ (s₁.setTop (mkF m 14 #[.val (.int p0), .val (.int ((own_x16 p0) * (2127672349 : Int32)))] [(.int ((own_x16 p0) * (2127672349 : Int32))), (.int ((own_x16 p0) * (2127672349 : Int32)))]))
  refine OGo.st (fun t k => XS.bipush X0.here hx rfl (hb hby d1_14) k) ?_
  show OGo p.tables e below _ (s₁.setTop (mkF m 16 #[.val (.int p0), .val (.int ((own_x16 p0) * (2127672349 : Int32)))] [(.int (13 : Int32)), (.int ((own_x16 p0) * (2127672349 : Int32))), (.int ((own_x16 p0) * (2127672349 : Int32)))]))
  refine OGo.st (fun t k => XS.iushr X0.here hx rfl (hb hby d1_16) rfl k) ?_
  show OGo p.tables e below _ (s₁.setTop (mkF m 17 #[.val (.int p0), .val (.int ((own_x16 p0) * (2127672349 : Int32)))] [(.int ((((own_x16 p0) * (2127672349 : Int32)).toUInt32 >>> ((13 : Int32) &&& 31).toUInt32).toInt32)), (.int ((own_x16 p0) * (2127672349 : Int32)))]))
  refine OGo.st (fun t k => XS.ixor X0.here hx rfl (hb hby d1_17) rfl k) ?_
  show OGo p.tables e below _ (s₁.setTop (mkF m 18 #[.val (.int p0), .val (.int ((own_x16 p0) * (2127672349 : Int32)))] [(.int (((own_x16 p0) * (2127672349 : Int32)) ^^^ ((((own_x16 p0) * (2127672349 : Int32)).toUInt32 >>> ((13 : Int32) &&& 31).toUInt32).toInt32)))]))
  refine OGo.st (fun t k => XS.iloadN X0.here hx rfl (hb hby d1_18) rfl k) ?_
  show OGo p.tables e below _ (s₁.setTop (mkF m 19 #[.val (.int p0), .val (.int ((own_x16 p0) * (2127672349 : Int32)))] [(.int ((own_x16 p0) * (2127672349 : Int32))), (.int (((own_x16 p0) * (2127672349 : Int32)) ^^^ ((((own_x16 p0) * (2127672349 : Int32)).toUInt32 >>> ((13 : Int32) &&& 31).toUInt32).toInt32)))]))
  refine OGo.st (fun t k => XS.bipush X0.here hx rfl (hb hby d1_19) k) ?_
  show OGo p.tables e below _ (s₁.setTop (mkF m 21 #[.val (.int p0), .val (.int ((own_x16 p0) * (2127672349 : Int32)))] [(.int (26 : Int32)), (.int ((own_x16 p0) * (2127672349 : Int32))), (.int (((own_x16 p0) * (2127672349 : Int32)) ^^^ ((((own_x16 p0) * (2127672349 : Int32)).toUInt32 >>> ((13 : Int32) &&& 31).toUInt32).toInt32)))]))
  refine OGo.st (fun t k => XS.iushr X0.here hx rfl (hb hby d1_21) rfl k) ?_
  show OGo p.tables e below _ (s₁.setTop (mkF m 22 #[.val (.int p0), .val (.int ((own_x16 p0) * (2127672349 : Int32)))] [(.int ((((own_x16 p0) * (2127672349 : Int32)).toUInt32 >>> ((26 : Int32) &&& 31).toUInt32).toInt32)), (.int (((own_x16 p0) * (2127672349 : Int32)) ^^^ ((((own_x16 p0) * (2127672349 : Int32)).toUInt32 >>> ((13 : Int32) &&& 31).toUInt32).toInt32)))]))
  refine OGo.st (fun t k => XS.ixor X0.here hx rfl (hb hby d1_22) rfl k) ?_
  show OGo p.tables e below _ (s₁.setTop (mkF m 23 #[.val (.int p0), .val (.int ((own_x16 p0) * (2127672349 : Int32)))] [(.int ((((own_x16 p0) * (2127672349 : Int32)) ^^^ ((((own_x16 p0) * (2127672349 : Int32)).toUInt32 >>> ((13 : Int32) &&& 31).toUInt32).toInt32)) ^^^ ((((own_x16 p0) * (2127672349 : Int32)).toUInt32 >>> ((26 : Int32) &&& 31).toUInt32).toInt32)))]))
  refine OGo.st (fun t k => XS.istoreN X0.here hx rfl (hb hby d1_23) rfl (l' := #[.val (.int p0), .val (.int ((((own_x16 p0) * (2127672349 : Int32)) ^^^ ((((own_x16 p0) * (2127672349 : Int32)).toUInt32 >>> ((13 : Int32) &&& 31).toUInt32).toInt32)) ^^^ ((((own_x16 p0) * (2127672349 : Int32)).toUInt32 >>> ((26 : Int32) &&& 31).toUInt32).toInt32)))]) rfl k) ?_
  show OGo p.tables e below _ (s₁.setTop (mkF m 24 #[.val (.int p0), .val (.int ((((own_x16 p0) * (2127672349 : Int32)) ^^^ ((((own_x16 p0) * (2127672349 : Int32)).toUInt32 >>> ((13 : Int32) &&& 31).toUInt32).toInt32)) ^^^ ((((own_x16 p0) * (2127672349 : Int32)).toUInt32 >>> ((26 : Int32) &&& 31).toUInt32).toInt32)))] []))
  show OGo p.tables e below _ (s₁.setTop (mkF m 24 #[.val (.int p0), .val (.int (own_x26 ((own_x16 p0) * (2127672349 : Int32))))] []))
  refine OGo.st (fun t k => XS.iloadN X0.here hx rfl (hb hby d1_24) rfl k) ?_
  show OGo p.tables e below _ (s₁.setTop (mkF m 25 #[.val (.int p0), .val (.int (own_x26 ((own_x16 p0) * (2127672349 : Int32))))] [(.int (own_x26 ((own_x16 p0) * (2127672349 : Int32))))]))
  refine OGo.st (fun t k => X0.ldcInt hx hown (mvT hZ (hw _ (List.mem_of_getElem? (i := 11) rfl))) (g := (mkF m 25 #[.val (.int p0), .val (.int (own_x26 ((own_x16 p0) * (2127672349 : Int32))))] [(.int (own_x26 ((own_x16 p0) * (2127672349 : Int32))))])) rfl (hb hby d1_25) _ k) ?_
  show OGo p.tables e below _ (s₁.setTop (mkF m 27 #[.val (.int p0), .val (.int (own_x26 ((own_x16 p0) * (2127672349 : Int32))))] [(.int (-1513385405 : Int32)), (.int (own_x26 ((own_x16 p0) * (2127672349 : Int32))))]))
  refine OGo.st (fun t k => XS.imul X0.here hx rfl (hb hby d1_27) rfl k) ?_
  show OGo p.tables e below _ (s₁.setTop (mkF m 28 #[.val (.int p0), .val (.int (own_x26 ((own_x16 p0) * (2127672349 : Int32))))] [(.int ((own_x26 ((own_x16 p0) * (2127672349 : Int32))) * (-1513385405 : Int32)))]))
  refine OGo.st (fun t k => XS.istoreN X0.here hx rfl (hb hby d1_28) rfl (l' := #[.val (.int p0), .val (.int ((own_x26 ((own_x16 p0) * (2127672349 : Int32))) * (-1513385405 : Int32)))]) rfl k) ?_
  show OGo p.tables e below _ (s₁.setTop (mkF m 29 #[.val (.int p0), .val (.int ((own_x26 ((own_x16 p0) * (2127672349 : Int32))) * (-1513385405 : Int32)))] []))
  refine OGo.st (fun t k => XS.iloadN X0.here hx rfl (hb hby d1_29) rfl k) ?_
  show OGo p.tables e below _ (s₁.setTop (mkF m 30 #[.val (.int p0), .val (.int ((own_x26 ((own_x16 p0) * (2127672349 : Int32))) * (-1513385405 : Int32)))] [(.int ((own_x26 ((own_x16 p0) * (2127672349 : Int32))) * (-1513385405 : Int32)))]))
  refine OGo.st (fun t k => XS.iloadN X0.here hx rfl (hb hby d1_30) rfl k) ?_
  show OGo p.tables e below _ (s₁.setTop (mkF m 31 #[.val (.int p0), .val (.int ((own_x26 ((own_x16 p0) * (2127672349 : Int32))) * (-1513385405 : Int32)))] [(.int ((own_x26 ((own_x16 p0) * (2127672349 : Int32))) * (-1513385405 : Int32))), (.int ((own_x26 ((own_x16 p0) * (2127672349 : Int32))) * (-1513385405 : Int32)))]))
  refine OGo.st (fun t k => XS.bipush X0.here hx rfl (hb hby d1_31) k) ?_
  show OGo p.tables e below _ (s₁.setTop (mkF m 33 #[.val (.int p0), .val (.int ((own_x26 ((own_x16 p0) * (2127672349 : Int32))) * (-1513385405 : Int32)))] [(.int (16 : Int32)), (.int ((own_x26 ((own_x16 p0) * (2127672349 : Int32))) * (-1513385405 : Int32))), (.int ((own_x26 ((own_x16 p0) * (2127672349 : Int32))) * (-1513385405 : Int32)))]))
  refine OGo.st (fun t k => XS.iushr X0.here hx rfl (hb hby d1_33) rfl k) ?_
  show OGo p.tables e below _ (s₁.setTop (mkF m 34 #[.val (.int p0), .val (.int ((own_x26 ((own_x16 p0) * (2127672349 : Int32))) * (-1513385405 : Int32)))] [(.int ((((own_x26 ((own_x16 p0) * (2127672349 : Int32))) * (-1513385405 : Int32)).toUInt32 >>> ((16 : Int32) &&& 31).toUInt32).toInt32)), (.int ((own_x26 ((own_x16 p0) * (2127672349 : Int32))) * (-1513385405 : Int32)))]))
  refine OGo.st (fun t k => XS.ixor X0.here hx rfl (hb hby d1_34) rfl k) ?_
  show OGo p.tables e below _ (s₁.setTop (mkF m 35 #[.val (.int p0), .val (.int ((own_x26 ((own_x16 p0) * (2127672349 : Int32))) * (-1513385405 : Int32)))] [(.int (((own_x26 ((own_x16 p0) * (2127672349 : Int32))) * (-1513385405 : Int32)) ^^^ ((((own_x26 ((own_x16 p0) * (2127672349 : Int32))) * (-1513385405 : Int32)).toUInt32 >>> ((16 : Int32) &&& 31).toUInt32).toInt32)))]))
  obtain ⟨fs, hr, hrun, hended, hW, hsame⟩ := X0.leave (v := some (.int (((own_x26 ((own_x16 p0) * (2127672349 : Int32))) * (-1513385405 : Int32)) ^^^ ((((own_x26 ((own_x16 p0) * (2127672349 : Int32))) * (-1513385405 : Int32)).toUInt32 >>> ((16 : Int32) &&& 31).toUInt32).toInt32)))) (fun h => by rw [Bd.returns] at h; cases h)
  refine OGo.done (retI X0 hx Bd.returns (hb hby d1_35) hr) ⟨hrun, hended, _, _, rfl, ?_, ⟨_, rfl⟩, hW, hsame.mono (by decide) (by decide)⟩
  show Q1 Z p0 h0 n0 _ s₁.heap _
  rw [e0]
  exact ⟨(congrArg (fun z => some (Value.int z)) (show (((own_x26 ((own_x16 p0) * (2127672349 : Int32))) * (-1513385405 : Int32)) ^^^ ((((own_x26 ((own_x16 p0) * (2127672349 : Int32))) * (-1513385405 : Int32)).toUInt32 >>> ((16 : Int32) &&& 31).toUInt32).toInt32)) = (own_unspread p0) from by rfl)), N0, rfl⟩
theorem pd_0 : parseMethodDescriptor "(I)I" = some ⟨[.int], some .int⟩ := by decide +kernel
theorem ef_2 (m : MethodId) (x0 : Int32) (x1 : Int32) : entryFrame m #[(.int x0), (.int x1)] maxLocals = mkF m 0 #[.val (.int x0), .val (.int x1), .unset, .unset] [] := by first | (simp [entryFrame, mkF, argsToLocals, Value.category, maxLocals]; done) | rfl
def Q2 (Z : State) (p0 : Int32) (p1 : Int32) (h0 : Heap) (n0 : Nat) (v : Option Value) (h : Heap) (L : List Loc) : Prop := v = some (.int (1 : Int32)) ∧ Fr n0 L
set_option maxRecDepth 65536 in
set_option maxHeartbeats 40000000 in
theorem rm2 (l : Launch) (Z : State) (ar : Array Value) (hw : ∀ d ∈ tables_1, d.before ar Z = true) (ws : List Jvm.Cond) (p0 : Int32) (p1 : Int32) (h0 : Heap) (n0 : Nat) (Z0 : n0 ≤ h0.size)  :
    MetFree l x (head1 (Jvm.Cond.code x code maxLocals ret :: ws) room_1) (fun a U => a = #[(.int p0), (.int p1)] ∧ Z.Warmed39 U.vm ∧ U.heap = h0) (fun _ _ _ _ _ => True) (fun _ U o U' => ∃ v L, o = .returned v ∧ Q2 Z p0 p1 h0 n0 v U'.heap L ∧ FrameEnd U o U' L room_1.cells room_1.slots) := by
  refine MetFree.of_bodySF (plainFor_of_name pn_1) hisR ?_
  intro p e s m args below meth c s₁ Bd hml0 hP hK
  obtain ⟨rfl, hZ, hh⟩ := hP
  have hx := Bd.exec
  have hby := Bd.bytes
  have hml : c.maxLocals = 4 := hml0
  have hown : s.vm.findClass "com/example/portcullis/portcullis/policy/RecordsSpreadPinLaw" = some m.cls := findClass_of_methodNamed Bd.named
  have hnm := (name_of_methodNamed Bd.named Bd.method).1
  have X0 : Stand p l e room_1 s m #[(.int p0), (.int p1)] below meth c s₁ [] 0 0 := Stand.of_body Bd
  have e0 : s₁.heap = h0 := by rw [← hh, Bd.state]; rfl
  have N0 := Fr.nil n0
  have pre0 : ∀ t, Steps p.tables e below (s₁.setTop (mkF m 0 #[.val (.int p0), .val (.int p1), .unset, .unset] [])) t → Steps p.tables e below (s₁.setTop (entryFrame m #[(.int p0), (.int p1)] maxLocals)) t := fun t k => castTop (ef_2 m p0 p1) k
  refine OGo.start pre0 ?_
  show OGo p.tables e below _ (s₁.setTop (mkF m 0 #[.val (.int p0), .val (.int p1), .unset, .unset] []))
  refine OGo.st (fun t k => XS.iloadN X0.here hx rfl (hb hby at_0) rfl k) ?_
  show OGo p.tables e below _ (s₁.setTop (mkF m 1 #[.val (.int p0), .val (.int p1), .unset, .unset] [(.int p0)]))
  obtain ⟨_, _, ⟨T101, L101, kk101, nn101⟩, -, X101, ⟨Lc101, hQ101, l101, y101, z101⟩, st101⟩ := Jvm.LawKit.callS X0 hx (y := (⟨"com/example/portcullis/portcullis/policy/Records", "spread", "(I)I"⟩ : MethodName)) hown (mvT hZ (hw _ (List.mem_of_getElem? (i := 0) rfl))) (mvT hZ (hw _ (List.mem_of_getElem? (i := 1) rfl))) (mvT hZ (hw _ (List.mem_of_getElem? (i := 2) rfl))) (mvT hZ (hw _ (List.mem_of_getElem? (i := 3) rfl))) (by decide) (backOf (W := 0) (rm0 l Z ar hw [] p0 h0 n0 Z0 ) hZ (hw _ (List.mem_of_getElem? (i := 3) rfl)) (hw _ (List.mem_of_getElem? (i := 2) rfl)) (by decide) (by decide)) (g := (mkF m 1 #[.val (.int p0), .val (.int p1), .unset, .unset] [(.int p0)])) rfl (by rw [hml]; rfl) (argsL := [(.int p0)]) (rest := []) (lenOf pd_0 rfl) rfl (by show 2 * 0 + _ ≤ _; exact Nat.le_of_eq rfl) (hb hby at_1) (fun _ _ => ⟨rfl, e0, (by decide : 0 + 0 ≤ _), (by decide : 0 + 0 ≤ _)⟩)
  dsimp only [Pt.U, Pt.locs, Pt.cells, Pt.slots] at X101 l101 y101 z101 st101 hQ101
  subst l101 y101 z101
  obtain ⟨rfl, Nq101, hh101⟩ := hQ101
  have N101 := Fr.app N0 Nq101
  refine OGo.st st101 ?_
  have e101 : T101.heap = h0 := hh101
  show OGo p.tables e below _ (T101.setTop (mkF m 4 #[.val (.int p0), .val (.int p1), .unset, .unset] [(.int (own_spread p0))]))
  obtain ⟨_, _, ⟨T102, L102, kk102, nn102⟩, -, X102, ⟨Lc102, hQ102, l102, y102, z102⟩, st102⟩ := Jvm.LawKit.callS X101 hx (y := (⟨"com/example/portcullis/portcullis/policy/RecordsSpreadPinLaw", "unspread", "(I)I"⟩ : MethodName)) hown (mvT hZ (hw _ (List.mem_of_getElem? (i := 6) rfl))) (mvT hZ (hw _ (List.mem_of_getElem? (i := 7) rfl))) (mvT hZ (hw _ (List.mem_of_getElem? (i := 8) rfl))) (mvT hZ (hw _ (List.mem_of_getElem? (i := 9) rfl))) (by decide) (backOf (W := 0) (rm1 l Z ar hw [] (own_spread p0) h0 n0 Z0 ) hZ (hw _ (List.mem_of_getElem? (i := 9) rfl)) (hw _ (List.mem_of_getElem? (i := 8) rfl)) (by decide) (by decide)) (g := (mkF m 4 #[.val (.int p0), .val (.int p1), .unset, .unset] [(.int (own_spread p0))])) rfl (by rw [hml]; rfl) (argsL := [(.int (own_spread p0))]) (rest := []) (lenOf pd_0 rfl) rfl (by show 2 * 0 + _ ≤ _; exact Nat.le_of_eq rfl) (hb hby at_4) (fun _ _ => ⟨rfl, e101, (by decide : 0 + 0 ≤ _), (by decide : 0 + 0 ≤ _)⟩)
  dsimp only [Pt.U, Pt.locs, Pt.cells, Pt.slots] at X102 l102 y102 z102 st102 hQ102
  subst l102 y102 z102
  obtain ⟨rfl, Nq102, hh102⟩ := hQ102
  have N102 := Fr.app N101 Nq102
  refine OGo.st st102 ?_
  have e102 : T102.heap = h0 := hh102
  show OGo p.tables e below _ (T102.setTop (mkF m 7 #[.val (.int p0), .val (.int p1), .unset, .unset] [(.int (own_unspread (own_spread p0)))]))
  refine OGo.st (fun t k => XS.iloadN X102.here hx rfl (hb hby at_7) rfl k) ?_
  show OGo p.tables e below _ (T102.setTop (mkF m 8 #[.val (.int p0), .val (.int p1), .unset, .unset] [(.int p0), (.int (own_unspread (own_spread p0)))]))
  refine OGo.st (fun t k => XS.icmpNo X102.here hx rfl (hb hby at_8) rfl (teq ((own_back p0) : (own_unspread (own_spread p0)) = p0)).2 k) ?_
  show OGo p.tables e below _ (T102.setTop (mkF m 11 #[.val (.int p0), .val (.int p1), .unset, .unset] []))
  refine OGo.st (fun t k => XS.iconst X102.here hx rfl (hb hby at_11) k) ?_
  show OGo p.tables e below _ (T102.setTop (mkF m 12 #[.val (.int p0), .val (.int p1), .unset, .unset] [(.int (1 : Int32))]))
  refine OGo.st (fun t k => XS.goto X102.here hx rfl (pc0 := 12) (pc' := 16) rfl (hb hby at_12) (by decide) (by decide) k) ?_
  show OGo p.tables e below _ (T102.setTop (mkF m 16 #[.val (.int p0), .val (.int p1), .unset, .unset] [(.int (1 : Int32))]))
  refine OGo.st (fun t k => XS.istoreN X102.here hx rfl (hb hby at_16) rfl (l' := #[.val (.int p0), .val (.int p1), .val (.int (1 : Int32)), .unset]) rfl k) ?_
  show OGo p.tables e below _ (T102.setTop (mkF m 17 #[.val (.int p0), .val (.int p1), .val (.int (1 : Int32)), .unset] []))
  refine OGo.st (fun t k => XS.iloadN X102.here hx rfl (hb hby at_17) rfl k) ?_
  show OGo p.tables e below _ (T102.setTop (mkF m 18 #[.val (.int p0), .val (.int p1), .val (.int (1 : Int32)), .unset] [(.int p1)]))
  obtain ⟨_, _, ⟨T103, L103, kk103, nn103⟩, -, X103, ⟨Lc103, hQ103, l103, y103, z103⟩, st103⟩ := Jvm.LawKit.callS X102 hx (y := (⟨"com/example/portcullis/portcullis/policy/RecordsSpreadPinLaw", "unspread", "(I)I"⟩ : MethodName)) hown (mvT hZ (hw _ (List.mem_of_getElem? (i := 6) rfl))) (mvT hZ (hw _ (List.mem_of_getElem? (i := 7) rfl))) (mvT hZ (hw _ (List.mem_of_getElem? (i := 8) rfl))) (mvT hZ (hw _ (List.mem_of_getElem? (i := 9) rfl))) (by decide) (backOf (W := 0) (rm1 l Z ar hw [] p1 h0 n0 Z0 ) hZ (hw _ (List.mem_of_getElem? (i := 9) rfl)) (hw _ (List.mem_of_getElem? (i := 8) rfl)) (by decide) (by decide)) (g := (mkF m 18 #[.val (.int p0), .val (.int p1), .val (.int (1 : Int32)), .unset] [(.int p1)])) rfl (by rw [hml]; rfl) (argsL := [(.int p1)]) (rest := []) (lenOf pd_0 rfl) rfl (by show 2 * 0 + _ ≤ _; exact Nat.le_of_eq rfl) (hb hby at_18) (fun _ _ => ⟨rfl, e102, (by decide : 0 + 0 ≤ _), (by decide : 0 + 0 ≤ _)⟩)
  dsimp only [Pt.U, Pt.locs, Pt.cells, Pt.slots] at X103 l103 y103 z103 st103 hQ103
  subst l103 y103 z103
  obtain ⟨rfl, Nq103, hh103⟩ := hQ103
  have N103 := Fr.app N102 Nq103
  refine OGo.st st103 ?_
  have e103 : T103.heap = h0 := hh103
  show OGo p.tables e below _ (T103.setTop (mkF m 21 #[.val (.int p0), .val (.int p1), .val (.int (1 : Int32)), .unset] [(.int (own_unspread p1))]))
  obtain ⟨_, _, ⟨T104, L104, kk104, nn104⟩, -, X104, ⟨Lc104, hQ104, l104, y104, z104⟩, st104⟩ := Jvm.LawKit.callS X103 hx (y := (⟨"com/example/portcullis/portcullis/policy/Records", "spread", "(I)I"⟩ : MethodName)) hown (mvT hZ (hw _ (List.mem_of_getElem? (i := 0) rfl))) (mvT hZ (hw _ (List.mem_of_getElem? (i := 1) rfl))) (mvT hZ (hw _ (List.mem_of_getElem? (i := 2) rfl))) (mvT hZ (hw _ (List.mem_of_getElem? (i := 3) rfl))) (by decide) (backOf (W := 0) (rm0 l Z ar hw [] (own_unspread p1) h0 n0 Z0 ) hZ (hw _ (List.mem_of_getElem? (i := 3) rfl)) (hw _ (List.mem_of_getElem? (i := 2) rfl)) (by decide) (by decide)) (g := (mkF m 21 #[.val (.int p0), .val (.int p1), .val (.int (1 : Int32)), .unset] [(.int (own_unspread p1))])) rfl (by rw [hml]; rfl) (argsL := [(.int (own_unspread p1))]) (rest := []) (lenOf pd_0 rfl) rfl (by show 2 * 0 + _ ≤ _; exact Nat.le_of_eq rfl) (hb hby at_21) (fun _ _ => ⟨rfl, e103, (by decide : 0 + 0 ≤ _), (by decide : 0 + 0 ≤ _)⟩)
  dsimp only [Pt.U, Pt.locs, Pt.cells, Pt.slots] at X104 l104 y104 z104 st104 hQ104
  subst l104 y104 z104
  obtain ⟨rfl, Nq104, hh104⟩ := hQ104
  have N104 := Fr.app N103 Nq104
  refine OGo.st st104 ?_
  have e104 : T104.heap = h0 := hh104
  show OGo p.tables e below _ (T104.setTop (mkF m 24 #[.val (.int p0), .val (.int p1), .val (.int (1 : Int32)), .unset] [(.int (own_spread (own_unspread p1)))]))
  refine OGo.st (fun t k => XS.iloadN X104.here hx rfl (hb hby at_24) rfl k) ?_
  show OGo p.tables e below _ (T104.setTop (mkF m 25 #[.val (.int p0), .val (.int p1), .val (.int (1 : Int32)), .unset] [(.int p1), (.int (own_spread (own_unspread p1)))]))
  refine OGo.st (fun t k => XS.icmpNo X104.here hx rfl (hb hby at_25) rfl (teq ((own_forth p1) : (own_spread (own_unspread p1)) = p1)).2 k) ?_
  show OGo p.tables e below _ (T104.setTop (mkF m 28 #[.val (.int p0), .val (.int p1), .val (.int (1 : Int32)), .unset] []))
  refine OGo.st (fun t k => XS.iconst X104.here hx rfl (hb hby at_28) k) ?_
  show OGo p.tables e below _ (T104.setTop (mkF m 29 #[.val (.int p0), .val (.int p1), .val (.int (1 : Int32)), .unset] [(.int (1 : Int32))]))
  refine OGo.st (fun t k => XS.goto X104.here hx rfl (pc0 := 29) (pc' := 33) rfl (hb hby at_29) (by decide) (by decide) k) ?_
  show OGo p.tables e below _ (T104.setTop (mkF m 33 #[.val (.int p0), .val (.int p1), .val (.int (1 : Int32)), .unset] [(.int (1 : Int32))]))
  refine OGo.st (fun t k => XS.istoreN X104.here hx rfl (hb hby at_33) rfl (l' := #[.val (.int p0), .val (.int p1), .val (.int (1 : Int32)), .val (.int (1 : Int32))]) rfl k) ?_
  show OGo p.tables e below _ (T104.setTop (mkF m 34 #[.val (.int p0), .val (.int p1), .val (.int (1 : Int32)), .val (.int (1 : Int32))] []))
  refine OGo.st (fun t k => XS.iloadN X104.here hx rfl (hb hby at_34) rfl k) ?_
  show OGo p.tables e below _ (T104.setTop (mkF m 35 #[.val (.int p0), .val (.int p1), .val (.int (1 : Int32)), .val (.int (1 : Int32))] [(.int (1 : Int32))]))
  refine OGo.st (fun t k => XS.ifNo X104.here hx rfl (hb hby at_35) rfl ((if0 _ _).trans (feq (by decide : ¬ ((1 : Int32) = (0 : Int32)))).1) k) ?_
  show OGo p.tables e below _ (T104.setTop (mkF m 38 #[.val (.int p0), .val (.int p1), .val (.int (1 : Int32)), .val (.int (1 : Int32))] []))
  refine OGo.st (fun t k => XS.iloadN X104.here hx rfl (hb hby at_38) rfl k) ?_
  show OGo p.tables e below _ (T104.setTop (mkF m 39 #[.val (.int p0), .val (.int p1), .val (.int (1 : Int32)), .val (.int (1 : Int32))] [(.int (1 : Int32))]))
  refine OGo.st (fun t k => XS.ifNo X104.here hx rfl (hb hby at_39) rfl ((if0 _ _).trans (feq (by decide : ¬ ((1 : Int32) = (0 : Int32)))).1) k) ?_
  show OGo p.tables e below _ (T104.setTop (mkF m 42 #[.val (.int p0), .val (.int p1), .val (.int (1 : Int32)), .val (.int (1 : Int32))] []))
  refine OGo.st (fun t k => XS.iconst X104.here hx rfl (hb hby at_42) k) ?_
  show OGo p.tables e below _ (T104.setTop (mkF m 43 #[.val (.int p0), .val (.int p1), .val (.int (1 : Int32)), .val (.int (1 : Int32))] [(.int (1 : Int32))]))
  refine OGo.st (fun t k => XS.goto X104.here hx rfl (pc0 := 43) (pc' := 47) rfl (hb hby at_43) (by decide) (by decide) k) ?_
  show OGo p.tables e below _ (T104.setTop (mkF m 47 #[.val (.int p0), .val (.int p1), .val (.int (1 : Int32)), .val (.int (1 : Int32))] [(.int (1 : Int32))]))
  obtain ⟨fs, hr, hrun, hended, hW, hsame⟩ := X104.leave (v := some (.int (1 : Int32))) (fun h => by rw [Bd.returns] at h; cases h)
  refine OGo.done (retN X104 hx (t := .boolean) Bd.returns (by simp) (hb hby at_47) hr) ⟨hrun, hended, _, _, rfl, ?_, ⟨_, rfl⟩, hW, hsame.mono (by decide) (by decide)⟩
  show Q2 Z p0 p1 h0 n0 _ T104.heap _
  rw [e104]
  exact ⟨rfl, N104⟩
set_option maxRecDepth 65536 in
set_option maxHeartbeats 40000000 in
theorem comes_1 {Post : Tables → Env → Array Value → State → Outcome → State → Prop} (hpost : ∀ tb e args s v u, (limb_1_1.after args s (.returned v) u = true ∧ limb_1_2.after args s (.returned v) u = true ∧ True) → FrameEnd s (.returned v) u (Jvm.fieldLocs frame_1_writes args s ++ Jvm.arrayLocs frame_1_arrays args s ++ Jvm.staticLocs frame_1_statics s) 0 0 → Post tb e args s (.returned v) u) :
    ArmFor flags0 classFile x code maxLocals ret World_1 tables_1 room_1 Calls_1 rest_1 Pre_1 Post := by
  intro l hfl _ _ p e ha hc hk s m args below hf hA hF happ hP
  obtain ⟨hcalls, hrest, hpre⟩ := hP
  obtain ⟨-, -, -, hnamed, -, -, -, hat⟩ := (Spec.applies_iff hf).mp happ
  obtain ⟨hg, hn⟩ := and_e (Cond.before_iff.mp (show (Jvm.Cond.and given_1 narrow_1).before args s = true from hpre))
  obtain ⟨gc, gr0⟩ := and_e hg
  obtain ⟨g_0, gr1⟩ := and_e gr0
  have g_1 := gr1
  obtain ⟨w0, w1, rfl⟩ : ∃ w0 w1 : Value, args = #[w0, w1] := by
    have hs : args.size = 2 := by simpa [Cond.value, given_1] using gc
    obtain ⟨L⟩ := args
    match L, hs with
    | [w0, w1], _ => exact ⟨w0, w1, rfl⟩
  have hw := fun d (hd : d ∈ tables_1) => atoms_spec (ws := Jvm.Cond.code x code maxLocals ret :: tables_1) hat d (List.mem_cons_of_mem _ hd)
  have hfit : Fit s := fun {y c} hc i hi => by
    obtain ⟨ha, rfl⟩ := Array.getElem?_eq_some_iff.mp hc
    have q := List.all_eq_true.mp ((Array.all_eq_true_iff_forall_mem.mp hF) _ (Array.getElem_mem ha)) i (List.mem_range.mpr hi)
    simpa [Array.getElem?_eq_getElem hi] using q
  obtain ⟨i0, ei0⟩ := is_v g_0
  obtain rfl : w0 = (.int i0) := Option.some.inj ei0
  obtain ⟨i1, ei1⟩ := is_v g_1
  obtain rfl : w1 = (.int i1) := Option.some.inj ei1
  obtain ⟨n, o, h1, h2, h3, _, L, rfl, ⟨rfl, N⟩, hq⟩ := rm2 l s _ hw tables_1 i0 i1 s.heap s.heap.size (Nat.le_refl _)  p e ha hc hk s m _ below hf ((Spec.applies_iff_loose hf).mp happ).1 ⟨rfl, State.Warmed39.refl s, rfl⟩ trivial
  refine ⟨n, _, h1, h2, h3, hpost _ _ _ _ _ _ ⟨Cond.after_iff.mpr rfl, Cond.after_iff.mpr (eq_i res_at (Term.int_eval (1)) rfl), trivial⟩ ⟨hq.1, hq.2.1, (hq.2.2.sift fun y hy => Or.inr (N y hy)).mono (by decide) (by decide)⟩⟩
theorem main_1_1 : Claimed_1_1 := comes_1 fun _ _ _ _ _ _ h hF => ⟨h.1, hF⟩
theorem main_1_2 : Claimed_1_2 := comes_1 fun _ _ _ _ _ _ h hF => ⟨h.2.1, hF⟩
end Jvm.Pilot.@@N@@
namespace Jvm.Pilot.@@N@@
open Jvm Jvm.ClassFile Sem Op Lib Jvm.Free Jvm.Stand Jvm.Pilot.@@N@@.Jvm.D
/-! MADE BY PROGRAM (witnessworld.py) out of the Statement's table words and the real class files: 7 classes; the members and pool entries that the words name. The judged class is class 1, her method 2. -/
namespace start1
open Jvm.ClassFile
def u (s : String) : CpInfo := .utf8 (stringToUtf16 s)
/-- a pool by its gaps: so many unusable entries, then the entry; so many at the end -/
def gap : Nat → List CpInfo → List CpInfo
  | 0, r => r
  | n + 1, r => .unusable :: gap n r
def poolList (es : List (Nat × CpInfo)) (last : Nat) : List CpInfo := es.foldr (fun e r => gap e.1 (e.2 :: r)) (gap last [])
def pool (es : List (Nat × CpInfo)) (last : Nat) : Array CpInfo := ⟨poolList es last⟩
def fileOf (pool : Array CpInfo) (this : Nat) (attrs : Array Attribute := #[]) (ms : Array MethodInfo := #[]) (fl : Nat := 33) (sup : Nat := 0) (ifs : Array Nat := #[]) (fds : Array FieldInfo := #[]) : ClassFile where
  minorVersion := 0
  majorVersion := 65
  constantPool := pool
  accessFlags := fl
  thisClass := this
  superClass := sup
  interfaces := ifs
  fields := fds
  methods := ms
  attributes := attrs
def plain (name : String) (sup : Option ClassId) : Class where
  name := name
  kind := .ordinary
  loader := none
  accessFlags := 33
  super := sup
  interfaces := #[]
  cf := none
  fields := #[]
  methods := #[]
  instanceTypes := #[]
  staticTypes := #[]
  resolved := #[]
  callSites := []
  init := .initialized
  statics := none
  mirror := none

def pool0 : Array CpInfo := pool [(5, u "<init>"), (0, u "()V"), (1, .class_ 10), (1, u "java/lang/Object")] 113

def k0m0 : Method := { name := "<init>", desc := "()V", sig := { parameters := [], returnType := none }, accessFlags := 1, code := none }
/-- java/lang/Object -/
def k0 : Class := { plain "java/lang/Object" none with
  accessFlags := 33
  interfaces := #[]
  cf := some (fileOf pool0 8 #[] #[{ accessFlags := 1, nameIndex := 5, descriptorIndex := 6, attributes := #[] }] 33 0 #[] #[])
  fields := #[]
  methods := #[k0m0]
  instanceTypes := #[]
  staticTypes := #[]
  resolved := Array.replicate 124 none
  statics := none }

def pool1 : Array CpInfo := pool [(2, .class_ 4), (1, u "java/lang/Object"), (0, u "<init>"), (0, u "()V"), (0, .integer 2127672349), (0, .integer 2781581891), (0, .methodref 10 11), (0, .class_ 12), (0, .nameAndType 13 14), (0, u "com/example/portcullis/portcullis/policy/Records"), (0, u "spread"), (0, u "(I)I"), (0, .methodref 16 17), (0, .class_ 18), (0, .nameAndType 19 14), (0, u "com/example/portcullis/portcullis/policy/RecordsSpreadPinLaw"), (0, u "unspread"), (2, u "law"), (0, u "(II)Z")] 3

def k1m0 : Method := { name := "<init>", desc := "()V", sig := { parameters := [], returnType := none }, accessFlags := 2, code := none }
def k1c1 : Code := { maxStack := 3, maxLocals := 2, code := method_2_code, exceptionTable := #[], attributes := #[] }
def k1m1 : Method := { name := "unspread", desc := "(I)I", sig := { parameters := [.int], returnType := some .int }, accessFlags := 10, code := some k1c1 }
def k1c2 : Code := { maxStack := 2, maxLocals := 4, code := code, exceptionTable := #[], attributes := #[] }
def k1m2 : Method := { name := "law", desc := "(II)Z", sig := { parameters := [.int, .int], returnType := some .boolean }, accessFlags := 9, code := some k1c2 }
/-- com/example/portcullis/portcullis/policy/RecordsSpreadPinLaw -/
def k1 : Class := { plain "com/example/portcullis/portcullis/policy/RecordsSpreadPinLaw" (some 0) with
  accessFlags := 49
  interfaces := #[]
  cf := some (fileOf pool1 16 #[] #[{ accessFlags := 2, nameIndex := 5, descriptorIndex := 6, attributes := #[] }, { accessFlags := 10, nameIndex := 19, descriptorIndex := 14, attributes := #[] }, { accessFlags := 9, nameIndex := 22, descriptorIndex := 23, attributes := #[] }] 49 2 #[] #[])
  fields := #[]
  methods := #[k1m0, k1m1, k1m2]
  instanceTypes := #[]
  staticTypes := #[]
  resolved := Array.replicate 27 none
  statics := none }

def pool2 : Array CpInfo := pool [(1, .class_ 2), (0, u "com/example/portcullis/portcullis/policy/Records"), (1, .class_ 6), (1, u "java/lang/Object"), (0, u "<init>"), (0, u "()V"), (130, .class_ 141), (1, u "com/example/portcullis/portcullis/policy/Records$Identifier"), (14, .integer 2246822507), (0, .integer 3266489909), (7, u "LENGTH_BITS"), (0, u "I"), (2, u "LENGTH"), (0, u "NARROW"), (0, u "TAG_SHIFT"), (1, u "BYTE"), (19, u "spread"), (0, u "(I)I")] 47

def k2m0 : Method := { name := "<init>", desc := "()V", sig := { parameters := [], returnType := none }, accessFlags := 2, code := none }
def k2c1 : Code := { maxStack := 3, maxLocals := 2, code := prog_75_method_25_code, exceptionTable := #[], attributes := #[] }
def k2m1 : Method := { name := "spread", desc := "(I)I", sig := { parameters := [.int], returnType := some .int }, accessFlags := 8, code := some k2c1 }
/-- com/example/portcullis/portcullis/policy/Records -/
def k2 : Class := { plain "com/example/portcullis/portcullis/policy/Records" (some 0) with
  accessFlags := 48
  interfaces := #[]
  cf := some (fileOf pool2 1 #[.nestMembers #[139]] #[{ accessFlags := 2, nameIndex := 7, descriptorIndex := 8, attributes := #[] }, { accessFlags := 8, nameIndex := 193, descriptorIndex := 194, attributes := #[] }] 48 4 #[] #[{ accessFlags := 26, nameIndex := 165, descriptorIndex := 166, attributes := #[] }, { accessFlags := 26, nameIndex := 169, descriptorIndex := 166, attributes := #[] }, { accessFlags := 26, nameIndex := 170, descriptorIndex := 166, attributes := #[] }, { accessFlags := 26, nameIndex := 171, descriptorIndex := 166, attributes := #[] }, { accessFlags := 26, nameIndex := 173, descriptorIndex := 166, attributes := #[] }])
  fields := #[{ name := "LENGTH_BITS", type := .int, accessFlags := 26, slot := 0, constantValue := 0 }, { name := "LENGTH", type := .int, accessFlags := 26, slot := 1, constantValue := 0 }, { name := "NARROW", type := .int, accessFlags := 26, slot := 2, constantValue := 0 }, { name := "TAG_SHIFT", type := .int, accessFlags := 26, slot := 3, constantValue := 0 }, { name := "BYTE", type := .int, accessFlags := 26, slot := 4, constantValue := 0 }]
  methods := #[k2m0, k2m1]
  instanceTypes := #[]
  staticTypes := #[.int, .int, .int, .int, .int]
  resolved := Array.replicate 242 none
  statics := none }

def pool3 : Array CpInfo := pool [(1, u "java/lang/Cloneable"), (0, .class_ 1), (0, u "java/lang/Object"), (0, .class_ 3)] 3

/-- java/lang/Cloneable -/
def k3 : Class := { plain "java/lang/Cloneable" (some 0) with
  accessFlags := 1537
  interfaces := #[]
  cf := some (fileOf pool3 2 #[] #[] 1537 4 #[] #[])
  fields := #[]
  methods := #[]
  instanceTypes := #[]
  staticTypes := #[]
  resolved := Array.replicate 8 none
  statics := none }

def pool4 : Array CpInfo := pool [(1, u "java/io/Serializable"), (0, .class_ 1), (0, u "java/lang/Object"), (0, .class_ 3)] 3

/-- java/io/Serializable -/
def k4 : Class := { plain "java/io/Serializable" (some 0) with
  accessFlags := 1537
  interfaces := #[]
  cf := some (fileOf pool4 2 #[] #[] 1537 4 #[] #[])
  fields := #[]
  methods := #[]
  instanceTypes := #[]
  staticTypes := #[]
  resolved := Array.replicate 8 none
  statics := none }

/-- the primitive byte -/
def k5 : Class := { plain "byte" none with kind := .primitive 'B', accessFlags := 0x411 }
/-- [B -/
def k6 : Class := { plain "[B" (some 0) with kind := .array 5 .byte, interfaces := #[3, 4], accessFlags := 1041 }

def heap : Heap := #[]
def classes : Array Class := #[k0, k1, k2, k3, k4, k5, k6]
def interned : List (Array UInt16 × Addr) := []
def slotsUsed : Nat := 0
def theMethod : MethodId := ⟨1, 2⟩
def args0 : Array Value := #[.int 5, .int 7]
def aboutOver (below : List Frame) : State where
  vm := { classes := classes, interned := interned.toArray }
  heap := heap
  slotsUsed := slotsUsed
  threads := #[{ frames := .invoking theMethod args0 :: below }]
def below0 : List Frame := [.native { method := ⟨0, 0⟩, args := #[] }]
def about1 : State := aboutOver below0
def p0 : Program := .bare "" "" ""
def e0 : Env := launch0.env 0 0 0
theorem w_frames : about1.frames = Frame.invoking theMethod args0 :: below0 := rfl
set_option maxRecDepth 65536 in
theorem w_args : argsFit about1.vm theMethod args0 = true := by decide +kernel
set_option maxRecDepth 65536 in
theorem w_heap : heapFits about1 = true := by decide +kernel
set_option maxRecDepth 65536 in
theorem w_runnable : about1.curStatus? = some .runnable := by decide +kernel
set_option maxRecDepth 65536 in
theorem w_alone : about1.alone = true := by decide +kernel
set_option maxRecDepth 65536 in
theorem w_named : about1.methodNamed? x = some theMethod := by decide +kernel
set_option maxRecDepth 65536 in
theorem w_hears : about1.hears theMethod below0 = true := by decide +kernel
set_option maxRecDepth 65536 in
theorem w_ripe : about1.ripe theMethod args0 below0 = true := by decide +kernel
theorem w_running : about1.status = .running := rfl
set_option maxRecDepth 65536 in
theorem w_room : about1.hasRoom e0.platform room_1 = true :=
  launch0.hasRoom_least _ room_1 (by decide +kernel) (by decide +kernel) (by decide +kernel) (by decide +kernel) (by decide +kernel) (by decide +kernel)
theorem allAtoms_all (ts : List Jvm.Cond) (a : Array Jvm.Value) (st : Jvm.State) : (allAtoms ts).before a st = ts.all (fun c => c.before a st) := by
  induction ts with
  | nil => rfl
  | cons c t ih =>
    show (Jvm.Cond.and c (allAtoms t)).before a st = _
    rw [Jvm.Cond.before_and, ih, List.all_cons]
def words1 : List Jvm.Cond := Jvm.Cond.code x code maxLocals ret :: tables_1
/-- a 'code' word, met by the world's own term for the bytes: nothing is compared byte by byte -/
theorem code_word {y : MethodName} {bytes : ByteArray} {mx : Nat} {rt : Option FieldType} {a : Array Value} {s : State} {m : MethodId} {meth : Method} {c : Code} (h1 : s.methodNamed? y = some m) (h2 : s.vm.method? m = some meth) (h3 : meth.code = some c) (h4 : c.code = bytes)
    (h5 : (c.maxLocals == mx && c.exceptionTable.isEmpty && decide (c.maxStack ≤ mostOperands) && decide (meth.sig.returnType = rt) && !meth.locks && decide (parseMethodDescriptor y.desc = some meth.sig)) = true) : (Jvm.Cond.code y bytes mx rt).before a s = true := by
  simp only [Bool.and_eq_true, beq_iff_eq, Bool.not_eq_true', decide_eq_true_eq] at h5
  obtain ⟨⟨⟨⟨⟨g1, g2⟩, g3⟩, g4⟩, g5⟩, g6⟩ := h5
  simp [Cond.before, Cond.holds, Cond.value, h1, h2, h3, h4, g1, g2, g3, g4, g5, g6]
def isCode : Jvm.Cond → Bool
  | .code _ _ _ _ => true
  | _ => false
theorem all_split {L : List Jvm.Cond} {P : Jvm.Cond → Bool} (h1 : L.all (fun c => isCode c || P c) = true) (h2 : ∀ c ∈ L.filter isCode, P c = true) : L.all P = true := by
  refine List.all_eq_true.mpr fun c hc => ?_
  have h := List.all_eq_true.mp h1 c hc
  rcases Bool.eq_false_or_eq_true (isCode c) with hi | hi
  · exact h2 c (List.mem_filter.mpr ⟨hc, hi⟩)
  · simpa [hi] using h
set_option maxRecDepth 65536 in
theorem w_c0 : (Jvm.Cond.code x code maxLocals ret).before args0 about1 = true := code_word (m := ⟨1, 2⟩) (meth := k1m2) (c := k1c2) (by decide +kernel) rfl rfl rfl (by decide +kernel)
set_option maxRecDepth 65536 in
theorem w_c1 : (Jvm.Cond.code ({ cls := "com/example/portcullis/portcullis/policy/Records", name := "spread", desc := "(I)I" } : Jvm.MethodName) prog_75_method_25_code (2 : Nat) (Option.some Jvm.ClassFile.FieldType.int)).before args0 about1 = true := code_word (m := ⟨2, 1⟩) (meth := k2m1) (c := k2c1) (by decide +kernel) rfl rfl rfl (by decide +kernel)
set_option maxRecDepth 65536 in
theorem w_c2 : (Jvm.Cond.code ({ cls := "com/example/portcullis/portcullis/policy/RecordsSpreadPinLaw", name := "unspread", desc := "(I)I" } : Jvm.MethodName) method_2_code (2 : Nat) (Option.some Jvm.ClassFile.FieldType.int)).before args0 about1 = true := code_word (m := ⟨1, 1⟩) (meth := k1m1) (c := k1c1) (by decide +kernel) rfl rfl rfl (by decide +kernel)
def codes1 : List Jvm.Cond := [Jvm.Cond.code x code maxLocals ret, Jvm.Cond.code ({ cls := "com/example/portcullis/portcullis/policy/Records", name := "spread", desc := "(I)I" } : Jvm.MethodName) prog_75_method_25_code (2 : Nat) (Option.some Jvm.ClassFile.FieldType.int), Jvm.Cond.code ({ cls := "com/example/portcullis/portcullis/policy/RecordsSpreadPinLaw", name := "unspread", desc := "(I)I" } : Jvm.MethodName) method_2_code (2 : Nat) (Option.some Jvm.ClassFile.FieldType.int)]
set_option maxRecDepth 65536 in
theorem codes_eq : words1.filter isCode = codes1 := rfl
theorem w_codes : ∀ c ∈ words1.filter isCode, c.before args0 about1 = true := by
  rw [codes_eq]
  intro c hc
  simp only [codes1, List.mem_cons, List.not_mem_nil, or_false] at hc
  rcases hc with rfl | rfl | rfl
  · exact w_c0
  · exact w_c1
  · exact w_c2
set_option maxRecDepth 65536 in
theorem w_t1 : words1.all (fun c => isCode c || c.before args0 about1) = true := by decide +kernel
theorem w_tables : (allAtoms (Jvm.Cond.code x code maxLocals ret :: tables_1)).before args0 about1 = true := by
  rw [allAtoms_all]
  show words1.all (fun c => c.before args0 about1) = true
  refine all_split ?_ w_codes
  rw [w_t1]
set_option maxRecDepth 65536 in
theorem w_case : (Jvm.Cond.and given_1 narrow_1).before args0 about1 = true := by decide +kernel
theorem w_applies : (headSpec (Jvm.Cond.code x code maxLocals ret :: tables_1) room_1).applies x e0.platform about1 = true :=
  (Spec.applies_iff w_frames).mpr ⟨w_running, w_runnable, w_alone, w_named, w_hears, w_ripe, w_room, w_tables⟩
theorem atStart : AtStart classFile x code maxLocals ret World_1 tables_1 room_1 Calls_1 rest_1 Pre_1 launch0 p0 e0 about1 theMethod args0 below0 :=
  ⟨lists_1, trivial, launch0.admits_env _ _ _, launch0.least_env, fairChoices_fair.cas, fairChoices_fair.clock, w_frames, w_args, w_heap, w_applies, trivial, trivial, w_case⟩
end start1
theorem witness_1 : WitnessClaimed_1 := ⟨start1.p0, start1.e0, start1.about1, start1.theMethod, start1.args0, start1.below0, start1.atStart⟩
end Jvm.Pilot.@@N@@
