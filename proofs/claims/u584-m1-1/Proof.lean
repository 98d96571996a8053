import JvmDerived
import JvmDerived.Pilot.@@N@@Statement
import JvmDerived.Pilot.@@N@@Code
set_option linter.unusedVariables false
set_option linter.unusedSimpArgs false
namespace Jvm.RoadKit
open Sem ClassFile Op Lib Jvm.Stand Jvm.Free Jvm.LawKit
section New
variable {p : Program} {l : Launch} {e : Env} {R : Room} {s : State} {m : MethodId} {args : Array Value} {below : List Frame} {meth : Method} {c : Code} {T : State} {locs : List Loc} {cells slots : Nat}
theorem retI (X : Stand p l e R s m args below meth c T locs cells slots) (hx : p.tables.exec = Jvm.exec) {pc : Nat} {Ls : Array Slot} {z : Int32} {rest : List Value} (hret : meth.sig.returnType = some .int) (hd : decode c.code pc = .ok (.ireturn, 1)) {fs : List Frame}
    (hl : ∀ (f : JFrame) (acts : List Action), f.method = m → f.locked = none → f.entered = [] → (doReturn e (T.setTop f) acts (some (.int z))).1 = T.setFrames fs) : Steps p.tables e below (T.setTop (mkF m pc Ls (.int z :: rest))) (T.setFrames fs) := by
  have hm' : T.vm.method? m = some meth := X.method'
  have hn : narrow .int (.int z) = .int z := rfl
  show Steps p.tables e below (T.setTop { method := m, pc := pc, locals := Ls, stack := _ :: rest, locked := none }) _
  jvm_step X.here [X.here.top, hx, hd, hm', hret, hn]
  first | (intro acts; rw [hl _ acts rfl rfl rfl]) | rw [hl _ _ rfl rfl rfl]
  exact Steps.refl _
end New
end Jvm.RoadKit
namespace Jvm.Pilot.@@N@@
open Jvm Jvm.ClassFile Sem Op Lib Jvm.Free Jvm.Stand Jvm.LawKit Jvm.RoadKit Bundle Jvm.Pilot.@@N@@.Jvm.D

def Qr (r : Int32) (h0 : Heap) (n0 : Nat) (v : Option Value) (h : Heap) (L : List Loc) : Prop := v = some (.int r) ∧ Fr n0 L ∧ h = h0
def drawF (p : Int32) : Int32 := if (p &&& (1 : Int32)) = (0 : Int32) then nar .byte ((p >>> ((1 : Int32) &&& 31)).toInt8.toInt32) else (0 : Int32)
theorem own_i8 (z : Int32) : z.toInt8.toInt32.toInt8.toInt32 = z.toInt8.toInt32 := by rw [Int8.toInt8_toInt32]
theorem own_b (p : Int32) : (drawF p).toInt8.toInt32 = drawF p := by
  unfold drawF
  split
  · exact own_i8 _
  · rfl
theorem d1_0 : decode method_2_code 0 = .ok (.iload_n 0, 1) := by decide +kernel
theorem d1_1 : decode method_2_code 1 = .ok (.iconst 1, 1) := by decide +kernel
theorem d1_2 : decode method_2_code 2 = .ok (.iand, 1) := by decide +kernel
theorem d1_3 : decode method_2_code 3 = .ok (.ifCond .eq 5, 3) := by decide +kernel
theorem d1_8 : decode method_2_code 8 = .ok (.iload_n 0, 1) := by decide +kernel
theorem d1_9 : decode method_2_code 9 = .ok (.iconst 1, 1) := by decide +kernel
theorem d1_10 : decode method_2_code 10 = .ok (.ishr, 1) := by decide +kernel
theorem d1_11 : decode method_2_code 11 = .ok (.i2b, 1) := by decide +kernel
theorem d1_12 : decode method_2_code 12 = .ok (.ireturn, 1) := by decide +kernel
theorem pn_1 : plainName "com/example/votary/votary/MessageQueryTextPinLaw" = true := by first | (simp [plainName, overriddenIn]; done) | decide +kernel
theorem ef_1 (m : MethodId) (x0 : Int32) : entryFrame m #[(.int x0)] 1 = mkF m 0 #[.val (.int x0)] [] := by first | (simp [entryFrame, mkF, argsToLocals, Value.category]; done) | rfl
set_option maxRecDepth 65536 in
set_option maxHeartbeats 40000000 in
theorem rm1_t (l : Launch) (Z : State) (a0 : Array Value) (hw : ∀ d ∈ tables_1, d.before a0 Z = true) (ws : List Jvm.Cond) (p1 : Int32) (h0 : Heap) (n0 : Nat) (Z0 : n0 ≤ h0.size) (hc3 : (p1 &&& (1 : Int32)) = (0 : Int32)) :
    MetFree l (⟨"com/example/votary/votary/MessageQueryTextPinLaw", "draw", "(I)B"⟩ : MethodName) (head1 (Jvm.Cond.code (⟨"com/example/votary/votary/MessageQueryTextPinLaw", "draw", "(I)B"⟩ : MethodName) method_2_code 1 (some .byte) :: ws) ({ frames := 0, cells := 0, slots := 0, locals := 0 } : Room)) (fun a U => a = #[(.int p1)] ∧ Z.Warmed39 U.vm ∧ U.heap = h0) (fun _ _ _ _ _ => True) (fun _ U o U' => ∃ v L, o = .returned v ∧ Qr (nar .byte ((p1 >>> ((1 : Int32) &&& 31)).toInt8.toInt32)) h0 n0 v U'.heap L ∧ FrameEnd U o U' L ({ frames := 0, cells := 0, slots := 0, locals := 0 } : Room).cells ({ frames := 0, cells := 0, slots := 0, locals := 0 } : Room).slots) := by
  refine MetFree.of_bodySF (plainFor_of_name pn_1) hisR ?_
  intro p e s m args below meth c s₁ Bd hml0 hP hK
  obtain ⟨rfl, hZ, hh⟩ := hP
  have hx := Bd.exec
  have hby := Bd.bytes
  have hml : c.maxLocals = 1 := hml0
  have hown : s.vm.findClass "com/example/votary/votary/MessageQueryTextPinLaw" = some m.cls := findClass_of_methodNamed Bd.named
  have hnm := (name_of_methodNamed Bd.named Bd.method).1
  have X0 : Stand p l e ({ frames := 0, cells := 0, slots := 0, locals := 0 } : Room) s m #[(.int p1)] below meth c s₁ [] 0 0 := Stand.of_body Bd
  have e0 : s₁.heap = h0 := by rw [← hh, Bd.state]; rfl
  have N0 := Fr.nil n0
  have pre0 : ∀ t, Steps p.tables e below (s₁.setTop (mkF m 0 #[.val (.int p1)] [])) t → Steps p.tables e below (s₁.setTop (entryFrame m #[(.int p1)] 1)) t := fun t k => castTop (ef_1 m p1) k

  obtain ⟨fs, hr, hrun, hended, hW, hsame⟩ := X0.leave (v := some (.int (nar .byte ((p1 >>> ((1 : Int32) &&& 31)).toInt8.toInt32)))) (fun h => by rw [Bd.returns] at h; cases h)
  refine ⟨_, _, pre0 _ ?_, hrun, hended, _, _, rfl, ?_, ⟨_, rfl⟩, hW, hsame.mono (by decide) (by decide)⟩
  · show Steps p.tables e below (s₁.setTop (mkF m 0 #[.val (.int p1)] [])) _
    refine XS.iloadN X0.here hx rfl (hb hby d1_0) rfl ?_
    show Steps p.tables e below (s₁.setTop (mkF m 1 #[.val (.int p1)] [(.int p1)])) _
    refine XS.iconst X0.here hx rfl (hb hby d1_1) ?_
    show Steps p.tables e below (s₁.setTop (mkF m 2 #[.val (.int p1)] [(.int (1 : Int32)), (.int p1)])) _
    refine XS.iand X0.here hx rfl (hb hby d1_2) rfl ?_
    show Steps p.tables e below (s₁.setTop (mkF m 3 #[.val (.int p1)] [(.int (p1 &&& (1 : Int32)))])) _
    refine XS.ifYes X0.here hx rfl (pc0 := 3) (pc' := 8) rfl (hb hby d1_3) rfl ((if0 _ _).trans (teq hc3).1) (by decide) (by decide) ?_
    show Steps p.tables e below (s₁.setTop (mkF m 8 #[.val (.int p1)] [])) _
    refine XS.iloadN X0.here hx rfl (hb hby d1_8) rfl ?_
    show Steps p.tables e below (s₁.setTop (mkF m 9 #[.val (.int p1)] [(.int p1)])) _
    refine XS.iconst X0.here hx rfl (hb hby d1_9) ?_
    show Steps p.tables e below (s₁.setTop (mkF m 10 #[.val (.int p1)] [(.int (1 : Int32)), (.int p1)])) _
    refine XS.ishr X0.here hx rfl (hb hby d1_10) rfl ?_
    show Steps p.tables e below (s₁.setTop (mkF m 11 #[.val (.int p1)] [(.int (p1 >>> ((1 : Int32) &&& 31)))])) _
    refine XS.i2b X0.here hx rfl (hb hby d1_11) rfl ?_
    show Steps p.tables e below (s₁.setTop (mkF m 12 #[.val (.int p1)] [(.int ((p1 >>> ((1 : Int32) &&& 31)).toInt8.toInt32))])) _
    exact retN X0 hx (t := .byte) Bd.returns (by simp) (hb hby d1_12) hr
  · show Qr (nar .byte ((p1 >>> ((1 : Int32) &&& 31)).toInt8.toInt32)) h0 n0 _ s₁.heap _
    rw [e0]
    exact ⟨rfl, N0, rfl⟩
theorem d1_6 : decode method_2_code 6 = .ok (.iconst 0, 1) := by decide +kernel
theorem d1_7 : decode method_2_code 7 = .ok (.ireturn, 1) := by decide +kernel
set_option maxRecDepth 65536 in
set_option maxHeartbeats 40000000 in
theorem rm1_f (l : Launch) (Z : State) (a0 : Array Value) (hw : ∀ d ∈ tables_1, d.before a0 Z = true) (ws : List Jvm.Cond) (p1 : Int32) (h0 : Heap) (n0 : Nat) (Z0 : n0 ≤ h0.size) (hc3 : ¬ ((p1 &&& (1 : Int32)) = (0 : Int32))) :
    MetFree l (⟨"com/example/votary/votary/MessageQueryTextPinLaw", "draw", "(I)B"⟩ : MethodName) (head1 (Jvm.Cond.code (⟨"com/example/votary/votary/MessageQueryTextPinLaw", "draw", "(I)B"⟩ : MethodName) method_2_code 1 (some .byte) :: ws) ({ frames := 0, cells := 0, slots := 0, locals := 0 } : Room)) (fun a U => a = #[(.int p1)] ∧ Z.Warmed39 U.vm ∧ U.heap = h0) (fun _ _ _ _ _ => True) (fun _ U o U' => ∃ v L, o = .returned v ∧ Qr (0 : Int32) h0 n0 v U'.heap L ∧ FrameEnd U o U' L ({ frames := 0, cells := 0, slots := 0, locals := 0 } : Room).cells ({ frames := 0, cells := 0, slots := 0, locals := 0 } : Room).slots) := by
  refine MetFree.of_bodySF (plainFor_of_name pn_1) hisR ?_
  intro p e s m args below meth c s₁ Bd hml0 hP hK
  obtain ⟨rfl, hZ, hh⟩ := hP
  have hx := Bd.exec
  have hby := Bd.bytes
  have hml : c.maxLocals = 1 := hml0
  have hown : s.vm.findClass "com/example/votary/votary/MessageQueryTextPinLaw" = some m.cls := findClass_of_methodNamed Bd.named
  have hnm := (name_of_methodNamed Bd.named Bd.method).1
  have X0 : Stand p l e ({ frames := 0, cells := 0, slots := 0, locals := 0 } : Room) s m #[(.int p1)] below meth c s₁ [] 0 0 := Stand.of_body Bd
  have e0 : s₁.heap = h0 := by rw [← hh, Bd.state]; rfl
  have N0 := Fr.nil n0
  have pre0 : ∀ t, Steps p.tables e below (s₁.setTop (mkF m 0 #[.val (.int p1)] [])) t → Steps p.tables e below (s₁.setTop (entryFrame m #[(.int p1)] 1)) t := fun t k => castTop (ef_1 m p1) k

  obtain ⟨fs, hr, hrun, hended, hW, hsame⟩ := X0.leave (v := some (.int (0 : Int32))) (fun h => by rw [Bd.returns] at h; cases h)
  refine ⟨_, _, pre0 _ ?_, hrun, hended, _, _, rfl, ?_, ⟨_, rfl⟩, hW, hsame.mono (by decide) (by decide)⟩
  · show Steps p.tables e below (s₁.setTop (mkF m 0 #[.val (.int p1)] [])) _
    refine XS.iloadN X0.here hx rfl (hb hby d1_0) rfl ?_
    show Steps p.tables e below (s₁.setTop (mkF m 1 #[.val (.int p1)] [(.int p1)])) _
    refine XS.iconst X0.here hx rfl (hb hby d1_1) ?_
    show Steps p.tables e below (s₁.setTop (mkF m 2 #[.val (.int p1)] [(.int (1 : Int32)), (.int p1)])) _
    refine XS.iand X0.here hx rfl (hb hby d1_2) rfl ?_
    show Steps p.tables e below (s₁.setTop (mkF m 3 #[.val (.int p1)] [(.int (p1 &&& (1 : Int32)))])) _
    refine XS.ifNo X0.here hx rfl (hb hby d1_3) rfl ((if0 _ _).trans (feq hc3).1) ?_
    show Steps p.tables e below (s₁.setTop (mkF m 6 #[.val (.int p1)] [])) _
    refine XS.iconst X0.here hx rfl (hb hby d1_6) ?_
    show Steps p.tables e below (s₁.setTop (mkF m 7 #[.val (.int p1)] [(.int (0 : Int32))])) _
    exact retN X0 hx (t := .byte) Bd.returns (by simp) (hb hby d1_7) hr
  · show Qr (0 : Int32) h0 n0 _ s₁.heap _
    rw [e0]
    exact ⟨rfl, N0, rfl⟩
theorem rm1 (l : Launch) (Z : State) (a0 : Array Value) (hw : ∀ d ∈ tables_1, d.before a0 Z = true) (ws : List Jvm.Cond) (p1 : Int32) (h0 : Heap) (n0 : Nat) (Z0 : n0 ≤ h0.size) :
    MetFree l (⟨"com/example/votary/votary/MessageQueryTextPinLaw", "draw", "(I)B"⟩ : MethodName) (head1 (Jvm.Cond.code (⟨"com/example/votary/votary/MessageQueryTextPinLaw", "draw", "(I)B"⟩ : MethodName) method_2_code 1 (some .byte) :: ws) ({ frames := 0, cells := 0, slots := 0, locals := 0 } : Room)) (fun a U => a = #[(.int p1)] ∧ Z.Warmed39 U.vm ∧ U.heap = h0) (fun _ _ _ _ _ => True) (fun _ U o U' => ∃ v L, o = .returned v ∧ Qr (drawF p1) h0 n0 v U'.heap L ∧ FrameEnd U o U' L ({ frames := 0, cells := 0, slots := 0, locals := 0 } : Room).cells ({ frames := 0, cells := 0, slots := 0, locals := 0 } : Room).slots) := by
  by_cases g : (p1 &&& (1 : Int32)) = (0 : Int32)
  · have e : drawF p1 = nar .byte ((p1 >>> ((1 : Int32) &&& 31)).toInt8.toInt32) := if_pos g
    rw [e]
    exact rm1_t l Z a0 hw ws p1 h0 n0 Z0 g
  · have e : drawF p1 = (0 : Int32) := if_neg g
    rw [e]
    exact rm1_f l Z a0 hw ws p1 h0 n0 Z0 g
def vsOf (n b0 b1 b2 b3 : Int32) : List Value := ([.int b0, .int b1, .int b2, .int b3] : List Value).take n.toNatClampNeg
def Q2 (Z : State) (n : Int32) (vs : List Value) (h0 : Heap) (n0 : Nat) (v : Option Value) (h : Heap) (L : List Loc) : Prop := ∃ (b : Addr) (k : ClassId), v = some (.ref b) ∧ Fr n0 L ∧ Keep h0 h [] ∧ h0.size ≤ b ∧ Exa Z h b "[B" ∧ Arv Z h b k .byte n vs (.int (0 : Int32))
theorem d2_0 : decode method_3_code 0 = .ok (.iload_n 0, 1) := by decide +kernel
theorem d2_1 : decode method_3_code 1 = .ok (.ifCond .ne 7, 3) := by decide +kernel
theorem d2_4 : decode method_3_code 4 = .ok (.iconst 0, 1) := by decide +kernel
theorem d2_5 : decode method_3_code 5 = .ok (.newarray .byte, 2) := by decide +kernel
theorem d2_7 : decode method_3_code 7 = .ok (.areturn, 1) := by decide +kernel
theorem pn_2 : plainName "com/example/votary/votary/MessageQueryTextPinLaw" = true := by first | (simp [plainName, overriddenIn]; done) | decide +kernel
theorem ef_2 (m : MethodId) (x0 : Int32) (x1 : Int32) (x2 : Int32) (x3 : Int32) (x4 : Int32) : entryFrame m #[(.int x0), (.int x1), (.int x2), (.int x3), (.int x4)] 5 = mkF m 0 #[.val (.int x0), .val (.int x1), .val (.int x2), .val (.int x3), .val (.int x4)] [] := by first | (simp [entryFrame, mkF, argsToLocals, Value.category]; done) | rfl
set_option maxRecDepth 65536 in
set_option maxHeartbeats 40000000 in
theorem rm2_0 (l : Launch) (Z : State) (a0 : Array Value) (hw : ∀ d ∈ tables_1, d.before a0 Z = true) (ws : List Jvm.Cond) (p1 : Int32) (p2 : Int32) (p3 : Int32) (p4 : Int32) (p5 : Int32) (h0 : Heap) (n0 : Nat) (Z0 : n0 ≤ h0.size) (hb0 : p2.toInt8.toInt32 = p2) (hb1 : p3.toInt8.toInt32 = p3) (hb2 : p4.toInt8.toInt32 = p4) (hb3 : p5.toInt8.toInt32 = p5) (hc1 : p1 = (0 : Int32)) :
    MetFree l (⟨"com/example/votary/votary/MessageQueryTextPinLaw", "make", "(IBBBB)[B"⟩ : MethodName) (head1 (Jvm.Cond.code (⟨"com/example/votary/votary/MessageQueryTextPinLaw", "make", "(IBBBB)[B"⟩ : MethodName) method_3_code 5 (some (.array .byte)) :: ws) ({ frames := 0, cells := 1, slots := 4, locals := 0 } : Room)) (fun a U => a = #[(.int p1), (.int p2), (.int p3), (.int p4), (.int p5)] ∧ Z.Warmed39 U.vm ∧ U.heap = h0) (fun _ _ _ _ _ => True) (fun _ U o U' => ∃ v L, o = .returned v ∧ Q2 Z (0 : Int32) (vsOf (0 : Int32) p2 p3 p4 p5) h0 n0 v U'.heap L ∧ FrameEnd U o U' L ({ frames := 0, cells := 1, slots := 4, locals := 0 } : Room).cells ({ frames := 0, cells := 1, slots := 4, locals := 0 } : Room).slots) := by
  refine MetFree.of_bodySF (plainFor_of_name pn_2) hisR ?_
  intro p e s m args below meth c s₁ Bd hml0 hP hK
  obtain ⟨rfl, hZ, hh⟩ := hP
  have hx := Bd.exec
  have hby := Bd.bytes
  have hml : c.maxLocals = 5 := hml0
  have hown : s.vm.findClass "com/example/votary/votary/MessageQueryTextPinLaw" = some m.cls := findClass_of_methodNamed Bd.named
  have hnm := (name_of_methodNamed Bd.named Bd.method).1
  have X0 : Stand p l e ({ frames := 0, cells := 1, slots := 4, locals := 0 } : Room) s m #[(.int p1), (.int p2), (.int p3), (.int p4), (.int p5)] below meth c s₁ [] 0 0 := Stand.of_body Bd
  have e0 : s₁.heap = h0 := by rw [← hh, Bd.state]; rfl
  have N0 := Fr.nil n0
  have pre0 : ∀ t, Steps p.tables e below (s₁.setTop (mkF m 0 #[.val (.int p1), .val (.int p2), .val (.int p3), .val (.int p4), .val (.int p5)] [])) t → Steps p.tables e below (s₁.setTop (entryFrame m #[(.int p1), (.int p2), (.int p3), (.int p4), (.int p5)] 5)) t := fun t k => castTop (ef_2 m p1 p2 p3 p4 p5) k
  obtain ⟨T6, h6, k6, X6, e6, E6, A6, B6, st6⟩ := newPE X0 hx hZ (hw _ (List.mem_of_getElem? (i := 8) rfl)) e0 (g := (mkF m 5 #[.val (.int p1), .val (.int p2), .val (.int p3), .val (.int p4), .val (.int p5)] [(.int (0 : Int32))])) rfl (hb hby d2_5) rfl (by decide) (cap := 0) (by decide) (by decide) (by decide) (by decide) (ad := "[B") (by decide)
  obtain ⟨b6, g6⟩ : ∃ z, z = h0.size := ⟨_, rfl⟩
  rw [← g6] at A6 B6 st6
  have V_b6 : Arv Z h6 b6 k6 .byte (0 : Int32) [] (.int (0 : Int32)) := Arv.new A6 (by decide)
  have g_b6 : n0 ≤ b6 := Nat.le_trans Z0 (Nat.le_of_eq g6.symm)
  have sz_b6 : h0.size ≤ b6 := (Nat.le_trans (Keep.refl h0 []).1 (Nat.le_of_eq g6.symm))
  have K6 : Keep h0 h6 [] := (Keep.refl h0 []).ext E6
  obtain ⟨fs, hr, hrun, hended, hW, hsame⟩ := X6.leave (v := some (.ref b6)) (fun h => by rw [Bd.returns] at h; cases h)
  refine ⟨_, _, pre0 _ ?_, hrun, hended, _, _, rfl, ?_, ⟨_, rfl⟩, hW, hsame.mono (by decide) (by decide)⟩
  · show Steps p.tables e below (s₁.setTop (mkF m 0 #[.val (.int p1), .val (.int p2), .val (.int p3), .val (.int p4), .val (.int p5)] [])) _
    refine XS.iloadN X0.here hx rfl (hb hby d2_0) rfl ?_
    show Steps p.tables e below (s₁.setTop (mkF m 1 #[.val (.int p1), .val (.int p2), .val (.int p3), .val (.int p4), .val (.int p5)] [(.int p1)])) _
    refine XS.ifNo X0.here hx rfl (hb hby d2_1) rfl ((if0 _ _).trans (teq hc1).2) ?_
    show Steps p.tables e below (s₁.setTop (mkF m 4 #[.val (.int p1), .val (.int p2), .val (.int p3), .val (.int p4), .val (.int p5)] [])) _
    refine XS.iconst X0.here hx rfl (hb hby d2_4) ?_
    show Steps p.tables e below (s₁.setTop (mkF m 5 #[.val (.int p1), .val (.int p2), .val (.int p3), .val (.int p4), .val (.int p5)] [(.int (0 : Int32))])) _
    refine st6 _ ?_
    show Steps p.tables e below (T6.setTop (mkF m 7 #[.val (.int p1), .val (.int p2), .val (.int p3), .val (.int p4), .val (.int p5)] [(.ref b6)])) _
    jvm_step X6.here [X6.here.top, hx, (hb hby d2_7), X6.method', Bd.returns, Value.isRef, FieldType.isReference]
    first | (intro acts; rw [hr _ acts rfl rfl rfl]) | rw [hr _ _ rfl rfl rfl]
    exact Steps.refl _
  · show Q2 Z (0 : Int32) (vsOf (0 : Int32) p2 p3 p4 p5) h0 n0 _ T6.heap _
    rw [e6]
    exact ⟨_, _, rfl, N0, K6, sz_b6, B6, V_b6⟩
theorem d2_8 : decode method_3_code 8 = .ok (.iload_n 0, 1) := by decide +kernel
theorem d2_9 : decode method_3_code 9 = .ok (.iconst 1, 1) := by decide +kernel
theorem d2_10 : decode method_3_code 10 = .ok (.if_icmp .ne 11, 3) := by decide +kernel
theorem d2_13 : decode method_3_code 13 = .ok (.iconst 1, 1) := by decide +kernel
theorem d2_14 : decode method_3_code 14 = .ok (.newarray .byte, 2) := by decide +kernel
theorem d2_16 : decode method_3_code 16 = .ok (.dup, 1) := by decide +kernel
theorem d2_17 : decode method_3_code 17 = .ok (.iconst 0, 1) := by decide +kernel
theorem d2_18 : decode method_3_code 18 = .ok (.iload_n 1, 1) := by decide +kernel
theorem d2_19 : decode method_3_code 19 = .ok (.bastore, 1) := by decide +kernel
theorem d2_20 : decode method_3_code 20 = .ok (.areturn, 1) := by decide +kernel
set_option maxRecDepth 65536 in
set_option maxHeartbeats 40000000 in
theorem rm2_1 (l : Launch) (Z : State) (a0 : Array Value) (hw : ∀ d ∈ tables_1, d.before a0 Z = true) (ws : List Jvm.Cond) (p1 : Int32) (p2 : Int32) (p3 : Int32) (p4 : Int32) (p5 : Int32) (h0 : Heap) (n0 : Nat) (Z0 : n0 ≤ h0.size) (hb0 : p2.toInt8.toInt32 = p2) (hb1 : p3.toInt8.toInt32 = p3) (hb2 : p4.toInt8.toInt32 = p4) (hb3 : p5.toInt8.toInt32 = p5) (hc1 : ¬ (p1 = (0 : Int32))) (hc10 : p1 = (1 : Int32)) :
    MetFree l (⟨"com/example/votary/votary/MessageQueryTextPinLaw", "make", "(IBBBB)[B"⟩ : MethodName) (head1 (Jvm.Cond.code (⟨"com/example/votary/votary/MessageQueryTextPinLaw", "make", "(IBBBB)[B"⟩ : MethodName) method_3_code 5 (some (.array .byte)) :: ws) ({ frames := 0, cells := 1, slots := 4, locals := 0 } : Room)) (fun a U => a = #[(.int p1), (.int p2), (.int p3), (.int p4), (.int p5)] ∧ Z.Warmed39 U.vm ∧ U.heap = h0) (fun _ _ _ _ _ => True) (fun _ U o U' => ∃ v L, o = .returned v ∧ Q2 Z (1 : Int32) (vsOf (1 : Int32) p2 p3 p4 p5) h0 n0 v U'.heap L ∧ FrameEnd U o U' L ({ frames := 0, cells := 1, slots := 4, locals := 0 } : Room).cells ({ frames := 0, cells := 1, slots := 4, locals := 0 } : Room).slots) := by
  refine MetFree.of_bodySF (plainFor_of_name pn_2) hisR ?_
  intro p e s m args below meth c s₁ Bd hml0 hP hK
  obtain ⟨rfl, hZ, hh⟩ := hP
  have hx := Bd.exec
  have hby := Bd.bytes
  have hml : c.maxLocals = 5 := hml0
  have hown : s.vm.findClass "com/example/votary/votary/MessageQueryTextPinLaw" = some m.cls := findClass_of_methodNamed Bd.named
  have hnm := (name_of_methodNamed Bd.named Bd.method).1
  have X0 : Stand p l e ({ frames := 0, cells := 1, slots := 4, locals := 0 } : Room) s m #[(.int p1), (.int p2), (.int p3), (.int p4), (.int p5)] below meth c s₁ [] 0 0 := Stand.of_body Bd
  have e0 : s₁.heap = h0 := by rw [← hh, Bd.state]; rfl
  have N0 := Fr.nil n0
  have pre0 : ∀ t, Steps p.tables e below (s₁.setTop (mkF m 0 #[.val (.int p1), .val (.int p2), .val (.int p3), .val (.int p4), .val (.int p5)] [])) t → Steps p.tables e below (s₁.setTop (entryFrame m #[(.int p1), (.int p2), (.int p3), (.int p4), (.int p5)] 5)) t := fun t k => castTop (ef_2 m p1 p2 p3 p4 p5) k
  obtain ⟨T6, h6, k6, X6, e6, E6, A6, B6, st6⟩ := newPE X0 hx hZ (hw _ (List.mem_of_getElem? (i := 8) rfl)) e0 (g := (mkF m 14 #[.val (.int p1), .val (.int p2), .val (.int p3), .val (.int p4), .val (.int p5)] [(.int (1 : Int32))])) rfl (hb hby d2_14) rfl (by decide) (cap := 1) (by decide) (by decide) (by decide) (by decide) (ad := "[B") (by decide)
  obtain ⟨b6, g6⟩ : ∃ z, z = h0.size := ⟨_, rfl⟩
  rw [← g6] at A6 B6 st6
  have V_b6 : Arv Z h6 b6 k6 .byte (1 : Int32) [(.int (0 : Int32))] (.int (0 : Int32)) := (Arv.new A6 (by decide)).pad (pad_rep [] (.int (0 : Int32)) 1)
  have g_b6 : n0 ≤ b6 := Nat.le_trans Z0 (Nat.le_of_eq g6.symm)
  have sz_b6 : h0.size ≤ b6 := (Nat.le_trans (Keep.refl h0 []).1 (Nat.le_of_eq g6.symm))
  have K6 : Keep h0 h6 [] := (Keep.refl h0 []).ext E6
  obtain ⟨cl_b6_19, Ar_b6, q_b6, S_b6, N_b6, H_b6, G_b6⟩ := V_b6
  have hin19 : ¬ ((0 : Int32) < 0 ∨ cl_b6_19.slots.size ≤ ((0 : Int32)).toNatClampNeg) := inb_of S_b6 ⟨by decide, by decide⟩
  obtain ⟨T7, h7, X7, e7, W7, st7⟩ := stB X6 hx hZ e6 Ar_b6 (j := (0 : Int32)) hin19 (g := (mkF m 19 #[.val (.int p1), .val (.int p2), .val (.int p3), .val (.int p4), .val (.int p5)] [(.int p2), (.int (0 : Int32)), (.ref b6), (.ref b6)])) rfl rfl (hb hby d2_19)
  have V_b6_7 : Arv Z h7 b6 k6 .byte (1 : Int32) [(.int p2)] (.int (0 : Int32)) := by
    have q := Arv.set Ar_b6 q_b6 S_b6 N_b6 H_b6 G_b6 (fits_nar_byte _) W7 0 rfl (Nat.le_of_ble_eq_true rfl)
    rw [hb0] at q
    exact q
  have K7 : Keep h0 h7 [] := K6.wr W7 (Or.inr sz_b6)
  have N7 := Fr.snoc X7 N0 g_b6
  obtain ⟨fs, hr, hrun, hended, hW, hsame⟩ := X7.leave (v := some (.ref b6)) (fun h => by rw [Bd.returns] at h; cases h)
  refine ⟨_, _, pre0 _ ?_, hrun, hended, _, _, rfl, ?_, ⟨_, rfl⟩, hW, hsame.mono (by decide) (by decide)⟩
  · show Steps p.tables e below (s₁.setTop (mkF m 0 #[.val (.int p1), .val (.int p2), .val (.int p3), .val (.int p4), .val (.int p5)] [])) _
    refine XS.iloadN X0.here hx rfl (hb hby d2_0) rfl ?_
    show Steps p.tables e below (s₁.setTop (mkF m 1 #[.val (.int p1), .val (.int p2), .val (.int p3), .val (.int p4), .val (.int p5)] [(.int p1)])) _
    refine XS.ifYes X0.here hx rfl (pc0 := 1) (pc' := 8) rfl (hb hby d2_1) rfl ((if0 _ _).trans (feq hc1).2) (by decide) (by decide) ?_
    show Steps p.tables e below (s₁.setTop (mkF m 8 #[.val (.int p1), .val (.int p2), .val (.int p3), .val (.int p4), .val (.int p5)] [])) _
    refine XS.iloadN X0.here hx rfl (hb hby d2_8) rfl ?_
    show Steps p.tables e below (s₁.setTop (mkF m 9 #[.val (.int p1), .val (.int p2), .val (.int p3), .val (.int p4), .val (.int p5)] [(.int p1)])) _
    refine XS.iconst X0.here hx rfl (hb hby d2_9) ?_
    show Steps p.tables e below (s₁.setTop (mkF m 10 #[.val (.int p1), .val (.int p2), .val (.int p3), .val (.int p4), .val (.int p5)] [(.int (1 : Int32)), (.int p1)])) _
    refine XS.icmpNo X0.here hx rfl (hb hby d2_10) rfl (teq hc10).2 ?_
    show Steps p.tables e below (s₁.setTop (mkF m 13 #[.val (.int p1), .val (.int p2), .val (.int p3), .val (.int p4), .val (.int p5)] [])) _
    refine XS.iconst X0.here hx rfl (hb hby d2_13) ?_
    show Steps p.tables e below (s₁.setTop (mkF m 14 #[.val (.int p1), .val (.int p2), .val (.int p3), .val (.int p4), .val (.int p5)] [(.int (1 : Int32))])) _
    refine st6 _ ?_
    show Steps p.tables e below (T6.setTop (mkF m 16 #[.val (.int p1), .val (.int p2), .val (.int p3), .val (.int p4), .val (.int p5)] [(.ref b6)])) _
    refine XS.dup X6.here hx rfl (hb hby d2_16) rfl rfl ?_
    show Steps p.tables e below (T6.setTop (mkF m 17 #[.val (.int p1), .val (.int p2), .val (.int p3), .val (.int p4), .val (.int p5)] [(.ref b6), (.ref b6)])) _
    refine XS.iconst X6.here hx rfl (hb hby d2_17) ?_
    show Steps p.tables e below (T6.setTop (mkF m 18 #[.val (.int p1), .val (.int p2), .val (.int p3), .val (.int p4), .val (.int p5)] [(.int (0 : Int32)), (.ref b6), (.ref b6)])) _
    refine XS.iloadN X6.here hx rfl (hb hby d2_18) rfl ?_
    show Steps p.tables e below (T6.setTop (mkF m 19 #[.val (.int p1), .val (.int p2), .val (.int p3), .val (.int p4), .val (.int p5)] [(.int p2), (.int (0 : Int32)), (.ref b6), (.ref b6)])) _
    refine st7 _ ?_
    show Steps p.tables e below (T7.setTop (mkF m 20 #[.val (.int p1), .val (.int p2), .val (.int p3), .val (.int p4), .val (.int p5)] [(.ref b6)])) _
    jvm_step X7.here [X7.here.top, hx, (hb hby d2_20), X7.method', Bd.returns, Value.isRef, FieldType.isReference]
    first | (intro acts; rw [hr _ acts rfl rfl rfl]) | rw [hr _ _ rfl rfl rfl]
    exact Steps.refl _
  · show Q2 Z (1 : Int32) (vsOf (1 : Int32) p2 p3 p4 p5) h0 n0 _ T7.heap _
    rw [e7]
    exact ⟨_, _, rfl, N7, K7, sz_b6, (B6.wr W7), V_b6_7⟩
theorem d2_21 : decode method_3_code 21 = .ok (.iload_n 0, 1) := by decide +kernel
theorem d2_22 : decode method_3_code 22 = .ok (.iconst 2, 1) := by decide +kernel
theorem d2_23 : decode method_3_code 23 = .ok (.if_icmp .ne 15, 3) := by decide +kernel
theorem d2_26 : decode method_3_code 26 = .ok (.iconst 2, 1) := by decide +kernel
theorem d2_27 : decode method_3_code 27 = .ok (.newarray .byte, 2) := by decide +kernel
theorem d2_29 : decode method_3_code 29 = .ok (.dup, 1) := by decide +kernel
theorem d2_30 : decode method_3_code 30 = .ok (.iconst 0, 1) := by decide +kernel
theorem d2_31 : decode method_3_code 31 = .ok (.iload_n 1, 1) := by decide +kernel
theorem d2_32 : decode method_3_code 32 = .ok (.bastore, 1) := by decide +kernel
theorem d2_33 : decode method_3_code 33 = .ok (.dup, 1) := by decide +kernel
theorem d2_34 : decode method_3_code 34 = .ok (.iconst 1, 1) := by decide +kernel
theorem d2_35 : decode method_3_code 35 = .ok (.iload_n 2, 1) := by decide +kernel
theorem d2_36 : decode method_3_code 36 = .ok (.bastore, 1) := by decide +kernel
theorem d2_37 : decode method_3_code 37 = .ok (.areturn, 1) := by decide +kernel
set_option maxRecDepth 65536 in
set_option maxHeartbeats 40000000 in
theorem rm2_2 (l : Launch) (Z : State) (a0 : Array Value) (hw : ∀ d ∈ tables_1, d.before a0 Z = true) (ws : List Jvm.Cond) (p1 : Int32) (p2 : Int32) (p3 : Int32) (p4 : Int32) (p5 : Int32) (h0 : Heap) (n0 : Nat) (Z0 : n0 ≤ h0.size) (hb0 : p2.toInt8.toInt32 = p2) (hb1 : p3.toInt8.toInt32 = p3) (hb2 : p4.toInt8.toInt32 = p4) (hb3 : p5.toInt8.toInt32 = p5) (hc1 : ¬ (p1 = (0 : Int32))) (hc10 : ¬ (p1 = (1 : Int32))) (hc23 : p1 = (2 : Int32)) :
    MetFree l (⟨"com/example/votary/votary/MessageQueryTextPinLaw", "make", "(IBBBB)[B"⟩ : MethodName) (head1 (Jvm.Cond.code (⟨"com/example/votary/votary/MessageQueryTextPinLaw", "make", "(IBBBB)[B"⟩ : MethodName) method_3_code 5 (some (.array .byte)) :: ws) ({ frames := 0, cells := 1, slots := 4, locals := 0 } : Room)) (fun a U => a = #[(.int p1), (.int p2), (.int p3), (.int p4), (.int p5)] ∧ Z.Warmed39 U.vm ∧ U.heap = h0) (fun _ _ _ _ _ => True) (fun _ U o U' => ∃ v L, o = .returned v ∧ Q2 Z (2 : Int32) (vsOf (2 : Int32) p2 p3 p4 p5) h0 n0 v U'.heap L ∧ FrameEnd U o U' L ({ frames := 0, cells := 1, slots := 4, locals := 0 } : Room).cells ({ frames := 0, cells := 1, slots := 4, locals := 0 } : Room).slots) := by
  refine MetFree.of_bodySF (plainFor_of_name pn_2) hisR ?_
  intro p e s m args below meth c s₁ Bd hml0 hP hK
  obtain ⟨rfl, hZ, hh⟩ := hP
  have hx := Bd.exec
  have hby := Bd.bytes
  have hml : c.maxLocals = 5 := hml0
  have hown : s.vm.findClass "com/example/votary/votary/MessageQueryTextPinLaw" = some m.cls := findClass_of_methodNamed Bd.named
  have hnm := (name_of_methodNamed Bd.named Bd.method).1
  have X0 : Stand p l e ({ frames := 0, cells := 1, slots := 4, locals := 0 } : Room) s m #[(.int p1), (.int p2), (.int p3), (.int p4), (.int p5)] below meth c s₁ [] 0 0 := Stand.of_body Bd
  have e0 : s₁.heap = h0 := by rw [← hh, Bd.state]; rfl
  have N0 := Fr.nil n0
  have pre0 : ∀ t, Steps p.tables e below (s₁.setTop (mkF m 0 #[.val (.int p1), .val (.int p2), .val (.int p3), .val (.int p4), .val (.int p5)] [])) t → Steps p.tables e below (s₁.setTop (entryFrame m #[(.int p1), (.int p2), (.int p3), (.int p4), (.int p5)] 5)) t := fun t k => castTop (ef_2 m p1 p2 p3 p4 p5) k
  obtain ⟨T6, h6, k6, X6, e6, E6, A6, B6, st6⟩ := newPE X0 hx hZ (hw _ (List.mem_of_getElem? (i := 8) rfl)) e0 (g := (mkF m 27 #[.val (.int p1), .val (.int p2), .val (.int p3), .val (.int p4), .val (.int p5)] [(.int (2 : Int32))])) rfl (hb hby d2_27) rfl (by decide) (cap := 2) (by decide) (by decide) (by decide) (by decide) (ad := "[B") (by decide)
  obtain ⟨b6, g6⟩ : ∃ z, z = h0.size := ⟨_, rfl⟩
  rw [← g6] at A6 B6 st6
  have V_b6 : Arv Z h6 b6 k6 .byte (2 : Int32) [(.int (0 : Int32)), (.int (0 : Int32))] (.int (0 : Int32)) := (Arv.new A6 (by decide)).pad (pad_rep [] (.int (0 : Int32)) 2)
  have g_b6 : n0 ≤ b6 := Nat.le_trans Z0 (Nat.le_of_eq g6.symm)
  have sz_b6 : h0.size ≤ b6 := (Nat.le_trans (Keep.refl h0 []).1 (Nat.le_of_eq g6.symm))
  have K6 : Keep h0 h6 [] := (Keep.refl h0 []).ext E6
  obtain ⟨cl_b6_32, Ar_b6, q_b6, S_b6, N_b6, H_b6, G_b6⟩ := V_b6
  have hin32 : ¬ ((0 : Int32) < 0 ∨ cl_b6_32.slots.size ≤ ((0 : Int32)).toNatClampNeg) := inb_of S_b6 ⟨by decide, by decide⟩
  obtain ⟨T7, h7, X7, e7, W7, st7⟩ := stB X6 hx hZ e6 Ar_b6 (j := (0 : Int32)) hin32 (g := (mkF m 32 #[.val (.int p1), .val (.int p2), .val (.int p3), .val (.int p4), .val (.int p5)] [(.int p2), (.int (0 : Int32)), (.ref b6), (.ref b6)])) rfl rfl (hb hby d2_32)
  have V_b6_7 : Arv Z h7 b6 k6 .byte (2 : Int32) [(.int p2), (.int (0 : Int32))] (.int (0 : Int32)) := by
    have q := Arv.set Ar_b6 q_b6 S_b6 N_b6 H_b6 G_b6 (fits_nar_byte _) W7 0 rfl (Nat.le_of_ble_eq_true rfl)
    rw [hb0] at q
    exact q
  have K7 : Keep h0 h7 [] := K6.wr W7 (Or.inr sz_b6)
  have N7 := Fr.snoc X7 N0 g_b6
  obtain ⟨cl_b6_36, Ar_b6, q_b6, S_b6, N_b6, H_b6, G_b6⟩ := V_b6_7
  have hin36 : ¬ ((1 : Int32) < 0 ∨ cl_b6_36.slots.size ≤ ((1 : Int32)).toNatClampNeg) := inb_of S_b6 ⟨by decide, by decide⟩
  obtain ⟨T8, h8, X8, e8, W8, st8⟩ := stB X7 hx hZ e7 Ar_b6 (j := (1 : Int32)) hin36 (g := (mkF m 36 #[.val (.int p1), .val (.int p2), .val (.int p3), .val (.int p4), .val (.int p5)] [(.int p3), (.int (1 : Int32)), (.ref b6), (.ref b6)])) rfl rfl (hb hby d2_36)
  have V_b6_8 : Arv Z h8 b6 k6 .byte (2 : Int32) [(.int p2), (.int p3)] (.int (0 : Int32)) := by
    have q := Arv.set Ar_b6 q_b6 S_b6 N_b6 H_b6 G_b6 (fits_nar_byte _) W8 1 rfl (Nat.le_of_ble_eq_true rfl)
    rw [hb1] at q
    exact q
  have K8 : Keep h0 h8 [] := K7.wr W8 (Or.inr sz_b6)
  have N8 := Fr.snoc X8 N7 g_b6
  obtain ⟨fs, hr, hrun, hended, hW, hsame⟩ := X8.leave (v := some (.ref b6)) (fun h => by rw [Bd.returns] at h; cases h)
  refine ⟨_, _, pre0 _ ?_, hrun, hended, _, _, rfl, ?_, ⟨_, rfl⟩, hW, hsame.mono (by decide) (by decide)⟩
  · show Steps p.tables e below (s₁.setTop (mkF m 0 #[.val (.int p1), .val (.int p2), .val (.int p3), .val (.int p4), .val (.int p5)] [])) _
    refine XS.iloadN X0.here hx rfl (hb hby d2_0) rfl ?_
    show Steps p.tables e below (s₁.setTop (mkF m 1 #[.val (.int p1), .val (.int p2), .val (.int p3), .val (.int p4), .val (.int p5)] [(.int p1)])) _
    refine XS.ifYes X0.here hx rfl (pc0 := 1) (pc' := 8) rfl (hb hby d2_1) rfl ((if0 _ _).trans (feq hc1).2) (by decide) (by decide) ?_
    show Steps p.tables e below (s₁.setTop (mkF m 8 #[.val (.int p1), .val (.int p2), .val (.int p3), .val (.int p4), .val (.int p5)] [])) _
    refine XS.iloadN X0.here hx rfl (hb hby d2_8) rfl ?_
    show Steps p.tables e below (s₁.setTop (mkF m 9 #[.val (.int p1), .val (.int p2), .val (.int p3), .val (.int p4), .val (.int p5)] [(.int p1)])) _
    refine XS.iconst X0.here hx rfl (hb hby d2_9) ?_
    show Steps p.tables e below (s₁.setTop (mkF m 10 #[.val (.int p1), .val (.int p2), .val (.int p3), .val (.int p4), .val (.int p5)] [(.int (1 : Int32)), (.int p1)])) _
    refine XS.icmpYes X0.here hx rfl (pc0 := 10) (pc' := 21) rfl (hb hby d2_10) rfl (feq hc10).2 (by decide) (by decide) ?_
    show Steps p.tables e below (s₁.setTop (mkF m 21 #[.val (.int p1), .val (.int p2), .val (.int p3), .val (.int p4), .val (.int p5)] [])) _
    refine XS.iloadN X0.here hx rfl (hb hby d2_21) rfl ?_
    show Steps p.tables e below (s₁.setTop (mkF m 22 #[.val (.int p1), .val (.int p2), .val (.int p3), .val (.int p4), .val (.int p5)] [(.int p1)])) _
    refine XS.iconst X0.here hx rfl (hb hby d2_22) ?_
    show Steps p.tables e below (s₁.setTop (mkF m 23 #[.val (.int p1), .val (.int p2), .val (.int p3), .val (.int p4), .val (.int p5)] [(.int (2 : Int32)), (.int p1)])) _
    refine XS.icmpNo X0.here hx rfl (hb hby d2_23) rfl (teq hc23).2 ?_
    show Steps p.tables e below (s₁.setTop (mkF m 26 #[.val (.int p1), .val (.int p2), .val (.int p3), .val (.int p4), .val (.int p5)] [])) _
    refine XS.iconst X0.here hx rfl (hb hby d2_26) ?_
    show Steps p.tables e below (s₁.setTop (mkF m 27 #[.val (.int p1), .val (.int p2), .val (.int p3), .val (.int p4), .val (.int p5)] [(.int (2 : Int32))])) _
    refine st6 _ ?_
    show Steps p.tables e below (T6.setTop (mkF m 29 #[.val (.int p1), .val (.int p2), .val (.int p3), .val (.int p4), .val (.int p5)] [(.ref b6)])) _
    refine XS.dup X6.here hx rfl (hb hby d2_29) rfl rfl ?_
    show Steps p.tables e below (T6.setTop (mkF m 30 #[.val (.int p1), .val (.int p2), .val (.int p3), .val (.int p4), .val (.int p5)] [(.ref b6), (.ref b6)])) _
    refine XS.iconst X6.here hx rfl (hb hby d2_30) ?_
    show Steps p.tables e below (T6.setTop (mkF m 31 #[.val (.int p1), .val (.int p2), .val (.int p3), .val (.int p4), .val (.int p5)] [(.int (0 : Int32)), (.ref b6), (.ref b6)])) _
    refine XS.iloadN X6.here hx rfl (hb hby d2_31) rfl ?_
    show Steps p.tables e below (T6.setTop (mkF m 32 #[.val (.int p1), .val (.int p2), .val (.int p3), .val (.int p4), .val (.int p5)] [(.int p2), (.int (0 : Int32)), (.ref b6), (.ref b6)])) _
    refine st7 _ ?_
    show Steps p.tables e below (T7.setTop (mkF m 33 #[.val (.int p1), .val (.int p2), .val (.int p3), .val (.int p4), .val (.int p5)] [(.ref b6)])) _
    refine XS.dup X7.here hx rfl (hb hby d2_33) rfl rfl ?_
    show Steps p.tables e below (T7.setTop (mkF m 34 #[.val (.int p1), .val (.int p2), .val (.int p3), .val (.int p4), .val (.int p5)] [(.ref b6), (.ref b6)])) _
    refine XS.iconst X7.here hx rfl (hb hby d2_34) ?_
    show Steps p.tables e below (T7.setTop (mkF m 35 #[.val (.int p1), .val (.int p2), .val (.int p3), .val (.int p4), .val (.int p5)] [(.int (1 : Int32)), (.ref b6), (.ref b6)])) _
    refine XS.iloadN X7.here hx rfl (hb hby d2_35) rfl ?_
    show Steps p.tables e below (T7.setTop (mkF m 36 #[.val (.int p1), .val (.int p2), .val (.int p3), .val (.int p4), .val (.int p5)] [(.int p3), (.int (1 : Int32)), (.ref b6), (.ref b6)])) _
    refine st8 _ ?_
    show Steps p.tables e below (T8.setTop (mkF m 37 #[.val (.int p1), .val (.int p2), .val (.int p3), .val (.int p4), .val (.int p5)] [(.ref b6)])) _
    jvm_step X8.here [X8.here.top, hx, (hb hby d2_37), X8.method', Bd.returns, Value.isRef, FieldType.isReference]
    first | (intro acts; rw [hr _ acts rfl rfl rfl]) | rw [hr _ _ rfl rfl rfl]
    exact Steps.refl _
  · show Q2 Z (2 : Int32) (vsOf (2 : Int32) p2 p3 p4 p5) h0 n0 _ T8.heap _
    rw [e8]
    exact ⟨_, _, rfl, N8, K8, sz_b6, ((B6.wr W7).wr W8), V_b6_8⟩
theorem d2_38 : decode method_3_code 38 = .ok (.iload_n 0, 1) := by decide +kernel
theorem d2_39 : decode method_3_code 39 = .ok (.iconst 3, 1) := by decide +kernel
theorem d2_40 : decode method_3_code 40 = .ok (.if_icmp .ne 19, 3) := by decide +kernel
theorem d2_43 : decode method_3_code 43 = .ok (.iconst 3, 1) := by decide +kernel
theorem d2_44 : decode method_3_code 44 = .ok (.newarray .byte, 2) := by decide +kernel
theorem d2_46 : decode method_3_code 46 = .ok (.dup, 1) := by decide +kernel
theorem d2_47 : decode method_3_code 47 = .ok (.iconst 0, 1) := by decide +kernel
theorem d2_48 : decode method_3_code 48 = .ok (.iload_n 1, 1) := by decide +kernel
theorem d2_49 : decode method_3_code 49 = .ok (.bastore, 1) := by decide +kernel
theorem d2_50 : decode method_3_code 50 = .ok (.dup, 1) := by decide +kernel
theorem d2_51 : decode method_3_code 51 = .ok (.iconst 1, 1) := by decide +kernel
theorem d2_52 : decode method_3_code 52 = .ok (.iload_n 2, 1) := by decide +kernel
theorem d2_53 : decode method_3_code 53 = .ok (.bastore, 1) := by decide +kernel
theorem d2_54 : decode method_3_code 54 = .ok (.dup, 1) := by decide +kernel
theorem d2_55 : decode method_3_code 55 = .ok (.iconst 2, 1) := by decide +kernel
theorem d2_56 : decode method_3_code 56 = .ok (.iload_n 3, 1) := by decide +kernel
theorem d2_57 : decode method_3_code 57 = .ok (.bastore, 1) := by decide +kernel
theorem d2_58 : decode method_3_code 58 = .ok (.areturn, 1) := by decide +kernel
set_option maxRecDepth 65536 in
set_option maxHeartbeats 40000000 in
theorem rm2_3 (l : Launch) (Z : State) (a0 : Array Value) (hw : ∀ d ∈ tables_1, d.before a0 Z = true) (ws : List Jvm.Cond) (p1 : Int32) (p2 : Int32) (p3 : Int32) (p4 : Int32) (p5 : Int32) (h0 : Heap) (n0 : Nat) (Z0 : n0 ≤ h0.size) (hb0 : p2.toInt8.toInt32 = p2) (hb1 : p3.toInt8.toInt32 = p3) (hb2 : p4.toInt8.toInt32 = p4) (hb3 : p5.toInt8.toInt32 = p5) (hc1 : ¬ (p1 = (0 : Int32))) (hc10 : ¬ (p1 = (1 : Int32))) (hc23 : ¬ (p1 = (2 : Int32))) (hc40 : p1 = (3 : Int32)) :
    MetFree l (⟨"com/example/votary/votary/MessageQueryTextPinLaw", "make", "(IBBBB)[B"⟩ : MethodName) (head1 (Jvm.Cond.code (⟨"com/example/votary/votary/MessageQueryTextPinLaw", "make", "(IBBBB)[B"⟩ : MethodName) method_3_code 5 (some (.array .byte)) :: ws) ({ frames := 0, cells := 1, slots := 4, locals := 0 } : Room)) (fun a U => a = #[(.int p1), (.int p2), (.int p3), (.int p4), (.int p5)] ∧ Z.Warmed39 U.vm ∧ U.heap = h0) (fun _ _ _ _ _ => True) (fun _ U o U' => ∃ v L, o = .returned v ∧ Q2 Z (3 : Int32) (vsOf (3 : Int32) p2 p3 p4 p5) h0 n0 v U'.heap L ∧ FrameEnd U o U' L ({ frames := 0, cells := 1, slots := 4, locals := 0 } : Room).cells ({ frames := 0, cells := 1, slots := 4, locals := 0 } : Room).slots) := by
  refine MetFree.of_bodySF (plainFor_of_name pn_2) hisR ?_
  intro p e s m args below meth c s₁ Bd hml0 hP hK
  obtain ⟨rfl, hZ, hh⟩ := hP
  have hx := Bd.exec
  have hby := Bd.bytes
  have hml : c.maxLocals = 5 := hml0
  have hown : s.vm.findClass "com/example/votary/votary/MessageQueryTextPinLaw" = some m.cls := findClass_of_methodNamed Bd.named
  have hnm := (name_of_methodNamed Bd.named Bd.method).1
  have X0 : Stand p l e ({ frames := 0, cells := 1, slots := 4, locals := 0 } : Room) s m #[(.int p1), (.int p2), (.int p3), (.int p4), (.int p5)] below meth c s₁ [] 0 0 := Stand.of_body Bd
  have e0 : s₁.heap = h0 := by rw [← hh, Bd.state]; rfl
  have N0 := Fr.nil n0
  have pre0 : ∀ t, Steps p.tables e below (s₁.setTop (mkF m 0 #[.val (.int p1), .val (.int p2), .val (.int p3), .val (.int p4), .val (.int p5)] [])) t → Steps p.tables e below (s₁.setTop (entryFrame m #[(.int p1), (.int p2), (.int p3), (.int p4), (.int p5)] 5)) t := fun t k => castTop (ef_2 m p1 p2 p3 p4 p5) k
  obtain ⟨T6, h6, k6, X6, e6, E6, A6, B6, st6⟩ := newPE X0 hx hZ (hw _ (List.mem_of_getElem? (i := 8) rfl)) e0 (g := (mkF m 44 #[.val (.int p1), .val (.int p2), .val (.int p3), .val (.int p4), .val (.int p5)] [(.int (3 : Int32))])) rfl (hb hby d2_44) rfl (by decide) (cap := 3) (by decide) (by decide) (by decide) (by decide) (ad := "[B") (by decide)
  obtain ⟨b6, g6⟩ : ∃ z, z = h0.size := ⟨_, rfl⟩
  rw [← g6] at A6 B6 st6
  have V_b6 : Arv Z h6 b6 k6 .byte (3 : Int32) [(.int (0 : Int32)), (.int (0 : Int32)), (.int (0 : Int32))] (.int (0 : Int32)) := (Arv.new A6 (by decide)).pad (pad_rep [] (.int (0 : Int32)) 3)
  have g_b6 : n0 ≤ b6 := Nat.le_trans Z0 (Nat.le_of_eq g6.symm)
  have sz_b6 : h0.size ≤ b6 := (Nat.le_trans (Keep.refl h0 []).1 (Nat.le_of_eq g6.symm))
  have K6 : Keep h0 h6 [] := (Keep.refl h0 []).ext E6
  obtain ⟨cl_b6_49, Ar_b6, q_b6, S_b6, N_b6, H_b6, G_b6⟩ := V_b6
  have hin49 : ¬ ((0 : Int32) < 0 ∨ cl_b6_49.slots.size ≤ ((0 : Int32)).toNatClampNeg) := inb_of S_b6 ⟨by decide, by decide⟩
  obtain ⟨T7, h7, X7, e7, W7, st7⟩ := stB X6 hx hZ e6 Ar_b6 (j := (0 : Int32)) hin49 (g := (mkF m 49 #[.val (.int p1), .val (.int p2), .val (.int p3), .val (.int p4), .val (.int p5)] [(.int p2), (.int (0 : Int32)), (.ref b6), (.ref b6)])) rfl rfl (hb hby d2_49)
  have V_b6_7 : Arv Z h7 b6 k6 .byte (3 : Int32) [(.int p2), (.int (0 : Int32)), (.int (0 : Int32))] (.int (0 : Int32)) := by
    have q := Arv.set Ar_b6 q_b6 S_b6 N_b6 H_b6 G_b6 (fits_nar_byte _) W7 0 rfl (Nat.le_of_ble_eq_true rfl)
    rw [hb0] at q
    exact q
  have K7 : Keep h0 h7 [] := K6.wr W7 (Or.inr sz_b6)
  have N7 := Fr.snoc X7 N0 g_b6
  obtain ⟨cl_b6_53, Ar_b6, q_b6, S_b6, N_b6, H_b6, G_b6⟩ := V_b6_7
  have hin53 : ¬ ((1 : Int32) < 0 ∨ cl_b6_53.slots.size ≤ ((1 : Int32)).toNatClampNeg) := inb_of S_b6 ⟨by decide, by decide⟩
  obtain ⟨T8, h8, X8, e8, W8, st8⟩ := stB X7 hx hZ e7 Ar_b6 (j := (1 : Int32)) hin53 (g := (mkF m 53 #[.val (.int p1), .val (.int p2), .val (.int p3), .val (.int p4), .val (.int p5)] [(.int p3), (.int (1 : Int32)), (.ref b6), (.ref b6)])) rfl rfl (hb hby d2_53)
  have V_b6_8 : Arv Z h8 b6 k6 .byte (3 : Int32) [(.int p2), (.int p3), (.int (0 : Int32))] (.int (0 : Int32)) := by
    have q := Arv.set Ar_b6 q_b6 S_b6 N_b6 H_b6 G_b6 (fits_nar_byte _) W8 1 rfl (Nat.le_of_ble_eq_true rfl)
    rw [hb1] at q
    exact q
  have K8 : Keep h0 h8 [] := K7.wr W8 (Or.inr sz_b6)
  have N8 := Fr.snoc X8 N7 g_b6
  obtain ⟨cl_b6_57, Ar_b6, q_b6, S_b6, N_b6, H_b6, G_b6⟩ := V_b6_8
  have hin57 : ¬ ((2 : Int32) < 0 ∨ cl_b6_57.slots.size ≤ ((2 : Int32)).toNatClampNeg) := inb_of S_b6 ⟨by decide, by decide⟩
  obtain ⟨T9, h9, X9, e9, W9, st9⟩ := stB X8 hx hZ e8 Ar_b6 (j := (2 : Int32)) hin57 (g := (mkF m 57 #[.val (.int p1), .val (.int p2), .val (.int p3), .val (.int p4), .val (.int p5)] [(.int p4), (.int (2 : Int32)), (.ref b6), (.ref b6)])) rfl rfl (hb hby d2_57)
  have V_b6_9 : Arv Z h9 b6 k6 .byte (3 : Int32) [(.int p2), (.int p3), (.int p4)] (.int (0 : Int32)) := by
    have q := Arv.set Ar_b6 q_b6 S_b6 N_b6 H_b6 G_b6 (fits_nar_byte _) W9 2 rfl (Nat.le_of_ble_eq_true rfl)
    rw [hb2] at q
    exact q
  have K9 : Keep h0 h9 [] := K8.wr W9 (Or.inr sz_b6)
  have N9 := Fr.snoc X9 N8 g_b6
  obtain ⟨fs, hr, hrun, hended, hW, hsame⟩ := X9.leave (v := some (.ref b6)) (fun h => by rw [Bd.returns] at h; cases h)
  refine ⟨_, _, pre0 _ ?_, hrun, hended, _, _, rfl, ?_, ⟨_, rfl⟩, hW, hsame.mono (by decide) (by decide)⟩
  · show Steps p.tables e below (s₁.setTop (mkF m 0 #[.val (.int p1), .val (.int p2), .val (.int p3), .val (.int p4), .val (.int p5)] [])) _
    refine XS.iloadN X0.here hx rfl (hb hby d2_0) rfl ?_
    show Steps p.tables e below (s₁.setTop (mkF m 1 #[.val (.int p1), .val (.int p2), .val (.int p3), .val (.int p4), .val (.int p5)] [(.int p1)])) _
    refine XS.ifYes X0.here hx rfl (pc0 := 1) (pc' := 8) rfl (hb hby d2_1) rfl ((if0 _ _).trans (feq hc1).2) (by decide) (by decide) ?_
    show Steps p.tables e below (s₁.setTop (mkF m 8 #[.val (.int p1), .val (.int p2), .val (.int p3), .val (.int p4), .val (.int p5)] [])) _
    refine XS.iloadN X0.here hx rfl (hb hby d2_8) rfl ?_
    show Steps p.tables e below (s₁.setTop (mkF m 9 #[.val (.int p1), .val (.int p2), .val (.int p3), .val (.int p4), .val (.int p5)] [(.int p1)])) _
    refine XS.iconst X0.here hx rfl (hb hby d2_9) ?_
    show Steps p.tables e below (s₁.setTop (mkF m 10 #[.val (.int p1), .val (.int p2), .val (.int p3), .val (.int p4), .val (.int p5)] [(.int (1 : Int32)), (.int p1)])) _
    refine XS.icmpYes X0.here hx rfl (pc0 := 10) (pc' := 21) rfl (hb hby d2_10) rfl (feq hc10).2 (by decide) (by decide) ?_
    show Steps p.tables e below (s₁.setTop (mkF m 21 #[.val (.int p1), .val (.int p2), .val (.int p3), .val (.int p4), .val (.int p5)] [])) _
    refine XS.iloadN X0.here hx rfl (hb hby d2_21) rfl ?_
    show Steps p.tables e below (s₁.setTop (mkF m 22 #[.val (.int p1), .val (.int p2), .val (.int p3), .val (.int p4), .val (.int p5)] [(.int p1)])) _
    refine XS.iconst X0.here hx rfl (hb hby d2_22) ?_
    show Steps p.tables e below (s₁.setTop (mkF m 23 #[.val (.int p1), .val (.int p2), .val (.int p3), .val (.int p4), .val (.int p5)] [(.int (2 : Int32)), (.int p1)])) _
    refine XS.icmpYes X0.here hx rfl (pc0 := 23) (pc' := 38) rfl (hb hby d2_23) rfl (feq hc23).2 (by decide) (by decide) ?_
    show Steps p.tables e below (s₁.setTop (mkF m 38 #[.val (.int p1), .val (.int p2), .val (.int p3), .val (.int p4), .val (.int p5)] [])) _
    refine XS.iloadN X0.here hx rfl (hb hby d2_38) rfl ?_
    show Steps p.tables e below (s₁.setTop (mkF m 39 #[.val (.int p1), .val (.int p2), .val (.int p3), .val (.int p4), .val (.int p5)] [(.int p1)])) _
    refine XS.iconst X0.here hx rfl (hb hby d2_39) ?_
    show Steps p.tables e below (s₁.setTop (mkF m 40 #[.val (.int p1), .val (.int p2), .val (.int p3), .val (.int p4), .val (.int p5)] [(.int (3 : Int32)), (.int p1)])) _
    refine XS.icmpNo X0.here hx rfl (hb hby d2_40) rfl (teq hc40).2 ?_
    show Steps p.tables e below (s₁.setTop (mkF m 43 #[.val (.int p1), .val (.int p2), .val (.int p3), .val (.int p4), .val (.int p5)] [])) _
    refine XS.iconst X0.here hx rfl (hb hby d2_43) ?_
    show Steps p.tables e below (s₁.setTop (mkF m 44 #[.val (.int p1), .val (.int p2), .val (.int p3), .val (.int p4), .val (.int p5)] [(.int (3 : Int32))])) _
    refine st6 _ ?_
    show Steps p.tables e below (T6.setTop (mkF m 46 #[.val (.int p1), .val (.int p2), .val (.int p3), .val (.int p4), .val (.int p5)] [(.ref b6)])) _
    refine XS.dup X6.here hx rfl (hb hby d2_46) rfl rfl ?_
    show Steps p.tables e below (T6.setTop (mkF m 47 #[.val (.int p1), .val (.int p2), .val (.int p3), .val (.int p4), .val (.int p5)] [(.ref b6), (.ref b6)])) _
    refine XS.iconst X6.here hx rfl (hb hby d2_47) ?_
    show Steps p.tables e below (T6.setTop (mkF m 48 #[.val (.int p1), .val (.int p2), .val (.int p3), .val (.int p4), .val (.int p5)] [(.int (0 : Int32)), (.ref b6), (.ref b6)])) _
    refine XS.iloadN X6.here hx rfl (hb hby d2_48) rfl ?_
    show Steps p.tables e below (T6.setTop (mkF m 49 #[.val (.int p1), .val (.int p2), .val (.int p3), .val (.int p4), .val (.int p5)] [(.int p2), (.int (0 : Int32)), (.ref b6), (.ref b6)])) _
    refine st7 _ ?_
    show Steps p.tables e below (T7.setTop (mkF m 50 #[.val (.int p1), .val (.int p2), .val (.int p3), .val (.int p4), .val (.int p5)] [(.ref b6)])) _
    refine XS.dup X7.here hx rfl (hb hby d2_50) rfl rfl ?_
    show Steps p.tables e below (T7.setTop (mkF m 51 #[.val (.int p1), .val (.int p2), .val (.int p3), .val (.int p4), .val (.int p5)] [(.ref b6), (.ref b6)])) _
    refine XS.iconst X7.here hx rfl (hb hby d2_51) ?_
    show Steps p.tables e below (T7.setTop (mkF m 52 #[.val (.int p1), .val (.int p2), .val (.int p3), .val (.int p4), .val (.int p5)] [(.int (1 : Int32)), (.ref b6), (.ref b6)])) _
    refine XS.iloadN X7.here hx rfl (hb hby d2_52) rfl ?_
    show Steps p.tables e below (T7.setTop (mkF m 53 #[.val (.int p1), .val (.int p2), .val (.int p3), .val (.int p4), .val (.int p5)] [(.int p3), (.int (1 : Int32)), (.ref b6), (.ref b6)])) _
    refine st8 _ ?_
    show Steps p.tables e below (T8.setTop (mkF m 54 #[.val (.int p1), .val (.int p2), .val (.int p3), .val (.int p4), .val (.int p5)] [(.ref b6)])) _
    refine XS.dup X8.here hx rfl (hb hby d2_54) rfl rfl ?_
    show Steps p.tables e below (T8.setTop (mkF m 55 #[.val (.int p1), .val (.int p2), .val (.int p3), .val (.int p4), .val (.int p5)] [(.ref b6), (.ref b6)])) _
    refine XS.iconst X8.here hx rfl (hb hby d2_55) ?_
    show Steps p.tables e below (T8.setTop (mkF m 56 #[.val (.int p1), .val (.int p2), .val (.int p3), .val (.int p4), .val (.int p5)] [(.int (2 : Int32)), (.ref b6), (.ref b6)])) _
    refine XS.iloadN X8.here hx rfl (hb hby d2_56) rfl ?_
    show Steps p.tables e below (T8.setTop (mkF m 57 #[.val (.int p1), .val (.int p2), .val (.int p3), .val (.int p4), .val (.int p5)] [(.int p4), (.int (2 : Int32)), (.ref b6), (.ref b6)])) _
    refine st9 _ ?_
    show Steps p.tables e below (T9.setTop (mkF m 58 #[.val (.int p1), .val (.int p2), .val (.int p3), .val (.int p4), .val (.int p5)] [(.ref b6)])) _
    jvm_step X9.here [X9.here.top, hx, (hb hby d2_58), X9.method', Bd.returns, Value.isRef, FieldType.isReference]
    first | (intro acts; rw [hr _ acts rfl rfl rfl]) | rw [hr _ _ rfl rfl rfl]
    exact Steps.refl _
  · show Q2 Z (3 : Int32) (vsOf (3 : Int32) p2 p3 p4 p5) h0 n0 _ T9.heap _
    rw [e9]
    exact ⟨_, _, rfl, N9, K9, sz_b6, (((B6.wr W7).wr W8).wr W9), V_b6_9⟩
theorem d2_59 : decode method_3_code 59 = .ok (.iconst 4, 1) := by decide +kernel
theorem d2_60 : decode method_3_code 60 = .ok (.newarray .byte, 2) := by decide +kernel
theorem d2_62 : decode method_3_code 62 = .ok (.dup, 1) := by decide +kernel
theorem d2_63 : decode method_3_code 63 = .ok (.iconst 0, 1) := by decide +kernel
theorem d2_64 : decode method_3_code 64 = .ok (.iload_n 1, 1) := by decide +kernel
theorem d2_65 : decode method_3_code 65 = .ok (.bastore, 1) := by decide +kernel
theorem d2_66 : decode method_3_code 66 = .ok (.dup, 1) := by decide +kernel
theorem d2_67 : decode method_3_code 67 = .ok (.iconst 1, 1) := by decide +kernel
theorem d2_68 : decode method_3_code 68 = .ok (.iload_n 2, 1) := by decide +kernel
theorem d2_69 : decode method_3_code 69 = .ok (.bastore, 1) := by decide +kernel
theorem d2_70 : decode method_3_code 70 = .ok (.dup, 1) := by decide +kernel
theorem d2_71 : decode method_3_code 71 = .ok (.iconst 2, 1) := by decide +kernel
theorem d2_72 : decode method_3_code 72 = .ok (.iload_n 3, 1) := by decide +kernel
theorem d2_73 : decode method_3_code 73 = .ok (.bastore, 1) := by decide +kernel
theorem d2_74 : decode method_3_code 74 = .ok (.dup, 1) := by decide +kernel
theorem d2_75 : decode method_3_code 75 = .ok (.iconst 3, 1) := by decide +kernel
theorem d2_76 : decode method_3_code 76 = .ok (.iload 4, 2) := by decide +kernel
theorem d2_78 : decode method_3_code 78 = .ok (.bastore, 1) := by decide +kernel
theorem d2_79 : decode method_3_code 79 = .ok (.areturn, 1) := by decide +kernel
set_option maxRecDepth 65536 in
set_option maxHeartbeats 40000000 in
theorem rm2_4 (l : Launch) (Z : State) (a0 : Array Value) (hw : ∀ d ∈ tables_1, d.before a0 Z = true) (ws : List Jvm.Cond) (p1 : Int32) (p2 : Int32) (p3 : Int32) (p4 : Int32) (p5 : Int32) (h0 : Heap) (n0 : Nat) (Z0 : n0 ≤ h0.size) (hb0 : p2.toInt8.toInt32 = p2) (hb1 : p3.toInt8.toInt32 = p3) (hb2 : p4.toInt8.toInt32 = p4) (hb3 : p5.toInt8.toInt32 = p5) (hc1 : ¬ (p1 = (0 : Int32))) (hc10 : ¬ (p1 = (1 : Int32))) (hc23 : ¬ (p1 = (2 : Int32))) (hc40 : ¬ (p1 = (3 : Int32))) :
    MetFree l (⟨"com/example/votary/votary/MessageQueryTextPinLaw", "make", "(IBBBB)[B"⟩ : MethodName) (head1 (Jvm.Cond.code (⟨"com/example/votary/votary/MessageQueryTextPinLaw", "make", "(IBBBB)[B"⟩ : MethodName) method_3_code 5 (some (.array .byte)) :: ws) ({ frames := 0, cells := 1, slots := 4, locals := 0 } : Room)) (fun a U => a = #[(.int p1), (.int p2), (.int p3), (.int p4), (.int p5)] ∧ Z.Warmed39 U.vm ∧ U.heap = h0) (fun _ _ _ _ _ => True) (fun _ U o U' => ∃ v L, o = .returned v ∧ Q2 Z (4 : Int32) (vsOf (4 : Int32) p2 p3 p4 p5) h0 n0 v U'.heap L ∧ FrameEnd U o U' L ({ frames := 0, cells := 1, slots := 4, locals := 0 } : Room).cells ({ frames := 0, cells := 1, slots := 4, locals := 0 } : Room).slots) := by
  refine MetFree.of_bodySF (plainFor_of_name pn_2) hisR ?_
  intro p e s m args below meth c s₁ Bd hml0 hP hK
  obtain ⟨rfl, hZ, hh⟩ := hP
  have hx := Bd.exec
  have hby := Bd.bytes
  have hml : c.maxLocals = 5 := hml0
  have hown : s.vm.findClass "com/example/votary/votary/MessageQueryTextPinLaw" = some m.cls := findClass_of_methodNamed Bd.named
  have hnm := (name_of_methodNamed Bd.named Bd.method).1
  have X0 : Stand p l e ({ frames := 0, cells := 1, slots := 4, locals := 0 } : Room) s m #[(.int p1), (.int p2), (.int p3), (.int p4), (.int p5)] below meth c s₁ [] 0 0 := Stand.of_body Bd
  have e0 : s₁.heap = h0 := by rw [← hh, Bd.state]; rfl
  have N0 := Fr.nil n0
  have pre0 : ∀ t, Steps p.tables e below (s₁.setTop (mkF m 0 #[.val (.int p1), .val (.int p2), .val (.int p3), .val (.int p4), .val (.int p5)] [])) t → Steps p.tables e below (s₁.setTop (entryFrame m #[(.int p1), (.int p2), (.int p3), (.int p4), (.int p5)] 5)) t := fun t k => castTop (ef_2 m p1 p2 p3 p4 p5) k
  obtain ⟨T6, h6, k6, X6, e6, E6, A6, B6, st6⟩ := newPE X0 hx hZ (hw _ (List.mem_of_getElem? (i := 8) rfl)) e0 (g := (mkF m 60 #[.val (.int p1), .val (.int p2), .val (.int p3), .val (.int p4), .val (.int p5)] [(.int (4 : Int32))])) rfl (hb hby d2_60) rfl (by decide) (cap := 4) (by decide) (by decide) (by decide) (by decide) (ad := "[B") (by decide)
  obtain ⟨b6, g6⟩ : ∃ z, z = h0.size := ⟨_, rfl⟩
  rw [← g6] at A6 B6 st6
  have V_b6 : Arv Z h6 b6 k6 .byte (4 : Int32) [(.int (0 : Int32)), (.int (0 : Int32)), (.int (0 : Int32)), (.int (0 : Int32))] (.int (0 : Int32)) := (Arv.new A6 (by decide)).pad (pad_rep [] (.int (0 : Int32)) 4)
  have g_b6 : n0 ≤ b6 := Nat.le_trans Z0 (Nat.le_of_eq g6.symm)
  have sz_b6 : h0.size ≤ b6 := (Nat.le_trans (Keep.refl h0 []).1 (Nat.le_of_eq g6.symm))
  have K6 : Keep h0 h6 [] := (Keep.refl h0 []).ext E6
  obtain ⟨cl_b6_65, Ar_b6, q_b6, S_b6, N_b6, H_b6, G_b6⟩ := V_b6
  have hin65 : ¬ ((0 : Int32) < 0 ∨ cl_b6_65.slots.size ≤ ((0 : Int32)).toNatClampNeg) := inb_of S_b6 ⟨by decide, by decide⟩
  obtain ⟨T7, h7, X7, e7, W7, st7⟩ := stB X6 hx hZ e6 Ar_b6 (j := (0 : Int32)) hin65 (g := (mkF m 65 #[.val (.int p1), .val (.int p2), .val (.int p3), .val (.int p4), .val (.int p5)] [(.int p2), (.int (0 : Int32)), (.ref b6), (.ref b6)])) rfl rfl (hb hby d2_65)
  have V_b6_7 : Arv Z h7 b6 k6 .byte (4 : Int32) [(.int p2), (.int (0 : Int32)), (.int (0 : Int32)), (.int (0 : Int32))] (.int (0 : Int32)) := by
    have q := Arv.set Ar_b6 q_b6 S_b6 N_b6 H_b6 G_b6 (fits_nar_byte _) W7 0 rfl (Nat.le_of_ble_eq_true rfl)
    rw [hb0] at q
    exact q
  have K7 : Keep h0 h7 [] := K6.wr W7 (Or.inr sz_b6)
  have N7 := Fr.snoc X7 N0 g_b6
  obtain ⟨cl_b6_69, Ar_b6, q_b6, S_b6, N_b6, H_b6, G_b6⟩ := V_b6_7
  have hin69 : ¬ ((1 : Int32) < 0 ∨ cl_b6_69.slots.size ≤ ((1 : Int32)).toNatClampNeg) := inb_of S_b6 ⟨by decide, by decide⟩
  obtain ⟨T8, h8, X8, e8, W8, st8⟩ := stB X7 hx hZ e7 Ar_b6 (j := (1 : Int32)) hin69 (g := (mkF m 69 #[.val (.int p1), .val (.int p2), .val (.int p3), .val (.int p4), .val (.int p5)] [(.int p3), (.int (1 : Int32)), (.ref b6), (.ref b6)])) rfl rfl (hb hby d2_69)
  have V_b6_8 : Arv Z h8 b6 k6 .byte (4 : Int32) [(.int p2), (.int p3), (.int (0 : Int32)), (.int (0 : Int32))] (.int (0 : Int32)) := by
    have q := Arv.set Ar_b6 q_b6 S_b6 N_b6 H_b6 G_b6 (fits_nar_byte _) W8 1 rfl (Nat.le_of_ble_eq_true rfl)
    rw [hb1] at q
    exact q
  have K8 : Keep h0 h8 [] := K7.wr W8 (Or.inr sz_b6)
  have N8 := Fr.snoc X8 N7 g_b6
  obtain ⟨cl_b6_73, Ar_b6, q_b6, S_b6, N_b6, H_b6, G_b6⟩ := V_b6_8
  have hin73 : ¬ ((2 : Int32) < 0 ∨ cl_b6_73.slots.size ≤ ((2 : Int32)).toNatClampNeg) := inb_of S_b6 ⟨by decide, by decide⟩
  obtain ⟨T9, h9, X9, e9, W9, st9⟩ := stB X8 hx hZ e8 Ar_b6 (j := (2 : Int32)) hin73 (g := (mkF m 73 #[.val (.int p1), .val (.int p2), .val (.int p3), .val (.int p4), .val (.int p5)] [(.int p4), (.int (2 : Int32)), (.ref b6), (.ref b6)])) rfl rfl (hb hby d2_73)
  have V_b6_9 : Arv Z h9 b6 k6 .byte (4 : Int32) [(.int p2), (.int p3), (.int p4), (.int (0 : Int32))] (.int (0 : Int32)) := by
    have q := Arv.set Ar_b6 q_b6 S_b6 N_b6 H_b6 G_b6 (fits_nar_byte _) W9 2 rfl (Nat.le_of_ble_eq_true rfl)
    rw [hb2] at q
    exact q
  have K9 : Keep h0 h9 [] := K8.wr W9 (Or.inr sz_b6)
  have N9 := Fr.snoc X9 N8 g_b6
  obtain ⟨cl_b6_78, Ar_b6, q_b6, S_b6, N_b6, H_b6, G_b6⟩ := V_b6_9
  have hin78 : ¬ ((3 : Int32) < 0 ∨ cl_b6_78.slots.size ≤ ((3 : Int32)).toNatClampNeg) := inb_of S_b6 ⟨by decide, by decide⟩
  obtain ⟨T10, h10, X10, e10, W10, st10⟩ := stB X9 hx hZ e9 Ar_b6 (j := (3 : Int32)) hin78 (g := (mkF m 78 #[.val (.int p1), .val (.int p2), .val (.int p3), .val (.int p4), .val (.int p5)] [(.int p5), (.int (3 : Int32)), (.ref b6), (.ref b6)])) rfl rfl (hb hby d2_78)
  have V_b6_10 : Arv Z h10 b6 k6 .byte (4 : Int32) [(.int p2), (.int p3), (.int p4), (.int p5)] (.int (0 : Int32)) := by
    have q := Arv.set Ar_b6 q_b6 S_b6 N_b6 H_b6 G_b6 (fits_nar_byte _) W10 3 rfl (Nat.le_of_ble_eq_true rfl)
    rw [hb3] at q
    exact q
  have K10 : Keep h0 h10 [] := K9.wr W10 (Or.inr sz_b6)
  have N10 := Fr.snoc X10 N9 g_b6
  obtain ⟨fs, hr, hrun, hended, hW, hsame⟩ := X10.leave (v := some (.ref b6)) (fun h => by rw [Bd.returns] at h; cases h)
  refine ⟨_, _, pre0 _ ?_, hrun, hended, _, _, rfl, ?_, ⟨_, rfl⟩, hW, hsame.mono (by decide) (by decide)⟩
  · show Steps p.tables e below (s₁.setTop (mkF m 0 #[.val (.int p1), .val (.int p2), .val (.int p3), .val (.int p4), .val (.int p5)] [])) _
    refine XS.iloadN X0.here hx rfl (hb hby d2_0) rfl ?_
    show Steps p.tables e below (s₁.setTop (mkF m 1 #[.val (.int p1), .val (.int p2), .val (.int p3), .val (.int p4), .val (.int p5)] [(.int p1)])) _
    refine XS.ifYes X0.here hx rfl (pc0 := 1) (pc' := 8) rfl (hb hby d2_1) rfl ((if0 _ _).trans (feq hc1).2) (by decide) (by decide) ?_
    show Steps p.tables e below (s₁.setTop (mkF m 8 #[.val (.int p1), .val (.int p2), .val (.int p3), .val (.int p4), .val (.int p5)] [])) _
    refine XS.iloadN X0.here hx rfl (hb hby d2_8) rfl ?_
    show Steps p.tables e below (s₁.setTop (mkF m 9 #[.val (.int p1), .val (.int p2), .val (.int p3), .val (.int p4), .val (.int p5)] [(.int p1)])) _
    refine XS.iconst X0.here hx rfl (hb hby d2_9) ?_
    show Steps p.tables e below (s₁.setTop (mkF m 10 #[.val (.int p1), .val (.int p2), .val (.int p3), .val (.int p4), .val (.int p5)] [(.int (1 : Int32)), (.int p1)])) _
    refine XS.icmpYes X0.here hx rfl (pc0 := 10) (pc' := 21) rfl (hb hby d2_10) rfl (feq hc10).2 (by decide) (by decide) ?_
    show Steps p.tables e below (s₁.setTop (mkF m 21 #[.val (.int p1), .val (.int p2), .val (.int p3), .val (.int p4), .val (.int p5)] [])) _
    refine XS.iloadN X0.here hx rfl (hb hby d2_21) rfl ?_
    show Steps p.tables e below (s₁.setTop (mkF m 22 #[.val (.int p1), .val (.int p2), .val (.int p3), .val (.int p4), .val (.int p5)] [(.int p1)])) _
    refine XS.iconst X0.here hx rfl (hb hby d2_22) ?_
    show Steps p.tables e below (s₁.setTop (mkF m 23 #[.val (.int p1), .val (.int p2), .val (.int p3), .val (.int p4), .val (.int p5)] [(.int (2 : Int32)), (.int p1)])) _
    refine XS.icmpYes X0.here hx rfl (pc0 := 23) (pc' := 38) rfl (hb hby d2_23) rfl (feq hc23).2 (by decide) (by decide) ?_
    show Steps p.tables e below (s₁.setTop (mkF m 38 #[.val (.int p1), .val (.int p2), .val (.int p3), .val (.int p4), .val (.int p5)] [])) _
    refine XS.iloadN X0.here hx rfl (hb hby d2_38) rfl ?_
    show Steps p.tables e below (s₁.setTop (mkF m 39 #[.val (.int p1), .val (.int p2), .val (.int p3), .val (.int p4), .val (.int p5)] [(.int p1)])) _
    refine XS.iconst X0.here hx rfl (hb hby d2_39) ?_
    show Steps p.tables e below (s₁.setTop (mkF m 40 #[.val (.int p1), .val (.int p2), .val (.int p3), .val (.int p4), .val (.int p5)] [(.int (3 : Int32)), (.int p1)])) _
    refine XS.icmpYes X0.here hx rfl (pc0 := 40) (pc' := 59) rfl (hb hby d2_40) rfl (feq hc40).2 (by decide) (by decide) ?_
    show Steps p.tables e below (s₁.setTop (mkF m 59 #[.val (.int p1), .val (.int p2), .val (.int p3), .val (.int p4), .val (.int p5)] [])) _
    refine XS.iconst X0.here hx rfl (hb hby d2_59) ?_
    show Steps p.tables e below (s₁.setTop (mkF m 60 #[.val (.int p1), .val (.int p2), .val (.int p3), .val (.int p4), .val (.int p5)] [(.int (4 : Int32))])) _
    refine st6 _ ?_
    show Steps p.tables e below (T6.setTop (mkF m 62 #[.val (.int p1), .val (.int p2), .val (.int p3), .val (.int p4), .val (.int p5)] [(.ref b6)])) _
    refine XS.dup X6.here hx rfl (hb hby d2_62) rfl rfl ?_
    show Steps p.tables e below (T6.setTop (mkF m 63 #[.val (.int p1), .val (.int p2), .val (.int p3), .val (.int p4), .val (.int p5)] [(.ref b6), (.ref b6)])) _
    refine XS.iconst X6.here hx rfl (hb hby d2_63) ?_
    show Steps p.tables e below (T6.setTop (mkF m 64 #[.val (.int p1), .val (.int p2), .val (.int p3), .val (.int p4), .val (.int p5)] [(.int (0 : Int32)), (.ref b6), (.ref b6)])) _
    refine XS.iloadN X6.here hx rfl (hb hby d2_64) rfl ?_
    show Steps p.tables e below (T6.setTop (mkF m 65 #[.val (.int p1), .val (.int p2), .val (.int p3), .val (.int p4), .val (.int p5)] [(.int p2), (.int (0 : Int32)), (.ref b6), (.ref b6)])) _
    refine st7 _ ?_
    show Steps p.tables e below (T7.setTop (mkF m 66 #[.val (.int p1), .val (.int p2), .val (.int p3), .val (.int p4), .val (.int p5)] [(.ref b6)])) _
    refine XS.dup X7.here hx rfl (hb hby d2_66) rfl rfl ?_
    show Steps p.tables e below (T7.setTop (mkF m 67 #[.val (.int p1), .val (.int p2), .val (.int p3), .val (.int p4), .val (.int p5)] [(.ref b6), (.ref b6)])) _
    refine XS.iconst X7.here hx rfl (hb hby d2_67) ?_
    show Steps p.tables e below (T7.setTop (mkF m 68 #[.val (.int p1), .val (.int p2), .val (.int p3), .val (.int p4), .val (.int p5)] [(.int (1 : Int32)), (.ref b6), (.ref b6)])) _
    refine XS.iloadN X7.here hx rfl (hb hby d2_68) rfl ?_
    show Steps p.tables e below (T7.setTop (mkF m 69 #[.val (.int p1), .val (.int p2), .val (.int p3), .val (.int p4), .val (.int p5)] [(.int p3), (.int (1 : Int32)), (.ref b6), (.ref b6)])) _
    refine st8 _ ?_
    show Steps p.tables e below (T8.setTop (mkF m 70 #[.val (.int p1), .val (.int p2), .val (.int p3), .val (.int p4), .val (.int p5)] [(.ref b6)])) _
    refine XS.dup X8.here hx rfl (hb hby d2_70) rfl rfl ?_
    show Steps p.tables e below (T8.setTop (mkF m 71 #[.val (.int p1), .val (.int p2), .val (.int p3), .val (.int p4), .val (.int p5)] [(.ref b6), (.ref b6)])) _
    refine XS.iconst X8.here hx rfl (hb hby d2_71) ?_
    show Steps p.tables e below (T8.setTop (mkF m 72 #[.val (.int p1), .val (.int p2), .val (.int p3), .val (.int p4), .val (.int p5)] [(.int (2 : Int32)), (.ref b6), (.ref b6)])) _
    refine XS.iloadN X8.here hx rfl (hb hby d2_72) rfl ?_
    show Steps p.tables e below (T8.setTop (mkF m 73 #[.val (.int p1), .val (.int p2), .val (.int p3), .val (.int p4), .val (.int p5)] [(.int p4), (.int (2 : Int32)), (.ref b6), (.ref b6)])) _
    refine st9 _ ?_
    show Steps p.tables e below (T9.setTop (mkF m 74 #[.val (.int p1), .val (.int p2), .val (.int p3), .val (.int p4), .val (.int p5)] [(.ref b6)])) _
    refine XS.dup X9.here hx rfl (hb hby d2_74) rfl rfl ?_
    show Steps p.tables e below (T9.setTop (mkF m 75 #[.val (.int p1), .val (.int p2), .val (.int p3), .val (.int p4), .val (.int p5)] [(.ref b6), (.ref b6)])) _
    refine XS.iconst X9.here hx rfl (hb hby d2_75) ?_
    show Steps p.tables e below (T9.setTop (mkF m 76 #[.val (.int p1), .val (.int p2), .val (.int p3), .val (.int p4), .val (.int p5)] [(.int (3 : Int32)), (.ref b6), (.ref b6)])) _
    refine XS.iload X9.here hx rfl (hb hby d2_76) rfl ?_
    show Steps p.tables e below (T9.setTop (mkF m 78 #[.val (.int p1), .val (.int p2), .val (.int p3), .val (.int p4), .val (.int p5)] [(.int p5), (.int (3 : Int32)), (.ref b6), (.ref b6)])) _
    refine st10 _ ?_
    show Steps p.tables e below (T10.setTop (mkF m 79 #[.val (.int p1), .val (.int p2), .val (.int p3), .val (.int p4), .val (.int p5)] [(.ref b6)])) _
    jvm_step X10.here [X10.here.top, hx, (hb hby d2_79), X10.method', Bd.returns, Value.isRef, FieldType.isReference]
    first | (intro acts; rw [hr _ acts rfl rfl rfl]) | rw [hr _ _ rfl rfl rfl]
    exact Steps.refl _
  · show Q2 Z (4 : Int32) (vsOf (4 : Int32) p2 p3 p4 p5) h0 n0 _ T10.heap _
    rw [e10]
    exact ⟨_, _, rfl, N10, K10, sz_b6, ((((B6.wr W7).wr W8).wr W9).wr W10), V_b6_10⟩
theorem rm2 (l : Launch) (Z : State) (a0 : Array Value) (hw : ∀ d ∈ tables_1, d.before a0 Z = true) (ws : List Jvm.Cond) (p1 : Int32) (p2 : Int32) (p3 : Int32) (p4 : Int32) (p5 : Int32) (h0 : Heap) (n0 : Nat) (Z0 : n0 ≤ h0.size) (hb0 : p2.toInt8.toInt32 = p2) (hb1 : p3.toInt8.toInt32 = p3) (hb2 : p4.toInt8.toInt32 = p4) (hb3 : p5.toInt8.toInt32 = p5) (hn : p1 = (0 : Int32) ∨ p1 = (1 : Int32) ∨ p1 = (2 : Int32) ∨ p1 = (3 : Int32) ∨ p1 = (4 : Int32)) :
    MetFree l (⟨"com/example/votary/votary/MessageQueryTextPinLaw", "make", "(IBBBB)[B"⟩ : MethodName) (head1 (Jvm.Cond.code (⟨"com/example/votary/votary/MessageQueryTextPinLaw", "make", "(IBBBB)[B"⟩ : MethodName) method_3_code 5 (some (.array .byte)) :: ws) ({ frames := 0, cells := 1, slots := 4, locals := 0 } : Room)) (fun a U => a = #[(.int p1), (.int p2), (.int p3), (.int p4), (.int p5)] ∧ Z.Warmed39 U.vm ∧ U.heap = h0) (fun _ _ _ _ _ => True) (fun _ U o U' => ∃ v L, o = .returned v ∧ Q2 Z p1 (vsOf p1 p2 p3 p4 p5) h0 n0 v U'.heap L ∧ FrameEnd U o U' L ({ frames := 0, cells := 1, slots := 4, locals := 0 } : Room).cells ({ frames := 0, cells := 1, slots := 4, locals := 0 } : Room).slots) := by
  rcases hn with rfl | rfl | rfl | rfl | rfl
  · exact rm2_0 l Z a0 hw ws _ p2 p3 p4 p5 h0 n0 Z0 hb0 hb1 hb2 hb3 (by decide) 
  · exact rm2_1 l Z a0 hw ws _ p2 p3 p4 p5 h0 n0 Z0 hb0 hb1 hb2 hb3 (by decide) (by decide) 
  · exact rm2_2 l Z a0 hw ws _ p2 p3 p4 p5 h0 n0 Z0 hb0 hb1 hb2 hb3 (by decide) (by decide) (by decide) 
  · exact rm2_3 l Z a0 hw ws _ p2 p3 p4 p5 h0 n0 Z0 hb0 hb1 hb2 hb3 (by decide) (by decide) (by decide) (by decide) 
  · exact rm2_4 l Z a0 hw ws _ p2 p3 p4 p5 h0 n0 Z0 hb0 hb1 hb2 hb3 (by decide) (by decide) (by decide) (by decide) 
theorem d3_0 : decode prog_8_method_1_code 0 = .ok (.aload_n 0, 1) := by decide +kernel
theorem d3_1 : decode prog_8_method_1_code 1 = .ok (.invokespecial 1, 3) := by decide +kernel
theorem d3_4 : decode prog_8_method_1_code 4 = .ok (.aload_n 0, 1) := by decide +kernel
theorem d3_5 : decode prog_8_method_1_code 5 = .ok (.iload_n 1, 1) := by decide +kernel
theorem d3_6 : decode prog_8_method_1_code 6 = .ok (.putfield 7, 3) := by decide +kernel
theorem d3_9 : decode prog_8_method_1_code 9 = .ok (.aload_n 0, 1) := by decide +kernel
theorem d3_10 : decode prog_8_method_1_code 10 = .ok (.aload_n 2, 1) := by decide +kernel
theorem d3_11 : decode prog_8_method_1_code 11 = .ok (.putfield 13, 3) := by decide +kernel
theorem d3_14 : decode prog_8_method_1_code 14 = .ok (.return_, 1) := by decide +kernel
theorem pn_3 : plainName "com/example/votary/votary/Message" = true := by first | (simp [plainName, overriddenIn]; done) | decide +kernel
theorem ef_3 (m : MethodId) (x0 : Addr) (x1 : Int32) (x2 : Addr) : entryFrame m #[(.ref x0), (.int x1), (.ref x2)] 3 = mkF m 0 #[.val (.ref x0), .val (.int x1), .val (.ref x2)] [] := by first | (simp [entryFrame, mkF, argsToLocals, Value.category]; done) | rfl
def Q3 (Z : State) (a1 : Addr) (p2 : Int32) (a3 : Addr) (u_type_a1 : Value) (u_body_a1 : Value) (h0 : Heap) (n0 : Nat) (v : Option Value) (h : Heap) (L : List Loc) : Prop := v = none ∧ Fr n0 L ∧ Keep h0 h [a1] ∧ Exa Z h a1 "com/example/votary/votary/Message" ∧ Fld Z h a1 "com/example/votary/votary/Message" "type" "B" (.int (p2.toInt8.toInt32)) ∧ Fld Z h a1 "com/example/votary/votary/Message" "body" "[B" (.ref a3)
set_option maxRecDepth 65536 in
set_option maxHeartbeats 40000000 in
theorem rm3 (l : Launch) (Z : State) (a0 : Array Value) (hw : ∀ d ∈ tables_1, d.before a0 Z = true) (ws : List Jvm.Cond) (a1 : Addr) (p2 : Int32) (a3 : Addr) (u_type_a1 : Value) (u_body_a1 : Value) (h0 : Heap) (n0 : Nat) (Z0 : n0 ≤ h0.size) (E_a1 : Exa Z h0 a1 "com/example/votary/votary/Message") (F_type_a1 : Fld Z h0 a1 "com/example/votary/votary/Message" "type" "B" u_type_a1) (g_a1 : n0 ≤ a1) (F_body_a1 : Fld Z h0 a1 "com/example/votary/votary/Message" "body" "[B" u_body_a1) :
    MetFree l (⟨"com/example/votary/votary/Message", "<init>", "(B[B)V"⟩ : MethodName) (head1 (Jvm.Cond.code (⟨"com/example/votary/votary/Message", "<init>", "(B[B)V"⟩ : MethodName) prog_8_method_1_code 3 none :: ws) ({ frames := 1, cells := 0, slots := 0, locals := 12 } : Room)) (fun a U => a = #[(.ref a1), (.int p2), (.ref a3)] ∧ Z.Warmed39 U.vm ∧ U.heap = h0) (fun _ _ _ _ _ => True) (fun _ U o U' => ∃ v L, o = .returned v ∧ Q3 Z a1 p2 a3 u_type_a1 u_body_a1 h0 n0 v U'.heap L ∧ FrameEnd U o U' L ({ frames := 1, cells := 0, slots := 0, locals := 12 } : Room).cells ({ frames := 1, cells := 0, slots := 0, locals := 12 } : Room).slots) := by
  refine MetFree.of_bodySF (plainFor_of_name pn_3) hisR ?_
  intro p e s m args below meth c s₁ Bd hml0 hP hK
  obtain ⟨rfl, hZ, hh⟩ := hP
  have hx := Bd.exec
  have hby := Bd.bytes
  have hml : c.maxLocals = 3 := hml0
  have hown : s.vm.findClass "com/example/votary/votary/Message" = some m.cls := findClass_of_methodNamed Bd.named
  have hnm := (name_of_methodNamed Bd.named Bd.method).1
  have X0 : Stand p l e ({ frames := 1, cells := 0, slots := 0, locals := 12 } : Room) s m #[(.ref a1), (.int p2), (.ref a3)] below meth c s₁ [] 0 0 := Stand.of_body Bd
  have e0 : s₁.heap = h0 := by rw [← hh, Bd.state]; rfl
  have N0 := Fr.nil n0
  have pre0 : ∀ t, Steps p.tables e below (s₁.setTop (mkF m 0 #[.val (.ref a1), .val (.int p2), .val (.ref a3)] [])) t → Steps p.tables e below (s₁.setTop (entryFrame m #[(.ref a1), (.int p2), (.ref a3)] 3)) t := fun t k => castTop (ef_3 m a1 p2 a3) k
  obtain ⟨T4, X4, e4, st4⟩ := initO X0 hx hZ hown (hw _ (List.mem_of_getElem? (i := 15) rfl)) (hw _ (List.mem_of_getElem? (i := 16) rfl)) (hw _ (List.mem_of_getElem? (i := 17) rfl)) e0 (g := (mkF m 1 #[.val (.ref a1), .val (.int p2), .val (.ref a3)] [(.ref a1)])) rfl (by rw [hml]; rfl) rfl (hb hby d3_1) (by decide) (W := 0) (by show 2 * 0 + _ ≤ _; exact Nat.le_of_eq rfl) (by decide)
  obtain ⟨T5, h5, X5, e5, W5, st5⟩ := putFN X4 hx hZ hown (hw _ (List.mem_of_getElem? (i := 18) rfl)) Via.refl e4 F_type_a1 E_a1 (Or.inr ⟨(hw _ (List.mem_of_getElem? (i := 19) rfl)), rfl, hnm⟩) (hw _ (List.mem_of_getElem? (i := 10) rfl)) (ty := .byte) (v' := (.int (p2.toInt8.toInt32))) (by decide) rfl (fits_nar_byte _) (g := (mkF m 6 #[.val (.ref a1), .val (.int p2), .val (.ref a3)] [(.int p2), (.ref a1)])) rfl rfl (hb hby d3_6)
  have Fw5 := F_type_a1.same W5
  have K5 : Keep h0 h5 [a1] := (Keep.refl h0 [a1]).wr W5 (Or.inl (List.mem_of_getElem? (i := 0) rfl))
  have N5 := Fr.snoc X5 N0 g_a1
  obtain ⟨T6, h6, X6, e6, W6, st6⟩ := putF X5 hx hZ hown (host := "") (Or.inl (hw _ (List.mem_of_getElem? (i := 20) rfl))) Via.refl e5 (F_body_a1.other W5 (Or.inr (slot_ne (Or.inr (hw _ (List.mem_of_getElem? (i := 21) rfl))) (Or.inr (hw _ (List.mem_of_getElem? (i := 19) rfl))) (by decide) (t := (.array .byte)) (t' := .byte) (by decide) (by decide)))) (E_a1.wr W5) (Or.inr ⟨(hw _ (List.mem_of_getElem? (i := 21) rfl)), rfl, hnm⟩) (hw _ (List.mem_of_getElem? (i := 10) rfl)) (ty := (.array .byte)) (by decide) rfl rfl (g := (mkF m 11 #[.val (.ref a1), .val (.int p2), .val (.ref a3)] [(.ref a3), (.ref a1)])) rfl rfl (hb hby d3_11)
  have Fw6 := (F_body_a1.other W5 (Or.inr (slot_ne (Or.inr (hw _ (List.mem_of_getElem? (i := 21) rfl))) (Or.inr (hw _ (List.mem_of_getElem? (i := 19) rfl))) (by decide) (t := (.array .byte)) (t' := .byte) (by decide) (by decide)))).same W6
  have K6 : Keep h0 h6 [a1] := K5.wr W6 (Or.inl (List.mem_of_getElem? (i := 0) rfl))
  have N6 := Fr.snoc X6 N5 g_a1
  obtain ⟨fs, hr, hrun, hended, hW, hsame⟩ := X6.leave (v := none) (fun _ => rfl)
  refine ⟨_, _, pre0 _ ?_, hrun, hended, _, _, rfl, ?_, ⟨_, rfl⟩, hW, hsame.mono (by decide) (by decide)⟩
  · show Steps p.tables e below (s₁.setTop (mkF m 0 #[.val (.ref a1), .val (.int p2), .val (.ref a3)] [])) _
    refine XS.aloadN X0.here hx rfl (hb hby d3_0) rfl rfl ?_
    show Steps p.tables e below (s₁.setTop (mkF m 1 #[.val (.ref a1), .val (.int p2), .val (.ref a3)] [(.ref a1)])) _
    refine st4 _ ?_
    show Steps p.tables e below (T4.setTop (mkF m 4 #[.val (.ref a1), .val (.int p2), .val (.ref a3)] [])) _
    refine XS.aloadN X4.here hx rfl (hb hby d3_4) rfl rfl ?_
    show Steps p.tables e below (T4.setTop (mkF m 5 #[.val (.ref a1), .val (.int p2), .val (.ref a3)] [(.ref a1)])) _
    refine XS.iloadN X4.here hx rfl (hb hby d3_5) rfl ?_
    show Steps p.tables e below (T4.setTop (mkF m 6 #[.val (.ref a1), .val (.int p2), .val (.ref a3)] [(.int p2), (.ref a1)])) _
    refine st5 _ ?_
    show Steps p.tables e below (T5.setTop (mkF m 9 #[.val (.ref a1), .val (.int p2), .val (.ref a3)] [])) _
    refine XS.aloadN X5.here hx rfl (hb hby d3_9) rfl rfl ?_
    show Steps p.tables e below (T5.setTop (mkF m 10 #[.val (.ref a1), .val (.int p2), .val (.ref a3)] [(.ref a1)])) _
    refine XS.aloadN X5.here hx rfl (hb hby d3_10) rfl rfl ?_
    show Steps p.tables e below (T5.setTop (mkF m 11 #[.val (.ref a1), .val (.int p2), .val (.ref a3)] [(.ref a3), (.ref a1)])) _
    refine st6 _ ?_
    show Steps p.tables e below (T6.setTop (mkF m 14 #[.val (.ref a1), .val (.int p2), .val (.ref a3)] [])) _
    exact X6.returnOut hx Bd.returns (hb hby d3_14) hr
  · show Q3 Z a1 p2 a3 u_type_a1 u_body_a1 h0 n0 _ T6.heap _
    rw [e6]
    exact ⟨rfl, N6, K6, ((E_a1.wr W5).wr W6), (Fw5.other W6 (Or.inr (slot_ne (Or.inr (hw _ (List.mem_of_getElem? (i := 19) rfl))) (Or.inr (hw _ (List.mem_of_getElem? (i := 21) rfl))) (by decide) (t := .byte) (t' := (.array .byte)) (by decide) (by decide)))), Fw6⟩
theorem d7_0 : decode prog_8_method_3_code 0 = .ok (.aload_n 0, 1) := by decide +kernel
theorem d7_1 : decode prog_8_method_3_code 1 = .ok (.getfield 13, 3) := by decide +kernel
theorem d7_4 : decode prog_8_method_3_code 4 = .ok (.areturn, 1) := by decide +kernel
theorem pn_7 : plainName "com/example/votary/votary/Message" = true := by first | (simp [plainName, overriddenIn]; done) | decide +kernel
theorem ef_7 (m : MethodId) (x0 : Addr) : entryFrame m #[(.ref x0)] 1 = mkF m 0 #[.val (.ref x0)] [] := by first | (simp [entryFrame, mkF, argsToLocals, Value.category]; done) | rfl
def Q7 (Z : State) (a1 : Addr) (w2 : Addr) (h0 : Heap) (n0 : Nat) (v : Option Value) (h : Heap) (L : List Loc) : Prop := v = some (.ref w2) ∧ Fr n0 L ∧ h = h0
set_option maxRecDepth 65536 in
set_option maxHeartbeats 40000000 in
theorem rm7 (l : Launch) (Z : State) (a0 : Array Value) (hw : ∀ d ∈ tables_1, d.before a0 Z = true) (ws : List Jvm.Cond) (a1 : Addr) (w2 : Addr) (h0 : Heap) (n0 : Nat) (Z0 : n0 ≤ h0.size) (F_body_a1 : Fld Z h0 a1 "com/example/votary/votary/Message" "body" "[B" (.ref w2)) :
    MetFree l (⟨"com/example/votary/votary/Message", "body", "()[B"⟩ : MethodName) (head1 (Jvm.Cond.code (⟨"com/example/votary/votary/Message", "body", "()[B"⟩ : MethodName) prog_8_method_3_code 1 (some (.array .byte)) :: ws) ({ frames := 0, cells := 0, slots := 0, locals := 0 } : Room)) (fun a U => a = #[(.ref a1)] ∧ Z.Warmed39 U.vm ∧ U.heap = h0) (fun _ _ _ _ _ => True) (fun _ U o U' => ∃ v L, o = .returned v ∧ Q7 Z a1 w2 h0 n0 v U'.heap L ∧ FrameEnd U o U' L ({ frames := 0, cells := 0, slots := 0, locals := 0 } : Room).cells ({ frames := 0, cells := 0, slots := 0, locals := 0 } : Room).slots) := by
  refine MetFree.of_bodySF (plainFor_of_name pn_7) hisR ?_
  intro p e s m args below meth c s₁ Bd hml0 hP hK
  obtain ⟨rfl, hZ, hh⟩ := hP
  have hx := Bd.exec
  have hby := Bd.bytes
  have hml : c.maxLocals = 1 := hml0
  have hown : s.vm.findClass "com/example/votary/votary/Message" = some m.cls := findClass_of_methodNamed Bd.named
  have hnm := (name_of_methodNamed Bd.named Bd.method).1
  have X0 : Stand p l e ({ frames := 0, cells := 0, slots := 0, locals := 0 } : Room) s m #[(.ref a1)] below meth c s₁ [] 0 0 := Stand.of_body Bd
  have e0 : s₁.heap = h0 := by rw [← hh, Bd.state]; rfl
  have N0 := Fr.nil n0
  have pre0 : ∀ t, Steps p.tables e below (s₁.setTop (mkF m 0 #[.val (.ref a1)] [])) t → Steps p.tables e below (s₁.setTop (entryFrame m #[(.ref a1)] 1)) t := fun t k => castTop (ef_7 m a1) k
  obtain ⟨T3, X3, e3, st3⟩ := getF X0 hx hZ hown (host := "") (Or.inl (hw _ (List.mem_of_getElem? (i := 20) rfl))) Via.refl e0 F_body_a1 (g := (mkF m 1 #[.val (.ref a1)] [(.ref a1)])) rfl rfl (hb hby d7_1)
  obtain ⟨fs, hr, hrun, hended, hW, hsame⟩ := X3.leave (v := some (.ref w2)) (fun h => by rw [Bd.returns] at h; cases h)
  refine ⟨_, _, pre0 _ ?_, hrun, hended, _, _, rfl, ?_, ⟨_, rfl⟩, hW, hsame.mono (by decide) (by decide)⟩
  · show Steps p.tables e below (s₁.setTop (mkF m 0 #[.val (.ref a1)] [])) _
    refine XS.aloadN X0.here hx rfl (hb hby d7_0) rfl rfl ?_
    show Steps p.tables e below (s₁.setTop (mkF m 1 #[.val (.ref a1)] [(.ref a1)])) _
    refine st3 _ ?_
    show Steps p.tables e below (T3.setTop (mkF m 4 #[.val (.ref a1)] [(.ref w2)])) _
    jvm_step X3.here [X3.here.top, hx, (hb hby d7_4), X3.method', Bd.returns, Value.isRef, FieldType.isReference]
    first | (intro acts; rw [hr _ acts rfl rfl rfl]) | rw [hr _ _ rfl rfl rfl]
    exact Steps.refl _
  · show Q7 Z a1 w2 h0 n0 _ T3.heap _
    rw [e3]
    exact ⟨rfl, N0, rfl⟩
theorem d8_0 : decode jdk_29_method_69_code 0 = .ok (.iload_n 0, 1) := by decide +kernel
theorem d8_1 : decode jdk_29_method_69_code 1 = .ok (.iload_n 1, 1) := by decide +kernel
theorem d8_2 : decode jdk_29_method_69_code 2 = .ok (.if_icmp .gt 7, 3) := by decide +kernel
theorem d8_9 : decode jdk_29_method_69_code 9 = .ok (.iload_n 1, 1) := by decide +kernel
theorem d8_10 : decode jdk_29_method_69_code 10 = .ok (.ireturn, 1) := by decide +kernel
theorem ef_8 (m : MethodId) (x0 : Int32) (x1 : Int32) : entryFrame m #[(.int x0), (.int x1)] 2 = mkF m 0 #[.val (.int x0), .val (.int x1)] [] := by first | (simp [entryFrame, mkF, argsToLocals, Value.category]; done) | rfl
def Q8 (Z : State) (p1 : Int32) (p2 : Int32) (h0 : Heap) (n0 : Nat) (v : Option Value) (h : Heap) (L : List Loc) : Prop := v = some (.int p2) ∧ Fr n0 L ∧ h = h0
set_option maxRecDepth 65536 in
set_option maxHeartbeats 40000000 in
theorem rm8 (l : Launch) (Z : State) (a0 : Array Value) (hw : ∀ d ∈ tables_1, d.before a0 Z = true) (ws : List Jvm.Cond) (p1 : Int32) (p2 : Int32) (h0 : Heap) (n0 : Nat) (Z0 : n0 ≤ h0.size) (hc2 : p2 < p1) :
    MetFree l (⟨"java/lang/Math", "min", "(II)I"⟩ : MethodName) (head1 (Jvm.Cond.code (⟨"java/lang/Math", "min", "(II)I"⟩ : MethodName) jdk_29_method_69_code 2 (some .int) :: ws) ({ frames := 0, cells := 0, slots := 0, locals := 0 } : Room)) (fun a U => a = #[(.int p1), (.int p2)] ∧ Z.Warmed39 U.vm ∧ U.heap = h0) (fun _ _ _ _ _ => True) (fun _ U o U' => ∃ v L, o = .returned v ∧ Q8 Z p1 p2 h0 n0 v U'.heap L ∧ FrameEnd U o U' L ({ frames := 0, cells := 0, slots := 0, locals := 0 } : Room).cells ({ frames := 0, cells := 0, slots := 0, locals := 0 } : Room).slots) := by
  refine MetFree.of_bodySF (Jvm.Free.JP.mathPlain rfl (by decide +kernel)) hisR ?_
  intro p e s m args below meth c s₁ Bd hml0 hP hK
  obtain ⟨rfl, hZ, hh⟩ := hP
  have hx := Bd.exec
  have hby := Bd.bytes
  have hml : c.maxLocals = 2 := hml0
  have hown : s.vm.findClass "java/lang/Math" = some m.cls := findClass_of_methodNamed Bd.named
  have hnm := (name_of_methodNamed Bd.named Bd.method).1
  have X0 : Stand p l e ({ frames := 0, cells := 0, slots := 0, locals := 0 } : Room) s m #[(.int p1), (.int p2)] below meth c s₁ [] 0 0 := Stand.of_body Bd
  have e0 : s₁.heap = h0 := by rw [← hh, Bd.state]; rfl
  have N0 := Fr.nil n0
  have pre0 : ∀ t, Steps p.tables e below (s₁.setTop (mkF m 0 #[.val (.int p1), .val (.int p2)] [])) t → Steps p.tables e below (s₁.setTop (entryFrame m #[(.int p1), (.int p2)] 2)) t := fun t k => castTop (ef_8 m p1 p2) k

  obtain ⟨fs, hr, hrun, hended, hW, hsame⟩ := X0.leave (v := some (.int p2)) (fun h => by rw [Bd.returns] at h; cases h)
  refine ⟨_, _, pre0 _ ?_, hrun, hended, _, _, rfl, ?_, ⟨_, rfl⟩, hW, hsame.mono (by decide) (by decide)⟩
  · show Steps p.tables e below (s₁.setTop (mkF m 0 #[.val (.int p1), .val (.int p2)] [])) _
    refine XS.iloadN X0.here hx rfl (hb hby d8_0) rfl ?_
    show Steps p.tables e below (s₁.setTop (mkF m 1 #[.val (.int p1), .val (.int p2)] [(.int p1)])) _
    refine XS.iloadN X0.here hx rfl (hb hby d8_1) rfl ?_
    show Steps p.tables e below (s₁.setTop (mkF m 2 #[.val (.int p1), .val (.int p2)] [(.int p2), (.int p1)])) _
    refine XS.icmpYes X0.here hx rfl (pc0 := 2) (pc' := 9) rfl (hb hby d8_2) rfl (tlt hc2).2.2.1 (by decide) (by decide) ?_
    show Steps p.tables e below (s₁.setTop (mkF m 9 #[.val (.int p1), .val (.int p2)] [])) _
    refine XS.iloadN X0.here hx rfl (hb hby d8_9) rfl ?_
    show Steps p.tables e below (s₁.setTop (mkF m 10 #[.val (.int p1), .val (.int p2)] [(.int p2)])) _
    exact retI X0 hx Bd.returns (hb hby d8_10) hr
  · show Q8 Z p1 p2 h0 n0 _ s₁.heap _
    rw [e0]
    exact ⟨rfl, N0, rfl⟩
def Q6 (Z : State) (m : Int32) (vs : List Value) (h0 : Heap) (n0 : Nat) (v : Option Value) (h : Heap) (L : List Loc) : Prop := ∃ (b : Addr) (k : ClassId) (us : List Value), v = some (.ref b) ∧ Fr n0 L ∧ Keep h0 h [] ∧ h0.size ≤ b ∧ Arv Z h b k .byte m us (.int (0 : Int32)) ∧ ∀ i, i < m.toNatClampNeg → us.getD i (.int (0 : Int32)) = vs.getD i (.int (0 : Int32))
theorem d6_0 : decode jdk_65_method_121_code 0 = .ok (.iload_n 1, 1) := by decide +kernel
theorem d6_1 : decode jdk_65_method_121_code 1 = .ok (.aload_n 0, 1) := by decide +kernel
theorem d6_2 : decode jdk_65_method_121_code 2 = .ok (.arraylength, 1) := by decide +kernel
theorem d6_3 : decode jdk_65_method_121_code 3 = .ok (.if_icmp .ne 11, 3) := by decide +kernel
theorem d6_6 : decode jdk_65_method_121_code 6 = .ok (.aload_n 0, 1) := by decide +kernel
theorem d6_7 : decode jdk_65_method_121_code 7 = .ok (.invokevirtual 310, 3) := by decide +kernel
theorem d6_10 : decode jdk_65_method_121_code 10 = .ok (.checkcast 311, 3) := by decide +kernel
theorem d6_13 : decode jdk_65_method_121_code 13 = .ok (.areturn, 1) := by decide +kernel
theorem pn_6 : plainName "java/util/Arrays" = true := by first | (simp [plainName, overriddenIn]; done) | decide +kernel
theorem pd_6_6 : parseMethodDescriptor "()Ljava/lang/Object;" = some ⟨[], some (.object "java/lang/Object")⟩ := by decide +kernel
theorem ef_6 (m : MethodId) (x0 : Addr) (x1 : Int32) : entryFrame m #[(.ref x0), (.int x1)] 3 = mkF m 0 #[.val (.ref x0), .val (.int x1), .unset] [] := by first | (simp [entryFrame, mkF, argsToLocals, Value.category]; done) | rfl
set_option maxRecDepth 65536 in
set_option maxHeartbeats 40000000 in
theorem rm6_f (l : Launch) (Z : State) (a0 : Array Value) (hw : ∀ d ∈ tables_1, d.before a0 Z = true) (ws : List Jvm.Cond) (a1 : Addr) (p2 : Int32) (z_a1 : Int32) (kw : ClassId) (vs : List Value) (h0 : Heap) (n0 : Nat) (Z0 : n0 ≤ h0.size) (V1 : Arv Z h0 a1 kw .byte z_a1 vs (.int (0 : Int32))) (E_a1 : Exa Z h0 a1 "[B") (h4 : z_a1.toNatClampNeg ≤ 4) (hc3 : p2 = z_a1) :
    MetFree l (⟨"java/util/Arrays", "copyOf", "([BI)[B"⟩ : MethodName) (head1 (Jvm.Cond.code (⟨"java/util/Arrays", "copyOf", "([BI)[B"⟩ : MethodName) jdk_65_method_121_code 3 (some (.array .byte)) :: ws) ({ frames := 1, cells := 1, slots := 4, locals := 18 } : Room)) (fun a U => a = #[(.ref a1), (.int p2)] ∧ Z.Warmed39 U.vm ∧ U.heap = h0) (fun _ _ _ _ _ => True) (fun _ U o U' => ∃ v L, o = .returned v ∧ Q6 Z p2 vs h0 n0 v U'.heap L ∧ FrameEnd U o U' L ({ frames := 1, cells := 1, slots := 4, locals := 18 } : Room).cells ({ frames := 1, cells := 1, slots := 4, locals := 18 } : Room).slots) := by
  refine MetFree.of_bodySF (plainFor_of_name pn_6) hisR ?_
  intro p e s m args below meth c s₁ Bd hml0 hP hK
  obtain ⟨rfl, hZ, hh⟩ := hP
  have hx := Bd.exec
  have hby := Bd.bytes
  have hml : c.maxLocals = 3 := hml0
  have hown : s.vm.findClass "java/util/Arrays" = some m.cls := findClass_of_methodNamed Bd.named
  have hnm := (name_of_methodNamed Bd.named Bd.method).1
  have X0 : Stand p l e ({ frames := 1, cells := 1, slots := 4, locals := 18 } : Room) s m #[(.ref a1), (.int p2)] below meth c s₁ [] 0 0 := Stand.of_body Bd
  have e0 : s₁.heap = h0 := by rw [← hh, Bd.state]; rfl
  have N0 := Fr.nil n0
  obtain ⟨cl_a1, Ar_a1, qA_a1, S_a1, N_a1, H_a1, G_a1⟩ := V1
  have V1 : Arv Z h0 a1 kw .byte z_a1 vs (.int (0 : Int32)) := ⟨cl_a1, Ar_a1, qA_a1, S_a1, N_a1, H_a1, G_a1⟩
  have pre0 : ∀ t, Steps p.tables e below (s₁.setTop (mkF m 0 #[.val (.ref a1), .val (.int p2), .unset] [])) t → Steps p.tables e below (s₁.setTop (entryFrame m #[(.ref a1), (.int p2)] 3)) t := fun t k => castTop (ef_6 m a1 p2) k
  obtain ⟨T3, h3, X3, e3, E3, V3, B3, st3⟩ := cloneH X0 hx hZ hown (hw _ (List.mem_of_getElem? (i := 31) rfl)) (hw _ (List.mem_of_getElem? (i := 32) rfl)) (hw _ (List.mem_of_getElem? (i := 36) rfl)) (hw _ (List.mem_of_getElem? (i := 34) rfl)) (hw _ (List.mem_of_getElem? (i := 35) rfl)) (hw _ (List.mem_of_getElem? (i := 37) rfl)) e0 V1.arh E_a1 (g := (mkF m 7 #[.val (.ref a1), .val (.int p2), .unset] [(.ref a1)])) rfl (by rw [hml]; rfl) rfl (hb hby d6_7) (by decide) (W := 0) (cap := 4) (by show 2 * 0 + _ ≤ _; exact Nat.le_of_eq rfl) (by decide) h4 (by decide) (by decide)
  obtain ⟨b3, g3⟩ : ∃ z, z = h0.size := ⟨_, rfl⟩
  rw [← g3] at V3 B3 st3
  obtain ⟨T4, X4, e4, st4⟩ := castY X3 hx hZ hown (hw _ (List.mem_of_getElem? (i := 38) rfl)) e3 (Ins.self B3) (g := (mkF m 10 #[.val (.ref a1), .val (.int p2), .unset] [(.ref b3)])) rfl rfl (hb hby d6_10)
  obtain ⟨fs, hr, hrun, hended, hW, hsame⟩ := X4.leave (v := some (.ref b3)) (fun h => by rw [Bd.returns] at h; cases h)
  refine ⟨_, _, pre0 _ ?_, hrun, hended, _, _, rfl, ?_, ⟨_, rfl⟩, hW, hsame.mono (by decide) (by decide)⟩
  · show Steps p.tables e below (s₁.setTop (mkF m 0 #[.val (.ref a1), .val (.int p2), .unset] [])) _
    refine XS.iloadN X0.here hx rfl (hb hby d6_0) rfl ?_
    show Steps p.tables e below (s₁.setTop (mkF m 1 #[.val (.ref a1), .val (.int p2), .unset] [(.int p2)])) _
    refine XS.aloadN X0.here hx rfl (hb hby d6_1) rfl rfl ?_
    show Steps p.tables e below (s₁.setTop (mkF m 2 #[.val (.ref a1), .val (.int p2), .unset] [(.ref a1), (.int p2)])) _
    refine X0.arraylength hx (by rw [e0]; exact Ar_a1.1) (State.isArrayOf_alike hZ.alike Ar_a1.2.1) (g := (mkF m 2 #[.val (.ref a1), .val (.int p2), .unset] [(.ref a1), (.int p2)])) rfl rfl (hb hby d6_2) _ ?_
    rw [len_of S_a1 N_a1]
    show Steps p.tables e below (s₁.setTop (mkF m 3 #[.val (.ref a1), .val (.int p2), .unset] [(.int z_a1), (.int p2)])) _
    refine XS.icmpNo X0.here hx rfl (hb hby d6_3) rfl (teq hc3).2 ?_
    show Steps p.tables e below (s₁.setTop (mkF m 6 #[.val (.ref a1), .val (.int p2), .unset] [])) _
    refine XS.aloadN X0.here hx rfl (hb hby d6_6) rfl rfl ?_
    show Steps p.tables e below (s₁.setTop (mkF m 7 #[.val (.ref a1), .val (.int p2), .unset] [(.ref a1)])) _
    refine st3 _ ?_
    show Steps p.tables e below (T3.setTop (mkF m 10 #[.val (.ref a1), .val (.int p2), .unset] [(.ref b3)])) _
    refine st4 _ ?_
    show Steps p.tables e below (T4.setTop (mkF m 13 #[.val (.ref a1), .val (.int p2), .unset] [(.ref b3)])) _
    jvm_step X4.here [X4.here.top, hx, (hb hby d6_13), X4.method', Bd.returns, Value.isRef, FieldType.isReference]
    first | (intro acts; rw [hr _ acts rfl rfl rfl]) | rw [hr _ _ rfl rfl rfl]
    exact Steps.refl _
  · show Q6 Z p2 vs h0 n0 _ T4.heap _
    rw [e4]
    subst hc3
    exact ⟨b3, kw, vs, rfl, N0, (Keep.refl h0 []).ext E3, Nat.le_of_eq g3.symm, V3, fun _ _ => rfl⟩
theorem own_cp (vs : List Value) (n : Nat) : ∀ i, i < n → ((([] ++ List.replicate n (.int (0 : Int32)) : List Value).take (0 : Int32).toNatClampNeg ++ (List.range n).map (fun i => vs.getD ((0 : Int32).toNatClampNeg + i) (.int (0 : Int32)))) ++ ([] ++ List.replicate n (.int (0 : Int32)) : List Value).drop ((0 : Int32).toNatClampNeg + n)).getD i (.int (0 : Int32)) = vs.getD i (.int (0 : Int32)) := by
  intro i hi
  have e : (0 : Int32).toNatClampNeg = 0 := by decide
  rw [e, List.take_zero, List.nil_append, List.getD_eq_getElem?_getD, List.getElem?_append_left (by simpa using hi), List.getElem?_map, List.getElem?_range hi]
  simp
theorem d6_14 : decode jdk_65_method_121_code 14 = .ok (.iload_n 1, 1) := by decide +kernel
theorem d6_15 : decode jdk_65_method_121_code 15 = .ok (.newarray .byte, 2) := by decide +kernel
theorem d6_17 : decode jdk_65_method_121_code 17 = .ok (.astore_n 2, 1) := by decide +kernel
theorem d6_18 : decode jdk_65_method_121_code 18 = .ok (.aload_n 0, 1) := by decide +kernel
theorem d6_19 : decode jdk_65_method_121_code 19 = .ok (.iconst 0, 1) := by decide +kernel
theorem d6_20 : decode jdk_65_method_121_code 20 = .ok (.aload_n 2, 1) := by decide +kernel
theorem d6_21 : decode jdk_65_method_121_code 21 = .ok (.iconst 0, 1) := by decide +kernel
theorem d6_22 : decode jdk_65_method_121_code 22 = .ok (.aload_n 0, 1) := by decide +kernel
theorem d6_23 : decode jdk_65_method_121_code 23 = .ok (.arraylength, 1) := by decide +kernel
theorem d6_24 : decode jdk_65_method_121_code 24 = .ok (.iload_n 1, 1) := by decide +kernel
theorem d6_25 : decode jdk_65_method_121_code 25 = .ok (.invokestatic 304, 3) := by decide +kernel
theorem d6_28 : decode jdk_65_method_121_code 28 = .ok (.invokestatic 150, 3) := by decide +kernel
theorem d6_31 : decode jdk_65_method_121_code 31 = .ok (.aload_n 2, 1) := by decide +kernel
theorem d6_32 : decode jdk_65_method_121_code 32 = .ok (.areturn, 1) := by decide +kernel
theorem pd_6_7 : parseMethodDescriptor "(II)I" = some ⟨[.int, .int], some .int⟩ := by decide +kernel
theorem pd_6_8 : parseMethodDescriptor "(Ljava/lang/Object;ILjava/lang/Object;II)V" = some ⟨[(.object "java/lang/Object"), .int, (.object "java/lang/Object"), .int, .int], none⟩ := by decide +kernel
set_option maxRecDepth 65536 in
set_option maxHeartbeats 40000000 in
theorem rm6_t (l : Launch) (Z : State) (a0 : Array Value) (hw : ∀ d ∈ tables_1, d.before a0 Z = true) (ws : List Jvm.Cond) (a1 : Addr) (p2 : Int32) (z_a1 : Int32) (kw : ClassId) (vs : List Value) (h0 : Heap) (n0 : Nat) (Z0 : n0 ≤ h0.size) (V1 : Arv Z h0 a1 kw .byte z_a1 vs (.int (0 : Int32))) (E_a1 : Exa Z h0 a1 "[B") (h4 : z_a1.toNatClampNeg ≤ 4) (hc3 : ¬ (p2 = z_a1)) (hneg : ¬ p2 < 0) (hlt : p2 < z_a1) :
    MetFree l (⟨"java/util/Arrays", "copyOf", "([BI)[B"⟩ : MethodName) (head1 (Jvm.Cond.code (⟨"java/util/Arrays", "copyOf", "([BI)[B"⟩ : MethodName) jdk_65_method_121_code 3 (some (.array .byte)) :: ws) ({ frames := 1, cells := 1, slots := 4, locals := 18 } : Room)) (fun a U => a = #[(.ref a1), (.int p2)] ∧ Z.Warmed39 U.vm ∧ U.heap = h0) (fun _ _ _ _ _ => True) (fun _ U o U' => ∃ v L, o = .returned v ∧ Q6 Z p2 vs h0 n0 v U'.heap L ∧ FrameEnd U o U' L ({ frames := 1, cells := 1, slots := 4, locals := 18 } : Room).cells ({ frames := 1, cells := 1, slots := 4, locals := 18 } : Room).slots) := by
  refine MetFree.of_bodySF (plainFor_of_name pn_6) hisR ?_
  intro p e s m args below meth c s₁ Bd hml0 hP hK
  obtain ⟨rfl, hZ, hh⟩ := hP
  have hx := Bd.exec
  have hby := Bd.bytes
  have hml : c.maxLocals = 3 := hml0
  have hown : s.vm.findClass "java/util/Arrays" = some m.cls := findClass_of_methodNamed Bd.named
  have hnm := (name_of_methodNamed Bd.named Bd.method).1
  have X0 : Stand p l e ({ frames := 1, cells := 1, slots := 4, locals := 18 } : Room) s m #[(.ref a1), (.int p2)] below meth c s₁ [] 0 0 := Stand.of_body Bd
  have e0 : s₁.heap = h0 := by rw [← hh, Bd.state]; rfl
  have N0 := Fr.nil n0
  obtain ⟨cl_a1, Ar_a1, qA_a1, S_a1, N_a1, H_a1, G_a1⟩ := V1
  have V1 : Arv Z h0 a1 kw .byte z_a1 vs (.int (0 : Int32)) := ⟨cl_a1, Ar_a1, qA_a1, S_a1, N_a1, H_a1, G_a1⟩
  have pre0 : ∀ t, Steps p.tables e below (s₁.setTop (mkF m 0 #[.val (.ref a1), .val (.int p2), .unset] [])) t → Steps p.tables e below (s₁.setTop (entryFrame m #[(.ref a1), (.int p2)] 3)) t := fun t k => castTop (ef_6 m a1 p2) k
  have hm : p2.toNatClampNeg ≤ z_a1.toNatClampNeg := by
    have q1 := nat_of hneg
    have q2 := nat_of N_a1
    rw [Int32.lt_iff_toInt_lt] at hlt
    omega
  have hcap : p2.toNatClampNeg ≤ 4 := Nat.le_trans hm h4
  obtain ⟨T3, h3, k3, X3, e3, E3, A3, st3⟩ := newP X0 hx hZ (hw _ (List.mem_of_getElem? (i := 8) rfl)) e0 (g := (mkF m 15 #[.val (.ref a1), .val (.int p2), .unset] [(.int p2)])) rfl (hb hby d6_15) rfl hneg (cap := 4) hcap (by decide) (by decide) (by decide)
  obtain ⟨b3, g3⟩ : ∃ z, z = h0.size := ⟨_, rfl⟩
  rw [← g3] at A3 st3
  have V_b3 := Arv.new A3 hneg
  have g_b3 : n0 ≤ b3 := Nat.le_trans Z0 (Nat.le_of_eq g3.symm)
  have sz_b3 : h0.size ≤ b3 := (Nat.le_trans (Keep.refl h0 []).1 (Nat.le_of_eq g3.symm))
  have K3 : Keep h0 h3 [] := (Keep.refl h0 []).ext E3
  obtain ⟨_, _, ⟨T4, L4, k4, n4⟩, -, X4, ⟨Lc4, hQ4, l4, y4, z4⟩, st4⟩ := Jvm.LawKit.callS X3 hx (y := (⟨"java/lang/Math", "min", "(II)I"⟩ : MethodName)) hown (mvT hZ (hw _ (List.mem_of_getElem? (i := 45) rfl))) (mvT hZ (hw _ (List.mem_of_getElem? (i := 46) rfl))) (mvT hZ (hw _ (List.mem_of_getElem? (i := 47) rfl))) (mvT hZ (hw _ (List.mem_of_getElem? (i := 48) rfl))) (by decide) (backOf (W := 4) (rm8 l Z a0 hw [] z_a1 p2  h3 n0 (Nat.le_trans Z0 E3.1) hlt) hZ (hw _ (List.mem_of_getElem? (i := 48) rfl)) (hw _ (List.mem_of_getElem? (i := 47) rfl)) (by decide) (by decide)) (g := (mkF m 25 #[.val (.ref a1), .val (.int p2), .val (.ref b3)] [(.int p2), (.int z_a1), (.int (0 : Int32)), (.ref b3), (.int (0 : Int32)), (.ref a1)])) rfl (by rw [hml]; rfl) (argsL := [(.int z_a1), (.int p2)]) (rest := [(.int (0 : Int32)), (.ref b3), (.int (0 : Int32)), (.ref a1)]) (lenOf pd_6_7 rfl) rfl (by show 2 * 0 + _ ≤ _; exact Nat.le_of_eq rfl) (hb hby d6_25) (fun _ _ => ⟨rfl, e3, (by decide : 1 + 0 ≤ _), (by decide : 4 + 0 ≤ _)⟩)
  dsimp only [Pt.U, Pt.locs, Pt.cells, Pt.slots] at X4 l4 y4 z4 st4 hQ4
  subst l4 y4 z4
  obtain ⟨rfl, N4q, hh4⟩ := hQ4
  have N4 := Fr.app N0 N4q
  have V3 : Arv Z h3 b3 k3 .byte p2 ([] ++ List.replicate p2.toNatClampNeg (.int (0 : Int32))) (.int (0 : Int32)) := (Arv.new A3 hneg).pad (pad_rep [] (.int (0 : Int32)) p2.toNatClampNeg)
  obtain ⟨T5, h5, L5, X5, e5, N5, K5, V5, st5⟩ := cpA X4 hx hZ hown (hw _ (List.mem_of_getElem? (i := 49) rfl)) (hw _ (List.mem_of_getElem? (i := 52) rfl)) (hw _ (List.mem_of_getElem? (i := 50) rfl)) (hw _ (List.mem_of_getElem? (i := 51) rfl)) hh4 (V1.ext E3) V3 (Or.inl ⟨rfl, rfl⟩) (sp := (0 : Int32)) (dp := (0 : Int32)) (nn := p2) (by decide) (by decide) hneg (by show 0 + _ ≤ _; rw [Nat.zero_add]; exact hm) (by show 0 + _ ≤ _; rw [Nat.zero_add]; exact Nat.le_refl _) rfl (by show 0 + _ ≤ _; rw [List.nil_append, List.length_replicate]; omega) N4 g_b3 (g := (mkF m 28 #[.val (.ref a1), .val (.int p2), .val (.ref b3)] [(.int p2), (.int (0 : Int32)), (.ref b3), (.int (0 : Int32)), (.ref a1)])) rfl (by rw [hml]; rfl) (rest := []) rfl (hb hby d6_28) (by decide) (W := 0) (by show 2 * 0 + _ ≤ _; exact Nat.le_of_eq rfl) (by decide)
  obtain ⟨fs, hr, hrun, hended, hW, hsame⟩ := X5.leave (v := some (.ref b3)) (fun h => by rw [Bd.returns] at h; cases h)
  refine ⟨_, _, pre0 _ ?_, hrun, hended, _, _, rfl, ?_, ⟨_, rfl⟩, hW, hsame.mono (by decide) (by decide)⟩
  · show Steps p.tables e below (s₁.setTop (mkF m 0 #[.val (.ref a1), .val (.int p2), .unset] [])) _
    refine XS.iloadN X0.here hx rfl (hb hby d6_0) rfl ?_
    show Steps p.tables e below (s₁.setTop (mkF m 1 #[.val (.ref a1), .val (.int p2), .unset] [(.int p2)])) _
    refine XS.aloadN X0.here hx rfl (hb hby d6_1) rfl rfl ?_
    show Steps p.tables e below (s₁.setTop (mkF m 2 #[.val (.ref a1), .val (.int p2), .unset] [(.ref a1), (.int p2)])) _
    refine X0.arraylength hx (by rw [e0]; exact Ar_a1.1) (State.isArrayOf_alike hZ.alike Ar_a1.2.1) (g := (mkF m 2 #[.val (.ref a1), .val (.int p2), .unset] [(.ref a1), (.int p2)])) rfl rfl (hb hby d6_2) _ ?_
    rw [len_of S_a1 N_a1]
    show Steps p.tables e below (s₁.setTop (mkF m 3 #[.val (.ref a1), .val (.int p2), .unset] [(.int z_a1), (.int p2)])) _
    refine XS.icmpYes X0.here hx rfl (pc0 := 3) (pc' := 14) rfl (hb hby d6_3) rfl (feq hc3).2 (by decide) (by decide) ?_
    show Steps p.tables e below (s₁.setTop (mkF m 14 #[.val (.ref a1), .val (.int p2), .unset] [])) _
    refine XS.iloadN X0.here hx rfl (hb hby d6_14) rfl ?_
    show Steps p.tables e below (s₁.setTop (mkF m 15 #[.val (.ref a1), .val (.int p2), .unset] [(.int p2)])) _
    refine st3 _ ?_
    show Steps p.tables e below (T3.setTop (mkF m 17 #[.val (.ref a1), .val (.int p2), .unset] [(.ref b3)])) _
    refine XS.astoreN X3.here hx rfl (hb hby d6_17) rfl rfl (l' := #[.val (.ref a1), .val (.int p2), .val (.ref b3)]) rfl ?_
    show Steps p.tables e below (T3.setTop (mkF m 18 #[.val (.ref a1), .val (.int p2), .val (.ref b3)] [])) _
    refine XS.aloadN X3.here hx rfl (hb hby d6_18) rfl rfl ?_
    show Steps p.tables e below (T3.setTop (mkF m 19 #[.val (.ref a1), .val (.int p2), .val (.ref b3)] [(.ref a1)])) _
    refine XS.iconst X3.here hx rfl (hb hby d6_19) ?_
    show Steps p.tables e below (T3.setTop (mkF m 20 #[.val (.ref a1), .val (.int p2), .val (.ref b3)] [(.int (0 : Int32)), (.ref a1)])) _
    refine XS.aloadN X3.here hx rfl (hb hby d6_20) rfl rfl ?_
    show Steps p.tables e below (T3.setTop (mkF m 21 #[.val (.ref a1), .val (.int p2), .val (.ref b3)] [(.ref b3), (.int (0 : Int32)), (.ref a1)])) _
    refine XS.iconst X3.here hx rfl (hb hby d6_21) ?_
    show Steps p.tables e below (T3.setTop (mkF m 22 #[.val (.ref a1), .val (.int p2), .val (.ref b3)] [(.int (0 : Int32)), (.ref b3), (.int (0 : Int32)), (.ref a1)])) _
    refine XS.aloadN X3.here hx rfl (hb hby d6_22) rfl rfl ?_
    show Steps p.tables e below (T3.setTop (mkF m 23 #[.val (.ref a1), .val (.int p2), .val (.ref b3)] [(.ref a1), (.int (0 : Int32)), (.ref b3), (.int (0 : Int32)), (.ref a1)])) _
    refine X3.arraylength hx (by rw [e3]; exact (Ar_a1.ext E3).1) (State.isArrayOf_alike hZ.alike Ar_a1.2.1) (g := (mkF m 23 #[.val (.ref a1), .val (.int p2), .val (.ref b3)] [(.ref a1), (.int (0 : Int32)), (.ref b3), (.int (0 : Int32)), (.ref a1)])) rfl rfl (hb hby d6_23) _ ?_
    rw [len_of S_a1 N_a1]
    show Steps p.tables e below (T3.setTop (mkF m 24 #[.val (.ref a1), .val (.int p2), .val (.ref b3)] [(.int z_a1), (.int (0 : Int32)), (.ref b3), (.int (0 : Int32)), (.ref a1)])) _
    refine XS.iloadN X3.here hx rfl (hb hby d6_24) rfl ?_
    show Steps p.tables e below (T3.setTop (mkF m 25 #[.val (.ref a1), .val (.int p2), .val (.ref b3)] [(.int p2), (.int z_a1), (.int (0 : Int32)), (.ref b3), (.int (0 : Int32)), (.ref a1)])) _
    refine st4 _ ?_
    show Steps p.tables e below (T4.setTop (mkF m 28 #[.val (.ref a1), .val (.int p2), .val (.ref b3)] [(.int p2), (.int (0 : Int32)), (.ref b3), (.int (0 : Int32)), (.ref a1)])) _
    refine st5 _ ?_
    show Steps p.tables e below (T5.setTop (mkF m 31 #[.val (.ref a1), .val (.int p2), .val (.ref b3)] [])) _
    refine XS.aloadN X5.here hx rfl (hb hby d6_31) rfl rfl ?_
    show Steps p.tables e below (T5.setTop (mkF m 32 #[.val (.ref a1), .val (.int p2), .val (.ref b3)] [(.ref b3)])) _
    jvm_step X5.here [X5.here.top, hx, (hb hby d6_32), X5.method', Bd.returns, Value.isRef, FieldType.isReference]
    first | (intro acts; rw [hr _ acts rfl rfl rfl]) | rw [hr _ _ rfl rfl rfl]
    exact Steps.refl _
  · show Q6 Z p2 vs h0 n0 _ T5.heap _
    rw [e5]
    exact ⟨b3, k3, _, rfl, N5, K3.trans K5 (allS (Or.inr sz_b3) all0), sz_b3, V5, own_cp vs p2.toNatClampNeg⟩
theorem rm6 (l : Launch) (Z : State) (a0 : Array Value) (hw : ∀ d ∈ tables_1, d.before a0 Z = true) (ws : List Jvm.Cond) (a1 : Addr) (p2 : Int32) (z_a1 : Int32) (kw : ClassId) (vs : List Value) (h0 : Heap) (n0 : Nat) (Z0 : n0 ≤ h0.size) (V1 : Arv Z h0 a1 kw .byte z_a1 vs (.int (0 : Int32))) (E_a1 : Exa Z h0 a1 "[B") (h4 : z_a1.toNatClampNeg ≤ 4) (hneg : ¬ p2 < 0) (hle : ¬ z_a1 < p2) :
    MetFree l (⟨"java/util/Arrays", "copyOf", "([BI)[B"⟩ : MethodName) (head1 (Jvm.Cond.code (⟨"java/util/Arrays", "copyOf", "([BI)[B"⟩ : MethodName) jdk_65_method_121_code 3 (some (.array .byte)) :: ws) ({ frames := 1, cells := 1, slots := 4, locals := 18 } : Room)) (fun a U => a = #[(.ref a1), (.int p2)] ∧ Z.Warmed39 U.vm ∧ U.heap = h0) (fun _ _ _ _ _ => True) (fun _ U o U' => ∃ v L, o = .returned v ∧ Q6 Z p2 vs h0 n0 v U'.heap L ∧ FrameEnd U o U' L ({ frames := 1, cells := 1, slots := 4, locals := 18 } : Room).cells ({ frames := 1, cells := 1, slots := 4, locals := 18 } : Room).slots) := by
  by_cases g : p2 = z_a1
  · exact rm6_f l Z a0 hw ws a1 p2 z_a1 kw vs h0 n0 Z0 V1 E_a1 h4 g
  · refine rm6_t l Z a0 hw ws a1 p2 z_a1 kw vs h0 n0 Z0 V1 E_a1 h4 g hneg ?_
    rw [Int32.lt_iff_toInt_lt] at hle ⊢
    rw [← Int32.toInt_inj] at g
    omega
theorem d5_6 : decode prog_8_method_21_code 6 = .ok (.iload_n 1, 1) := by decide +kernel
theorem d5_7 : decode prog_8_method_21_code 7 = .ok (.ifCond .le 20, 3) := by decide +kernel
theorem d5_10 : decode prog_8_method_21_code 10 = .ok (.aload_n 0, 1) := by decide +kernel
theorem d5_11 : decode prog_8_method_21_code 11 = .ok (.getfield 13, 3) := by decide +kernel
theorem d5_14 : decode prog_8_method_21_code 14 = .ok (.iload_n 1, 1) := by decide +kernel
theorem d5_15 : decode prog_8_method_21_code 15 = .ok (.iconst 1, 1) := by decide +kernel
theorem d5_16 : decode prog_8_method_21_code 16 = .ok (.isub, 1) := by decide +kernel
theorem d5_17 : decode prog_8_method_21_code 17 = .ok (.baload, 1) := by decide +kernel
theorem d5_18 : decode prog_8_method_21_code 18 = .ok (.ifCond .ne 9, 3) := by decide +kernel
theorem d5_21 : decode prog_8_method_21_code 21 = .ok (.iinc 1 (-1), 3) := by decide +kernel
theorem d5_24 : decode prog_8_method_21_code 24 = .ok (.goto (-18), 3) := by decide +kernel
set_option maxRecDepth 65536 in
set_option maxHeartbeats 40000000 in
theorem tn5_6_6 {p : Program} {l : Launch} {e : Env} {R : Room} {s : State} {m : MethodId} {args : Array Value} {below : List Frame} {meth : Method} {c : Code} {T0 : State} {locs : List Loc} {cells slots : Nat} {Z : State} {a0 : Array Value} {h0 : Heap} (o0 : Addr) (i1 : Int32) (w2 : Addr) (w4 : Int32) (cl_w2 : Cell)
    (X0 : Stand p l e R s m args below meth c T0 locs cells slots) (hx : p.tables.exec = Jvm.exec) (hZ : Z.Warmed39 s.vm) (hw : ∀ d ∈ tables_1, d.before a0 Z = true) (hby : c.code = prog_8_method_21_code) (hml : c.maxLocals = 2) (hown : s.vm.findClass "com/example/votary/votary/Message" = some m.cls) (e0 : T0.heap = h0) (F_body_o0 : Fld Z h0 o0 "com/example/votary/votary/Message" "body" "[B" (.ref w2)) (Ar_w2 : Arr Z h0 w2 cl_w2 .byte) (hin17 : ¬ ((i1 - (1 : Int32)) < 0 ∨ cl_w2.slots.size ≤ ((i1 - (1 : Int32))).toNatClampNeg)) (hat17 : cl_w2.slots[((i1 - (1 : Int32))).toNatClampNeg]? = some (.int w4)) (hc7 : (0 : Int32) < i1) (hc18 : w4 = (0 : Int32)) :
    ∃ (T' : State), Stand p l e R s m args below meth c T' locs cells slots ∧ T'.heap = h0 ∧
      ∀ target, Steps p.tables e below (T'.setTop (mkF m 6 #[.val (.ref o0), .val (.int (i1 + (-1 : Int32)))] [])) target → Steps p.tables e below (T0.setTop (mkF m 6 #[.val (.ref o0), .val (.int i1)] [])) target := by
  obtain ⟨T3, X3, e3, st3⟩ := getF X0 hx hZ hown (host := "") (Or.inl (hw _ (List.mem_of_getElem? (i := 20) rfl))) Via.refl e0 F_body_o0 (g := (mkF m 11 #[.val (.ref o0), .val (.int i1)] [(.ref o0)])) rfl rfl (hb hby d5_11)
  refine ⟨T3, X3, e3, fun target kt => ?_⟩
  show Steps p.tables e below (T0.setTop (mkF m 6 #[.val (.ref o0), .val (.int i1)] [])) _
  refine XS.iloadN X0.here hx rfl (hb hby d5_6) rfl ?_
  show Steps p.tables e below (T0.setTop (mkF m 7 #[.val (.ref o0), .val (.int i1)] [(.int i1)])) _
  refine XS.ifNo X0.here hx rfl (hb hby d5_7) rfl ((if0 _ _).trans (tlt hc7).2.2.2) ?_
  show Steps p.tables e below (T0.setTop (mkF m 10 #[.val (.ref o0), .val (.int i1)] [])) _
  refine XS.aloadN X0.here hx rfl (hb hby d5_10) rfl rfl ?_
  show Steps p.tables e below (T0.setTop (mkF m 11 #[.val (.ref o0), .val (.int i1)] [(.ref o0)])) _
  refine st3 _ ?_
  show Steps p.tables e below (T3.setTop (mkF m 14 #[.val (.ref o0), .val (.int i1)] [(.ref w2)])) _
  refine XS.iloadN X3.here hx rfl (hb hby d5_14) rfl ?_
  show Steps p.tables e below (T3.setTop (mkF m 15 #[.val (.ref o0), .val (.int i1)] [(.int i1), (.ref w2)])) _
  refine XS.iconst X3.here hx rfl (hb hby d5_15) ?_
  show Steps p.tables e below (T3.setTop (mkF m 16 #[.val (.ref o0), .val (.int i1)] [(.int (1 : Int32)), (.int i1), (.ref w2)])) _
  refine XS.isub X3.here hx rfl (hb hby d5_16) rfl ?_
  show Steps p.tables e below (T3.setTop (mkF m 17 #[.val (.ref o0), .val (.int i1)] [(.int (i1 - (1 : Int32))), (.ref w2)])) _
  refine X3.baloadBytes hx (j := (i1 - (1 : Int32))) (v := (.int w4)) (by rw [e3]; exact Ar_w2.1) (State.isArrayOf_alike hZ.alike Ar_w2.2.1) Ar_w2.2.2 hin17 hat17 (g := (mkF m 17 #[.val (.ref o0), .val (.int i1)] [(.int (i1 - (1 : Int32))), (.ref w2)])) rfl rfl (hb hby d5_17) _ ?_
  show Steps p.tables e below (T3.setTop (mkF m 18 #[.val (.ref o0), .val (.int i1)] [(.int w4)])) _
  refine XS.ifNo X3.here hx rfl (hb hby d5_18) rfl ((if0 _ _).trans (teq hc18).2) ?_
  show Steps p.tables e below (T3.setTop (mkF m 21 #[.val (.ref o0), .val (.int i1)] [])) _
  refine XS.iinc X3.here hx rfl (hb hby d5_21) rfl (l' := #[.val (.ref o0), .val (.int (i1 + (-1 : Int32)))]) rfl ?_
  show Steps p.tables e below (T3.setTop (mkF m 24 #[.val (.ref o0), .val (.int (i1 + (-1 : Int32)))] [])) _
  refine XS.goto X3.here hx rfl (pc0 := 24) (pc' := 6) rfl (hb hby d5_24) (by decide) (by decide) ?_
  exact kt
set_option maxRecDepth 65536 in
set_option maxHeartbeats 40000000 in
theorem tn5_6_27_t {p : Program} {l : Launch} {e : Env} {R : Room} {s : State} {m : MethodId} {args : Array Value} {below : List Frame} {meth : Method} {c : Code} {T0 : State} {locs : List Loc} {cells slots : Nat} {Z : State} {a0 : Array Value} {h0 : Heap} (o0 : Addr) (i1 : Int32)
    (X0 : Stand p l e R s m args below meth c T0 locs cells slots) (hx : p.tables.exec = Jvm.exec) (hZ : Z.Warmed39 s.vm) (hw : ∀ d ∈ tables_1, d.before a0 Z = true) (hby : c.code = prog_8_method_21_code) (hml : c.maxLocals = 2) (hown : s.vm.findClass "com/example/votary/votary/Message" = some m.cls) (e0 : T0.heap = h0) (hc7 : ¬ ((0 : Int32) < i1)) :
    ∃ (T' : State), Stand p l e R s m args below meth c T' locs cells slots ∧ T'.heap = h0 ∧
      ∀ target, Steps p.tables e below (T'.setTop (mkF m 27 #[.val (.ref o0), .val (.int i1)] [])) target → Steps p.tables e below (T0.setTop (mkF m 6 #[.val (.ref o0), .val (.int i1)] [])) target := by

  refine ⟨T0, X0, e0, fun target kt => ?_⟩
  show Steps p.tables e below (T0.setTop (mkF m 6 #[.val (.ref o0), .val (.int i1)] [])) _
  refine XS.iloadN X0.here hx rfl (hb hby d5_6) rfl ?_
  show Steps p.tables e below (T0.setTop (mkF m 7 #[.val (.ref o0), .val (.int i1)] [(.int i1)])) _
  refine XS.ifYes X0.here hx rfl (pc0 := 7) (pc' := 27) rfl (hb hby d5_7) rfl ((if0 _ _).trans (flt hc7).2.2.2) (by decide) (by decide) ?_
  exact kt
set_option maxRecDepth 65536 in
set_option maxHeartbeats 40000000 in
theorem tn5_6_27_ft {p : Program} {l : Launch} {e : Env} {R : Room} {s : State} {m : MethodId} {args : Array Value} {below : List Frame} {meth : Method} {c : Code} {T0 : State} {locs : List Loc} {cells slots : Nat} {Z : State} {a0 : Array Value} {h0 : Heap} (o0 : Addr) (i1 : Int32) (w2 : Addr) (w4 : Int32) (cl_w2 : Cell)
    (X0 : Stand p l e R s m args below meth c T0 locs cells slots) (hx : p.tables.exec = Jvm.exec) (hZ : Z.Warmed39 s.vm) (hw : ∀ d ∈ tables_1, d.before a0 Z = true) (hby : c.code = prog_8_method_21_code) (hml : c.maxLocals = 2) (hown : s.vm.findClass "com/example/votary/votary/Message" = some m.cls) (e0 : T0.heap = h0) (F_body_o0 : Fld Z h0 o0 "com/example/votary/votary/Message" "body" "[B" (.ref w2)) (Ar_w2 : Arr Z h0 w2 cl_w2 .byte) (hin17 : ¬ ((i1 - (1 : Int32)) < 0 ∨ cl_w2.slots.size ≤ ((i1 - (1 : Int32))).toNatClampNeg)) (hat17 : cl_w2.slots[((i1 - (1 : Int32))).toNatClampNeg]? = some (.int w4)) (hc7 : (0 : Int32) < i1) (hc18 : ¬ (w4 = (0 : Int32))) :
    ∃ (T' : State), Stand p l e R s m args below meth c T' locs cells slots ∧ T'.heap = h0 ∧
      ∀ target, Steps p.tables e below (T'.setTop (mkF m 27 #[.val (.ref o0), .val (.int i1)] [])) target → Steps p.tables e below (T0.setTop (mkF m 6 #[.val (.ref o0), .val (.int i1)] [])) target := by
  obtain ⟨T3, X3, e3, st3⟩ := getF X0 hx hZ hown (host := "") (Or.inl (hw _ (List.mem_of_getElem? (i := 20) rfl))) Via.refl e0 F_body_o0 (g := (mkF m 11 #[.val (.ref o0), .val (.int i1)] [(.ref o0)])) rfl rfl (hb hby d5_11)
  refine ⟨T3, X3, e3, fun target kt => ?_⟩
  show Steps p.tables e below (T0.setTop (mkF m 6 #[.val (.ref o0), .val (.int i1)] [])) _
  refine XS.iloadN X0.here hx rfl (hb hby d5_6) rfl ?_
  show Steps p.tables e below (T0.setTop (mkF m 7 #[.val (.ref o0), .val (.int i1)] [(.int i1)])) _
  refine XS.ifNo X0.here hx rfl (hb hby d5_7) rfl ((if0 _ _).trans (tlt hc7).2.2.2) ?_
  show Steps p.tables e below (T0.setTop (mkF m 10 #[.val (.ref o0), .val (.int i1)] [])) _
  refine XS.aloadN X0.here hx rfl (hb hby d5_10) rfl rfl ?_
  show Steps p.tables e below (T0.setTop (mkF m 11 #[.val (.ref o0), .val (.int i1)] [(.ref o0)])) _
  refine st3 _ ?_
  show Steps p.tables e below (T3.setTop (mkF m 14 #[.val (.ref o0), .val (.int i1)] [(.ref w2)])) _
  refine XS.iloadN X3.here hx rfl (hb hby d5_14) rfl ?_
  show Steps p.tables e below (T3.setTop (mkF m 15 #[.val (.ref o0), .val (.int i1)] [(.int i1), (.ref w2)])) _
  refine XS.iconst X3.here hx rfl (hb hby d5_15) ?_
  show Steps p.tables e below (T3.setTop (mkF m 16 #[.val (.ref o0), .val (.int i1)] [(.int (1 : Int32)), (.int i1), (.ref w2)])) _
  refine XS.isub X3.here hx rfl (hb hby d5_16) rfl ?_
  show Steps p.tables e below (T3.setTop (mkF m 17 #[.val (.ref o0), .val (.int i1)] [(.int (i1 - (1 : Int32))), (.ref w2)])) _
  refine X3.baloadBytes hx (j := (i1 - (1 : Int32))) (v := (.int w4)) (by rw [e3]; exact Ar_w2.1) (State.isArrayOf_alike hZ.alike Ar_w2.2.1) Ar_w2.2.2 hin17 hat17 (g := (mkF m 17 #[.val (.ref o0), .val (.int i1)] [(.int (i1 - (1 : Int32))), (.ref w2)])) rfl rfl (hb hby d5_17) _ ?_
  show Steps p.tables e below (T3.setTop (mkF m 18 #[.val (.ref o0), .val (.int i1)] [(.int w4)])) _
  refine XS.ifYes X3.here hx rfl (pc0 := 18) (pc' := 27) rfl (hb hby d5_18) rfl ((if0 _ _).trans (feq hc18).2) (by decide) (by decide) ?_
  exact kt
theorem own_dec (x : Int32) (q : 0 < x.toInt) : (x - (1 : Int32)).toInt = x.toInt - 1 ∧ (x + (-1 : Int32)).toInt = x.toInt - 1 := by
  have e : x + (-1 : Int32) = x - 1 := (Int32.sub_eq_add_neg x 1).symm
  have z1 : (1 : Int32).toInt = 1 := rfl
  have k1 := c_isub x 1
  have k2 := rng32 (x - 1)
  have k3 := rng32 x
  rw [e]
  have k4 : (x - 1).toInt = x.toInt - 1 := by omega
  exact ⟨k4, k4⟩
set_option maxHeartbeats 4000000 in
theorem own_loop {p : Program} {l : Launch} {e : Env} {R : Room} {s : State} {m : MethodId} {args : Array Value} {below : List Frame} {meth : Method} {c : Code} {locs : List Loc} {cells slots : Nat} {Z : State} {a0 : Array Value} {h0 : Heap} (o0 : Addr) (w2 : Addr) (kw : ClassId) (zn : Int32) (vs : List Value) (ee : Int32)
    (hx : p.tables.exec = Jvm.exec) (hZ : Z.Warmed39 s.vm) (hw : ∀ d ∈ tables_1, d.before a0 Z = true) (hby : c.code = prog_8_method_21_code) (hml : c.maxLocals = 2) (hown : s.vm.findClass "com/example/votary/votary/Message" = some m.cls) (F_body_o0 : Fld Z h0 o0 "com/example/votary/votary/Message" "body" "[B" (.ref w2)) (V2 : Arv Z h0 w2 kw .byte zn vs (.int (0 : Int32)))
    (he0 : 0 ≤ ee.toInt) (hz : ∀ j : Int32, ee.toInt ≤ j.toInt → j.toInt < zn.toInt → vs.getD j.toNatClampNeg (.int (0 : Int32)) = .int (0 : Int32)) (hne : ee = (0 : Int32) ∨ ∃ x : Int32, vs.getD (ee - (1 : Int32)).toNatClampNeg (.int (0 : Int32)) = .int x ∧ ¬ (x = (0 : Int32))) (d : Nat) :
    ∀ {T0 : State} (X0 : Stand p l e R s m args below meth c T0 locs cells slots) (e0 : T0.heap = h0) (len : Int32) (hl : len.toInt = ee.toInt + d) (hlz : len.toInt ≤ zn.toInt), ∃ (T' : State), Stand p l e R s m args below meth c T' locs cells slots ∧ T'.heap = h0 ∧
      ∀ target, Steps p.tables e below (T'.setTop (mkF m 27 #[.val (.ref o0), .val (.int ee)] [])) target → Steps p.tables e below (T0.setTop (mkF m 6 #[.val (.ref o0), .val (.int len)] [])) target := by
  obtain ⟨cl, Ar, -, S, N, H, -⟩ := V2
  have z0 : (0 : Int32).toInt = 0 := rfl
  have sb := fun (x : Int32) (q : 0 < x.toInt) => (own_dec x q).1
  induction d with
  | zero =>
    intro T0 X0 e0 len hl hlz
    obtain rfl : len = ee := Int32.toInt_inj.mp (by omega)
    rcases hne with q | ⟨x, q1, q2⟩
    · subst q
      exact tn5_6_27_t o0 (0 : Int32) X0 hx hZ hw hby hml hown e0 (by decide)
    · by_cases g : len = (0 : Int32)
      · subst g
        exact tn5_6_27_t o0 (0 : Int32) X0 hx hZ hw hby hml hown e0 (by decide)
      · have gp : 0 < len.toInt := by
          rw [← Int32.toInt_inj] at g
          omega
        have s1 := sb len gp
        have hin : ¬ ((len - (1 : Int32)) < 0 ∨ cl.slots.size ≤ ((len - (1 : Int32))).toNatClampNeg) := inb_of S ⟨by rw [Int32.lt_iff_toInt_lt]; omega, by rw [Int32.lt_iff_toInt_lt]; omega⟩
        exact tn5_6_27_ft o0 len w2 x cl X0 hx hZ hw hby hml hown e0 F_body_o0 Ar hin (H.at hin q1) (by rw [Int32.lt_iff_toInt_lt]; omega) q2
  | succ d ih =>
    intro T0 X0 e0 len hl hlz
    have s1 := sb len (by omega)
    have hin : ¬ ((len - (1 : Int32)) < 0 ∨ cl.slots.size ≤ ((len - (1 : Int32))).toNatClampNeg) := inb_of S ⟨by rw [Int32.lt_iff_toInt_lt]; omega, by rw [Int32.lt_iff_toInt_lt]; omega⟩
    obtain ⟨T1, X1, e1, t1⟩ := tn5_6_6 o0 len w2 (0 : Int32) cl X0 hx hZ hw hby hml hown e0 F_body_o0 Ar hin (H.at hin (hz _ (by omega) (by omega))) (by rw [Int32.lt_iff_toInt_lt]; omega) rfl
    have k1 := (own_dec len (by omega)).2
    have k2 : (len + (-1 : Int32)).toInt = ee.toInt + (d : Int) := by rw [k1, hl, Int.natCast_succ, ← Int.add_assoc, Int.add_sub_cancel]
    have k3 : (len + (-1 : Int32)).toInt ≤ zn.toInt := by rw [k1]; exact Int.le_trans (Int.sub_le_self _ (by decide)) hlz
    obtain ⟨T2, X2, e2, t2⟩ := ih X1 e1 (len + (-1 : Int32)) k2 k3
    exact ⟨T2, X2, e2, fun target kt => t1 _ (t2 _ kt)⟩
theorem d5_0 : decode prog_8_method_21_code 0 = .ok (.aload_n 0, 1) := by decide +kernel
theorem d5_1 : decode prog_8_method_21_code 1 = .ok (.getfield 13, 3) := by decide +kernel
theorem d5_4 : decode prog_8_method_21_code 4 = .ok (.arraylength, 1) := by decide +kernel
theorem d5_5 : decode prog_8_method_21_code 5 = .ok (.istore_n 1, 1) := by decide +kernel
theorem d5_27 : decode prog_8_method_21_code 27 = .ok (.aload_n 0, 1) := by decide +kernel
theorem d5_28 : decode prog_8_method_21_code 28 = .ok (.getfield 13, 3) := by decide +kernel
theorem d5_31 : decode prog_8_method_21_code 31 = .ok (.iload_n 1, 1) := by decide +kernel
theorem d5_32 : decode prog_8_method_21_code 32 = .ok (.invokestatic 95, 3) := by decide +kernel
theorem d5_35 : decode prog_8_method_21_code 35 = .ok (.areturn, 1) := by decide +kernel
theorem pn_5 : plainName "com/example/votary/votary/Message" = true := by first | (simp [plainName, overriddenIn]; done) | decide +kernel
theorem pd_5_5 : parseMethodDescriptor "([BI)[B" = some ⟨[(.array .byte), .int], some (.array .byte)⟩ := by decide +kernel
theorem ef_5 (m : MethodId) (x0 : Addr) : entryFrame m #[(.ref x0)] 2 = mkF m 0 #[.val (.ref x0), .unset] [] := by first | (simp [entryFrame, mkF, argsToLocals, Value.category]; done) | rfl
set_option maxRecDepth 65536 in
set_option maxHeartbeats 40000000 in
theorem rm5 (l : Launch) (Z : State) (a0 : Array Value) (hw : ∀ d ∈ tables_1, d.before a0 Z = true) (ws : List Jvm.Cond) (a1 : Addr) (w2 : Addr) (kw : ClassId) (zn : Int32) (vs : List Value) (ee : Int32) (h0 : Heap) (n0 : Nat) (Z0 : n0 ≤ h0.size) (F_body_a1 : Fld Z h0 a1 "com/example/votary/votary/Message" "body" "[B" (.ref w2)) (V2 : Arv Z h0 w2 kw .byte zn vs (.int (0 : Int32))) (E2 : Exa Z h0 w2 "[B") (h4 : zn.toNatClampNeg ≤ 4) (he0 : 0 ≤ ee.toInt) (he1 : ee.toInt ≤ zn.toInt) (hz : ∀ j : Int32, ee.toInt ≤ j.toInt → j.toInt < zn.toInt → vs.getD j.toNatClampNeg (.int (0 : Int32)) = .int (0 : Int32)) (hne : ee = (0 : Int32) ∨ ∃ x : Int32, vs.getD (ee - (1 : Int32)).toNatClampNeg (.int (0 : Int32)) = .int x ∧ ¬ (x = (0 : Int32))) :
    MetFree l (⟨"com/example/votary/votary/Message", "queryText", "()[B"⟩ : MethodName) (head1 (Jvm.Cond.code (⟨"com/example/votary/votary/Message", "queryText", "()[B"⟩ : MethodName) prog_8_method_21_code 2 (some (.array .byte)) :: ws) ({ frames := 2, cells := 1, slots := 4, locals := 32 } : Room)) (fun a U => a = #[(.ref a1)] ∧ Z.Warmed39 U.vm ∧ U.heap = h0) (fun _ _ _ _ _ => True) (fun _ U o U' => ∃ v L, o = .returned v ∧ Q6 Z ee vs h0 n0 v U'.heap L ∧ FrameEnd U o U' L ({ frames := 2, cells := 1, slots := 4, locals := 32 } : Room).cells ({ frames := 2, cells := 1, slots := 4, locals := 32 } : Room).slots) := by
  refine MetFree.of_bodySF (plainFor_of_name pn_5) hisR ?_
  intro p e s m args below meth c s₁ Bd hml0 hP hK
  obtain ⟨rfl, hZ, hh⟩ := hP
  have hx := Bd.exec
  have hby := Bd.bytes
  have hml : c.maxLocals = 2 := hml0
  have hown : s.vm.findClass "com/example/votary/votary/Message" = some m.cls := findClass_of_methodNamed Bd.named
  have hnm := (name_of_methodNamed Bd.named Bd.method).1
  have X0 : Stand p l e ({ frames := 2, cells := 1, slots := 4, locals := 32 } : Room) s m #[(.ref a1)] below meth c s₁ [] 0 0 := Stand.of_body Bd
  have e0 : s₁.heap = h0 := by rw [← hh, Bd.state]; rfl
  have N0 := Fr.nil n0
  have z0 : (0 : Int32).toInt = 0 := rfl
  have hneg : ¬ ee < 0 := by rw [Int32.lt_iff_toInt_lt]; omega
  have hle : ¬ zn < ee := by rw [Int32.lt_iff_toInt_lt]; omega
  obtain ⟨cl_w2, Ar_w2, qA_w2, S_w2, N_w2, H_w2, G_w2⟩ := V2
  have V2 : Arv Z h0 w2 kw .byte zn vs (.int (0 : Int32)) := ⟨cl_w2, Ar_w2, qA_w2, S_w2, N_w2, H_w2, G_w2⟩
  have pre0 : ∀ t, Steps p.tables e below (s₁.setTop (mkF m 0 #[.val (.ref a1), .unset] [])) t → Steps p.tables e below (s₁.setTop (entryFrame m #[(.ref a1)] 2)) t := fun t k => castTop (ef_5 m a1) k
  obtain ⟨T2, X2, e2, st2⟩ := getF X0 hx hZ hown (host := "") (Or.inl (hw _ (List.mem_of_getElem? (i := 20) rfl))) Via.refl e0 F_body_a1 (g := (mkF m 1 #[.val (.ref a1), .unset] [(.ref a1)])) rfl rfl (hb hby d5_1)
  obtain ⟨TL, XL, eL, tL⟩ := own_loop a1 w2 kw zn vs ee hx hZ hw hby hml hown F_body_a1 V2 he0 hz hne (zn.toInt - ee.toInt).toNat X2 e2 zn (by omega) (Int.le_refl _)
  obtain ⟨T3, X3, e3, st3⟩ := getF XL hx hZ hown (host := "") (Or.inl (hw _ (List.mem_of_getElem? (i := 20) rfl))) Via.refl eL F_body_a1 (g := (mkF m 28 #[.val (.ref a1), .val (.int ee)] [(.ref a1)])) rfl rfl (hb hby d5_28)
  obtain ⟨_, _, ⟨T4, L4, k4, n4⟩, -, X4, ⟨Lc4, hQ4, l4, y4, z4⟩, st4⟩ := Jvm.LawKit.callS X3 hx (y := (⟨"java/util/Arrays", "copyOf", "([BI)[B"⟩ : MethodName)) hown (mvT hZ (hw _ (List.mem_of_getElem? (i := 27) rfl))) (mvT hZ (hw _ (List.mem_of_getElem? (i := 28) rfl))) (mvT hZ (hw _ (List.mem_of_getElem? (i := 29) rfl))) (mvT hZ (hw _ (List.mem_of_getElem? (i := 30) rfl))) (by decide) (backOf (W := 0) (rm6 l Z a0 hw [] w2 ee zn kw vs h0 n0 Z0 V2 E2 h4 hneg hle) hZ (hw _ (List.mem_of_getElem? (i := 30) rfl)) (hw _ (List.mem_of_getElem? (i := 29) rfl)) (by decide) (by decide)) (g := (mkF m 32 #[.val (.ref a1), .val (.int ee)] [(.int ee), (.ref w2)])) rfl (by rw [hml]; rfl) (argsL := [(.ref w2), (.int ee)]) (rest := []) (lenOf pd_5_5 rfl) rfl (by show 2 * 0 + _ ≤ _; exact Nat.le_of_eq rfl) (hb hby d5_32) (fun _ _ => ⟨rfl, e3, (by decide : 0 + 1 ≤ _), (by decide : 0 + 4 ≤ _)⟩)
  dsimp only [Pt.U, Pt.locs, Pt.cells, Pt.slots] at X4 l4 y4 z4 st4 hQ4
  subst l4 y4 z4
  obtain ⟨b4r, k4r, us4, rfl, N4q, Kc4, gb4, Vb4, hU4⟩ := hQ4
  have N4 := Fr.app N0 N4q
  have K4 : Keep h0 T4.heap [] := (Keep.refl h0 []).trans Kc4 all0
  obtain ⟨fs, hr, hrun, hended, hW, hsame⟩ := X4.leave (v := some (.ref b4r)) (fun h => by rw [Bd.returns] at h; cases h)
  refine ⟨_, _, pre0 _ ?_, hrun, hended, _, _, rfl, ?_, ⟨_, rfl⟩, hW, hsame.mono (by decide) (by decide)⟩
  · show Steps p.tables e below (s₁.setTop (mkF m 0 #[.val (.ref a1), .unset] [])) _
    refine XS.aloadN X0.here hx rfl (hb hby d5_0) rfl rfl ?_
    show Steps p.tables e below (s₁.setTop (mkF m 1 #[.val (.ref a1), .unset] [(.ref a1)])) _
    refine st2 _ ?_
    show Steps p.tables e below (T2.setTop (mkF m 4 #[.val (.ref a1), .unset] [(.ref w2)])) _
    refine X2.arraylength hx (by rw [e2]; exact Ar_w2.1) (State.isArrayOf_alike hZ.alike Ar_w2.2.1) (g := (mkF m 4 #[.val (.ref a1), .unset] [(.ref w2)])) rfl rfl (hb hby d5_4) _ ?_
    rw [len_of S_w2 N_w2]
    show Steps p.tables e below (T2.setTop (mkF m 5 #[.val (.ref a1), .unset] [(.int zn)])) _
    refine XS.istoreN X2.here hx rfl (hb hby d5_5) rfl (l' := #[.val (.ref a1), .val (.int zn)]) rfl ?_
    show Steps p.tables e below (T2.setTop (mkF m 6 #[.val (.ref a1), .val (.int zn)] [])) _
    refine tL _ ?_
    show Steps p.tables e below (TL.setTop (mkF m 27 #[.val (.ref a1), .val (.int ee)] [])) _
    refine XS.aloadN XL.here hx rfl (hb hby d5_27) rfl rfl ?_
    show Steps p.tables e below (TL.setTop (mkF m 28 #[.val (.ref a1), .val (.int ee)] [(.ref a1)])) _
    refine st3 _ ?_
    show Steps p.tables e below (T3.setTop (mkF m 31 #[.val (.ref a1), .val (.int ee)] [(.ref w2)])) _
    refine XS.iloadN X3.here hx rfl (hb hby d5_31) rfl ?_
    show Steps p.tables e below (T3.setTop (mkF m 32 #[.val (.ref a1), .val (.int ee)] [(.int ee), (.ref w2)])) _
    refine st4 _ ?_
    show Steps p.tables e below (T4.setTop (mkF m 35 #[.val (.ref a1), .val (.int ee)] [(.ref b4r)])) _
    jvm_step X4.here [X4.here.top, hx, (hb hby d5_35), X4.method', Bd.returns, Value.isRef, FieldType.isReference]
    first | (intro acts; rw [hr _ acts rfl rfl rfl]) | rw [hr _ _ rfl rfl rfl]
    exact Steps.refl _
  · show Q6 Z ee vs h0 n0 _ T4.heap _
    exact ⟨_, _, _, rfl, N4, K4, gb4, Vb4, hU4⟩
def stp (i j n b e : Int32) : Int32 := if i < n ∧ ¬ b = (0 : Int32) then j else e
def eOf (n b0 b1 b2 b3 : Int32) : Int32 := stp 3 4 n b3 (stp 2 3 n b2 (stp 1 2 n b1 (stp 0 1 n b0 0)))
set_option maxRecDepth 65536 in
set_option maxHeartbeats 40000000 in
theorem tn0_72_85_t {p : Program} {l : Launch} {e : Env} {R : Room} {s : State} {m : MethodId} {args : Array Value} {below : List Frame} {meth : Method} {c : Code} {T0 : State} {locs : List Loc} {cells slots : Nat} {Z : State} {a0 : Array Value} {h0 : Heap} (s0 : Slot) (s1 : Slot) (s2 : Slot) (s3 : Slot) (s4 : Slot) (s5 : Slot) (i6 : Int32) (i7 : Int32) (s8 : Slot) (s9 : Slot) (s10 : Slot) (s11 : Slot) (s12 : Slot) (s13 : Slot) (i14 : Int32) (s15 : Slot)
    (X0 : Stand p l e R s m args below meth c T0 locs cells slots) (hx : p.tables.exec = Jvm.exec) (hZ : Z.Warmed39 s.vm) (hw : ∀ d ∈ tables_1, d.before a0 Z = true) (hby : c.code = code) (hml : c.maxLocals = 16) (hown : s.vm.findClass "com/example/votary/votary/MessageQueryTextPinLaw" = some m.cls) (e0 : T0.heap = h0) (hc74 : ¬ ((0 : Int32) < i6)) :
    ∀ target, Steps p.tables e below (T0.setTop (mkF m 85 #[s0, s1, s2, s3, s4, s5, .val (.int i6), .val (.int i7), s8, s9, s10, s11, s12, s13, .val (.int i14), s15] [])) target → Steps p.tables e below (T0.setTop (mkF m 72 #[s0, s1, s2, s3, s4, s5, .val (.int i6), .val (.int i7), s8, s9, s10, s11, s12, s13, .val (.int i14), s15] [])) target := by

  intro target kt
  show Steps p.tables e below (T0.setTop (mkF m 72 #[s0, s1, s2, s3, s4, s5, .val (.int i6), .val (.int i7), s8, s9, s10, s11, s12, s13, .val (.int i14), s15] [])) _
  refine XS.iload X0.here hx rfl (hb hby at_72) rfl ?_
  show Steps p.tables e below (T0.setTop (mkF m 74 #[s0, s1, s2, s3, s4, s5, .val (.int i6), .val (.int i7), s8, s9, s10, s11, s12, s13, .val (.int i14), s15] [(.int i6)])) _
  refine XS.ifYes X0.here hx rfl (pc0 := 74) (pc' := 85) rfl (hb hby at_74) rfl ((if0 _ _).trans (flt hc74).2.2.2) (by decide) (by decide) ?_
  exact kt
set_option maxRecDepth 65536 in
set_option maxHeartbeats 40000000 in
theorem tn0_72_85_ft {p : Program} {l : Launch} {e : Env} {R : Room} {s : State} {m : MethodId} {args : Array Value} {below : List Frame} {meth : Method} {c : Code} {T0 : State} {locs : List Loc} {cells slots : Nat} {Z : State} {a0 : Array Value} {h0 : Heap} (s0 : Slot) (s1 : Slot) (s2 : Slot) (s3 : Slot) (s4 : Slot) (s5 : Slot) (i6 : Int32) (i7 : Int32) (s8 : Slot) (s9 : Slot) (s10 : Slot) (s11 : Slot) (s12 : Slot) (s13 : Slot) (i14 : Int32) (s15 : Slot)
    (X0 : Stand p l e R s m args below meth c T0 locs cells slots) (hx : p.tables.exec = Jvm.exec) (hZ : Z.Warmed39 s.vm) (hw : ∀ d ∈ tables_1, d.before a0 Z = true) (hby : c.code = code) (hml : c.maxLocals = 16) (hown : s.vm.findClass "com/example/votary/votary/MessageQueryTextPinLaw" = some m.cls) (e0 : T0.heap = h0) (hc74 : (0 : Int32) < i6) (hc79 : i7 = (0 : Int32)) :
    ∀ target, Steps p.tables e below (T0.setTop (mkF m 85 #[s0, s1, s2, s3, s4, s5, .val (.int i6), .val (.int i7), s8, s9, s10, s11, s12, s13, .val (.int i14), s15] [])) target → Steps p.tables e below (T0.setTop (mkF m 72 #[s0, s1, s2, s3, s4, s5, .val (.int i6), .val (.int i7), s8, s9, s10, s11, s12, s13, .val (.int i14), s15] [])) target := by

  intro target kt
  show Steps p.tables e below (T0.setTop (mkF m 72 #[s0, s1, s2, s3, s4, s5, .val (.int i6), .val (.int i7), s8, s9, s10, s11, s12, s13, .val (.int i14), s15] [])) _
  refine XS.iload X0.here hx rfl (hb hby at_72) rfl ?_
  show Steps p.tables e below (T0.setTop (mkF m 74 #[s0, s1, s2, s3, s4, s5, .val (.int i6), .val (.int i7), s8, s9, s10, s11, s12, s13, .val (.int i14), s15] [(.int i6)])) _
  refine XS.ifNo X0.here hx rfl (hb hby at_74) rfl ((if0 _ _).trans (tlt hc74).2.2.2) ?_
  show Steps p.tables e below (T0.setTop (mkF m 77 #[s0, s1, s2, s3, s4, s5, .val (.int i6), .val (.int i7), s8, s9, s10, s11, s12, s13, .val (.int i14), s15] [])) _
  refine XS.iload X0.here hx rfl (hb hby at_77) rfl ?_
  show Steps p.tables e below (T0.setTop (mkF m 79 #[s0, s1, s2, s3, s4, s5, .val (.int i6), .val (.int i7), s8, s9, s10, s11, s12, s13, .val (.int i14), s15] [(.int i7)])) _
  refine XS.ifYes X0.here hx rfl (pc0 := 79) (pc' := 85) rfl (hb hby at_79) rfl ((if0 _ _).trans (teq hc79).1) (by decide) (by decide) ?_
  exact kt
set_option maxRecDepth 65536 in
set_option maxHeartbeats 40000000 in
theorem tn0_72_85_ff {p : Program} {l : Launch} {e : Env} {R : Room} {s : State} {m : MethodId} {args : Array Value} {below : List Frame} {meth : Method} {c : Code} {T0 : State} {locs : List Loc} {cells slots : Nat} {Z : State} {a0 : Array Value} {h0 : Heap} (s0 : Slot) (s1 : Slot) (s2 : Slot) (s3 : Slot) (s4 : Slot) (s5 : Slot) (i6 : Int32) (i7 : Int32) (s8 : Slot) (s9 : Slot) (s10 : Slot) (s11 : Slot) (s12 : Slot) (s13 : Slot) (i14 : Int32) (s15 : Slot)
    (X0 : Stand p l e R s m args below meth c T0 locs cells slots) (hx : p.tables.exec = Jvm.exec) (hZ : Z.Warmed39 s.vm) (hw : ∀ d ∈ tables_1, d.before a0 Z = true) (hby : c.code = code) (hml : c.maxLocals = 16) (hown : s.vm.findClass "com/example/votary/votary/MessageQueryTextPinLaw" = some m.cls) (e0 : T0.heap = h0) (hc74 : (0 : Int32) < i6) (hc79 : ¬ (i7 = (0 : Int32))) :
    ∀ target, Steps p.tables e below (T0.setTop (mkF m 85 #[s0, s1, s2, s3, s4, s5, .val (.int i6), .val (.int i7), s8, s9, s10, s11, s12, s13, .val (.int (1 : Int32)), s15] [])) target → Steps p.tables e below (T0.setTop (mkF m 72 #[s0, s1, s2, s3, s4, s5, .val (.int i6), .val (.int i7), s8, s9, s10, s11, s12, s13, .val (.int i14), s15] [])) target := by

  intro target kt
  show Steps p.tables e below (T0.setTop (mkF m 72 #[s0, s1, s2, s3, s4, s5, .val (.int i6), .val (.int i7), s8, s9, s10, s11, s12, s13, .val (.int i14), s15] [])) _
  refine XS.iload X0.here hx rfl (hb hby at_72) rfl ?_
  show Steps p.tables e below (T0.setTop (mkF m 74 #[s0, s1, s2, s3, s4, s5, .val (.int i6), .val (.int i7), s8, s9, s10, s11, s12, s13, .val (.int i14), s15] [(.int i6)])) _
  refine XS.ifNo X0.here hx rfl (hb hby at_74) rfl ((if0 _ _).trans (tlt hc74).2.2.2) ?_
  show Steps p.tables e below (T0.setTop (mkF m 77 #[s0, s1, s2, s3, s4, s5, .val (.int i6), .val (.int i7), s8, s9, s10, s11, s12, s13, .val (.int i14), s15] [])) _
  refine XS.iload X0.here hx rfl (hb hby at_77) rfl ?_
  show Steps p.tables e below (T0.setTop (mkF m 79 #[s0, s1, s2, s3, s4, s5, .val (.int i6), .val (.int i7), s8, s9, s10, s11, s12, s13, .val (.int i14), s15] [(.int i7)])) _
  refine XS.ifNo X0.here hx rfl (hb hby at_79) rfl ((if0 _ _).trans (feq hc79).1) ?_
  show Steps p.tables e below (T0.setTop (mkF m 82 #[s0, s1, s2, s3, s4, s5, .val (.int i6), .val (.int i7), s8, s9, s10, s11, s12, s13, .val (.int i14), s15] [])) _
  refine XS.iconst X0.here hx rfl (hb hby at_82) ?_
  show Steps p.tables e below (T0.setTop (mkF m 83 #[s0, s1, s2, s3, s4, s5, .val (.int i6), .val (.int i7), s8, s9, s10, s11, s12, s13, .val (.int i14), s15] [(.int (1 : Int32))])) _
  refine XS.istore X0.here hx rfl (hb hby at_83) rfl (l' := #[s0, s1, s2, s3, s4, s5, .val (.int i6), .val (.int i7), s8, s9, s10, s11, s12, s13, .val (.int (1 : Int32)), s15]) rfl ?_
  exact kt
theorem blkB_0 {p : Program} {l : Launch} {e : Env} {R : Room} {s : State} {m : MethodId} {args : Array Value} {below : List Frame} {meth : Method} {c : Code} {T0 : State} {locs : List Loc} {cells slots : Nat} {Z : State} {a0 : Array Value} {h0 : Heap} (s0 : Slot) (s1 : Slot) (s2 : Slot) (s3 : Slot) (s4 : Slot) (s5 : Slot) (i6 : Int32) (i7 : Int32) (s8 : Slot) (s9 : Slot) (s10 : Slot) (s11 : Slot) (s12 : Slot) (s13 : Slot) (i14 : Int32) (s15 : Slot)
    (X0 : Stand p l e R s m args below meth c T0 locs cells slots) (hx : p.tables.exec = Jvm.exec) (hZ : Z.Warmed39 s.vm) (hw : ∀ d ∈ tables_1, d.before a0 Z = true) (hby : c.code = code) (hml : c.maxLocals = 16) (hown : s.vm.findClass "com/example/votary/votary/MessageQueryTextPinLaw" = some m.cls) (e0 : T0.heap = h0) :
    ∀ target, Steps p.tables e below (T0.setTop (mkF m 85 #[s0, s1, s2, s3, s4, s5, .val (.int i6), .val (.int i7), s8, s9, s10, s11, s12, s13, .val (.int (stp 0 1 i6 i7 i14)), s15] [])) target → Steps p.tables e below (T0.setTop (mkF m 72 #[s0, s1, s2, s3, s4, s5, .val (.int i6), .val (.int i7), s8, s9, s10, s11, s12, s13, .val (.int i14), s15] [])) target := by
  by_cases g : (0 : Int32) < i6
  · by_cases k : i7 = (0 : Int32)
    · rw [show stp 0 1 i6 i7 i14 = i14 from if_neg fun q => q.2 k]
      exact tn0_72_85_ft s0 s1 s2 s3 s4 s5 i6 i7 s8 s9 s10 s11 s12 s13 i14 s15 X0 hx hZ hw hby hml hown e0 g k
    · rw [show stp 0 1 i6 i7 i14 = 1 from if_pos ⟨g, k⟩]
      exact tn0_72_85_ff s0 s1 s2 s3 s4 s5 i6 i7 s8 s9 s10 s11 s12 s13 i14 s15 X0 hx hZ hw hby hml hown e0 g k
  · rw [show stp 0 1 i6 i7 i14 = i14 from if_neg fun q => g q.1]
    exact tn0_72_85_t s0 s1 s2 s3 s4 s5 i6 i7 s8 s9 s10 s11 s12 s13 i14 s15 X0 hx hZ hw hby hml hown e0 g
set_option maxRecDepth 65536 in
set_option maxHeartbeats 40000000 in
theorem tn0_85_99_t {p : Program} {l : Launch} {e : Env} {R : Room} {s : State} {m : MethodId} {args : Array Value} {below : List Frame} {meth : Method} {c : Code} {T0 : State} {locs : List Loc} {cells slots : Nat} {Z : State} {a0 : Array Value} {h0 : Heap} (s0 : Slot) (s1 : Slot) (s2 : Slot) (s3 : Slot) (s4 : Slot) (s5 : Slot) (i6 : Int32) (s7 : Slot) (i8 : Int32) (s9 : Slot) (s10 : Slot) (s11 : Slot) (s12 : Slot) (s13 : Slot) (i14 : Int32) (s15 : Slot)
    (X0 : Stand p l e R s m args below meth c T0 locs cells slots) (hx : p.tables.exec = Jvm.exec) (hZ : Z.Warmed39 s.vm) (hw : ∀ d ∈ tables_1, d.before a0 Z = true) (hby : c.code = code) (hml : c.maxLocals = 16) (hown : s.vm.findClass "com/example/votary/votary/MessageQueryTextPinLaw" = some m.cls) (e0 : T0.heap = h0) (hc88 : ¬ ((1 : Int32) < i6)) :
    ∀ target, Steps p.tables e below (T0.setTop (mkF m 99 #[s0, s1, s2, s3, s4, s5, .val (.int i6), s7, .val (.int i8), s9, s10, s11, s12, s13, .val (.int i14), s15] [])) target → Steps p.tables e below (T0.setTop (mkF m 85 #[s0, s1, s2, s3, s4, s5, .val (.int i6), s7, .val (.int i8), s9, s10, s11, s12, s13, .val (.int i14), s15] [])) target := by

  intro target kt
  show Steps p.tables e below (T0.setTop (mkF m 85 #[s0, s1, s2, s3, s4, s5, .val (.int i6), s7, .val (.int i8), s9, s10, s11, s12, s13, .val (.int i14), s15] [])) _
  refine XS.iload X0.here hx rfl (hb hby at_85) rfl ?_
  show Steps p.tables e below (T0.setTop (mkF m 87 #[s0, s1, s2, s3, s4, s5, .val (.int i6), s7, .val (.int i8), s9, s10, s11, s12, s13, .val (.int i14), s15] [(.int i6)])) _
  refine XS.iconst X0.here hx rfl (hb hby at_87) ?_
  show Steps p.tables e below (T0.setTop (mkF m 88 #[s0, s1, s2, s3, s4, s5, .val (.int i6), s7, .val (.int i8), s9, s10, s11, s12, s13, .val (.int i14), s15] [(.int (1 : Int32)), (.int i6)])) _
  refine XS.icmpYes X0.here hx rfl (pc0 := 88) (pc' := 99) rfl (hb hby at_88) rfl (flt hc88).2.2.2 (by decide) (by decide) ?_
  exact kt
set_option maxRecDepth 65536 in
set_option maxHeartbeats 40000000 in
theorem tn0_85_99_ft {p : Program} {l : Launch} {e : Env} {R : Room} {s : State} {m : MethodId} {args : Array Value} {below : List Frame} {meth : Method} {c : Code} {T0 : State} {locs : List Loc} {cells slots : Nat} {Z : State} {a0 : Array Value} {h0 : Heap} (s0 : Slot) (s1 : Slot) (s2 : Slot) (s3 : Slot) (s4 : Slot) (s5 : Slot) (i6 : Int32) (s7 : Slot) (i8 : Int32) (s9 : Slot) (s10 : Slot) (s11 : Slot) (s12 : Slot) (s13 : Slot) (i14 : Int32) (s15 : Slot)
    (X0 : Stand p l e R s m args below meth c T0 locs cells slots) (hx : p.tables.exec = Jvm.exec) (hZ : Z.Warmed39 s.vm) (hw : ∀ d ∈ tables_1, d.before a0 Z = true) (hby : c.code = code) (hml : c.maxLocals = 16) (hown : s.vm.findClass "com/example/votary/votary/MessageQueryTextPinLaw" = some m.cls) (e0 : T0.heap = h0) (hc88 : (1 : Int32) < i6) (hc93 : i8 = (0 : Int32)) :
    ∀ target, Steps p.tables e below (T0.setTop (mkF m 99 #[s0, s1, s2, s3, s4, s5, .val (.int i6), s7, .val (.int i8), s9, s10, s11, s12, s13, .val (.int i14), s15] [])) target → Steps p.tables e below (T0.setTop (mkF m 85 #[s0, s1, s2, s3, s4, s5, .val (.int i6), s7, .val (.int i8), s9, s10, s11, s12, s13, .val (.int i14), s15] [])) target := by

  intro target kt
  show Steps p.tables e below (T0.setTop (mkF m 85 #[s0, s1, s2, s3, s4, s5, .val (.int i6), s7, .val (.int i8), s9, s10, s11, s12, s13, .val (.int i14), s15] [])) _
  refine XS.iload X0.here hx rfl (hb hby at_85) rfl ?_
  show Steps p.tables e below (T0.setTop (mkF m 87 #[s0, s1, s2, s3, s4, s5, .val (.int i6), s7, .val (.int i8), s9, s10, s11, s12, s13, .val (.int i14), s15] [(.int i6)])) _
  refine XS.iconst X0.here hx rfl (hb hby at_87) ?_
  show Steps p.tables e below (T0.setTop (mkF m 88 #[s0, s1, s2, s3, s4, s5, .val (.int i6), s7, .val (.int i8), s9, s10, s11, s12, s13, .val (.int i14), s15] [(.int (1 : Int32)), (.int i6)])) _
  refine XS.icmpNo X0.here hx rfl (hb hby at_88) rfl (tlt hc88).2.2.2 ?_
  show Steps p.tables e below (T0.setTop (mkF m 91 #[s0, s1, s2, s3, s4, s5, .val (.int i6), s7, .val (.int i8), s9, s10, s11, s12, s13, .val (.int i14), s15] [])) _
  refine XS.iload X0.here hx rfl (hb hby at_91) rfl ?_
  show Steps p.tables e below (T0.setTop (mkF m 93 #[s0, s1, s2, s3, s4, s5, .val (.int i6), s7, .val (.int i8), s9, s10, s11, s12, s13, .val (.int i14), s15] [(.int i8)])) _
  refine XS.ifYes X0.here hx rfl (pc0 := 93) (pc' := 99) rfl (hb hby at_93) rfl ((if0 _ _).trans (teq hc93).1) (by decide) (by decide) ?_
  exact kt
set_option maxRecDepth 65536 in
set_option maxHeartbeats 40000000 in
theorem tn0_85_99_ff {p : Program} {l : Launch} {e : Env} {R : Room} {s : State} {m : MethodId} {args : Array Value} {below : List Frame} {meth : Method} {c : Code} {T0 : State} {locs : List Loc} {cells slots : Nat} {Z : State} {a0 : Array Value} {h0 : Heap} (s0 : Slot) (s1 : Slot) (s2 : Slot) (s3 : Slot) (s4 : Slot) (s5 : Slot) (i6 : Int32) (s7 : Slot) (i8 : Int32) (s9 : Slot) (s10 : Slot) (s11 : Slot) (s12 : Slot) (s13 : Slot) (i14 : Int32) (s15 : Slot)
    (X0 : Stand p l e R s m args below meth c T0 locs cells slots) (hx : p.tables.exec = Jvm.exec) (hZ : Z.Warmed39 s.vm) (hw : ∀ d ∈ tables_1, d.before a0 Z = true) (hby : c.code = code) (hml : c.maxLocals = 16) (hown : s.vm.findClass "com/example/votary/votary/MessageQueryTextPinLaw" = some m.cls) (e0 : T0.heap = h0) (hc88 : (1 : Int32) < i6) (hc93 : ¬ (i8 = (0 : Int32))) :
    ∀ target, Steps p.tables e below (T0.setTop (mkF m 99 #[s0, s1, s2, s3, s4, s5, .val (.int i6), s7, .val (.int i8), s9, s10, s11, s12, s13, .val (.int (2 : Int32)), s15] [])) target → Steps p.tables e below (T0.setTop (mkF m 85 #[s0, s1, s2, s3, s4, s5, .val (.int i6), s7, .val (.int i8), s9, s10, s11, s12, s13, .val (.int i14), s15] [])) target := by

  intro target kt
  show Steps p.tables e below (T0.setTop (mkF m 85 #[s0, s1, s2, s3, s4, s5, .val (.int i6), s7, .val (.int i8), s9, s10, s11, s12, s13, .val (.int i14), s15] [])) _
  refine XS.iload X0.here hx rfl (hb hby at_85) rfl ?_
  show Steps p.tables e below (T0.setTop (mkF m 87 #[s0, s1, s2, s3, s4, s5, .val (.int i6), s7, .val (.int i8), s9, s10, s11, s12, s13, .val (.int i14), s15] [(.int i6)])) _
  refine XS.iconst X0.here hx rfl (hb hby at_87) ?_
  show Steps p.tables e below (T0.setTop (mkF m 88 #[s0, s1, s2, s3, s4, s5, .val (.int i6), s7, .val (.int i8), s9, s10, s11, s12, s13, .val (.int i14), s15] [(.int (1 : Int32)), (.int i6)])) _
  refine XS.icmpNo X0.here hx rfl (hb hby at_88) rfl (tlt hc88).2.2.2 ?_
  show Steps p.tables e below (T0.setTop (mkF m 91 #[s0, s1, s2, s3, s4, s5, .val (.int i6), s7, .val (.int i8), s9, s10, s11, s12, s13, .val (.int i14), s15] [])) _
  refine XS.iload X0.here hx rfl (hb hby at_91) rfl ?_
  show Steps p.tables e below (T0.setTop (mkF m 93 #[s0, s1, s2, s3, s4, s5, .val (.int i6), s7, .val (.int i8), s9, s10, s11, s12, s13, .val (.int i14), s15] [(.int i8)])) _
  refine XS.ifNo X0.here hx rfl (hb hby at_93) rfl ((if0 _ _).trans (feq hc93).1) ?_
  show Steps p.tables e below (T0.setTop (mkF m 96 #[s0, s1, s2, s3, s4, s5, .val (.int i6), s7, .val (.int i8), s9, s10, s11, s12, s13, .val (.int i14), s15] [])) _
  refine XS.iconst X0.here hx rfl (hb hby at_96) ?_
  show Steps p.tables e below (T0.setTop (mkF m 97 #[s0, s1, s2, s3, s4, s5, .val (.int i6), s7, .val (.int i8), s9, s10, s11, s12, s13, .val (.int i14), s15] [(.int (2 : Int32))])) _
  refine XS.istore X0.here hx rfl (hb hby at_97) rfl (l' := #[s0, s1, s2, s3, s4, s5, .val (.int i6), s7, .val (.int i8), s9, s10, s11, s12, s13, .val (.int (2 : Int32)), s15]) rfl ?_
  exact kt
theorem blkB_1 {p : Program} {l : Launch} {e : Env} {R : Room} {s : State} {m : MethodId} {args : Array Value} {below : List Frame} {meth : Method} {c : Code} {T0 : State} {locs : List Loc} {cells slots : Nat} {Z : State} {a0 : Array Value} {h0 : Heap} (s0 : Slot) (s1 : Slot) (s2 : Slot) (s3 : Slot) (s4 : Slot) (s5 : Slot) (i6 : Int32) (s7 : Slot) (i8 : Int32) (s9 : Slot) (s10 : Slot) (s11 : Slot) (s12 : Slot) (s13 : Slot) (i14 : Int32) (s15 : Slot)
    (X0 : Stand p l e R s m args below meth c T0 locs cells slots) (hx : p.tables.exec = Jvm.exec) (hZ : Z.Warmed39 s.vm) (hw : ∀ d ∈ tables_1, d.before a0 Z = true) (hby : c.code = code) (hml : c.maxLocals = 16) (hown : s.vm.findClass "com/example/votary/votary/MessageQueryTextPinLaw" = some m.cls) (e0 : T0.heap = h0) :
    ∀ target, Steps p.tables e below (T0.setTop (mkF m 99 #[s0, s1, s2, s3, s4, s5, .val (.int i6), s7, .val (.int i8), s9, s10, s11, s12, s13, .val (.int (stp 1 2 i6 i8 i14)), s15] [])) target → Steps p.tables e below (T0.setTop (mkF m 85 #[s0, s1, s2, s3, s4, s5, .val (.int i6), s7, .val (.int i8), s9, s10, s11, s12, s13, .val (.int i14), s15] [])) target := by
  by_cases g : (1 : Int32) < i6
  · by_cases k : i8 = (0 : Int32)
    · rw [show stp 1 2 i6 i8 i14 = i14 from if_neg fun q => q.2 k]
      exact tn0_85_99_ft s0 s1 s2 s3 s4 s5 i6 s7 i8 s9 s10 s11 s12 s13 i14 s15 X0 hx hZ hw hby hml hown e0 g k
    · rw [show stp 1 2 i6 i8 i14 = 2 from if_pos ⟨g, k⟩]
      exact tn0_85_99_ff s0 s1 s2 s3 s4 s5 i6 s7 i8 s9 s10 s11 s12 s13 i14 s15 X0 hx hZ hw hby hml hown e0 g k
  · rw [show stp 1 2 i6 i8 i14 = i14 from if_neg fun q => g q.1]
    exact tn0_85_99_t s0 s1 s2 s3 s4 s5 i6 s7 i8 s9 s10 s11 s12 s13 i14 s15 X0 hx hZ hw hby hml hown e0 g
set_option maxRecDepth 65536 in
set_option maxHeartbeats 40000000 in
theorem tn0_99_113_t {p : Program} {l : Launch} {e : Env} {R : Room} {s : State} {m : MethodId} {args : Array Value} {below : List Frame} {meth : Method} {c : Code} {T0 : State} {locs : List Loc} {cells slots : Nat} {Z : State} {a0 : Array Value} {h0 : Heap} (s0 : Slot) (s1 : Slot) (s2 : Slot) (s3 : Slot) (s4 : Slot) (s5 : Slot) (i6 : Int32) (s7 : Slot) (s8 : Slot) (i9 : Int32) (s10 : Slot) (s11 : Slot) (s12 : Slot) (s13 : Slot) (i14 : Int32) (s15 : Slot)
    (X0 : Stand p l e R s m args below meth c T0 locs cells slots) (hx : p.tables.exec = Jvm.exec) (hZ : Z.Warmed39 s.vm) (hw : ∀ d ∈ tables_1, d.before a0 Z = true) (hby : c.code = code) (hml : c.maxLocals = 16) (hown : s.vm.findClass "com/example/votary/votary/MessageQueryTextPinLaw" = some m.cls) (e0 : T0.heap = h0) (hc102 : ¬ ((2 : Int32) < i6)) :
    ∀ target, Steps p.tables e below (T0.setTop (mkF m 113 #[s0, s1, s2, s3, s4, s5, .val (.int i6), s7, s8, .val (.int i9), s10, s11, s12, s13, .val (.int i14), s15] [])) target → Steps p.tables e below (T0.setTop (mkF m 99 #[s0, s1, s2, s3, s4, s5, .val (.int i6), s7, s8, .val (.int i9), s10, s11, s12, s13, .val (.int i14), s15] [])) target := by

  intro target kt
  show Steps p.tables e below (T0.setTop (mkF m 99 #[s0, s1, s2, s3, s4, s5, .val (.int i6), s7, s8, .val (.int i9), s10, s11, s12, s13, .val (.int i14), s15] [])) _
  refine XS.iload X0.here hx rfl (hb hby at_99) rfl ?_
  show Steps p.tables e below (T0.setTop (mkF m 101 #[s0, s1, s2, s3, s4, s5, .val (.int i6), s7, s8, .val (.int i9), s10, s11, s12, s13, .val (.int i14), s15] [(.int i6)])) _
  refine XS.iconst X0.here hx rfl (hb hby at_101) ?_
  show Steps p.tables e below (T0.setTop (mkF m 102 #[s0, s1, s2, s3, s4, s5, .val (.int i6), s7, s8, .val (.int i9), s10, s11, s12, s13, .val (.int i14), s15] [(.int (2 : Int32)), (.int i6)])) _
  refine XS.icmpYes X0.here hx rfl (pc0 := 102) (pc' := 113) rfl (hb hby at_102) rfl (flt hc102).2.2.2 (by decide) (by decide) ?_
  exact kt
set_option maxRecDepth 65536 in
set_option maxHeartbeats 40000000 in
theorem tn0_99_113_ft {p : Program} {l : Launch} {e : Env} {R : Room} {s : State} {m : MethodId} {args : Array Value} {below : List Frame} {meth : Method} {c : Code} {T0 : State} {locs : List Loc} {cells slots : Nat} {Z : State} {a0 : Array Value} {h0 : Heap} (s0 : Slot) (s1 : Slot) (s2 : Slot) (s3 : Slot) (s4 : Slot) (s5 : Slot) (i6 : Int32) (s7 : Slot) (s8 : Slot) (i9 : Int32) (s10 : Slot) (s11 : Slot) (s12 : Slot) (s13 : Slot) (i14 : Int32) (s15 : Slot)
    (X0 : Stand p l e R s m args below meth c T0 locs cells slots) (hx : p.tables.exec = Jvm.exec) (hZ : Z.Warmed39 s.vm) (hw : ∀ d ∈ tables_1, d.before a0 Z = true) (hby : c.code = code) (hml : c.maxLocals = 16) (hown : s.vm.findClass "com/example/votary/votary/MessageQueryTextPinLaw" = some m.cls) (e0 : T0.heap = h0) (hc102 : (2 : Int32) < i6) (hc107 : i9 = (0 : Int32)) :
    ∀ target, Steps p.tables e below (T0.setTop (mkF m 113 #[s0, s1, s2, s3, s4, s5, .val (.int i6), s7, s8, .val (.int i9), s10, s11, s12, s13, .val (.int i14), s15] [])) target → Steps p.tables e below (T0.setTop (mkF m 99 #[s0, s1, s2, s3, s4, s5, .val (.int i6), s7, s8, .val (.int i9), s10, s11, s12, s13, .val (.int i14), s15] [])) target := by

  intro target kt
  show Steps p.tables e below (T0.setTop (mkF m 99 #[s0, s1, s2, s3, s4, s5, .val (.int i6), s7, s8, .val (.int i9), s10, s11, s12, s13, .val (.int i14), s15] [])) _
  refine XS.iload X0.here hx rfl (hb hby at_99) rfl ?_
  show Steps p.tables e below (T0.setTop (mkF m 101 #[s0, s1, s2, s3, s4, s5, .val (.int i6), s7, s8, .val (.int i9), s10, s11, s12, s13, .val (.int i14), s15] [(.int i6)])) _
  refine XS.iconst X0.here hx rfl (hb hby at_101) ?_
  show Steps p.tables e below (T0.setTop (mkF m 102 #[s0, s1, s2, s3, s4, s5, .val (.int i6), s7, s8, .val (.int i9), s10, s11, s12, s13, .val (.int i14), s15] [(.int (2 : Int32)), (.int i6)])) _
  refine XS.icmpNo X0.here hx rfl (hb hby at_102) rfl (tlt hc102).2.2.2 ?_
  show Steps p.tables e below (T0.setTop (mkF m 105 #[s0, s1, s2, s3, s4, s5, .val (.int i6), s7, s8, .val (.int i9), s10, s11, s12, s13, .val (.int i14), s15] [])) _
  refine XS.iload X0.here hx rfl (hb hby at_105) rfl ?_
  show Steps p.tables e below (T0.setTop (mkF m 107 #[s0, s1, s2, s3, s4, s5, .val (.int i6), s7, s8, .val (.int i9), s10, s11, s12, s13, .val (.int i14), s15] [(.int i9)])) _
  refine XS.ifYes X0.here hx rfl (pc0 := 107) (pc' := 113) rfl (hb hby at_107) rfl ((if0 _ _).trans (teq hc107).1) (by decide) (by decide) ?_
  exact kt
set_option maxRecDepth 65536 in
set_option maxHeartbeats 40000000 in
theorem tn0_99_113_ff {p : Program} {l : Launch} {e : Env} {R : Room} {s : State} {m : MethodId} {args : Array Value} {below : List Frame} {meth : Method} {c : Code} {T0 : State} {locs : List Loc} {cells slots : Nat} {Z : State} {a0 : Array Value} {h0 : Heap} (s0 : Slot) (s1 : Slot) (s2 : Slot) (s3 : Slot) (s4 : Slot) (s5 : Slot) (i6 : Int32) (s7 : Slot) (s8 : Slot) (i9 : Int32) (s10 : Slot) (s11 : Slot) (s12 : Slot) (s13 : Slot) (i14 : Int32) (s15 : Slot)
    (X0 : Stand p l e R s m args below meth c T0 locs cells slots) (hx : p.tables.exec = Jvm.exec) (hZ : Z.Warmed39 s.vm) (hw : ∀ d ∈ tables_1, d.before a0 Z = true) (hby : c.code = code) (hml : c.maxLocals = 16) (hown : s.vm.findClass "com/example/votary/votary/MessageQueryTextPinLaw" = some m.cls) (e0 : T0.heap = h0) (hc102 : (2 : Int32) < i6) (hc107 : ¬ (i9 = (0 : Int32))) :
    ∀ target, Steps p.tables e below (T0.setTop (mkF m 113 #[s0, s1, s2, s3, s4, s5, .val (.int i6), s7, s8, .val (.int i9), s10, s11, s12, s13, .val (.int (3 : Int32)), s15] [])) target → Steps p.tables e below (T0.setTop (mkF m 99 #[s0, s1, s2, s3, s4, s5, .val (.int i6), s7, s8, .val (.int i9), s10, s11, s12, s13, .val (.int i14), s15] [])) target := by

  intro target kt
  show Steps p.tables e below (T0.setTop (mkF m 99 #[s0, s1, s2, s3, s4, s5, .val (.int i6), s7, s8, .val (.int i9), s10, s11, s12, s13, .val (.int i14), s15] [])) _
  refine XS.iload X0.here hx rfl (hb hby at_99) rfl ?_
  show Steps p.tables e below (T0.setTop (mkF m 101 #[s0, s1, s2, s3, s4, s5, .val (.int i6), s7, s8, .val (.int i9), s10, s11, s12, s13, .val (.int i14), s15] [(.int i6)])) _
  refine XS.iconst X0.here hx rfl (hb hby at_101) ?_
  show Steps p.tables e below (T0.setTop (mkF m 102 #[s0, s1, s2, s3, s4, s5, .val (.int i6), s7, s8, .val (.int i9), s10, s11, s12, s13, .val (.int i14), s15] [(.int (2 : Int32)), (.int i6)])) _
  refine XS.icmpNo X0.here hx rfl (hb hby at_102) rfl (tlt hc102).2.2.2 ?_
  show Steps p.tables e below (T0.setTop (mkF m 105 #[s0, s1, s2, s3, s4, s5, .val (.int i6), s7, s8, .val (.int i9), s10, s11, s12, s13, .val (.int i14), s15] [])) _
  refine XS.iload X0.here hx rfl (hb hby at_105) rfl ?_
  show Steps p.tables e below (T0.setTop (mkF m 107 #[s0, s1, s2, s3, s4, s5, .val (.int i6), s7, s8, .val (.int i9), s10, s11, s12, s13, .val (.int i14), s15] [(.int i9)])) _
  refine XS.ifNo X0.here hx rfl (hb hby at_107) rfl ((if0 _ _).trans (feq hc107).1) ?_
  show Steps p.tables e below (T0.setTop (mkF m 110 #[s0, s1, s2, s3, s4, s5, .val (.int i6), s7, s8, .val (.int i9), s10, s11, s12, s13, .val (.int i14), s15] [])) _
  refine XS.iconst X0.here hx rfl (hb hby at_110) ?_
  show Steps p.tables e below (T0.setTop (mkF m 111 #[s0, s1, s2, s3, s4, s5, .val (.int i6), s7, s8, .val (.int i9), s10, s11, s12, s13, .val (.int i14), s15] [(.int (3 : Int32))])) _
  refine XS.istore X0.here hx rfl (hb hby at_111) rfl (l' := #[s0, s1, s2, s3, s4, s5, .val (.int i6), s7, s8, .val (.int i9), s10, s11, s12, s13, .val (.int (3 : Int32)), s15]) rfl ?_
  exact kt
theorem blkB_2 {p : Program} {l : Launch} {e : Env} {R : Room} {s : State} {m : MethodId} {args : Array Value} {below : List Frame} {meth : Method} {c : Code} {T0 : State} {locs : List Loc} {cells slots : Nat} {Z : State} {a0 : Array Value} {h0 : Heap} (s0 : Slot) (s1 : Slot) (s2 : Slot) (s3 : Slot) (s4 : Slot) (s5 : Slot) (i6 : Int32) (s7 : Slot) (s8 : Slot) (i9 : Int32) (s10 : Slot) (s11 : Slot) (s12 : Slot) (s13 : Slot) (i14 : Int32) (s15 : Slot)
    (X0 : Stand p l e R s m args below meth c T0 locs cells slots) (hx : p.tables.exec = Jvm.exec) (hZ : Z.Warmed39 s.vm) (hw : ∀ d ∈ tables_1, d.before a0 Z = true) (hby : c.code = code) (hml : c.maxLocals = 16) (hown : s.vm.findClass "com/example/votary/votary/MessageQueryTextPinLaw" = some m.cls) (e0 : T0.heap = h0) :
    ∀ target, Steps p.tables e below (T0.setTop (mkF m 113 #[s0, s1, s2, s3, s4, s5, .val (.int i6), s7, s8, .val (.int i9), s10, s11, s12, s13, .val (.int (stp 2 3 i6 i9 i14)), s15] [])) target → Steps p.tables e below (T0.setTop (mkF m 99 #[s0, s1, s2, s3, s4, s5, .val (.int i6), s7, s8, .val (.int i9), s10, s11, s12, s13, .val (.int i14), s15] [])) target := by
  by_cases g : (2 : Int32) < i6
  · by_cases k : i9 = (0 : Int32)
    · rw [show stp 2 3 i6 i9 i14 = i14 from if_neg fun q => q.2 k]
      exact tn0_99_113_ft s0 s1 s2 s3 s4 s5 i6 s7 s8 i9 s10 s11 s12 s13 i14 s15 X0 hx hZ hw hby hml hown e0 g k
    · rw [show stp 2 3 i6 i9 i14 = 3 from if_pos ⟨g, k⟩]
      exact tn0_99_113_ff s0 s1 s2 s3 s4 s5 i6 s7 s8 i9 s10 s11 s12 s13 i14 s15 X0 hx hZ hw hby hml hown e0 g k
  · rw [show stp 2 3 i6 i9 i14 = i14 from if_neg fun q => g q.1]
    exact tn0_99_113_t s0 s1 s2 s3 s4 s5 i6 s7 s8 i9 s10 s11 s12 s13 i14 s15 X0 hx hZ hw hby hml hown e0 g
set_option maxRecDepth 65536 in
set_option maxHeartbeats 40000000 in
theorem tn0_113_127_t {p : Program} {l : Launch} {e : Env} {R : Room} {s : State} {m : MethodId} {args : Array Value} {below : List Frame} {meth : Method} {c : Code} {T0 : State} {locs : List Loc} {cells slots : Nat} {Z : State} {a0 : Array Value} {h0 : Heap} (s0 : Slot) (s1 : Slot) (s2 : Slot) (s3 : Slot) (s4 : Slot) (s5 : Slot) (i6 : Int32) (s7 : Slot) (s8 : Slot) (s9 : Slot) (i10 : Int32) (s11 : Slot) (s12 : Slot) (s13 : Slot) (i14 : Int32) (s15 : Slot)
    (X0 : Stand p l e R s m args below meth c T0 locs cells slots) (hx : p.tables.exec = Jvm.exec) (hZ : Z.Warmed39 s.vm) (hw : ∀ d ∈ tables_1, d.before a0 Z = true) (hby : c.code = code) (hml : c.maxLocals = 16) (hown : s.vm.findClass "com/example/votary/votary/MessageQueryTextPinLaw" = some m.cls) (e0 : T0.heap = h0) (hc116 : ¬ ((3 : Int32) < i6)) :
    ∀ target, Steps p.tables e below (T0.setTop (mkF m 127 #[s0, s1, s2, s3, s4, s5, .val (.int i6), s7, s8, s9, .val (.int i10), s11, s12, s13, .val (.int i14), s15] [])) target → Steps p.tables e below (T0.setTop (mkF m 113 #[s0, s1, s2, s3, s4, s5, .val (.int i6), s7, s8, s9, .val (.int i10), s11, s12, s13, .val (.int i14), s15] [])) target := by

  intro target kt
  show Steps p.tables e below (T0.setTop (mkF m 113 #[s0, s1, s2, s3, s4, s5, .val (.int i6), s7, s8, s9, .val (.int i10), s11, s12, s13, .val (.int i14), s15] [])) _
  refine XS.iload X0.here hx rfl (hb hby at_113) rfl ?_
  show Steps p.tables e below (T0.setTop (mkF m 115 #[s0, s1, s2, s3, s4, s5, .val (.int i6), s7, s8, s9, .val (.int i10), s11, s12, s13, .val (.int i14), s15] [(.int i6)])) _
  refine XS.iconst X0.here hx rfl (hb hby at_115) ?_
  show Steps p.tables e below (T0.setTop (mkF m 116 #[s0, s1, s2, s3, s4, s5, .val (.int i6), s7, s8, s9, .val (.int i10), s11, s12, s13, .val (.int i14), s15] [(.int (3 : Int32)), (.int i6)])) _
  refine XS.icmpYes X0.here hx rfl (pc0 := 116) (pc' := 127) rfl (hb hby at_116) rfl (flt hc116).2.2.2 (by decide) (by decide) ?_
  exact kt
set_option maxRecDepth 65536 in
set_option maxHeartbeats 40000000 in
theorem tn0_113_127_ft {p : Program} {l : Launch} {e : Env} {R : Room} {s : State} {m : MethodId} {args : Array Value} {below : List Frame} {meth : Method} {c : Code} {T0 : State} {locs : List Loc} {cells slots : Nat} {Z : State} {a0 : Array Value} {h0 : Heap} (s0 : Slot) (s1 : Slot) (s2 : Slot) (s3 : Slot) (s4 : Slot) (s5 : Slot) (i6 : Int32) (s7 : Slot) (s8 : Slot) (s9 : Slot) (i10 : Int32) (s11 : Slot) (s12 : Slot) (s13 : Slot) (i14 : Int32) (s15 : Slot)
    (X0 : Stand p l e R s m args below meth c T0 locs cells slots) (hx : p.tables.exec = Jvm.exec) (hZ : Z.Warmed39 s.vm) (hw : ∀ d ∈ tables_1, d.before a0 Z = true) (hby : c.code = code) (hml : c.maxLocals = 16) (hown : s.vm.findClass "com/example/votary/votary/MessageQueryTextPinLaw" = some m.cls) (e0 : T0.heap = h0) (hc116 : (3 : Int32) < i6) (hc121 : i10 = (0 : Int32)) :
    ∀ target, Steps p.tables e below (T0.setTop (mkF m 127 #[s0, s1, s2, s3, s4, s5, .val (.int i6), s7, s8, s9, .val (.int i10), s11, s12, s13, .val (.int i14), s15] [])) target → Steps p.tables e below (T0.setTop (mkF m 113 #[s0, s1, s2, s3, s4, s5, .val (.int i6), s7, s8, s9, .val (.int i10), s11, s12, s13, .val (.int i14), s15] [])) target := by

  intro target kt
  show Steps p.tables e below (T0.setTop (mkF m 113 #[s0, s1, s2, s3, s4, s5, .val (.int i6), s7, s8, s9, .val (.int i10), s11, s12, s13, .val (.int i14), s15] [])) _
  refine XS.iload X0.here hx rfl (hb hby at_113) rfl ?_
  show Steps p.tables e below (T0.setTop (mkF m 115 #[s0, s1, s2, s3, s4, s5, .val (.int i6), s7, s8, s9, .val (.int i10), s11, s12, s13, .val (.int i14), s15] [(.int i6)])) _
  refine XS.iconst X0.here hx rfl (hb hby at_115) ?_
  show Steps p.tables e below (T0.setTop (mkF m 116 #[s0, s1, s2, s3, s4, s5, .val (.int i6), s7, s8, s9, .val (.int i10), s11, s12, s13, .val (.int i14), s15] [(.int (3 : Int32)), (.int i6)])) _
  refine XS.icmpNo X0.here hx rfl (hb hby at_116) rfl (tlt hc116).2.2.2 ?_
  show Steps p.tables e below (T0.setTop (mkF m 119 #[s0, s1, s2, s3, s4, s5, .val (.int i6), s7, s8, s9, .val (.int i10), s11, s12, s13, .val (.int i14), s15] [])) _
  refine XS.iload X0.here hx rfl (hb hby at_119) rfl ?_
  show Steps p.tables e below (T0.setTop (mkF m 121 #[s0, s1, s2, s3, s4, s5, .val (.int i6), s7, s8, s9, .val (.int i10), s11, s12, s13, .val (.int i14), s15] [(.int i10)])) _
  refine XS.ifYes X0.here hx rfl (pc0 := 121) (pc' := 127) rfl (hb hby at_121) rfl ((if0 _ _).trans (teq hc121).1) (by decide) (by decide) ?_
  exact kt
set_option maxRecDepth 65536 in
set_option maxHeartbeats 40000000 in
theorem tn0_113_127_ff {p : Program} {l : Launch} {e : Env} {R : Room} {s : State} {m : MethodId} {args : Array Value} {below : List Frame} {meth : Method} {c : Code} {T0 : State} {locs : List Loc} {cells slots : Nat} {Z : State} {a0 : Array Value} {h0 : Heap} (s0 : Slot) (s1 : Slot) (s2 : Slot) (s3 : Slot) (s4 : Slot) (s5 : Slot) (i6 : Int32) (s7 : Slot) (s8 : Slot) (s9 : Slot) (i10 : Int32) (s11 : Slot) (s12 : Slot) (s13 : Slot) (i14 : Int32) (s15 : Slot)
    (X0 : Stand p l e R s m args below meth c T0 locs cells slots) (hx : p.tables.exec = Jvm.exec) (hZ : Z.Warmed39 s.vm) (hw : ∀ d ∈ tables_1, d.before a0 Z = true) (hby : c.code = code) (hml : c.maxLocals = 16) (hown : s.vm.findClass "com/example/votary/votary/MessageQueryTextPinLaw" = some m.cls) (e0 : T0.heap = h0) (hc116 : (3 : Int32) < i6) (hc121 : ¬ (i10 = (0 : Int32))) :
    ∀ target, Steps p.tables e below (T0.setTop (mkF m 127 #[s0, s1, s2, s3, s4, s5, .val (.int i6), s7, s8, s9, .val (.int i10), s11, s12, s13, .val (.int (4 : Int32)), s15] [])) target → Steps p.tables e below (T0.setTop (mkF m 113 #[s0, s1, s2, s3, s4, s5, .val (.int i6), s7, s8, s9, .val (.int i10), s11, s12, s13, .val (.int i14), s15] [])) target := by

  intro target kt
  show Steps p.tables e below (T0.setTop (mkF m 113 #[s0, s1, s2, s3, s4, s5, .val (.int i6), s7, s8, s9, .val (.int i10), s11, s12, s13, .val (.int i14), s15] [])) _
  refine XS.iload X0.here hx rfl (hb hby at_113) rfl ?_
  show Steps p.tables e below (T0.setTop (mkF m 115 #[s0, s1, s2, s3, s4, s5, .val (.int i6), s7, s8, s9, .val (.int i10), s11, s12, s13, .val (.int i14), s15] [(.int i6)])) _
  refine XS.iconst X0.here hx rfl (hb hby at_115) ?_
  show Steps p.tables e below (T0.setTop (mkF m 116 #[s0, s1, s2, s3, s4, s5, .val (.int i6), s7, s8, s9, .val (.int i10), s11, s12, s13, .val (.int i14), s15] [(.int (3 : Int32)), (.int i6)])) _
  refine XS.icmpNo X0.here hx rfl (hb hby at_116) rfl (tlt hc116).2.2.2 ?_
  show Steps p.tables e below (T0.setTop (mkF m 119 #[s0, s1, s2, s3, s4, s5, .val (.int i6), s7, s8, s9, .val (.int i10), s11, s12, s13, .val (.int i14), s15] [])) _
  refine XS.iload X0.here hx rfl (hb hby at_119) rfl ?_
  show Steps p.tables e below (T0.setTop (mkF m 121 #[s0, s1, s2, s3, s4, s5, .val (.int i6), s7, s8, s9, .val (.int i10), s11, s12, s13, .val (.int i14), s15] [(.int i10)])) _
  refine XS.ifNo X0.here hx rfl (hb hby at_121) rfl ((if0 _ _).trans (feq hc121).1) ?_
  show Steps p.tables e below (T0.setTop (mkF m 124 #[s0, s1, s2, s3, s4, s5, .val (.int i6), s7, s8, s9, .val (.int i10), s11, s12, s13, .val (.int i14), s15] [])) _
  refine XS.iconst X0.here hx rfl (hb hby at_124) ?_
  show Steps p.tables e below (T0.setTop (mkF m 125 #[s0, s1, s2, s3, s4, s5, .val (.int i6), s7, s8, s9, .val (.int i10), s11, s12, s13, .val (.int i14), s15] [(.int (4 : Int32))])) _
  refine XS.istore X0.here hx rfl (hb hby at_125) rfl (l' := #[s0, s1, s2, s3, s4, s5, .val (.int i6), s7, s8, s9, .val (.int i10), s11, s12, s13, .val (.int (4 : Int32)), s15]) rfl ?_
  exact kt
theorem blkB_3 {p : Program} {l : Launch} {e : Env} {R : Room} {s : State} {m : MethodId} {args : Array Value} {below : List Frame} {meth : Method} {c : Code} {T0 : State} {locs : List Loc} {cells slots : Nat} {Z : State} {a0 : Array Value} {h0 : Heap} (s0 : Slot) (s1 : Slot) (s2 : Slot) (s3 : Slot) (s4 : Slot) (s5 : Slot) (i6 : Int32) (s7 : Slot) (s8 : Slot) (s9 : Slot) (i10 : Int32) (s11 : Slot) (s12 : Slot) (s13 : Slot) (i14 : Int32) (s15 : Slot)
    (X0 : Stand p l e R s m args below meth c T0 locs cells slots) (hx : p.tables.exec = Jvm.exec) (hZ : Z.Warmed39 s.vm) (hw : ∀ d ∈ tables_1, d.before a0 Z = true) (hby : c.code = code) (hml : c.maxLocals = 16) (hown : s.vm.findClass "com/example/votary/votary/MessageQueryTextPinLaw" = some m.cls) (e0 : T0.heap = h0) :
    ∀ target, Steps p.tables e below (T0.setTop (mkF m 127 #[s0, s1, s2, s3, s4, s5, .val (.int i6), s7, s8, s9, .val (.int i10), s11, s12, s13, .val (.int (stp 3 4 i6 i10 i14)), s15] [])) target → Steps p.tables e below (T0.setTop (mkF m 113 #[s0, s1, s2, s3, s4, s5, .val (.int i6), s7, s8, s9, .val (.int i10), s11, s12, s13, .val (.int i14), s15] [])) target := by
  by_cases g : (3 : Int32) < i6
  · by_cases k : i10 = (0 : Int32)
    · rw [show stp 3 4 i6 i10 i14 = i14 from if_neg fun q => q.2 k]
      exact tn0_113_127_ft s0 s1 s2 s3 s4 s5 i6 s7 s8 s9 i10 s11 s12 s13 i14 s15 X0 hx hZ hw hby hml hown e0 g k
    · rw [show stp 3 4 i6 i10 i14 = 4 from if_pos ⟨g, k⟩]
      exact tn0_113_127_ff s0 s1 s2 s3 s4 s5 i6 s7 s8 s9 i10 s11 s12 s13 i14 s15 X0 hx hZ hw hby hml hown e0 g k
  · rw [show stp 3 4 i6 i10 i14 = i14 from if_neg fun q => g q.1]
    exact tn0_113_127_t s0 s1 s2 s3 s4 s5 i6 s7 s8 s9 i10 s11 s12 s13 i14 s15 X0 hx hZ hw hby hml hown e0 g
set_option maxRecDepth 65536 in
set_option maxHeartbeats 40000000 in
theorem tn0_142_158_t {p : Program} {l : Launch} {e : Env} {R : Room} {s : State} {m : MethodId} {args : Array Value} {below : List Frame} {meth : Method} {c : Code} {T0 : State} {locs : List Loc} {cells slots : Nat} {Z : State} {a0 : Array Value} {h0 : Heap} (s0 : Slot) (s1 : Slot) (s2 : Slot) (s3 : Slot) (s4 : Slot) (s5 : Slot) (s6 : Slot) (i7 : Int32) (s8 : Slot) (s9 : Slot) (s10 : Slot) (s11 : Slot) (s12 : Slot) (o13 : Addr) (i14 : Int32) (s15 : Slot)
    (X0 : Stand p l e R s m args below meth c T0 locs cells slots) (hx : p.tables.exec = Jvm.exec) (hZ : Z.Warmed39 s.vm) (hw : ∀ d ∈ tables_1, d.before a0 Z = true) (hby : c.code = code) (hml : c.maxLocals = 16) (hown : s.vm.findClass "com/example/votary/votary/MessageQueryTextPinLaw" = some m.cls) (e0 : T0.heap = h0) (hc144 : ¬ ((0 : Int32) < i14)) :
    ∀ target, Steps p.tables e below (T0.setTop (mkF m 158 #[s0, s1, s2, s3, s4, s5, s6, .val (.int i7), s8, s9, s10, s11, s12, .val (.ref o13), .val (.int i14), s15] [])) target → Steps p.tables e below (T0.setTop (mkF m 142 #[s0, s1, s2, s3, s4, s5, s6, .val (.int i7), s8, s9, s10, s11, s12, .val (.ref o13), .val (.int i14), s15] [])) target := by

  intro target kt
  show Steps p.tables e below (T0.setTop (mkF m 142 #[s0, s1, s2, s3, s4, s5, s6, .val (.int i7), s8, s9, s10, s11, s12, .val (.ref o13), .val (.int i14), s15] [])) _
  refine XS.iload X0.here hx rfl (hb hby at_142) rfl ?_
  show Steps p.tables e below (T0.setTop (mkF m 144 #[s0, s1, s2, s3, s4, s5, s6, .val (.int i7), s8, s9, s10, s11, s12, .val (.ref o13), .val (.int i14), s15] [(.int i14)])) _
  refine XS.ifYes X0.here hx rfl (pc0 := 144) (pc' := 158) rfl (hb hby at_144) rfl ((if0 _ _).trans (flt hc144).2.2.2) (by decide) (by decide) ?_
  exact kt
set_option maxRecDepth 65536 in
set_option maxHeartbeats 40000000 in
theorem tn0_142_158_ft {p : Program} {l : Launch} {e : Env} {R : Room} {s : State} {m : MethodId} {args : Array Value} {below : List Frame} {meth : Method} {c : Code} {T0 : State} {locs : List Loc} {cells slots : Nat} {Z : State} {a0 : Array Value} {h0 : Heap} (s0 : Slot) (s1 : Slot) (s2 : Slot) (s3 : Slot) (s4 : Slot) (s5 : Slot) (s6 : Slot) (i7 : Int32) (s8 : Slot) (s9 : Slot) (s10 : Slot) (s11 : Slot) (s12 : Slot) (o13 : Addr) (i14 : Int32) (s15 : Slot) (w7 : Int32) (cl_o13 : Cell)
    (X0 : Stand p l e R s m args below meth c T0 locs cells slots) (hx : p.tables.exec = Jvm.exec) (hZ : Z.Warmed39 s.vm) (hw : ∀ d ∈ tables_1, d.before a0 Z = true) (hby : c.code = code) (hml : c.maxLocals = 16) (hown : s.vm.findClass "com/example/votary/votary/MessageQueryTextPinLaw" = some m.cls) (e0 : T0.heap = h0) (Ar_o13 : Arr Z h0 o13 cl_o13 .byte) (hin150 : ¬ ((0 : Int32) < 0 ∨ cl_o13.slots.size ≤ ((0 : Int32)).toNatClampNeg)) (hat150 : cl_o13.slots[((0 : Int32)).toNatClampNeg]? = some (.int w7)) (hc144 : (0 : Int32) < i14) (hc153 : w7 = i7) :
    ∀ target, Steps p.tables e below (T0.setTop (mkF m 158 #[s0, s1, s2, s3, s4, s5, s6, .val (.int i7), s8, s9, s10, s11, s12, .val (.ref o13), .val (.int i14), s15] [])) target → Steps p.tables e below (T0.setTop (mkF m 142 #[s0, s1, s2, s3, s4, s5, s6, .val (.int i7), s8, s9, s10, s11, s12, .val (.ref o13), .val (.int i14), s15] [])) target := by

  intro target kt
  show Steps p.tables e below (T0.setTop (mkF m 142 #[s0, s1, s2, s3, s4, s5, s6, .val (.int i7), s8, s9, s10, s11, s12, .val (.ref o13), .val (.int i14), s15] [])) _
  refine XS.iload X0.here hx rfl (hb hby at_142) rfl ?_
  show Steps p.tables e below (T0.setTop (mkF m 144 #[s0, s1, s2, s3, s4, s5, s6, .val (.int i7), s8, s9, s10, s11, s12, .val (.ref o13), .val (.int i14), s15] [(.int i14)])) _
  refine XS.ifNo X0.here hx rfl (hb hby at_144) rfl ((if0 _ _).trans (tlt hc144).2.2.2) ?_
  show Steps p.tables e below (T0.setTop (mkF m 147 #[s0, s1, s2, s3, s4, s5, s6, .val (.int i7), s8, s9, s10, s11, s12, .val (.ref o13), .val (.int i14), s15] [])) _
  refine XS.aload X0.here hx rfl (hb hby at_147) rfl rfl ?_
  show Steps p.tables e below (T0.setTop (mkF m 149 #[s0, s1, s2, s3, s4, s5, s6, .val (.int i7), s8, s9, s10, s11, s12, .val (.ref o13), .val (.int i14), s15] [(.ref o13)])) _
  refine XS.iconst X0.here hx rfl (hb hby at_149) ?_
  show Steps p.tables e below (T0.setTop (mkF m 150 #[s0, s1, s2, s3, s4, s5, s6, .val (.int i7), s8, s9, s10, s11, s12, .val (.ref o13), .val (.int i14), s15] [(.int (0 : Int32)), (.ref o13)])) _
  refine X0.baloadBytes hx (j := (0 : Int32)) (v := (.int w7)) (by rw [e0]; exact Ar_o13.1) (State.isArrayOf_alike hZ.alike Ar_o13.2.1) Ar_o13.2.2 hin150 hat150 (g := (mkF m 150 #[s0, s1, s2, s3, s4, s5, s6, .val (.int i7), s8, s9, s10, s11, s12, .val (.ref o13), .val (.int i14), s15] [(.int (0 : Int32)), (.ref o13)])) rfl rfl (hb hby at_150) _ ?_
  show Steps p.tables e below (T0.setTop (mkF m 151 #[s0, s1, s2, s3, s4, s5, s6, .val (.int i7), s8, s9, s10, s11, s12, .val (.ref o13), .val (.int i14), s15] [(.int w7)])) _
  refine XS.iload X0.here hx rfl (hb hby at_151) rfl ?_
  show Steps p.tables e below (T0.setTop (mkF m 153 #[s0, s1, s2, s3, s4, s5, s6, .val (.int i7), s8, s9, s10, s11, s12, .val (.ref o13), .val (.int i14), s15] [(.int i7), (.int w7)])) _
  refine XS.icmpYes X0.here hx rfl (pc0 := 153) (pc' := 158) rfl (hb hby at_153) rfl (teq hc153).1 (by decide) (by decide) ?_
  exact kt
theorem blkC_0 {p : Program} {l : Launch} {e : Env} {R : Room} {s : State} {m : MethodId} {args : Array Value} {below : List Frame} {meth : Method} {c : Code} {T0 : State} {locs : List Loc} {cells slots : Nat} {Z : State} {a0 : Array Value} {h0 : Heap} (s0 : Slot) (s1 : Slot) (s2 : Slot) (s3 : Slot) (s4 : Slot) (s5 : Slot) (s6 : Slot) (i7 : Int32) (s8 : Slot) (s9 : Slot) (s10 : Slot) (s11 : Slot) (s12 : Slot) (o13 : Addr) (i14 : Int32) (s15 : Slot)
    (X0 : Stand p l e R s m args below meth c T0 locs cells slots) (hx : p.tables.exec = Jvm.exec) (hZ : Z.Warmed39 s.vm) (hw : ∀ d ∈ tables_1, d.before a0 Z = true) (hby : c.code = code) (hml : c.maxLocals = 16) (hown : s.vm.findClass "com/example/votary/votary/MessageQueryTextPinLaw" = some m.cls) (e0 : T0.heap = h0) (kk : ClassId) (us : List Value) (VV : Arv Z h0 o13 kk .byte i14 us (.int (0 : Int32))) (hat : (0 : Int32) < i14 → us.getD 0 (.int (0 : Int32)) = .int i7) :
    ∀ target, Steps p.tables e below (T0.setTop (mkF m 158 #[s0, s1, s2, s3, s4, s5, s6, .val (.int i7), s8, s9, s10, s11, s12, .val (.ref o13), .val (.int i14), s15] [])) target → Steps p.tables e below (T0.setTop (mkF m 142 #[s0, s1, s2, s3, s4, s5, s6, .val (.int i7), s8, s9, s10, s11, s12, .val (.ref o13), .val (.int i14), s15] [])) target := by
  by_cases g : (0 : Int32) < i14
  · obtain ⟨cl, Ar, -, S, N, H, -⟩ := VV
    have hin : ¬ ((0 : Int32) < 0 ∨ cl.slots.size ≤ ((0 : Int32)).toNatClampNeg) := inb_of S ⟨by decide, g⟩
    exact tn0_142_158_ft s0 s1 s2 s3 s4 s5 s6 i7 s8 s9 s10 s11 s12 o13 i14 s15 i7 cl X0 hx hZ hw hby hml hown e0 Ar hin (H.at hin (hat g)) g rfl
  · exact tn0_142_158_t s0 s1 s2 s3 s4 s5 s6 i7 s8 s9 s10 s11 s12 o13 i14 s15 X0 hx hZ hw hby hml hown e0 g
set_option maxRecDepth 65536 in
set_option maxHeartbeats 40000000 in
theorem tn0_158_175_t {p : Program} {l : Launch} {e : Env} {R : Room} {s : State} {m : MethodId} {args : Array Value} {below : List Frame} {meth : Method} {c : Code} {T0 : State} {locs : List Loc} {cells slots : Nat} {Z : State} {a0 : Array Value} {h0 : Heap} (s0 : Slot) (s1 : Slot) (s2 : Slot) (s3 : Slot) (s4 : Slot) (s5 : Slot) (s6 : Slot) (s7 : Slot) (i8 : Int32) (s9 : Slot) (s10 : Slot) (s11 : Slot) (s12 : Slot) (o13 : Addr) (i14 : Int32) (s15 : Slot)
    (X0 : Stand p l e R s m args below meth c T0 locs cells slots) (hx : p.tables.exec = Jvm.exec) (hZ : Z.Warmed39 s.vm) (hw : ∀ d ∈ tables_1, d.before a0 Z = true) (hby : c.code = code) (hml : c.maxLocals = 16) (hown : s.vm.findClass "com/example/votary/votary/MessageQueryTextPinLaw" = some m.cls) (e0 : T0.heap = h0) (hc161 : ¬ ((1 : Int32) < i14)) :
    ∀ target, Steps p.tables e below (T0.setTop (mkF m 175 #[s0, s1, s2, s3, s4, s5, s6, s7, .val (.int i8), s9, s10, s11, s12, .val (.ref o13), .val (.int i14), s15] [])) target → Steps p.tables e below (T0.setTop (mkF m 158 #[s0, s1, s2, s3, s4, s5, s6, s7, .val (.int i8), s9, s10, s11, s12, .val (.ref o13), .val (.int i14), s15] [])) target := by

  intro target kt
  show Steps p.tables e below (T0.setTop (mkF m 158 #[s0, s1, s2, s3, s4, s5, s6, s7, .val (.int i8), s9, s10, s11, s12, .val (.ref o13), .val (.int i14), s15] [])) _
  refine XS.iload X0.here hx rfl (hb hby at_158) rfl ?_
  show Steps p.tables e below (T0.setTop (mkF m 160 #[s0, s1, s2, s3, s4, s5, s6, s7, .val (.int i8), s9, s10, s11, s12, .val (.ref o13), .val (.int i14), s15] [(.int i14)])) _
  refine XS.iconst X0.here hx rfl (hb hby at_160) ?_
  show Steps p.tables e below (T0.setTop (mkF m 161 #[s0, s1, s2, s3, s4, s5, s6, s7, .val (.int i8), s9, s10, s11, s12, .val (.ref o13), .val (.int i14), s15] [(.int (1 : Int32)), (.int i14)])) _
  refine XS.icmpYes X0.here hx rfl (pc0 := 161) (pc' := 175) rfl (hb hby at_161) rfl (flt hc161).2.2.2 (by decide) (by decide) ?_
  exact kt
set_option maxRecDepth 65536 in
set_option maxHeartbeats 40000000 in
theorem tn0_158_175_ft {p : Program} {l : Launch} {e : Env} {R : Room} {s : State} {m : MethodId} {args : Array Value} {below : List Frame} {meth : Method} {c : Code} {T0 : State} {locs : List Loc} {cells slots : Nat} {Z : State} {a0 : Array Value} {h0 : Heap} (s0 : Slot) (s1 : Slot) (s2 : Slot) (s3 : Slot) (s4 : Slot) (s5 : Slot) (s6 : Slot) (s7 : Slot) (i8 : Int32) (s9 : Slot) (s10 : Slot) (s11 : Slot) (s12 : Slot) (o13 : Addr) (i14 : Int32) (s15 : Slot) (w7 : Int32) (cl_o13 : Cell)
    (X0 : Stand p l e R s m args below meth c T0 locs cells slots) (hx : p.tables.exec = Jvm.exec) (hZ : Z.Warmed39 s.vm) (hw : ∀ d ∈ tables_1, d.before a0 Z = true) (hby : c.code = code) (hml : c.maxLocals = 16) (hown : s.vm.findClass "com/example/votary/votary/MessageQueryTextPinLaw" = some m.cls) (e0 : T0.heap = h0) (Ar_o13 : Arr Z h0 o13 cl_o13 .byte) (hin167 : ¬ ((1 : Int32) < 0 ∨ cl_o13.slots.size ≤ ((1 : Int32)).toNatClampNeg)) (hat167 : cl_o13.slots[((1 : Int32)).toNatClampNeg]? = some (.int w7)) (hc161 : (1 : Int32) < i14) (hc170 : w7 = i8) :
    ∀ target, Steps p.tables e below (T0.setTop (mkF m 175 #[s0, s1, s2, s3, s4, s5, s6, s7, .val (.int i8), s9, s10, s11, s12, .val (.ref o13), .val (.int i14), s15] [])) target → Steps p.tables e below (T0.setTop (mkF m 158 #[s0, s1, s2, s3, s4, s5, s6, s7, .val (.int i8), s9, s10, s11, s12, .val (.ref o13), .val (.int i14), s15] [])) target := by

  intro target kt
  show Steps p.tables e below (T0.setTop (mkF m 158 #[s0, s1, s2, s3, s4, s5, s6, s7, .val (.int i8), s9, s10, s11, s12, .val (.ref o13), .val (.int i14), s15] [])) _
  refine XS.iload X0.here hx rfl (hb hby at_158) rfl ?_
  show Steps p.tables e below (T0.setTop (mkF m 160 #[s0, s1, s2, s3, s4, s5, s6, s7, .val (.int i8), s9, s10, s11, s12, .val (.ref o13), .val (.int i14), s15] [(.int i14)])) _
  refine XS.iconst X0.here hx rfl (hb hby at_160) ?_
  show Steps p.tables e below (T0.setTop (mkF m 161 #[s0, s1, s2, s3, s4, s5, s6, s7, .val (.int i8), s9, s10, s11, s12, .val (.ref o13), .val (.int i14), s15] [(.int (1 : Int32)), (.int i14)])) _
  refine XS.icmpNo X0.here hx rfl (hb hby at_161) rfl (tlt hc161).2.2.2 ?_
  show Steps p.tables e below (T0.setTop (mkF m 164 #[s0, s1, s2, s3, s4, s5, s6, s7, .val (.int i8), s9, s10, s11, s12, .val (.ref o13), .val (.int i14), s15] [])) _
  refine XS.aload X0.here hx rfl (hb hby at_164) rfl rfl ?_
  show Steps p.tables e below (T0.setTop (mkF m 166 #[s0, s1, s2, s3, s4, s5, s6, s7, .val (.int i8), s9, s10, s11, s12, .val (.ref o13), .val (.int i14), s15] [(.ref o13)])) _
  refine XS.iconst X0.here hx rfl (hb hby at_166) ?_
  show Steps p.tables e below (T0.setTop (mkF m 167 #[s0, s1, s2, s3, s4, s5, s6, s7, .val (.int i8), s9, s10, s11, s12, .val (.ref o13), .val (.int i14), s15] [(.int (1 : Int32)), (.ref o13)])) _
  refine X0.baloadBytes hx (j := (1 : Int32)) (v := (.int w7)) (by rw [e0]; exact Ar_o13.1) (State.isArrayOf_alike hZ.alike Ar_o13.2.1) Ar_o13.2.2 hin167 hat167 (g := (mkF m 167 #[s0, s1, s2, s3, s4, s5, s6, s7, .val (.int i8), s9, s10, s11, s12, .val (.ref o13), .val (.int i14), s15] [(.int (1 : Int32)), (.ref o13)])) rfl rfl (hb hby at_167) _ ?_
  show Steps p.tables e below (T0.setTop (mkF m 168 #[s0, s1, s2, s3, s4, s5, s6, s7, .val (.int i8), s9, s10, s11, s12, .val (.ref o13), .val (.int i14), s15] [(.int w7)])) _
  refine XS.iload X0.here hx rfl (hb hby at_168) rfl ?_
  show Steps p.tables e below (T0.setTop (mkF m 170 #[s0, s1, s2, s3, s4, s5, s6, s7, .val (.int i8), s9, s10, s11, s12, .val (.ref o13), .val (.int i14), s15] [(.int i8), (.int w7)])) _
  refine XS.icmpYes X0.here hx rfl (pc0 := 170) (pc' := 175) rfl (hb hby at_170) rfl (teq hc170).1 (by decide) (by decide) ?_
  exact kt
theorem blkC_1 {p : Program} {l : Launch} {e : Env} {R : Room} {s : State} {m : MethodId} {args : Array Value} {below : List Frame} {meth : Method} {c : Code} {T0 : State} {locs : List Loc} {cells slots : Nat} {Z : State} {a0 : Array Value} {h0 : Heap} (s0 : Slot) (s1 : Slot) (s2 : Slot) (s3 : Slot) (s4 : Slot) (s5 : Slot) (s6 : Slot) (s7 : Slot) (i8 : Int32) (s9 : Slot) (s10 : Slot) (s11 : Slot) (s12 : Slot) (o13 : Addr) (i14 : Int32) (s15 : Slot)
    (X0 : Stand p l e R s m args below meth c T0 locs cells slots) (hx : p.tables.exec = Jvm.exec) (hZ : Z.Warmed39 s.vm) (hw : ∀ d ∈ tables_1, d.before a0 Z = true) (hby : c.code = code) (hml : c.maxLocals = 16) (hown : s.vm.findClass "com/example/votary/votary/MessageQueryTextPinLaw" = some m.cls) (e0 : T0.heap = h0) (kk : ClassId) (us : List Value) (VV : Arv Z h0 o13 kk .byte i14 us (.int (0 : Int32))) (hat : (1 : Int32) < i14 → us.getD 1 (.int (0 : Int32)) = .int i8) :
    ∀ target, Steps p.tables e below (T0.setTop (mkF m 175 #[s0, s1, s2, s3, s4, s5, s6, s7, .val (.int i8), s9, s10, s11, s12, .val (.ref o13), .val (.int i14), s15] [])) target → Steps p.tables e below (T0.setTop (mkF m 158 #[s0, s1, s2, s3, s4, s5, s6, s7, .val (.int i8), s9, s10, s11, s12, .val (.ref o13), .val (.int i14), s15] [])) target := by
  by_cases g : (1 : Int32) < i14
  · obtain ⟨cl, Ar, -, S, N, H, -⟩ := VV
    have hin : ¬ ((1 : Int32) < 0 ∨ cl.slots.size ≤ ((1 : Int32)).toNatClampNeg) := inb_of S ⟨by decide, g⟩
    exact tn0_158_175_ft s0 s1 s2 s3 s4 s5 s6 s7 i8 s9 s10 s11 s12 o13 i14 s15 i8 cl X0 hx hZ hw hby hml hown e0 Ar hin (H.at hin (hat g)) g rfl
  · exact tn0_158_175_t s0 s1 s2 s3 s4 s5 s6 s7 i8 s9 s10 s11 s12 o13 i14 s15 X0 hx hZ hw hby hml hown e0 g
set_option maxRecDepth 65536 in
set_option maxHeartbeats 40000000 in
theorem tn0_175_192_t {p : Program} {l : Launch} {e : Env} {R : Room} {s : State} {m : MethodId} {args : Array Value} {below : List Frame} {meth : Method} {c : Code} {T0 : State} {locs : List Loc} {cells slots : Nat} {Z : State} {a0 : Array Value} {h0 : Heap} (s0 : Slot) (s1 : Slot) (s2 : Slot) (s3 : Slot) (s4 : Slot) (s5 : Slot) (s6 : Slot) (s7 : Slot) (s8 : Slot) (i9 : Int32) (s10 : Slot) (s11 : Slot) (s12 : Slot) (o13 : Addr) (i14 : Int32) (s15 : Slot)
    (X0 : Stand p l e R s m args below meth c T0 locs cells slots) (hx : p.tables.exec = Jvm.exec) (hZ : Z.Warmed39 s.vm) (hw : ∀ d ∈ tables_1, d.before a0 Z = true) (hby : c.code = code) (hml : c.maxLocals = 16) (hown : s.vm.findClass "com/example/votary/votary/MessageQueryTextPinLaw" = some m.cls) (e0 : T0.heap = h0) (hc178 : ¬ ((2 : Int32) < i14)) :
    ∀ target, Steps p.tables e below (T0.setTop (mkF m 192 #[s0, s1, s2, s3, s4, s5, s6, s7, s8, .val (.int i9), s10, s11, s12, .val (.ref o13), .val (.int i14), s15] [])) target → Steps p.tables e below (T0.setTop (mkF m 175 #[s0, s1, s2, s3, s4, s5, s6, s7, s8, .val (.int i9), s10, s11, s12, .val (.ref o13), .val (.int i14), s15] [])) target := by

  intro target kt
  show Steps p.tables e below (T0.setTop (mkF m 175 #[s0, s1, s2, s3, s4, s5, s6, s7, s8, .val (.int i9), s10, s11, s12, .val (.ref o13), .val (.int i14), s15] [])) _
  refine XS.iload X0.here hx rfl (hb hby at_175) rfl ?_
  show Steps p.tables e below (T0.setTop (mkF m 177 #[s0, s1, s2, s3, s4, s5, s6, s7, s8, .val (.int i9), s10, s11, s12, .val (.ref o13), .val (.int i14), s15] [(.int i14)])) _
  refine XS.iconst X0.here hx rfl (hb hby at_177) ?_
  show Steps p.tables e below (T0.setTop (mkF m 178 #[s0, s1, s2, s3, s4, s5, s6, s7, s8, .val (.int i9), s10, s11, s12, .val (.ref o13), .val (.int i14), s15] [(.int (2 : Int32)), (.int i14)])) _
  refine XS.icmpYes X0.here hx rfl (pc0 := 178) (pc' := 192) rfl (hb hby at_178) rfl (flt hc178).2.2.2 (by decide) (by decide) ?_
  exact kt
set_option maxRecDepth 65536 in
set_option maxHeartbeats 40000000 in
theorem tn0_175_192_ft {p : Program} {l : Launch} {e : Env} {R : Room} {s : State} {m : MethodId} {args : Array Value} {below : List Frame} {meth : Method} {c : Code} {T0 : State} {locs : List Loc} {cells slots : Nat} {Z : State} {a0 : Array Value} {h0 : Heap} (s0 : Slot) (s1 : Slot) (s2 : Slot) (s3 : Slot) (s4 : Slot) (s5 : Slot) (s6 : Slot) (s7 : Slot) (s8 : Slot) (i9 : Int32) (s10 : Slot) (s11 : Slot) (s12 : Slot) (o13 : Addr) (i14 : Int32) (s15 : Slot) (w7 : Int32) (cl_o13 : Cell)
    (X0 : Stand p l e R s m args below meth c T0 locs cells slots) (hx : p.tables.exec = Jvm.exec) (hZ : Z.Warmed39 s.vm) (hw : ∀ d ∈ tables_1, d.before a0 Z = true) (hby : c.code = code) (hml : c.maxLocals = 16) (hown : s.vm.findClass "com/example/votary/votary/MessageQueryTextPinLaw" = some m.cls) (e0 : T0.heap = h0) (Ar_o13 : Arr Z h0 o13 cl_o13 .byte) (hin184 : ¬ ((2 : Int32) < 0 ∨ cl_o13.slots.size ≤ ((2 : Int32)).toNatClampNeg)) (hat184 : cl_o13.slots[((2 : Int32)).toNatClampNeg]? = some (.int w7)) (hc178 : (2 : Int32) < i14) (hc187 : w7 = i9) :
    ∀ target, Steps p.tables e below (T0.setTop (mkF m 192 #[s0, s1, s2, s3, s4, s5, s6, s7, s8, .val (.int i9), s10, s11, s12, .val (.ref o13), .val (.int i14), s15] [])) target → Steps p.tables e below (T0.setTop (mkF m 175 #[s0, s1, s2, s3, s4, s5, s6, s7, s8, .val (.int i9), s10, s11, s12, .val (.ref o13), .val (.int i14), s15] [])) target := by

  intro target kt
  show Steps p.tables e below (T0.setTop (mkF m 175 #[s0, s1, s2, s3, s4, s5, s6, s7, s8, .val (.int i9), s10, s11, s12, .val (.ref o13), .val (.int i14), s15] [])) _
  refine XS.iload X0.here hx rfl (hb hby at_175) rfl ?_
  show Steps p.tables e below (T0.setTop (mkF m 177 #[s0, s1, s2, s3, s4, s5, s6, s7, s8, .val (.int i9), s10, s11, s12, .val (.ref o13), .val (.int i14), s15] [(.int i14)])) _
  refine XS.iconst X0.here hx rfl (hb hby at_177) ?_
  show Steps p.tables e below (T0.setTop (mkF m 178 #[s0, s1, s2, s3, s4, s5, s6, s7, s8, .val (.int i9), s10, s11, s12, .val (.ref o13), .val (.int i14), s15] [(.int (2 : Int32)), (.int i14)])) _
  refine XS.icmpNo X0.here hx rfl (hb hby at_178) rfl (tlt hc178).2.2.2 ?_
  show Steps p.tables e below (T0.setTop (mkF m 181 #[s0, s1, s2, s3, s4, s5, s6, s7, s8, .val (.int i9), s10, s11, s12, .val (.ref o13), .val (.int i14), s15] [])) _
  refine XS.aload X0.here hx rfl (hb hby at_181) rfl rfl ?_
  show Steps p.tables e below (T0.setTop (mkF m 183 #[s0, s1, s2, s3, s4, s5, s6, s7, s8, .val (.int i9), s10, s11, s12, .val (.ref o13), .val (.int i14), s15] [(.ref o13)])) _
  refine XS.iconst X0.here hx rfl (hb hby at_183) ?_
  show Steps p.tables e below (T0.setTop (mkF m 184 #[s0, s1, s2, s3, s4, s5, s6, s7, s8, .val (.int i9), s10, s11, s12, .val (.ref o13), .val (.int i14), s15] [(.int (2 : Int32)), (.ref o13)])) _
  refine X0.baloadBytes hx (j := (2 : Int32)) (v := (.int w7)) (by rw [e0]; exact Ar_o13.1) (State.isArrayOf_alike hZ.alike Ar_o13.2.1) Ar_o13.2.2 hin184 hat184 (g := (mkF m 184 #[s0, s1, s2, s3, s4, s5, s6, s7, s8, .val (.int i9), s10, s11, s12, .val (.ref o13), .val (.int i14), s15] [(.int (2 : Int32)), (.ref o13)])) rfl rfl (hb hby at_184) _ ?_
  show Steps p.tables e below (T0.setTop (mkF m 185 #[s0, s1, s2, s3, s4, s5, s6, s7, s8, .val (.int i9), s10, s11, s12, .val (.ref o13), .val (.int i14), s15] [(.int w7)])) _
  refine XS.iload X0.here hx rfl (hb hby at_185) rfl ?_
  show Steps p.tables e below (T0.setTop (mkF m 187 #[s0, s1, s2, s3, s4, s5, s6, s7, s8, .val (.int i9), s10, s11, s12, .val (.ref o13), .val (.int i14), s15] [(.int i9), (.int w7)])) _
  refine XS.icmpYes X0.here hx rfl (pc0 := 187) (pc' := 192) rfl (hb hby at_187) rfl (teq hc187).1 (by decide) (by decide) ?_
  exact kt
theorem blkC_2 {p : Program} {l : Launch} {e : Env} {R : Room} {s : State} {m : MethodId} {args : Array Value} {below : List Frame} {meth : Method} {c : Code} {T0 : State} {locs : List Loc} {cells slots : Nat} {Z : State} {a0 : Array Value} {h0 : Heap} (s0 : Slot) (s1 : Slot) (s2 : Slot) (s3 : Slot) (s4 : Slot) (s5 : Slot) (s6 : Slot) (s7 : Slot) (s8 : Slot) (i9 : Int32) (s10 : Slot) (s11 : Slot) (s12 : Slot) (o13 : Addr) (i14 : Int32) (s15 : Slot)
    (X0 : Stand p l e R s m args below meth c T0 locs cells slots) (hx : p.tables.exec = Jvm.exec) (hZ : Z.Warmed39 s.vm) (hw : ∀ d ∈ tables_1, d.before a0 Z = true) (hby : c.code = code) (hml : c.maxLocals = 16) (hown : s.vm.findClass "com/example/votary/votary/MessageQueryTextPinLaw" = some m.cls) (e0 : T0.heap = h0) (kk : ClassId) (us : List Value) (VV : Arv Z h0 o13 kk .byte i14 us (.int (0 : Int32))) (hat : (2 : Int32) < i14 → us.getD 2 (.int (0 : Int32)) = .int i9) :
    ∀ target, Steps p.tables e below (T0.setTop (mkF m 192 #[s0, s1, s2, s3, s4, s5, s6, s7, s8, .val (.int i9), s10, s11, s12, .val (.ref o13), .val (.int i14), s15] [])) target → Steps p.tables e below (T0.setTop (mkF m 175 #[s0, s1, s2, s3, s4, s5, s6, s7, s8, .val (.int i9), s10, s11, s12, .val (.ref o13), .val (.int i14), s15] [])) target := by
  by_cases g : (2 : Int32) < i14
  · obtain ⟨cl, Ar, -, S, N, H, -⟩ := VV
    have hin : ¬ ((2 : Int32) < 0 ∨ cl.slots.size ≤ ((2 : Int32)).toNatClampNeg) := inb_of S ⟨by decide, g⟩
    exact tn0_175_192_ft s0 s1 s2 s3 s4 s5 s6 s7 s8 i9 s10 s11 s12 o13 i14 s15 i9 cl X0 hx hZ hw hby hml hown e0 Ar hin (H.at hin (hat g)) g rfl
  · exact tn0_175_192_t s0 s1 s2 s3 s4 s5 s6 s7 s8 i9 s10 s11 s12 o13 i14 s15 X0 hx hZ hw hby hml hown e0 g
set_option maxRecDepth 65536 in
set_option maxHeartbeats 40000000 in
theorem tn0_192_209_t {p : Program} {l : Launch} {e : Env} {R : Room} {s : State} {m : MethodId} {args : Array Value} {below : List Frame} {meth : Method} {c : Code} {T0 : State} {locs : List Loc} {cells slots : Nat} {Z : State} {a0 : Array Value} {h0 : Heap} (s0 : Slot) (s1 : Slot) (s2 : Slot) (s3 : Slot) (s4 : Slot) (s5 : Slot) (s6 : Slot) (s7 : Slot) (s8 : Slot) (s9 : Slot) (i10 : Int32) (s11 : Slot) (s12 : Slot) (o13 : Addr) (i14 : Int32) (s15 : Slot)
    (X0 : Stand p l e R s m args below meth c T0 locs cells slots) (hx : p.tables.exec = Jvm.exec) (hZ : Z.Warmed39 s.vm) (hw : ∀ d ∈ tables_1, d.before a0 Z = true) (hby : c.code = code) (hml : c.maxLocals = 16) (hown : s.vm.findClass "com/example/votary/votary/MessageQueryTextPinLaw" = some m.cls) (e0 : T0.heap = h0) (hc195 : ¬ ((3 : Int32) < i14)) :
    ∀ target, Steps p.tables e below (T0.setTop (mkF m 209 #[s0, s1, s2, s3, s4, s5, s6, s7, s8, s9, .val (.int i10), s11, s12, .val (.ref o13), .val (.int i14), s15] [])) target → Steps p.tables e below (T0.setTop (mkF m 192 #[s0, s1, s2, s3, s4, s5, s6, s7, s8, s9, .val (.int i10), s11, s12, .val (.ref o13), .val (.int i14), s15] [])) target := by

  intro target kt
  show Steps p.tables e below (T0.setTop (mkF m 192 #[s0, s1, s2, s3, s4, s5, s6, s7, s8, s9, .val (.int i10), s11, s12, .val (.ref o13), .val (.int i14), s15] [])) _
  refine XS.iload X0.here hx rfl (hb hby at_192) rfl ?_
  show Steps p.tables e below (T0.setTop (mkF m 194 #[s0, s1, s2, s3, s4, s5, s6, s7, s8, s9, .val (.int i10), s11, s12, .val (.ref o13), .val (.int i14), s15] [(.int i14)])) _
  refine XS.iconst X0.here hx rfl (hb hby at_194) ?_
  show Steps p.tables e below (T0.setTop (mkF m 195 #[s0, s1, s2, s3, s4, s5, s6, s7, s8, s9, .val (.int i10), s11, s12, .val (.ref o13), .val (.int i14), s15] [(.int (3 : Int32)), (.int i14)])) _
  refine XS.icmpYes X0.here hx rfl (pc0 := 195) (pc' := 209) rfl (hb hby at_195) rfl (flt hc195).2.2.2 (by decide) (by decide) ?_
  exact kt
set_option maxRecDepth 65536 in
set_option maxHeartbeats 40000000 in
theorem tn0_192_209_ft {p : Program} {l : Launch} {e : Env} {R : Room} {s : State} {m : MethodId} {args : Array Value} {below : List Frame} {meth : Method} {c : Code} {T0 : State} {locs : List Loc} {cells slots : Nat} {Z : State} {a0 : Array Value} {h0 : Heap} (s0 : Slot) (s1 : Slot) (s2 : Slot) (s3 : Slot) (s4 : Slot) (s5 : Slot) (s6 : Slot) (s7 : Slot) (s8 : Slot) (s9 : Slot) (i10 : Int32) (s11 : Slot) (s12 : Slot) (o13 : Addr) (i14 : Int32) (s15 : Slot) (w7 : Int32) (cl_o13 : Cell)
    (X0 : Stand p l e R s m args below meth c T0 locs cells slots) (hx : p.tables.exec = Jvm.exec) (hZ : Z.Warmed39 s.vm) (hw : ∀ d ∈ tables_1, d.before a0 Z = true) (hby : c.code = code) (hml : c.maxLocals = 16) (hown : s.vm.findClass "com/example/votary/votary/MessageQueryTextPinLaw" = some m.cls) (e0 : T0.heap = h0) (Ar_o13 : Arr Z h0 o13 cl_o13 .byte) (hin201 : ¬ ((3 : Int32) < 0 ∨ cl_o13.slots.size ≤ ((3 : Int32)).toNatClampNeg)) (hat201 : cl_o13.slots[((3 : Int32)).toNatClampNeg]? = some (.int w7)) (hc195 : (3 : Int32) < i14) (hc204 : w7 = i10) :
    ∀ target, Steps p.tables e below (T0.setTop (mkF m 209 #[s0, s1, s2, s3, s4, s5, s6, s7, s8, s9, .val (.int i10), s11, s12, .val (.ref o13), .val (.int i14), s15] [])) target → Steps p.tables e below (T0.setTop (mkF m 192 #[s0, s1, s2, s3, s4, s5, s6, s7, s8, s9, .val (.int i10), s11, s12, .val (.ref o13), .val (.int i14), s15] [])) target := by

  intro target kt
  show Steps p.tables e below (T0.setTop (mkF m 192 #[s0, s1, s2, s3, s4, s5, s6, s7, s8, s9, .val (.int i10), s11, s12, .val (.ref o13), .val (.int i14), s15] [])) _
  refine XS.iload X0.here hx rfl (hb hby at_192) rfl ?_
  show Steps p.tables e below (T0.setTop (mkF m 194 #[s0, s1, s2, s3, s4, s5, s6, s7, s8, s9, .val (.int i10), s11, s12, .val (.ref o13), .val (.int i14), s15] [(.int i14)])) _
  refine XS.iconst X0.here hx rfl (hb hby at_194) ?_
  show Steps p.tables e below (T0.setTop (mkF m 195 #[s0, s1, s2, s3, s4, s5, s6, s7, s8, s9, .val (.int i10), s11, s12, .val (.ref o13), .val (.int i14), s15] [(.int (3 : Int32)), (.int i14)])) _
  refine XS.icmpNo X0.here hx rfl (hb hby at_195) rfl (tlt hc195).2.2.2 ?_
  show Steps p.tables e below (T0.setTop (mkF m 198 #[s0, s1, s2, s3, s4, s5, s6, s7, s8, s9, .val (.int i10), s11, s12, .val (.ref o13), .val (.int i14), s15] [])) _
  refine XS.aload X0.here hx rfl (hb hby at_198) rfl rfl ?_
  show Steps p.tables e below (T0.setTop (mkF m 200 #[s0, s1, s2, s3, s4, s5, s6, s7, s8, s9, .val (.int i10), s11, s12, .val (.ref o13), .val (.int i14), s15] [(.ref o13)])) _
  refine XS.iconst X0.here hx rfl (hb hby at_200) ?_
  show Steps p.tables e below (T0.setTop (mkF m 201 #[s0, s1, s2, s3, s4, s5, s6, s7, s8, s9, .val (.int i10), s11, s12, .val (.ref o13), .val (.int i14), s15] [(.int (3 : Int32)), (.ref o13)])) _
  refine X0.baloadBytes hx (j := (3 : Int32)) (v := (.int w7)) (by rw [e0]; exact Ar_o13.1) (State.isArrayOf_alike hZ.alike Ar_o13.2.1) Ar_o13.2.2 hin201 hat201 (g := (mkF m 201 #[s0, s1, s2, s3, s4, s5, s6, s7, s8, s9, .val (.int i10), s11, s12, .val (.ref o13), .val (.int i14), s15] [(.int (3 : Int32)), (.ref o13)])) rfl rfl (hb hby at_201) _ ?_
  show Steps p.tables e below (T0.setTop (mkF m 202 #[s0, s1, s2, s3, s4, s5, s6, s7, s8, s9, .val (.int i10), s11, s12, .val (.ref o13), .val (.int i14), s15] [(.int w7)])) _
  refine XS.iload X0.here hx rfl (hb hby at_202) rfl ?_
  show Steps p.tables e below (T0.setTop (mkF m 204 #[s0, s1, s2, s3, s4, s5, s6, s7, s8, s9, .val (.int i10), s11, s12, .val (.ref o13), .val (.int i14), s15] [(.int i10), (.int w7)])) _
  refine XS.icmpYes X0.here hx rfl (pc0 := 204) (pc' := 209) rfl (hb hby at_204) rfl (teq hc204).1 (by decide) (by decide) ?_
  exact kt
theorem blkC_3 {p : Program} {l : Launch} {e : Env} {R : Room} {s : State} {m : MethodId} {args : Array Value} {below : List Frame} {meth : Method} {c : Code} {T0 : State} {locs : List Loc} {cells slots : Nat} {Z : State} {a0 : Array Value} {h0 : Heap} (s0 : Slot) (s1 : Slot) (s2 : Slot) (s3 : Slot) (s4 : Slot) (s5 : Slot) (s6 : Slot) (s7 : Slot) (s8 : Slot) (s9 : Slot) (i10 : Int32) (s11 : Slot) (s12 : Slot) (o13 : Addr) (i14 : Int32) (s15 : Slot)
    (X0 : Stand p l e R s m args below meth c T0 locs cells slots) (hx : p.tables.exec = Jvm.exec) (hZ : Z.Warmed39 s.vm) (hw : ∀ d ∈ tables_1, d.before a0 Z = true) (hby : c.code = code) (hml : c.maxLocals = 16) (hown : s.vm.findClass "com/example/votary/votary/MessageQueryTextPinLaw" = some m.cls) (e0 : T0.heap = h0) (kk : ClassId) (us : List Value) (VV : Arv Z h0 o13 kk .byte i14 us (.int (0 : Int32))) (hat : (3 : Int32) < i14 → us.getD 3 (.int (0 : Int32)) = .int i10) :
    ∀ target, Steps p.tables e below (T0.setTop (mkF m 209 #[s0, s1, s2, s3, s4, s5, s6, s7, s8, s9, .val (.int i10), s11, s12, .val (.ref o13), .val (.int i14), s15] [])) target → Steps p.tables e below (T0.setTop (mkF m 192 #[s0, s1, s2, s3, s4, s5, s6, s7, s8, s9, .val (.int i10), s11, s12, .val (.ref o13), .val (.int i14), s15] [])) target := by
  by_cases g : (3 : Int32) < i14
  · obtain ⟨cl, Ar, -, S, N, H, -⟩ := VV
    have hin : ¬ ((3 : Int32) < 0 ∨ cl.slots.size ≤ ((3 : Int32)).toNatClampNeg) := inb_of S ⟨by decide, g⟩
    exact tn0_192_209_ft s0 s1 s2 s3 s4 s5 s6 s7 s8 s9 i10 s11 s12 o13 i14 s15 i10 cl X0 hx hZ hw hby hml hown e0 Ar hin (H.at hin (hat g)) g rfl
  · exact tn0_192_209_t s0 s1 s2 s3 s4 s5 s6 s7 s8 s9 i10 s11 s12 o13 i14 s15 X0 hx hZ hw hby hml hown e0 g
set_option maxRecDepth 65536 in
set_option maxHeartbeats 40000000 in
theorem tn0_231_247_t {p : Program} {l : Launch} {e : Env} {R : Room} {s : State} {m : MethodId} {args : Array Value} {below : List Frame} {meth : Method} {c : Code} {T0 : State} {locs : List Loc} {cells slots : Nat} {Z : State} {a0 : Array Value} {h0 : Heap} (s0 : Slot) (s1 : Slot) (s2 : Slot) (s3 : Slot) (s4 : Slot) (s5 : Slot) (i6 : Int32) (i7 : Int32) (s8 : Slot) (s9 : Slot) (s10 : Slot) (s11 : Slot) (s12 : Slot) (s13 : Slot) (s14 : Slot) (o15 : Addr)
    (X0 : Stand p l e R s m args below meth c T0 locs cells slots) (hx : p.tables.exec = Jvm.exec) (hZ : Z.Warmed39 s.vm) (hw : ∀ d ∈ tables_1, d.before a0 Z = true) (hby : c.code = code) (hml : c.maxLocals = 16) (hown : s.vm.findClass "com/example/votary/votary/MessageQueryTextPinLaw" = some m.cls) (e0 : T0.heap = h0) (hc233 : ¬ ((0 : Int32) < i6)) :
    ∀ target, Steps p.tables e below (T0.setTop (mkF m 247 #[s0, s1, s2, s3, s4, s5, .val (.int i6), .val (.int i7), s8, s9, s10, s11, s12, s13, s14, .val (.ref o15)] [])) target → Steps p.tables e below (T0.setTop (mkF m 231 #[s0, s1, s2, s3, s4, s5, .val (.int i6), .val (.int i7), s8, s9, s10, s11, s12, s13, s14, .val (.ref o15)] [])) target := by

  intro target kt
  show Steps p.tables e below (T0.setTop (mkF m 231 #[s0, s1, s2, s3, s4, s5, .val (.int i6), .val (.int i7), s8, s9, s10, s11, s12, s13, s14, .val (.ref o15)] [])) _
  refine XS.iload X0.here hx rfl (hb hby at_231) rfl ?_
  show Steps p.tables e below (T0.setTop (mkF m 233 #[s0, s1, s2, s3, s4, s5, .val (.int i6), .val (.int i7), s8, s9, s10, s11, s12, s13, s14, .val (.ref o15)] [(.int i6)])) _
  refine XS.ifYes X0.here hx rfl (pc0 := 233) (pc' := 247) rfl (hb hby at_233) rfl ((if0 _ _).trans (flt hc233).2.2.2) (by decide) (by decide) ?_
  exact kt
set_option maxRecDepth 65536 in
set_option maxHeartbeats 40000000 in
theorem tn0_231_247_ft {p : Program} {l : Launch} {e : Env} {R : Room} {s : State} {m : MethodId} {args : Array Value} {below : List Frame} {meth : Method} {c : Code} {T0 : State} {locs : List Loc} {cells slots : Nat} {Z : State} {a0 : Array Value} {h0 : Heap} (s0 : Slot) (s1 : Slot) (s2 : Slot) (s3 : Slot) (s4 : Slot) (s5 : Slot) (i6 : Int32) (i7 : Int32) (s8 : Slot) (s9 : Slot) (s10 : Slot) (s11 : Slot) (s12 : Slot) (s13 : Slot) (s14 : Slot) (o15 : Addr) (w7 : Int32) (cl_o15 : Cell)
    (X0 : Stand p l e R s m args below meth c T0 locs cells slots) (hx : p.tables.exec = Jvm.exec) (hZ : Z.Warmed39 s.vm) (hw : ∀ d ∈ tables_1, d.before a0 Z = true) (hby : c.code = code) (hml : c.maxLocals = 16) (hown : s.vm.findClass "com/example/votary/votary/MessageQueryTextPinLaw" = some m.cls) (e0 : T0.heap = h0) (Ar_o15 : Arr Z h0 o15 cl_o15 .byte) (hin239 : ¬ ((0 : Int32) < 0 ∨ cl_o15.slots.size ≤ ((0 : Int32)).toNatClampNeg)) (hat239 : cl_o15.slots[((0 : Int32)).toNatClampNeg]? = some (.int w7)) (hc233 : (0 : Int32) < i6) (hc242 : w7 = i7) :
    ∀ target, Steps p.tables e below (T0.setTop (mkF m 247 #[s0, s1, s2, s3, s4, s5, .val (.int i6), .val (.int i7), s8, s9, s10, s11, s12, s13, s14, .val (.ref o15)] [])) target → Steps p.tables e below (T0.setTop (mkF m 231 #[s0, s1, s2, s3, s4, s5, .val (.int i6), .val (.int i7), s8, s9, s10, s11, s12, s13, s14, .val (.ref o15)] [])) target := by

  intro target kt
  show Steps p.tables e below (T0.setTop (mkF m 231 #[s0, s1, s2, s3, s4, s5, .val (.int i6), .val (.int i7), s8, s9, s10, s11, s12, s13, s14, .val (.ref o15)] [])) _
  refine XS.iload X0.here hx rfl (hb hby at_231) rfl ?_
  show Steps p.tables e below (T0.setTop (mkF m 233 #[s0, s1, s2, s3, s4, s5, .val (.int i6), .val (.int i7), s8, s9, s10, s11, s12, s13, s14, .val (.ref o15)] [(.int i6)])) _
  refine XS.ifNo X0.here hx rfl (hb hby at_233) rfl ((if0 _ _).trans (tlt hc233).2.2.2) ?_
  show Steps p.tables e below (T0.setTop (mkF m 236 #[s0, s1, s2, s3, s4, s5, .val (.int i6), .val (.int i7), s8, s9, s10, s11, s12, s13, s14, .val (.ref o15)] [])) _
  refine XS.aload X0.here hx rfl (hb hby at_236) rfl rfl ?_
  show Steps p.tables e below (T0.setTop (mkF m 238 #[s0, s1, s2, s3, s4, s5, .val (.int i6), .val (.int i7), s8, s9, s10, s11, s12, s13, s14, .val (.ref o15)] [(.ref o15)])) _
  refine XS.iconst X0.here hx rfl (hb hby at_238) ?_
  show Steps p.tables e below (T0.setTop (mkF m 239 #[s0, s1, s2, s3, s4, s5, .val (.int i6), .val (.int i7), s8, s9, s10, s11, s12, s13, s14, .val (.ref o15)] [(.int (0 : Int32)), (.ref o15)])) _
  refine X0.baloadBytes hx (j := (0 : Int32)) (v := (.int w7)) (by rw [e0]; exact Ar_o15.1) (State.isArrayOf_alike hZ.alike Ar_o15.2.1) Ar_o15.2.2 hin239 hat239 (g := (mkF m 239 #[s0, s1, s2, s3, s4, s5, .val (.int i6), .val (.int i7), s8, s9, s10, s11, s12, s13, s14, .val (.ref o15)] [(.int (0 : Int32)), (.ref o15)])) rfl rfl (hb hby at_239) _ ?_
  show Steps p.tables e below (T0.setTop (mkF m 240 #[s0, s1, s2, s3, s4, s5, .val (.int i6), .val (.int i7), s8, s9, s10, s11, s12, s13, s14, .val (.ref o15)] [(.int w7)])) _
  refine XS.iload X0.here hx rfl (hb hby at_240) rfl ?_
  show Steps p.tables e below (T0.setTop (mkF m 242 #[s0, s1, s2, s3, s4, s5, .val (.int i6), .val (.int i7), s8, s9, s10, s11, s12, s13, s14, .val (.ref o15)] [(.int i7), (.int w7)])) _
  refine XS.icmpYes X0.here hx rfl (pc0 := 242) (pc' := 247) rfl (hb hby at_242) rfl (teq hc242).1 (by decide) (by decide) ?_
  exact kt
theorem blkD_0 {p : Program} {l : Launch} {e : Env} {R : Room} {s : State} {m : MethodId} {args : Array Value} {below : List Frame} {meth : Method} {c : Code} {T0 : State} {locs : List Loc} {cells slots : Nat} {Z : State} {a0 : Array Value} {h0 : Heap} (s0 : Slot) (s1 : Slot) (s2 : Slot) (s3 : Slot) (s4 : Slot) (s5 : Slot) (i6 : Int32) (i7 : Int32) (s8 : Slot) (s9 : Slot) (s10 : Slot) (s11 : Slot) (s12 : Slot) (s13 : Slot) (s14 : Slot) (o15 : Addr)
    (X0 : Stand p l e R s m args below meth c T0 locs cells slots) (hx : p.tables.exec = Jvm.exec) (hZ : Z.Warmed39 s.vm) (hw : ∀ d ∈ tables_1, d.before a0 Z = true) (hby : c.code = code) (hml : c.maxLocals = 16) (hown : s.vm.findClass "com/example/votary/votary/MessageQueryTextPinLaw" = some m.cls) (e0 : T0.heap = h0) (kk : ClassId) (us : List Value) (VV : Arv Z h0 o15 kk .byte i6 us (.int (0 : Int32))) (hat : (0 : Int32) < i6 → us.getD 0 (.int (0 : Int32)) = .int i7) :
    ∀ target, Steps p.tables e below (T0.setTop (mkF m 247 #[s0, s1, s2, s3, s4, s5, .val (.int i6), .val (.int i7), s8, s9, s10, s11, s12, s13, s14, .val (.ref o15)] [])) target → Steps p.tables e below (T0.setTop (mkF m 231 #[s0, s1, s2, s3, s4, s5, .val (.int i6), .val (.int i7), s8, s9, s10, s11, s12, s13, s14, .val (.ref o15)] [])) target := by
  by_cases g : (0 : Int32) < i6
  · obtain ⟨cl, Ar, -, S, N, H, -⟩ := VV
    have hin : ¬ ((0 : Int32) < 0 ∨ cl.slots.size ≤ ((0 : Int32)).toNatClampNeg) := inb_of S ⟨by decide, g⟩
    exact tn0_231_247_ft s0 s1 s2 s3 s4 s5 i6 i7 s8 s9 s10 s11 s12 s13 s14 o15 i7 cl X0 hx hZ hw hby hml hown e0 Ar hin (H.at hin (hat g)) g rfl
  · exact tn0_231_247_t s0 s1 s2 s3 s4 s5 i6 i7 s8 s9 s10 s11 s12 s13 s14 o15 X0 hx hZ hw hby hml hown e0 g
set_option maxRecDepth 65536 in
set_option maxHeartbeats 40000000 in
theorem tn0_247_264_t {p : Program} {l : Launch} {e : Env} {R : Room} {s : State} {m : MethodId} {args : Array Value} {below : List Frame} {meth : Method} {c : Code} {T0 : State} {locs : List Loc} {cells slots : Nat} {Z : State} {a0 : Array Value} {h0 : Heap} (s0 : Slot) (s1 : Slot) (s2 : Slot) (s3 : Slot) (s4 : Slot) (s5 : Slot) (i6 : Int32) (s7 : Slot) (i8 : Int32) (s9 : Slot) (s10 : Slot) (s11 : Slot) (s12 : Slot) (s13 : Slot) (s14 : Slot) (o15 : Addr)
    (X0 : Stand p l e R s m args below meth c T0 locs cells slots) (hx : p.tables.exec = Jvm.exec) (hZ : Z.Warmed39 s.vm) (hw : ∀ d ∈ tables_1, d.before a0 Z = true) (hby : c.code = code) (hml : c.maxLocals = 16) (hown : s.vm.findClass "com/example/votary/votary/MessageQueryTextPinLaw" = some m.cls) (e0 : T0.heap = h0) (hc250 : ¬ ((1 : Int32) < i6)) :
    ∀ target, Steps p.tables e below (T0.setTop (mkF m 264 #[s0, s1, s2, s3, s4, s5, .val (.int i6), s7, .val (.int i8), s9, s10, s11, s12, s13, s14, .val (.ref o15)] [])) target → Steps p.tables e below (T0.setTop (mkF m 247 #[s0, s1, s2, s3, s4, s5, .val (.int i6), s7, .val (.int i8), s9, s10, s11, s12, s13, s14, .val (.ref o15)] [])) target := by

  intro target kt
  show Steps p.tables e below (T0.setTop (mkF m 247 #[s0, s1, s2, s3, s4, s5, .val (.int i6), s7, .val (.int i8), s9, s10, s11, s12, s13, s14, .val (.ref o15)] [])) _
  refine XS.iload X0.here hx rfl (hb hby at_247) rfl ?_
  show Steps p.tables e below (T0.setTop (mkF m 249 #[s0, s1, s2, s3, s4, s5, .val (.int i6), s7, .val (.int i8), s9, s10, s11, s12, s13, s14, .val (.ref o15)] [(.int i6)])) _
  refine XS.iconst X0.here hx rfl (hb hby at_249) ?_
  show Steps p.tables e below (T0.setTop (mkF m 250 #[s0, s1, s2, s3, s4, s5, .val (.int i6), s7, .val (.int i8), s9, s10, s11, s12, s13, s14, .val (.ref o15)] [(.int (1 : Int32)), (.int i6)])) _
  refine XS.icmpYes X0.here hx rfl (pc0 := 250) (pc' := 264) rfl (hb hby at_250) rfl (flt hc250).2.2.2 (by decide) (by decide) ?_
  exact kt
set_option maxRecDepth 65536 in
set_option maxHeartbeats 40000000 in
theorem tn0_247_264_ft {p : Program} {l : Launch} {e : Env} {R : Room} {s : State} {m : MethodId} {args : Array Value} {below : List Frame} {meth : Method} {c : Code} {T0 : State} {locs : List Loc} {cells slots : Nat} {Z : State} {a0 : Array Value} {h0 : Heap} (s0 : Slot) (s1 : Slot) (s2 : Slot) (s3 : Slot) (s4 : Slot) (s5 : Slot) (i6 : Int32) (s7 : Slot) (i8 : Int32) (s9 : Slot) (s10 : Slot) (s11 : Slot) (s12 : Slot) (s13 : Slot) (s14 : Slot) (o15 : Addr) (w7 : Int32) (cl_o15 : Cell)
    (X0 : Stand p l e R s m args below meth c T0 locs cells slots) (hx : p.tables.exec = Jvm.exec) (hZ : Z.Warmed39 s.vm) (hw : ∀ d ∈ tables_1, d.before a0 Z = true) (hby : c.code = code) (hml : c.maxLocals = 16) (hown : s.vm.findClass "com/example/votary/votary/MessageQueryTextPinLaw" = some m.cls) (e0 : T0.heap = h0) (Ar_o15 : Arr Z h0 o15 cl_o15 .byte) (hin256 : ¬ ((1 : Int32) < 0 ∨ cl_o15.slots.size ≤ ((1 : Int32)).toNatClampNeg)) (hat256 : cl_o15.slots[((1 : Int32)).toNatClampNeg]? = some (.int w7)) (hc250 : (1 : Int32) < i6) (hc259 : w7 = i8) :
    ∀ target, Steps p.tables e below (T0.setTop (mkF m 264 #[s0, s1, s2, s3, s4, s5, .val (.int i6), s7, .val (.int i8), s9, s10, s11, s12, s13, s14, .val (.ref o15)] [])) target → Steps p.tables e below (T0.setTop (mkF m 247 #[s0, s1, s2, s3, s4, s5, .val (.int i6), s7, .val (.int i8), s9, s10, s11, s12, s13, s14, .val (.ref o15)] [])) target := by

  intro target kt
  show Steps p.tables e below (T0.setTop (mkF m 247 #[s0, s1, s2, s3, s4, s5, .val (.int i6), s7, .val (.int i8), s9, s10, s11, s12, s13, s14, .val (.ref o15)] [])) _
  refine XS.iload X0.here hx rfl (hb hby at_247) rfl ?_
  show Steps p.tables e below (T0.setTop (mkF m 249 #[s0, s1, s2, s3, s4, s5, .val (.int i6), s7, .val (.int i8), s9, s10, s11, s12, s13, s14, .val (.ref o15)] [(.int i6)])) _
  refine XS.iconst X0.here hx rfl (hb hby at_249) ?_
  show Steps p.tables e below (T0.setTop (mkF m 250 #[s0, s1, s2, s3, s4, s5, .val (.int i6), s7, .val (.int i8), s9, s10, s11, s12, s13, s14, .val (.ref o15)] [(.int (1 : Int32)), (.int i6)])) _
  refine XS.icmpNo X0.here hx rfl (hb hby at_250) rfl (tlt hc250).2.2.2 ?_
  show Steps p.tables e below (T0.setTop (mkF m 253 #[s0, s1, s2, s3, s4, s5, .val (.int i6), s7, .val (.int i8), s9, s10, s11, s12, s13, s14, .val (.ref o15)] [])) _
  refine XS.aload X0.here hx rfl (hb hby at_253) rfl rfl ?_
  show Steps p.tables e below (T0.setTop (mkF m 255 #[s0, s1, s2, s3, s4, s5, .val (.int i6), s7, .val (.int i8), s9, s10, s11, s12, s13, s14, .val (.ref o15)] [(.ref o15)])) _
  refine XS.iconst X0.here hx rfl (hb hby at_255) ?_
  show Steps p.tables e below (T0.setTop (mkF m 256 #[s0, s1, s2, s3, s4, s5, .val (.int i6), s7, .val (.int i8), s9, s10, s11, s12, s13, s14, .val (.ref o15)] [(.int (1 : Int32)), (.ref o15)])) _
  refine X0.baloadBytes hx (j := (1 : Int32)) (v := (.int w7)) (by rw [e0]; exact Ar_o15.1) (State.isArrayOf_alike hZ.alike Ar_o15.2.1) Ar_o15.2.2 hin256 hat256 (g := (mkF m 256 #[s0, s1, s2, s3, s4, s5, .val (.int i6), s7, .val (.int i8), s9, s10, s11, s12, s13, s14, .val (.ref o15)] [(.int (1 : Int32)), (.ref o15)])) rfl rfl (hb hby at_256) _ ?_
  show Steps p.tables e below (T0.setTop (mkF m 257 #[s0, s1, s2, s3, s4, s5, .val (.int i6), s7, .val (.int i8), s9, s10, s11, s12, s13, s14, .val (.ref o15)] [(.int w7)])) _
  refine XS.iload X0.here hx rfl (hb hby at_257) rfl ?_
  show Steps p.tables e below (T0.setTop (mkF m 259 #[s0, s1, s2, s3, s4, s5, .val (.int i6), s7, .val (.int i8), s9, s10, s11, s12, s13, s14, .val (.ref o15)] [(.int i8), (.int w7)])) _
  refine XS.icmpYes X0.here hx rfl (pc0 := 259) (pc' := 264) rfl (hb hby at_259) rfl (teq hc259).1 (by decide) (by decide) ?_
  exact kt
theorem blkD_1 {p : Program} {l : Launch} {e : Env} {R : Room} {s : State} {m : MethodId} {args : Array Value} {below : List Frame} {meth : Method} {c : Code} {T0 : State} {locs : List Loc} {cells slots : Nat} {Z : State} {a0 : Array Value} {h0 : Heap} (s0 : Slot) (s1 : Slot) (s2 : Slot) (s3 : Slot) (s4 : Slot) (s5 : Slot) (i6 : Int32) (s7 : Slot) (i8 : Int32) (s9 : Slot) (s10 : Slot) (s11 : Slot) (s12 : Slot) (s13 : Slot) (s14 : Slot) (o15 : Addr)
    (X0 : Stand p l e R s m args below meth c T0 locs cells slots) (hx : p.tables.exec = Jvm.exec) (hZ : Z.Warmed39 s.vm) (hw : ∀ d ∈ tables_1, d.before a0 Z = true) (hby : c.code = code) (hml : c.maxLocals = 16) (hown : s.vm.findClass "com/example/votary/votary/MessageQueryTextPinLaw" = some m.cls) (e0 : T0.heap = h0) (kk : ClassId) (us : List Value) (VV : Arv Z h0 o15 kk .byte i6 us (.int (0 : Int32))) (hat : (1 : Int32) < i6 → us.getD 1 (.int (0 : Int32)) = .int i8) :
    ∀ target, Steps p.tables e below (T0.setTop (mkF m 264 #[s0, s1, s2, s3, s4, s5, .val (.int i6), s7, .val (.int i8), s9, s10, s11, s12, s13, s14, .val (.ref o15)] [])) target → Steps p.tables e below (T0.setTop (mkF m 247 #[s0, s1, s2, s3, s4, s5, .val (.int i6), s7, .val (.int i8), s9, s10, s11, s12, s13, s14, .val (.ref o15)] [])) target := by
  by_cases g : (1 : Int32) < i6
  · obtain ⟨cl, Ar, -, S, N, H, -⟩ := VV
    have hin : ¬ ((1 : Int32) < 0 ∨ cl.slots.size ≤ ((1 : Int32)).toNatClampNeg) := inb_of S ⟨by decide, g⟩
    exact tn0_247_264_ft s0 s1 s2 s3 s4 s5 i6 s7 i8 s9 s10 s11 s12 s13 s14 o15 i8 cl X0 hx hZ hw hby hml hown e0 Ar hin (H.at hin (hat g)) g rfl
  · exact tn0_247_264_t s0 s1 s2 s3 s4 s5 i6 s7 i8 s9 s10 s11 s12 s13 s14 o15 X0 hx hZ hw hby hml hown e0 g
set_option maxRecDepth 65536 in
set_option maxHeartbeats 40000000 in
theorem tn0_264_281_t {p : Program} {l : Launch} {e : Env} {R : Room} {s : State} {m : MethodId} {args : Array Value} {below : List Frame} {meth : Method} {c : Code} {T0 : State} {locs : List Loc} {cells slots : Nat} {Z : State} {a0 : Array Value} {h0 : Heap} (s0 : Slot) (s1 : Slot) (s2 : Slot) (s3 : Slot) (s4 : Slot) (s5 : Slot) (i6 : Int32) (s7 : Slot) (s8 : Slot) (i9 : Int32) (s10 : Slot) (s11 : Slot) (s12 : Slot) (s13 : Slot) (s14 : Slot) (o15 : Addr)
    (X0 : Stand p l e R s m args below meth c T0 locs cells slots) (hx : p.tables.exec = Jvm.exec) (hZ : Z.Warmed39 s.vm) (hw : ∀ d ∈ tables_1, d.before a0 Z = true) (hby : c.code = code) (hml : c.maxLocals = 16) (hown : s.vm.findClass "com/example/votary/votary/MessageQueryTextPinLaw" = some m.cls) (e0 : T0.heap = h0) (hc267 : ¬ ((2 : Int32) < i6)) :
    ∀ target, Steps p.tables e below (T0.setTop (mkF m 281 #[s0, s1, s2, s3, s4, s5, .val (.int i6), s7, s8, .val (.int i9), s10, s11, s12, s13, s14, .val (.ref o15)] [])) target → Steps p.tables e below (T0.setTop (mkF m 264 #[s0, s1, s2, s3, s4, s5, .val (.int i6), s7, s8, .val (.int i9), s10, s11, s12, s13, s14, .val (.ref o15)] [])) target := by

  intro target kt
  show Steps p.tables e below (T0.setTop (mkF m 264 #[s0, s1, s2, s3, s4, s5, .val (.int i6), s7, s8, .val (.int i9), s10, s11, s12, s13, s14, .val (.ref o15)] [])) _
  refine XS.iload X0.here hx rfl (hb hby at_264) rfl ?_
  show Steps p.tables e below (T0.setTop (mkF m 266 #[s0, s1, s2, s3, s4, s5, .val (.int i6), s7, s8, .val (.int i9), s10, s11, s12, s13, s14, .val (.ref o15)] [(.int i6)])) _
  refine XS.iconst X0.here hx rfl (hb hby at_266) ?_
  show Steps p.tables e below (T0.setTop (mkF m 267 #[s0, s1, s2, s3, s4, s5, .val (.int i6), s7, s8, .val (.int i9), s10, s11, s12, s13, s14, .val (.ref o15)] [(.int (2 : Int32)), (.int i6)])) _
  refine XS.icmpYes X0.here hx rfl (pc0 := 267) (pc' := 281) rfl (hb hby at_267) rfl (flt hc267).2.2.2 (by decide) (by decide) ?_
  exact kt
set_option maxRecDepth 65536 in
set_option maxHeartbeats 40000000 in
theorem tn0_264_281_ft {p : Program} {l : Launch} {e : Env} {R : Room} {s : State} {m : MethodId} {args : Array Value} {below : List Frame} {meth : Method} {c : Code} {T0 : State} {locs : List Loc} {cells slots : Nat} {Z : State} {a0 : Array Value} {h0 : Heap} (s0 : Slot) (s1 : Slot) (s2 : Slot) (s3 : Slot) (s4 : Slot) (s5 : Slot) (i6 : Int32) (s7 : Slot) (s8 : Slot) (i9 : Int32) (s10 : Slot) (s11 : Slot) (s12 : Slot) (s13 : Slot) (s14 : Slot) (o15 : Addr) (w7 : Int32) (cl_o15 : Cell)
    (X0 : Stand p l e R s m args below meth c T0 locs cells slots) (hx : p.tables.exec = Jvm.exec) (hZ : Z.Warmed39 s.vm) (hw : ∀ d ∈ tables_1, d.before a0 Z = true) (hby : c.code = code) (hml : c.maxLocals = 16) (hown : s.vm.findClass "com/example/votary/votary/MessageQueryTextPinLaw" = some m.cls) (e0 : T0.heap = h0) (Ar_o15 : Arr Z h0 o15 cl_o15 .byte) (hin273 : ¬ ((2 : Int32) < 0 ∨ cl_o15.slots.size ≤ ((2 : Int32)).toNatClampNeg)) (hat273 : cl_o15.slots[((2 : Int32)).toNatClampNeg]? = some (.int w7)) (hc267 : (2 : Int32) < i6) (hc276 : w7 = i9) :
    ∀ target, Steps p.tables e below (T0.setTop (mkF m 281 #[s0, s1, s2, s3, s4, s5, .val (.int i6), s7, s8, .val (.int i9), s10, s11, s12, s13, s14, .val (.ref o15)] [])) target → Steps p.tables e below (T0.setTop (mkF m 264 #[s0, s1, s2, s3, s4, s5, .val (.int i6), s7, s8, .val (.int i9), s10, s11, s12, s13, s14, .val (.ref o15)] [])) target := by

  intro target kt
  show Steps p.tables e below (T0.setTop (mkF m 264 #[s0, s1, s2, s3, s4, s5, .val (.int i6), s7, s8, .val (.int i9), s10, s11, s12, s13, s14, .val (.ref o15)] [])) _
  refine XS.iload X0.here hx rfl (hb hby at_264) rfl ?_
  show Steps p.tables e below (T0.setTop (mkF m 266 #[s0, s1, s2, s3, s4, s5, .val (.int i6), s7, s8, .val (.int i9), s10, s11, s12, s13, s14, .val (.ref o15)] [(.int i6)])) _
  refine XS.iconst X0.here hx rfl (hb hby at_266) ?_
  show Steps p.tables e below (T0.setTop (mkF m 267 #[s0, s1, s2, s3, s4, s5, .val (.int i6), s7, s8, .val (.int i9), s10, s11, s12, s13, s14, .val (.ref o15)] [(.int (2 : Int32)), (.int i6)])) _
  refine XS.icmpNo X0.here hx rfl (hb hby at_267) rfl (tlt hc267).2.2.2 ?_
  show Steps p.tables e below (T0.setTop (mkF m 270 #[s0, s1, s2, s3, s4, s5, .val (.int i6), s7, s8, .val (.int i9), s10, s11, s12, s13, s14, .val (.ref o15)] [])) _
  refine XS.aload X0.here hx rfl (hb hby at_270) rfl rfl ?_
  show Steps p.tables e below (T0.setTop (mkF m 272 #[s0, s1, s2, s3, s4, s5, .val (.int i6), s7, s8, .val (.int i9), s10, s11, s12, s13, s14, .val (.ref o15)] [(.ref o15)])) _
  refine XS.iconst X0.here hx rfl (hb hby at_272) ?_
  show Steps p.tables e below (T0.setTop (mkF m 273 #[s0, s1, s2, s3, s4, s5, .val (.int i6), s7, s8, .val (.int i9), s10, s11, s12, s13, s14, .val (.ref o15)] [(.int (2 : Int32)), (.ref o15)])) _
  refine X0.baloadBytes hx (j := (2 : Int32)) (v := (.int w7)) (by rw [e0]; exact Ar_o15.1) (State.isArrayOf_alike hZ.alike Ar_o15.2.1) Ar_o15.2.2 hin273 hat273 (g := (mkF m 273 #[s0, s1, s2, s3, s4, s5, .val (.int i6), s7, s8, .val (.int i9), s10, s11, s12, s13, s14, .val (.ref o15)] [(.int (2 : Int32)), (.ref o15)])) rfl rfl (hb hby at_273) _ ?_
  show Steps p.tables e below (T0.setTop (mkF m 274 #[s0, s1, s2, s3, s4, s5, .val (.int i6), s7, s8, .val (.int i9), s10, s11, s12, s13, s14, .val (.ref o15)] [(.int w7)])) _
  refine XS.iload X0.here hx rfl (hb hby at_274) rfl ?_
  show Steps p.tables e below (T0.setTop (mkF m 276 #[s0, s1, s2, s3, s4, s5, .val (.int i6), s7, s8, .val (.int i9), s10, s11, s12, s13, s14, .val (.ref o15)] [(.int i9), (.int w7)])) _
  refine XS.icmpYes X0.here hx rfl (pc0 := 276) (pc' := 281) rfl (hb hby at_276) rfl (teq hc276).1 (by decide) (by decide) ?_
  exact kt
theorem blkD_2 {p : Program} {l : Launch} {e : Env} {R : Room} {s : State} {m : MethodId} {args : Array Value} {below : List Frame} {meth : Method} {c : Code} {T0 : State} {locs : List Loc} {cells slots : Nat} {Z : State} {a0 : Array Value} {h0 : Heap} (s0 : Slot) (s1 : Slot) (s2 : Slot) (s3 : Slot) (s4 : Slot) (s5 : Slot) (i6 : Int32) (s7 : Slot) (s8 : Slot) (i9 : Int32) (s10 : Slot) (s11 : Slot) (s12 : Slot) (s13 : Slot) (s14 : Slot) (o15 : Addr)
    (X0 : Stand p l e R s m args below meth c T0 locs cells slots) (hx : p.tables.exec = Jvm.exec) (hZ : Z.Warmed39 s.vm) (hw : ∀ d ∈ tables_1, d.before a0 Z = true) (hby : c.code = code) (hml : c.maxLocals = 16) (hown : s.vm.findClass "com/example/votary/votary/MessageQueryTextPinLaw" = some m.cls) (e0 : T0.heap = h0) (kk : ClassId) (us : List Value) (VV : Arv Z h0 o15 kk .byte i6 us (.int (0 : Int32))) (hat : (2 : Int32) < i6 → us.getD 2 (.int (0 : Int32)) = .int i9) :
    ∀ target, Steps p.tables e below (T0.setTop (mkF m 281 #[s0, s1, s2, s3, s4, s5, .val (.int i6), s7, s8, .val (.int i9), s10, s11, s12, s13, s14, .val (.ref o15)] [])) target → Steps p.tables e below (T0.setTop (mkF m 264 #[s0, s1, s2, s3, s4, s5, .val (.int i6), s7, s8, .val (.int i9), s10, s11, s12, s13, s14, .val (.ref o15)] [])) target := by
  by_cases g : (2 : Int32) < i6
  · obtain ⟨cl, Ar, -, S, N, H, -⟩ := VV
    have hin : ¬ ((2 : Int32) < 0 ∨ cl.slots.size ≤ ((2 : Int32)).toNatClampNeg) := inb_of S ⟨by decide, g⟩
    exact tn0_264_281_ft s0 s1 s2 s3 s4 s5 i6 s7 s8 i9 s10 s11 s12 s13 s14 o15 i9 cl X0 hx hZ hw hby hml hown e0 Ar hin (H.at hin (hat g)) g rfl
  · exact tn0_264_281_t s0 s1 s2 s3 s4 s5 i6 s7 s8 i9 s10 s11 s12 s13 s14 o15 X0 hx hZ hw hby hml hown e0 g
set_option maxRecDepth 65536 in
set_option maxHeartbeats 40000000 in
theorem tn0_281_298_t {p : Program} {l : Launch} {e : Env} {R : Room} {s : State} {m : MethodId} {args : Array Value} {below : List Frame} {meth : Method} {c : Code} {T0 : State} {locs : List Loc} {cells slots : Nat} {Z : State} {a0 : Array Value} {h0 : Heap} (s0 : Slot) (s1 : Slot) (s2 : Slot) (s3 : Slot) (s4 : Slot) (s5 : Slot) (i6 : Int32) (s7 : Slot) (s8 : Slot) (s9 : Slot) (i10 : Int32) (s11 : Slot) (s12 : Slot) (s13 : Slot) (s14 : Slot) (o15 : Addr)
    (X0 : Stand p l e R s m args below meth c T0 locs cells slots) (hx : p.tables.exec = Jvm.exec) (hZ : Z.Warmed39 s.vm) (hw : ∀ d ∈ tables_1, d.before a0 Z = true) (hby : c.code = code) (hml : c.maxLocals = 16) (hown : s.vm.findClass "com/example/votary/votary/MessageQueryTextPinLaw" = some m.cls) (e0 : T0.heap = h0) (hc284 : ¬ ((3 : Int32) < i6)) :
    ∀ target, Steps p.tables e below (T0.setTop (mkF m 298 #[s0, s1, s2, s3, s4, s5, .val (.int i6), s7, s8, s9, .val (.int i10), s11, s12, s13, s14, .val (.ref o15)] [])) target → Steps p.tables e below (T0.setTop (mkF m 281 #[s0, s1, s2, s3, s4, s5, .val (.int i6), s7, s8, s9, .val (.int i10), s11, s12, s13, s14, .val (.ref o15)] [])) target := by

  intro target kt
  show Steps p.tables e below (T0.setTop (mkF m 281 #[s0, s1, s2, s3, s4, s5, .val (.int i6), s7, s8, s9, .val (.int i10), s11, s12, s13, s14, .val (.ref o15)] [])) _
  refine XS.iload X0.here hx rfl (hb hby at_281) rfl ?_
  show Steps p.tables e below (T0.setTop (mkF m 283 #[s0, s1, s2, s3, s4, s5, .val (.int i6), s7, s8, s9, .val (.int i10), s11, s12, s13, s14, .val (.ref o15)] [(.int i6)])) _
  refine XS.iconst X0.here hx rfl (hb hby at_283) ?_
  show Steps p.tables e below (T0.setTop (mkF m 284 #[s0, s1, s2, s3, s4, s5, .val (.int i6), s7, s8, s9, .val (.int i10), s11, s12, s13, s14, .val (.ref o15)] [(.int (3 : Int32)), (.int i6)])) _
  refine XS.icmpYes X0.here hx rfl (pc0 := 284) (pc' := 298) rfl (hb hby at_284) rfl (flt hc284).2.2.2 (by decide) (by decide) ?_
  exact kt
set_option maxRecDepth 65536 in
set_option maxHeartbeats 40000000 in
theorem tn0_281_298_ft {p : Program} {l : Launch} {e : Env} {R : Room} {s : State} {m : MethodId} {args : Array Value} {below : List Frame} {meth : Method} {c : Code} {T0 : State} {locs : List Loc} {cells slots : Nat} {Z : State} {a0 : Array Value} {h0 : Heap} (s0 : Slot) (s1 : Slot) (s2 : Slot) (s3 : Slot) (s4 : Slot) (s5 : Slot) (i6 : Int32) (s7 : Slot) (s8 : Slot) (s9 : Slot) (i10 : Int32) (s11 : Slot) (s12 : Slot) (s13 : Slot) (s14 : Slot) (o15 : Addr) (w7 : Int32) (cl_o15 : Cell)
    (X0 : Stand p l e R s m args below meth c T0 locs cells slots) (hx : p.tables.exec = Jvm.exec) (hZ : Z.Warmed39 s.vm) (hw : ∀ d ∈ tables_1, d.before a0 Z = true) (hby : c.code = code) (hml : c.maxLocals = 16) (hown : s.vm.findClass "com/example/votary/votary/MessageQueryTextPinLaw" = some m.cls) (e0 : T0.heap = h0) (Ar_o15 : Arr Z h0 o15 cl_o15 .byte) (hin290 : ¬ ((3 : Int32) < 0 ∨ cl_o15.slots.size ≤ ((3 : Int32)).toNatClampNeg)) (hat290 : cl_o15.slots[((3 : Int32)).toNatClampNeg]? = some (.int w7)) (hc284 : (3 : Int32) < i6) (hc293 : w7 = i10) :
    ∀ target, Steps p.tables e below (T0.setTop (mkF m 298 #[s0, s1, s2, s3, s4, s5, .val (.int i6), s7, s8, s9, .val (.int i10), s11, s12, s13, s14, .val (.ref o15)] [])) target → Steps p.tables e below (T0.setTop (mkF m 281 #[s0, s1, s2, s3, s4, s5, .val (.int i6), s7, s8, s9, .val (.int i10), s11, s12, s13, s14, .val (.ref o15)] [])) target := by

  intro target kt
  show Steps p.tables e below (T0.setTop (mkF m 281 #[s0, s1, s2, s3, s4, s5, .val (.int i6), s7, s8, s9, .val (.int i10), s11, s12, s13, s14, .val (.ref o15)] [])) _
  refine XS.iload X0.here hx rfl (hb hby at_281) rfl ?_
  show Steps p.tables e below (T0.setTop (mkF m 283 #[s0, s1, s2, s3, s4, s5, .val (.int i6), s7, s8, s9, .val (.int i10), s11, s12, s13, s14, .val (.ref o15)] [(.int i6)])) _
  refine XS.iconst X0.here hx rfl (hb hby at_283) ?_
  show Steps p.tables e below (T0.setTop (mkF m 284 #[s0, s1, s2, s3, s4, s5, .val (.int i6), s7, s8, s9, .val (.int i10), s11, s12, s13, s14, .val (.ref o15)] [(.int (3 : Int32)), (.int i6)])) _
  refine XS.icmpNo X0.here hx rfl (hb hby at_284) rfl (tlt hc284).2.2.2 ?_
  show Steps p.tables e below (T0.setTop (mkF m 287 #[s0, s1, s2, s3, s4, s5, .val (.int i6), s7, s8, s9, .val (.int i10), s11, s12, s13, s14, .val (.ref o15)] [])) _
  refine XS.aload X0.here hx rfl (hb hby at_287) rfl rfl ?_
  show Steps p.tables e below (T0.setTop (mkF m 289 #[s0, s1, s2, s3, s4, s5, .val (.int i6), s7, s8, s9, .val (.int i10), s11, s12, s13, s14, .val (.ref o15)] [(.ref o15)])) _
  refine XS.iconst X0.here hx rfl (hb hby at_289) ?_
  show Steps p.tables e below (T0.setTop (mkF m 290 #[s0, s1, s2, s3, s4, s5, .val (.int i6), s7, s8, s9, .val (.int i10), s11, s12, s13, s14, .val (.ref o15)] [(.int (3 : Int32)), (.ref o15)])) _
  refine X0.baloadBytes hx (j := (3 : Int32)) (v := (.int w7)) (by rw [e0]; exact Ar_o15.1) (State.isArrayOf_alike hZ.alike Ar_o15.2.1) Ar_o15.2.2 hin290 hat290 (g := (mkF m 290 #[s0, s1, s2, s3, s4, s5, .val (.int i6), s7, s8, s9, .val (.int i10), s11, s12, s13, s14, .val (.ref o15)] [(.int (3 : Int32)), (.ref o15)])) rfl rfl (hb hby at_290) _ ?_
  show Steps p.tables e below (T0.setTop (mkF m 291 #[s0, s1, s2, s3, s4, s5, .val (.int i6), s7, s8, s9, .val (.int i10), s11, s12, s13, s14, .val (.ref o15)] [(.int w7)])) _
  refine XS.iload X0.here hx rfl (hb hby at_291) rfl ?_
  show Steps p.tables e below (T0.setTop (mkF m 293 #[s0, s1, s2, s3, s4, s5, .val (.int i6), s7, s8, s9, .val (.int i10), s11, s12, s13, s14, .val (.ref o15)] [(.int i10), (.int w7)])) _
  refine XS.icmpYes X0.here hx rfl (pc0 := 293) (pc' := 298) rfl (hb hby at_293) rfl (teq hc293).1 (by decide) (by decide) ?_
  exact kt
theorem blkD_3 {p : Program} {l : Launch} {e : Env} {R : Room} {s : State} {m : MethodId} {args : Array Value} {below : List Frame} {meth : Method} {c : Code} {T0 : State} {locs : List Loc} {cells slots : Nat} {Z : State} {a0 : Array Value} {h0 : Heap} (s0 : Slot) (s1 : Slot) (s2 : Slot) (s3 : Slot) (s4 : Slot) (s5 : Slot) (i6 : Int32) (s7 : Slot) (s8 : Slot) (s9 : Slot) (i10 : Int32) (s11 : Slot) (s12 : Slot) (s13 : Slot) (s14 : Slot) (o15 : Addr)
    (X0 : Stand p l e R s m args below meth c T0 locs cells slots) (hx : p.tables.exec = Jvm.exec) (hZ : Z.Warmed39 s.vm) (hw : ∀ d ∈ tables_1, d.before a0 Z = true) (hby : c.code = code) (hml : c.maxLocals = 16) (hown : s.vm.findClass "com/example/votary/votary/MessageQueryTextPinLaw" = some m.cls) (e0 : T0.heap = h0) (kk : ClassId) (us : List Value) (VV : Arv Z h0 o15 kk .byte i6 us (.int (0 : Int32))) (hat : (3 : Int32) < i6 → us.getD 3 (.int (0 : Int32)) = .int i10) :
    ∀ target, Steps p.tables e below (T0.setTop (mkF m 298 #[s0, s1, s2, s3, s4, s5, .val (.int i6), s7, s8, s9, .val (.int i10), s11, s12, s13, s14, .val (.ref o15)] [])) target → Steps p.tables e below (T0.setTop (mkF m 281 #[s0, s1, s2, s3, s4, s5, .val (.int i6), s7, s8, s9, .val (.int i10), s11, s12, s13, s14, .val (.ref o15)] [])) target := by
  by_cases g : (3 : Int32) < i6
  · obtain ⟨cl, Ar, -, S, N, H, -⟩ := VV
    have hin : ¬ ((3 : Int32) < 0 ∨ cl.slots.size ≤ ((3 : Int32)).toNatClampNeg) := inb_of S ⟨by decide, g⟩
    exact tn0_281_298_ft s0 s1 s2 s3 s4 s5 i6 s7 s8 s9 i10 s11 s12 s13 s14 o15 i10 cl X0 hx hZ hw hby hml hown e0 Ar hin (H.at hin (hat g)) g rfl
  · exact tn0_281_298_t s0 s1 s2 s3 s4 s5 i6 s7 s8 s9 i10 s11 s12 s13 s14 o15 X0 hx hZ hw hby hml hown e0 g
theorem own_e (n b0 b1 b2 b3 : Int32) :
    (eOf n b0 b1 b2 b3 = 0 ∧ ¬ (0 < n ∧ ¬ b0 = 0) ∧ ¬ (1 < n ∧ ¬ b1 = 0) ∧ ¬ (2 < n ∧ ¬ b2 = 0) ∧ ¬ (3 < n ∧ ¬ b3 = 0)) ∨ (eOf n b0 b1 b2 b3 = 1 ∧ (0 < n ∧ ¬ b0 = 0) ∧ ¬ (1 < n ∧ ¬ b1 = 0) ∧ ¬ (2 < n ∧ ¬ b2 = 0) ∧ ¬ (3 < n ∧ ¬ b3 = 0)) ∨
      (eOf n b0 b1 b2 b3 = 2 ∧ (1 < n ∧ ¬ b1 = 0) ∧ ¬ (2 < n ∧ ¬ b2 = 0) ∧ ¬ (3 < n ∧ ¬ b3 = 0)) ∨ (eOf n b0 b1 b2 b3 = 3 ∧ (2 < n ∧ ¬ b2 = 0) ∧ ¬ (3 < n ∧ ¬ b3 = 0)) ∨ (eOf n b0 b1 b2 b3 = 4 ∧ (3 < n ∧ ¬ b3 = 0)) := by
  unfold eOf stp
  by_cases p3 : 3 < n ∧ ¬ b3 = 0
  · exact Or.inr (Or.inr (Or.inr (Or.inr ⟨if_pos p3, p3⟩)))
  · rw [if_neg p3]
    by_cases p2 : 2 < n ∧ ¬ b2 = 0
    · exact Or.inr (Or.inr (Or.inr (Or.inl ⟨if_pos p2, p2, p3⟩)))
    · rw [if_neg p2]
      by_cases p1 : 1 < n ∧ ¬ b1 = 0
      · exact Or.inr (Or.inr (Or.inl ⟨if_pos p1, p1, p2, p3⟩))
      · rw [if_neg p1]
        by_cases p0 : 0 < n ∧ ¬ b0 = 0
        · exact Or.inr (Or.inl ⟨if_pos p0, p0, p1, p2, p3⟩)
        · exact Or.inl ⟨if_neg p0, p0, p1, p2, p3⟩
theorem own_cnt (p : Int32) : ((p &&& (2147483647 : Int32)) % (5 : Int32)) = (0 : Int32) ∨ ((p &&& (2147483647 : Int32)) % (5 : Int32)) = (1 : Int32) ∨ ((p &&& (2147483647 : Int32)) % (5 : Int32)) = (2 : Int32) ∨ ((p &&& (2147483647 : Int32)) % (5 : Int32)) = (3 : Int32) ∨ ((p &&& (2147483647 : Int32)) % (5 : Int32)) = (4 : Int32) := by
  have a1 := c_mask p 2147483647 31 (by decide) (by decide)
  have a2 := (c_irem (p &&& 2147483647) 5 5 rfl).1 (by omega)
  generalize (p &&& 2147483647) % 5 = n at *
  have a3 : n.toInt = 0 ∨ n.toInt = 1 ∨ n.toInt = 2 ∨ n.toInt = 3 ∨ n.toInt = 4 := by omega
  rcases a3 with h | h | h | h | h
  · exact Or.inl (Int32.toInt_inj.mp h)
  · exact Or.inr (Or.inl (Int32.toInt_inj.mp h))
  · exact Or.inr (Or.inr (Or.inl (Int32.toInt_inj.mp h)))
  · exact Or.inr (Or.inr (Or.inr (Or.inl (Int32.toInt_inj.mp h))))
  · exact Or.inr (Or.inr (Or.inr (Or.inr (Int32.toInt_inj.mp h))))
theorem own_five {n : Int32} (hn : n = (0 : Int32) ∨ n = (1 : Int32) ∨ n = (2 : Int32) ∨ n = (3 : Int32) ∨ n = (4 : Int32)) : n.toNatClampNeg ≤ 4 := by rcases hn with rfl | rfl | rfl | rfl | rfl <;> decide
theorem own_at (n b0 b1 b2 b3 : Int32) (hn : n = (0 : Int32) ∨ n = (1 : Int32) ∨ n = (2 : Int32) ∨ n = (3 : Int32) ∨ n = (4 : Int32)) :
    ((0 : Int32) < n → (vsOf n b0 b1 b2 b3).getD 0 (.int (0 : Int32)) = .int b0) ∧ ((1 : Int32) < n → (vsOf n b0 b1 b2 b3).getD 1 (.int (0 : Int32)) = .int b1) ∧ ((2 : Int32) < n → (vsOf n b0 b1 b2 b3).getD 2 (.int (0 : Int32)) = .int b2) ∧ ((3 : Int32) < n → (vsOf n b0 b1 b2 b3).getD 3 (.int (0 : Int32)) = .int b3) := by
  rcases hn with rfl | rfl | rfl | rfl | rfl
  · exact ⟨fun q => absurd q (by decide), fun q => absurd q (by decide), fun q => absurd q (by decide), fun q => absurd q (by decide)⟩
  · exact ⟨fun _ => rfl, fun q => absurd q (by decide), fun q => absurd q (by decide), fun q => absurd q (by decide)⟩
  · exact ⟨fun _ => rfl, fun _ => rfl, fun q => absurd q (by decide), fun q => absurd q (by decide)⟩
  · exact ⟨fun _ => rfl, fun _ => rfl, fun _ => rfl, fun q => absurd q (by decide)⟩
  · exact ⟨fun _ => rfl, fun _ => rfl, fun _ => rfl, fun _ => rfl⟩
theorem own_q (n b0 b1 b2 b3 : Int32) (hn : n = (0 : Int32) ∨ n = (1 : Int32) ∨ n = (2 : Int32) ∨ n = (3 : Int32) ∨ n = (4 : Int32)) :
    0 ≤ (eOf n b0 b1 b2 b3).toInt ∧ (eOf n b0 b1 b2 b3).toInt ≤ n.toInt ∧ (∀ j : Int32, (eOf n b0 b1 b2 b3).toInt ≤ j.toInt → j.toInt < n.toInt → (vsOf n b0 b1 b2 b3).getD j.toNatClampNeg (.int (0 : Int32)) = .int (0 : Int32)) ∧
      (eOf n b0 b1 b2 b3 = (0 : Int32) ∨ ∃ x : Int32, (vsOf n b0 b1 b2 b3).getD (eOf n b0 b1 b2 b3 - (1 : Int32)).toNatClampNeg (.int (0 : Int32)) = .int x ∧ ¬ (x = (0 : Int32))) := by
  have l0 : (0 : Int32).toInt = 0 := rfl
  have l1 : (1 : Int32).toInt = 1 := rfl
  have l2 : (2 : Int32).toInt = 2 := rfl
  have l3 : (3 : Int32).toInt = 3 := rfl
  have l4 : (4 : Int32).toInt = 4 := rfl
  have hA := own_at n b0 b1 b2 b3 hn
  have hb : n.toInt ≤ 4 ∧ 0 ≤ n.toInt := by rcases hn with rfl | rfl | rfl | rfl | rfl <;> decide
  have key : ∀ j : Int32, 0 ≤ j.toInt → j.toInt < n.toInt → (¬ (0 < n ∧ ¬ b0 = 0) ∨ 0 < j.toInt) → (¬ (1 < n ∧ ¬ b1 = 0) ∨ 1 < j.toInt) → (¬ (2 < n ∧ ¬ b2 = 0) ∨ 2 < j.toInt) → (¬ (3 < n ∧ ¬ b3 = 0) ∨ 3 < j.toInt) → (vsOf n b0 b1 b2 b3).getD j.toNatClampNeg (.int (0 : Int32)) = .int (0 : Int32) := by
    intro j j0 j1 q0 q1 q2 q3
    have hj : j.toInt = 0 ∨ j.toInt = 1 ∨ j.toInt = 2 ∨ j.toInt = 3 := by omega
    rcases hj with h | h | h | h
    · obtain rfl : j = (0 : Int32) := Int32.toInt_inj.mp h
      have g : (0 : Int32) < n := by rw [Int32.lt_iff_toInt_lt]; omega
      have z : b0 = 0 := Classical.byContradiction fun y => (q0.resolve_right (by omega)) ⟨g, y⟩
      exact (hA.1 g).trans (by rw [z])
    · obtain rfl : j = (1 : Int32) := Int32.toInt_inj.mp h
      have g : (1 : Int32) < n := by rw [Int32.lt_iff_toInt_lt]; omega
      have z : b1 = 0 := Classical.byContradiction fun y => (q1.resolve_right (by omega)) ⟨g, y⟩
      exact (hA.2.1 g).trans (by rw [z])
    · obtain rfl : j = (2 : Int32) := Int32.toInt_inj.mp h
      have g : (2 : Int32) < n := by rw [Int32.lt_iff_toInt_lt]; omega
      have z : b2 = 0 := Classical.byContradiction fun y => (q2.resolve_right (by omega)) ⟨g, y⟩
      exact (hA.2.2.1 g).trans (by rw [z])
    · obtain rfl : j = (3 : Int32) := Int32.toInt_inj.mp h
      have g : (3 : Int32) < n := by rw [Int32.lt_iff_toInt_lt]; omega
      have z : b3 = 0 := Classical.byContradiction fun y => (q3.resolve_right (by omega)) ⟨g, y⟩
      exact (hA.2.2.2 g).trans (by rw [z])
  rcases own_e n b0 b1 b2 b3 with ⟨e, z0, z1, z2, z3⟩ | ⟨e, p, z1, z2, z3⟩ | ⟨e, p, z2, z3⟩ | ⟨e, p, z3⟩ | ⟨e, p⟩
  · rw [e]
    exact ⟨by decide, by omega, fun j a b => key j (by omega) b (Or.inl z0) (Or.inl z1) (Or.inl z2) (Or.inl z3), Or.inl rfl⟩
  · rw [e]
    have g := p.1
    rw [Int32.lt_iff_toInt_lt] at g
    exact ⟨by decide, by omega, fun j a b => key j (by omega) b (Or.inr (by omega)) (Or.inl z1) (Or.inl z2) (Or.inl z3), Or.inr ⟨b0, hA.1 p.1, p.2⟩⟩
  · rw [e]
    have g := p.1
    rw [Int32.lt_iff_toInt_lt] at g
    exact ⟨by decide, by omega, fun j a b => key j (by omega) b (Or.inr (by omega)) (Or.inr (by omega)) (Or.inl z2) (Or.inl z3), Or.inr ⟨b1, hA.2.1 p.1, p.2⟩⟩
  · rw [e]
    have g := p.1
    rw [Int32.lt_iff_toInt_lt] at g
    exact ⟨by decide, by omega, fun j a b => key j (by omega) b (Or.inr (by omega)) (Or.inr (by omega)) (Or.inr (by omega)) (Or.inl z3), Or.inr ⟨b2, hA.2.2.1 p.1, p.2⟩⟩
  · rw [e]
    have g := p.1
    rw [Int32.lt_iff_toInt_lt] at g
    exact ⟨by decide, by omega, fun j a b => key j (by omega) b (Or.inr (by omega)) (Or.inr (by omega)) (Or.inr (by omega)) (Or.inr (by omega)), Or.inr ⟨b3, hA.2.2.2 p.1, p.2⟩⟩
theorem own_lt {i e n : Int32} (h : i < e) (hle : e.toInt ≤ n.toInt) : i < n := by
  rw [Int32.lt_iff_toInt_lt] at h ⊢
  omega
theorem own_ltn {i e : Int32} {k : Nat} (h : i < e) (hk : i.toInt = k) : k < e.toNatClampNeg := by
  have q : ¬ e < 0 := by
    rw [Int32.lt_iff_toInt_lt] at h ⊢
    have z0 : (0 : Int32).toInt = 0 := rfl
    omega
  have := nat_of q
  rw [Int32.lt_iff_toInt_lt] at h
  omega
theorem pn_0 : plainName "com/example/votary/votary/MessageQueryTextPinLaw" = true := by first | (simp [plainName, overriddenIn]; done) | decide +kernel
theorem pd_0_0 : parseMethodDescriptor "(I)B" = some ⟨[.int], some .byte⟩ := by decide +kernel
theorem pd_0_1 : parseMethodDescriptor "(IBBBB)[B" = some ⟨[.int, .byte, .byte, .byte, .byte], some (.array .byte)⟩ := by decide +kernel
theorem pd_0_2 : parseMethodDescriptor "(B[B)V" = some ⟨[.byte, (.array .byte)], none⟩ := by decide +kernel
theorem pd_0_4 : parseMethodDescriptor "()[B" = some ⟨[], some (.array .byte)⟩ := by decide +kernel
theorem ef_0 (m : MethodId) (x0 : Int32) (x1 : Int32) (x2 : Int32) (x3 : Int32) (x4 : Int32) (x5 : Int32) : entryFrame m #[(.int x0), (.int x1), (.int x2), (.int x3), (.int x4), (.int x5)] maxLocals = mkF m 0 #[.val (.int x0), .val (.int x1), .val (.int x2), .val (.int x3), .val (.int x4), .val (.int x5), .unset, .unset, .unset, .unset, .unset, .unset, .unset, .unset, .unset, .unset] [] := by first | (simp [entryFrame, mkF, argsToLocals, Value.category, maxLocals]; done) | rfl
def Q0 (Z : State) (p1 : Int32) (p2 : Int32) (p3 : Int32) (p4 : Int32) (p5 : Int32) (p6 : Int32) (h0 : Heap) (n0 : Nat) (v : Option Value) (h : Heap) (L : List Loc) : Prop := v = some (.int (1 : Int32)) ∧ Fr n0 L
set_option maxRecDepth 65536 in
set_option maxHeartbeats 40000000 in
theorem rm0 (l : Launch) (Z : State) (a0 : Array Value) (hw : ∀ d ∈ tables_1, d.before a0 Z = true) (ws : List Jvm.Cond) (p1 : Int32) (p2 : Int32) (p3 : Int32) (p4 : Int32) (p5 : Int32) (p6 : Int32) (h0 : Heap) (n0 : Nat) (Z0 : n0 ≤ h0.size) (hnz5 : ¬ ((5 : Int32) = (0 : Int32))) :
    MetFree l x (head1 (Jvm.Cond.code x code maxLocals ret :: ws) room_1) (fun a U => a = #[(.int p1), (.int p2), (.int p3), (.int p4), (.int p5), (.int p6)] ∧ Z.Warmed39 U.vm ∧ U.heap = h0) (fun _ _ _ _ _ => True) (fun _ U o U' => ∃ v L, o = .returned v ∧ Q0 Z p1 p2 p3 p4 p5 p6 h0 n0 v U'.heap L ∧ FrameEnd U o U' L room_1.cells room_1.slots) := by
  refine MetFree.of_bodySF (plainFor_of_name pn_0) hisR ?_
  intro p e s m args below meth c s₁ Bd hml0 hP hK
  obtain ⟨rfl, hZ, hh⟩ := hP
  have hx := Bd.exec
  have hby := Bd.bytes
  have hml : c.maxLocals = 16 := hml0
  have hown : s.vm.findClass "com/example/votary/votary/MessageQueryTextPinLaw" = some m.cls := findClass_of_methodNamed Bd.named
  have hnm := (name_of_methodNamed Bd.named Bd.method).1
  have X0 : Stand p l e room_1 s m #[(.int p1), (.int p2), (.int p3), (.int p4), (.int p5), (.int p6)] below meth c s₁ [] 0 0 := Stand.of_body Bd
  have e0 : s₁.heap = h0 := by rw [← hh, Bd.state]; rfl
  have N0 := Fr.nil n0
  have hn := own_cnt p1
  have hq := own_q ((p1 &&& (2147483647 : Int32)) % (5 : Int32)) (drawF p2) (drawF p3) (drawF p4) (drawF p5) hn
  have pre0 : ∀ t, Steps p.tables e below (s₁.setTop (mkF m 0 #[.val (.int p1), .val (.int p2), .val (.int p3), .val (.int p4), .val (.int p5), .val (.int p6), .unset, .unset, .unset, .unset, .unset, .unset, .unset, .unset, .unset, .unset] [])) t → Steps p.tables e below (s₁.setTop (entryFrame m #[(.int p1), (.int p2), (.int p3), (.int p4), (.int p5), (.int p6)] maxLocals)) t := fun t k => castTop (ef_0 m p1 p2 p3 p4 p5 p6) k
  obtain ⟨_, _, ⟨T7, L7, k7, n7⟩, -, X7, ⟨Lc7, hQ7, l7, y7, z7⟩, st7⟩ := Jvm.LawKit.callS X0 hx (y := (⟨"com/example/votary/votary/MessageQueryTextPinLaw", "draw", "(I)B"⟩ : MethodName)) hown (mvT hZ (hw _ (List.mem_of_getElem? (i := 1) rfl))) (mvT hZ (hw _ (List.mem_of_getElem? (i := 2) rfl))) (mvT hZ (hw _ (List.mem_of_getElem? (i := 3) rfl))) (mvT hZ (hw _ (List.mem_of_getElem? (i := 4) rfl))) (by decide) (backOf (W := 0) (rm1 l Z a0 hw [] p2  h0 n0 Z0 ) hZ (hw _ (List.mem_of_getElem? (i := 4) rfl)) (hw _ (List.mem_of_getElem? (i := 3) rfl)) (by decide) (by decide)) (g := (mkF m 9 #[.val (.int p1), .val (.int p2), .val (.int p3), .val (.int p4), .val (.int p5), .val (.int p6), .val (.int ((p1 &&& (2147483647 : Int32)) % (5 : Int32))), .unset, .unset, .unset, .unset, .unset, .unset, .unset, .unset, .unset] [(.int p2)])) rfl (by rw [hml]; rfl) (argsL := [(.int p2)]) (rest := []) (lenOf pd_0_0 rfl) rfl (by show 2 * 0 + _ ≤ _; exact Nat.le_of_eq rfl) (hb hby at_9) (fun _ _ => ⟨rfl, e0, (by decide : 0 + 0 ≤ _), (by decide : 0 + 0 ≤ _)⟩)
  dsimp only [Pt.U, Pt.locs, Pt.cells, Pt.slots] at X7 l7 y7 z7 st7 hQ7
  subst l7 y7 z7
  obtain ⟨rfl, N7q, hh7⟩ := hQ7
  have N7 := Fr.app N0 N7q
  obtain ⟨_, _, ⟨T8, L8, k8, n8⟩, -, X8, ⟨Lc8, hQ8, l8, y8, z8⟩, st8⟩ := Jvm.LawKit.callS X7 hx (y := (⟨"com/example/votary/votary/MessageQueryTextPinLaw", "draw", "(I)B"⟩ : MethodName)) hown (mvT hZ (hw _ (List.mem_of_getElem? (i := 1) rfl))) (mvT hZ (hw _ (List.mem_of_getElem? (i := 2) rfl))) (mvT hZ (hw _ (List.mem_of_getElem? (i := 3) rfl))) (mvT hZ (hw _ (List.mem_of_getElem? (i := 4) rfl))) (by decide) (backOf (W := 0) (rm1 l Z a0 hw [] p3  h0 n0 Z0 ) hZ (hw _ (List.mem_of_getElem? (i := 4) rfl)) (hw _ (List.mem_of_getElem? (i := 3) rfl)) (by decide) (by decide)) (g := (mkF m 15 #[.val (.int p1), .val (.int p2), .val (.int p3), .val (.int p4), .val (.int p5), .val (.int p6), .val (.int ((p1 &&& (2147483647 : Int32)) % (5 : Int32))), .val (.int (drawF p2)), .unset, .unset, .unset, .unset, .unset, .unset, .unset, .unset] [(.int p3)])) rfl (by rw [hml]; rfl) (argsL := [(.int p3)]) (rest := []) (lenOf pd_0_0 rfl) rfl (by show 2 * 0 + _ ≤ _; exact Nat.le_of_eq rfl) (hb hby at_15) (fun _ _ => ⟨rfl, hh7, (by decide : 0 + 0 ≤ _), (by decide : 0 + 0 ≤ _)⟩)
  dsimp only [Pt.U, Pt.locs, Pt.cells, Pt.slots] at X8 l8 y8 z8 st8 hQ8
  subst l8 y8 z8
  obtain ⟨rfl, N8q, hh8⟩ := hQ8
  have N8 := Fr.app N7 N8q
  obtain ⟨_, _, ⟨T9, L9, k9, n9⟩, -, X9, ⟨Lc9, hQ9, l9, y9, z9⟩, st9⟩ := Jvm.LawKit.callS X8 hx (y := (⟨"com/example/votary/votary/MessageQueryTextPinLaw", "draw", "(I)B"⟩ : MethodName)) hown (mvT hZ (hw _ (List.mem_of_getElem? (i := 1) rfl))) (mvT hZ (hw _ (List.mem_of_getElem? (i := 2) rfl))) (mvT hZ (hw _ (List.mem_of_getElem? (i := 3) rfl))) (mvT hZ (hw _ (List.mem_of_getElem? (i := 4) rfl))) (by decide) (backOf (W := 0) (rm1 l Z a0 hw [] p4  h0 n0 Z0 ) hZ (hw _ (List.mem_of_getElem? (i := 4) rfl)) (hw _ (List.mem_of_getElem? (i := 3) rfl)) (by decide) (by decide)) (g := (mkF m 21 #[.val (.int p1), .val (.int p2), .val (.int p3), .val (.int p4), .val (.int p5), .val (.int p6), .val (.int ((p1 &&& (2147483647 : Int32)) % (5 : Int32))), .val (.int (drawF p2)), .val (.int (drawF p3)), .unset, .unset, .unset, .unset, .unset, .unset, .unset] [(.int p4)])) rfl (by rw [hml]; rfl) (argsL := [(.int p4)]) (rest := []) (lenOf pd_0_0 rfl) rfl (by show 2 * 0 + _ ≤ _; exact Nat.le_of_eq rfl) (hb hby at_21) (fun _ _ => ⟨rfl, hh8, (by decide : 0 + 0 ≤ _), (by decide : 0 + 0 ≤ _)⟩)
  dsimp only [Pt.U, Pt.locs, Pt.cells, Pt.slots] at X9 l9 y9 z9 st9 hQ9
  subst l9 y9 z9
  obtain ⟨rfl, N9q, hh9⟩ := hQ9
  have N9 := Fr.app N8 N9q
  obtain ⟨_, _, ⟨T10, L10, k10, n10⟩, -, X10, ⟨Lc10, hQ10, l10, y10, z10⟩, st10⟩ := Jvm.LawKit.callS X9 hx (y := (⟨"com/example/votary/votary/MessageQueryTextPinLaw", "draw", "(I)B"⟩ : MethodName)) hown (mvT hZ (hw _ (List.mem_of_getElem? (i := 1) rfl))) (mvT hZ (hw _ (List.mem_of_getElem? (i := 2) rfl))) (mvT hZ (hw _ (List.mem_of_getElem? (i := 3) rfl))) (mvT hZ (hw _ (List.mem_of_getElem? (i := 4) rfl))) (by decide) (backOf (W := 0) (rm1 l Z a0 hw [] p5  h0 n0 Z0 ) hZ (hw _ (List.mem_of_getElem? (i := 4) rfl)) (hw _ (List.mem_of_getElem? (i := 3) rfl)) (by decide) (by decide)) (g := (mkF m 28 #[.val (.int p1), .val (.int p2), .val (.int p3), .val (.int p4), .val (.int p5), .val (.int p6), .val (.int ((p1 &&& (2147483647 : Int32)) % (5 : Int32))), .val (.int (drawF p2)), .val (.int (drawF p3)), .val (.int (drawF p4)), .unset, .unset, .unset, .unset, .unset, .unset] [(.int p5)])) rfl (by rw [hml]; rfl) (argsL := [(.int p5)]) (rest := []) (lenOf pd_0_0 rfl) rfl (by show 2 * 0 + _ ≤ _; exact Nat.le_of_eq rfl) (hb hby at_28) (fun _ _ => ⟨rfl, hh9, (by decide : 0 + 0 ≤ _), (by decide : 0 + 0 ≤ _)⟩)
  dsimp only [Pt.U, Pt.locs, Pt.cells, Pt.slots] at X10 l10 y10 z10 st10 hQ10
  subst l10 y10 z10
  obtain ⟨rfl, N10q, hh10⟩ := hQ10
  have N10 := Fr.app N9 N10q
  obtain ⟨_, _, ⟨T11, L11, k11, n11⟩, -, X11, ⟨Lc11, hQ11, l11, y11, z11⟩, st11⟩ := Jvm.LawKit.callS X10 hx (y := (⟨"com/example/votary/votary/MessageQueryTextPinLaw", "make", "(IBBBB)[B"⟩ : MethodName)) hown (mvT hZ (hw _ (List.mem_of_getElem? (i := 5) rfl))) (mvT hZ (hw _ (List.mem_of_getElem? (i := 6) rfl))) (mvT hZ (hw _ (List.mem_of_getElem? (i := 3) rfl))) (mvT hZ (hw _ (List.mem_of_getElem? (i := 7) rfl))) (by decide) (backOf (W := 0) (rm2 l Z a0 hw [] ((p1 &&& (2147483647 : Int32)) % (5 : Int32)) (drawF p2) (drawF p3) (drawF p4) (drawF p5)  h0 n0 Z0 (own_b _) (own_b _) (own_b _) (own_b _) hn) hZ (hw _ (List.mem_of_getElem? (i := 7) rfl)) (hw _ (List.mem_of_getElem? (i := 3) rfl)) (by decide) (by decide)) (g := (mkF m 43 #[.val (.int p1), .val (.int p2), .val (.int p3), .val (.int p4), .val (.int p5), .val (.int p6), .val (.int ((p1 &&& (2147483647 : Int32)) % (5 : Int32))), .val (.int (drawF p2)), .val (.int (drawF p3)), .val (.int (drawF p4)), .val (.int (drawF p5)), .unset, .unset, .unset, .unset, .unset] [(.int (drawF p5)), (.int (drawF p4)), (.int (drawF p3)), (.int (drawF p2)), (.int ((p1 &&& (2147483647 : Int32)) % (5 : Int32)))])) rfl (by rw [hml]; rfl) (argsL := [(.int ((p1 &&& (2147483647 : Int32)) % (5 : Int32))), (.int (drawF p2)), (.int (drawF p3)), (.int (drawF p4)), (.int (drawF p5))]) (rest := []) (lenOf pd_0_1 rfl) rfl (by show 2 * 0 + _ ≤ _; exact Nat.le_of_eq rfl) (hb hby at_43) (fun _ _ => ⟨rfl, hh10, (by decide : 0 + 1 ≤ _), (by decide : 0 + 4 ≤ _)⟩)
  dsimp only [Pt.U, Pt.locs, Pt.cells, Pt.slots] at X11 l11 y11 z11 st11 hQ11
  subst l11 y11 z11
  obtain ⟨b11r, k11r, rfl, N11q, Kc11, gb11, Eb11, Vb11⟩ := hQ11
  have N11 := Fr.app N10 N11q
  have K11 : Keep h0 T11.heap [] := (Keep.refl h0 []).trans Kc11 all0
  obtain ⟨T12, h12, X12, e12, E12, A12, D12, -, st12⟩ := newO X11 hx hZ hown (hw _ (List.mem_of_getElem? (i := 9) rfl)) (hw _ (List.mem_of_getElem? (i := 10) rfl)) (hw _ (List.mem_of_getElem? (i := 11) rfl)) rfl (g := (mkF m 48 #[.val (.int p1), .val (.int p2), .val (.int p3), .val (.int p4), .val (.int p5), .val (.int p6), .val (.int ((p1 &&& (2147483647 : Int32)) % (5 : Int32))), .val (.int (drawF p2)), .val (.int (drawF p3)), .val (.int (drawF p4)), .val (.int (drawF p5)), .val (.ref b11r), .unset, .unset, .unset, .unset] [])) rfl (hb hby at_48) (by decide) (by decide)
  obtain ⟨b12, g12⟩ : ∃ z, z = T11.heap.size := ⟨_, rfl⟩
  rw [← g12] at A12 D12 st12
  have F_type_b12 : Fld Z h12 b12 "com/example/votary/votary/Message" "type" "B" (.int (0 : Int32)) := D12 (Or.inr (hw _ (List.mem_of_getElem? (i := 19) rfl))) (ty := .byte) (by decide)
  have F_body_b12 : Fld Z h12 b12 "com/example/votary/votary/Message" "body" "[B" .null := D12 (Or.inr (hw _ (List.mem_of_getElem? (i := 21) rfl))) (ty := (.array .byte)) (by decide)
  have E_b12 := A12
  have g_b12 : n0 ≤ b12 := Nat.le_trans (Nat.le_trans Z0 Kc11.1) (Nat.le_of_eq g12.symm)
  have sz_b12 : h0.size ≤ b12 := (Nat.le_trans K11.1 (Nat.le_of_eq g12.symm))
  have K12 : Keep h0 h12 [] := K11.ext E12
  obtain ⟨_, _, ⟨T13, L13, k13, n13⟩, -, X13, ⟨Lc13, hQ13, l13, y13, z13⟩, st13⟩ := X12.specialBack hx (y := (⟨"com/example/votary/votary/Message", "<init>", "(B[B)V"⟩ : MethodName)) rfl hown (mvT hZ (hw _ (List.mem_of_getElem? (i := 12) rfl))) (mvT hZ (hw _ (List.mem_of_getElem? (i := 13) rfl))) (mvT hZ (hw _ (List.mem_of_getElem? (i := 14) rfl))) (by decide) (backOf (W := 1) (rm3 l Z a0 hw [] b12 (p6.toInt8.toInt32) b11r (.int (0 : Int32)) .null h12 n0 (Nat.le_trans (Nat.le_trans Z0 Kc11.1) E12.1) E_b12 F_type_b12 g_b12 F_body_b12) hZ (hw _ (List.mem_of_getElem? (i := 14) rfl)) (hw _ (List.mem_of_getElem? (i := 11) rfl)) (by decide) (by decide)) (g := (mkF m 57 #[.val (.int p1), .val (.int p2), .val (.int p3), .val (.int p4), .val (.int p5), .val (.int p6), .val (.int ((p1 &&& (2147483647 : Int32)) % (5 : Int32))), .val (.int (drawF p2)), .val (.int (drawF p3)), .val (.int (drawF p4)), .val (.int (drawF p5)), .val (.ref b11r), .unset, .unset, .unset, .unset] [(.ref b11r), (.int (p6.toInt8.toInt32)), (.ref b12), (.ref b12)])) rfl (by rw [hml]; rfl) (Steps.refl _) (a := b12) (argsL := [(.int (p6.toInt8.toInt32)), (.ref b11r)]) (rest := [(.ref b12)]) (lenOf pd_0_2 rfl) rfl (by show 2 * 0 + _ ≤ _; exact Nat.le_of_eq rfl) (hb hby at_57) (fun _ _ => ⟨rfl, e12, (by decide : 2 + 0 ≤ _), (by decide : 6 + 0 ≤ _)⟩)
  dsimp only [Pt.U, Pt.locs, Pt.cells, Pt.slots] at X13 l13 y13 z13 st13 hQ13
  subst l13 y13 z13
  obtain ⟨rfl, N13q, Kc13, Ec13, -, Fb13⟩ := hQ13
  have N13 := Fr.app N11 N13q
  have K13 : Keep h0 T13.heap [] := K12.trans Kc13 (allS (Or.inr sz_b12) all0)
  obtain ⟨cq14, kq14, q14a, q14b, q14c⟩ := isOf hZ rfl Ec13
  obtain ⟨_, _, ⟨T14, L14, k14, n14⟩, -, X14, ⟨Lc14, hQ14, l14, y14, z14⟩, st14⟩ := X13.virtualBack hx (y := (⟨"com/example/votary/votary/Message", "queryText", "()[B"⟩ : MethodName)) (z := (⟨"com/example/votary/votary/Message", "queryText", "()[B"⟩ : MethodName)) hown (mvT hZ (hw _ (List.mem_of_getElem? (i := 22) rfl))) (mvT hZ (hw _ (List.mem_of_getElem? (i := 23) rfl))) (notFace_of_selects (args := #[]) (mvT hZ (hw _ (List.mem_of_getElem? (i := 25) rfl)))) (mvT hZ (hw _ (List.mem_of_getElem? (i := 25) rfl))) (mvT hZ (hw _ (List.mem_of_getElem? (i := 24) rfl))) (by decide) (backOf (W := 0) (rm5 l Z a0 hw [] b12 b11r k11r ((p1 &&& (2147483647 : Int32)) % (5 : Int32)) (vsOf ((p1 &&& (2147483647 : Int32)) % (5 : Int32)) (drawF p2) (drawF p3) (drawF p4) (drawF p5)) (eOf ((p1 &&& (2147483647 : Int32)) % (5 : Int32)) (drawF p2) (drawF p3) (drawF p4) (drawF p5)) T13.heap n0 (Nat.le_trans (Nat.le_trans (Nat.le_trans Z0 Kc11.1) E12.1) Kc13.1) Fb13 ((Vb11.ext E12).keep Kc13 (ninS (Nat.ne_of_lt (Nat.lt_of_lt_of_le Eb11.lt (Nat.le_of_eq g12.symm))) nin0)) ((Eb11.ext E12).keep Kc13) (own_five hn) hq.1 hq.2.1 hq.2.2.1 hq.2.2.2) hZ (hw _ (List.mem_of_getElem? (i := 26) rfl)) (hw _ (List.mem_of_getElem? (i := 11) rfl)) (by decide) (by decide)) q14a q14c (g := (mkF m 64 #[.val (.int p1), .val (.int p2), .val (.int p3), .val (.int p4), .val (.int p5), .val (.int p6), .val (.int ((p1 &&& (2147483647 : Int32)) % (5 : Int32))), .val (.int (drawF p2)), .val (.int (drawF p3)), .val (.int (drawF p4)), .val (.int (drawF p5)), .val (.ref b11r), .val (.ref b12), .unset, .unset, .unset] [(.ref b12)])) rfl (by rw [hml]; rfl) (Steps.refl _) (argsL := []) (rest := []) (lenOf pd_0_4 rfl) rfl (by show 2 * 0 + _ ≤ _; exact Nat.le_of_eq rfl) (hb hby at_64) (fun _ _ => ⟨rfl, rfl, (by decide : 2 + 1 ≤ _), (by decide : 6 + 4 ≤ _)⟩)
  dsimp only [Pt.U, Pt.locs, Pt.cells, Pt.slots] at X14 l14 y14 z14 st14 hQ14
  subst l14 y14 z14
  obtain ⟨b14r, k14r, us14, rfl, N14q, Kc14, gb14, Vb14, hU14⟩ := hQ14
  have N14 := Fr.app N13 N14q
  have K14 : Keep h0 T14.heap [] := K13.trans Kc14 all0
  obtain ⟨cl_b14r_134, Ar_b14r, -, S_b14r, N_b14r, -, -⟩ := id Vb14
  obtain ⟨cq15, kq15, q15a, q15b, q15c⟩ := isOf hZ rfl (Ec13.keep Kc14)
  obtain ⟨_, _, ⟨T15, L15, k15, n15⟩, -, X15, ⟨Lc15, hQ15, l15, y15, z15⟩, st15⟩ := X14.virtualBack hx (y := (⟨"com/example/votary/votary/Message", "body", "()[B"⟩ : MethodName)) (z := (⟨"com/example/votary/votary/Message", "body", "()[B"⟩ : MethodName)) hown (mvT hZ (hw _ (List.mem_of_getElem? (i := 40) rfl))) (mvT hZ (hw _ (List.mem_of_getElem? (i := 41) rfl))) (notFace_of_selects (args := #[]) (mvT hZ (hw _ (List.mem_of_getElem? (i := 43) rfl)))) (mvT hZ (hw _ (List.mem_of_getElem? (i := 43) rfl))) (mvT hZ (hw _ (List.mem_of_getElem? (i := 42) rfl))) (by decide) (backOf (W := 0) (rm7 l Z a0 hw [] b12 b11r T14.heap n0 (Nat.le_trans (Nat.le_trans (Nat.le_trans (Nat.le_trans Z0 Kc11.1) E12.1) Kc13.1) Kc14.1) (Fb13.keep Kc14 nin0)) hZ (hw _ (List.mem_of_getElem? (i := 44) rfl)) (hw _ (List.mem_of_getElem? (i := 11) rfl)) (by decide) (by decide)) q15a q15c (g := (mkF m 211 #[.val (.int p1), .val (.int p2), .val (.int p3), .val (.int p4), .val (.int p5), .val (.int p6), .val (.int ((p1 &&& (2147483647 : Int32)) % (5 : Int32))), .val (.int (drawF p2)), .val (.int (drawF p3)), .val (.int (drawF p4)), .val (.int (drawF p5)), .val (.ref b11r), .val (.ref b12), .val (.ref b14r), .val (.int (eOf ((p1 &&& (2147483647 : Int32)) % (5 : Int32)) (drawF p2) (drawF p3) (drawF p4) (drawF p5))), .unset] [(.ref b12)])) rfl (by rw [hml]; rfl) (Steps.refl _) (argsL := []) (rest := []) (lenOf pd_0_4 rfl) rfl (by show 2 * 0 + _ ≤ _; exact Nat.le_of_eq rfl) (hb hby at_211) (fun _ _ => ⟨rfl, rfl, (by decide : 3 + 0 ≤ _), (by decide : 10 + 0 ≤ _)⟩)
  dsimp only [Pt.U, Pt.locs, Pt.cells, Pt.slots] at X15 l15 y15 z15 st15 hQ15
  subst l15 y15 z15
  obtain ⟨rfl, N15q, hh15⟩ := hQ15
  have N15 := Fr.app N14 N15q
  obtain ⟨cl_b11r_223, Ar_b11r, -, S_b11r, N_b11r, -, -⟩ := (((Vb11.ext E12).keep Kc13 (ninS (Nat.ne_of_lt (Nat.lt_of_lt_of_le Eb11.lt (Nat.le_of_eq g12.symm))) nin0)).keep Kc14 nin0)
  obtain ⟨fs, hr, hrun, hended, hW, hsame⟩ := X15.leave (v := some (.int (1 : Int32))) (fun h => by rw [Bd.returns] at h; cases h)
  refine ⟨_, _, pre0 _ ?_, hrun, hended, _, _, rfl, ?_, ⟨_, rfl⟩, hW, hsame.mono (by decide) (by decide)⟩
  · show Steps p.tables e below (s₁.setTop (mkF m 0 #[.val (.int p1), .val (.int p2), .val (.int p3), .val (.int p4), .val (.int p5), .val (.int p6), .unset, .unset, .unset, .unset, .unset, .unset, .unset, .unset, .unset, .unset] [])) _
    refine XS.iloadN X0.here hx rfl (hb hby at_0) rfl ?_
    show Steps p.tables e below (s₁.setTop (mkF m 1 #[.val (.int p1), .val (.int p2), .val (.int p3), .val (.int p4), .val (.int p5), .val (.int p6), .unset, .unset, .unset, .unset, .unset, .unset, .unset, .unset, .unset, .unset] [(.int p1)])) _
    refine X0.ldcInt hx hown (mvT hZ (hw _ (List.mem_of_getElem? (i := 0) rfl))) (g := (mkF m 1 #[.val (.int p1), .val (.int p2), .val (.int p3), .val (.int p4), .val (.int p5), .val (.int p6), .unset, .unset, .unset, .unset, .unset, .unset, .unset, .unset, .unset, .unset] [(.int p1)])) rfl (hb hby at_1) _ ?_
    show Steps p.tables e below (s₁.setTop (mkF m 3 #[.val (.int p1), .val (.int p2), .val (.int p3), .val (.int p4), .val (.int p5), .val (.int p6), .unset, .unset, .unset, .unset, .unset, .unset, .unset, .unset, .unset, .unset] [(.int (2147483647 : Int32)), (.int p1)])) _
    refine XS.iand X0.here hx rfl (hb hby at_3) rfl ?_
    show Steps p.tables e below (s₁.setTop (mkF m 4 #[.val (.int p1), .val (.int p2), .val (.int p3), .val (.int p4), .val (.int p5), .val (.int p6), .unset, .unset, .unset, .unset, .unset, .unset, .unset, .unset, .unset, .unset] [(.int (p1 &&& (2147483647 : Int32)))])) _
    refine XS.iconst X0.here hx rfl (hb hby at_4) ?_
    show Steps p.tables e below (s₁.setTop (mkF m 5 #[.val (.int p1), .val (.int p2), .val (.int p3), .val (.int p4), .val (.int p5), .val (.int p6), .unset, .unset, .unset, .unset, .unset, .unset, .unset, .unset, .unset, .unset] [(.int (5 : Int32)), (.int (p1 &&& (2147483647 : Int32)))])) _
    refine iremM X0 hx rfl (hb hby at_5) rfl hnz5 ?_
    show Steps p.tables e below (s₁.setTop (mkF m 6 #[.val (.int p1), .val (.int p2), .val (.int p3), .val (.int p4), .val (.int p5), .val (.int p6), .unset, .unset, .unset, .unset, .unset, .unset, .unset, .unset, .unset, .unset] [(.int ((p1 &&& (2147483647 : Int32)) % (5 : Int32)))])) _
    refine XS.istore X0.here hx rfl (hb hby at_6) rfl (l' := #[.val (.int p1), .val (.int p2), .val (.int p3), .val (.int p4), .val (.int p5), .val (.int p6), .val (.int ((p1 &&& (2147483647 : Int32)) % (5 : Int32))), .unset, .unset, .unset, .unset, .unset, .unset, .unset, .unset, .unset]) rfl ?_
    show Steps p.tables e below (s₁.setTop (mkF m 8 #[.val (.int p1), .val (.int p2), .val (.int p3), .val (.int p4), .val (.int p5), .val (.int p6), .val (.int ((p1 &&& (2147483647 : Int32)) % (5 : Int32))), .unset, .unset, .unset, .unset, .unset, .unset, .unset, .unset, .unset] [])) _
    refine XS.iloadN X0.here hx rfl (hb hby at_8) rfl ?_
    show Steps p.tables e below (s₁.setTop (mkF m 9 #[.val (.int p1), .val (.int p2), .val (.int p3), .val (.int p4), .val (.int p5), .val (.int p6), .val (.int ((p1 &&& (2147483647 : Int32)) % (5 : Int32))), .unset, .unset, .unset, .unset, .unset, .unset, .unset, .unset, .unset] [(.int p2)])) _
    refine st7 _ ?_
    show Steps p.tables e below (T7.setTop (mkF m 12 #[.val (.int p1), .val (.int p2), .val (.int p3), .val (.int p4), .val (.int p5), .val (.int p6), .val (.int ((p1 &&& (2147483647 : Int32)) % (5 : Int32))), .unset, .unset, .unset, .unset, .unset, .unset, .unset, .unset, .unset] [(.int (drawF p2))])) _
    refine XS.istore X7.here hx rfl (hb hby at_12) rfl (l' := #[.val (.int p1), .val (.int p2), .val (.int p3), .val (.int p4), .val (.int p5), .val (.int p6), .val (.int ((p1 &&& (2147483647 : Int32)) % (5 : Int32))), .val (.int (drawF p2)), .unset, .unset, .unset, .unset, .unset, .unset, .unset, .unset]) rfl ?_
    show Steps p.tables e below (T7.setTop (mkF m 14 #[.val (.int p1), .val (.int p2), .val (.int p3), .val (.int p4), .val (.int p5), .val (.int p6), .val (.int ((p1 &&& (2147483647 : Int32)) % (5 : Int32))), .val (.int (drawF p2)), .unset, .unset, .unset, .unset, .unset, .unset, .unset, .unset] [])) _
    refine XS.iloadN X7.here hx rfl (hb hby at_14) rfl ?_
    show Steps p.tables e below (T7.setTop (mkF m 15 #[.val (.int p1), .val (.int p2), .val (.int p3), .val (.int p4), .val (.int p5), .val (.int p6), .val (.int ((p1 &&& (2147483647 : Int32)) % (5 : Int32))), .val (.int (drawF p2)), .unset, .unset, .unset, .unset, .unset, .unset, .unset, .unset] [(.int p3)])) _
    refine st8 _ ?_
    show Steps p.tables e below (T8.setTop (mkF m 18 #[.val (.int p1), .val (.int p2), .val (.int p3), .val (.int p4), .val (.int p5), .val (.int p6), .val (.int ((p1 &&& (2147483647 : Int32)) % (5 : Int32))), .val (.int (drawF p2)), .unset, .unset, .unset, .unset, .unset, .unset, .unset, .unset] [(.int (drawF p3))])) _
    refine XS.istore X8.here hx rfl (hb hby at_18) rfl (l' := #[.val (.int p1), .val (.int p2), .val (.int p3), .val (.int p4), .val (.int p5), .val (.int p6), .val (.int ((p1 &&& (2147483647 : Int32)) % (5 : Int32))), .val (.int (drawF p2)), .val (.int (drawF p3)), .unset, .unset, .unset, .unset, .unset, .unset, .unset]) rfl ?_
    show Steps p.tables e below (T8.setTop (mkF m 20 #[.val (.int p1), .val (.int p2), .val (.int p3), .val (.int p4), .val (.int p5), .val (.int p6), .val (.int ((p1 &&& (2147483647 : Int32)) % (5 : Int32))), .val (.int (drawF p2)), .val (.int (drawF p3)), .unset, .unset, .unset, .unset, .unset, .unset, .unset] [])) _
    refine XS.iloadN X8.here hx rfl (hb hby at_20) rfl ?_
    show Steps p.tables e below (T8.setTop (mkF m 21 #[.val (.int p1), .val (.int p2), .val (.int p3), .val (.int p4), .val (.int p5), .val (.int p6), .val (.int ((p1 &&& (2147483647 : Int32)) % (5 : Int32))), .val (.int (drawF p2)), .val (.int (drawF p3)), .unset, .unset, .unset, .unset, .unset, .unset, .unset] [(.int p4)])) _
    refine st9 _ ?_
    show Steps p.tables e below (T9.setTop (mkF m 24 #[.val (.int p1), .val (.int p2), .val (.int p3), .val (.int p4), .val (.int p5), .val (.int p6), .val (.int ((p1 &&& (2147483647 : Int32)) % (5 : Int32))), .val (.int (drawF p2)), .val (.int (drawF p3)), .unset, .unset, .unset, .unset, .unset, .unset, .unset] [(.int (drawF p4))])) _
    refine XS.istore X9.here hx rfl (hb hby at_24) rfl (l' := #[.val (.int p1), .val (.int p2), .val (.int p3), .val (.int p4), .val (.int p5), .val (.int p6), .val (.int ((p1 &&& (2147483647 : Int32)) % (5 : Int32))), .val (.int (drawF p2)), .val (.int (drawF p3)), .val (.int (drawF p4)), .unset, .unset, .unset, .unset, .unset, .unset]) rfl ?_
    show Steps p.tables e below (T9.setTop (mkF m 26 #[.val (.int p1), .val (.int p2), .val (.int p3), .val (.int p4), .val (.int p5), .val (.int p6), .val (.int ((p1 &&& (2147483647 : Int32)) % (5 : Int32))), .val (.int (drawF p2)), .val (.int (drawF p3)), .val (.int (drawF p4)), .unset, .unset, .unset, .unset, .unset, .unset] [])) _
    refine XS.iload X9.here hx rfl (hb hby at_26) rfl ?_
    show Steps p.tables e below (T9.setTop (mkF m 28 #[.val (.int p1), .val (.int p2), .val (.int p3), .val (.int p4), .val (.int p5), .val (.int p6), .val (.int ((p1 &&& (2147483647 : Int32)) % (5 : Int32))), .val (.int (drawF p2)), .val (.int (drawF p3)), .val (.int (drawF p4)), .unset, .unset, .unset, .unset, .unset, .unset] [(.int p5)])) _
    refine st10 _ ?_
    show Steps p.tables e below (T10.setTop (mkF m 31 #[.val (.int p1), .val (.int p2), .val (.int p3), .val (.int p4), .val (.int p5), .val (.int p6), .val (.int ((p1 &&& (2147483647 : Int32)) % (5 : Int32))), .val (.int (drawF p2)), .val (.int (drawF p3)), .val (.int (drawF p4)), .unset, .unset, .unset, .unset, .unset, .unset] [(.int (drawF p5))])) _
    refine XS.istore X10.here hx rfl (hb hby at_31) rfl (l' := #[.val (.int p1), .val (.int p2), .val (.int p3), .val (.int p4), .val (.int p5), .val (.int p6), .val (.int ((p1 &&& (2147483647 : Int32)) % (5 : Int32))), .val (.int (drawF p2)), .val (.int (drawF p3)), .val (.int (drawF p4)), .val (.int (drawF p5)), .unset, .unset, .unset, .unset, .unset]) rfl ?_
    show Steps p.tables e below (T10.setTop (mkF m 33 #[.val (.int p1), .val (.int p2), .val (.int p3), .val (.int p4), .val (.int p5), .val (.int p6), .val (.int ((p1 &&& (2147483647 : Int32)) % (5 : Int32))), .val (.int (drawF p2)), .val (.int (drawF p3)), .val (.int (drawF p4)), .val (.int (drawF p5)), .unset, .unset, .unset, .unset, .unset] [])) _
    refine XS.iload X10.here hx rfl (hb hby at_33) rfl ?_
    show Steps p.tables e below (T10.setTop (mkF m 35 #[.val (.int p1), .val (.int p2), .val (.int p3), .val (.int p4), .val (.int p5), .val (.int p6), .val (.int ((p1 &&& (2147483647 : Int32)) % (5 : Int32))), .val (.int (drawF p2)), .val (.int (drawF p3)), .val (.int (drawF p4)), .val (.int (drawF p5)), .unset, .unset, .unset, .unset, .unset] [(.int ((p1 &&& (2147483647 : Int32)) % (5 : Int32)))])) _
    refine XS.iload X10.here hx rfl (hb hby at_35) rfl ?_
    show Steps p.tables e below (T10.setTop (mkF m 37 #[.val (.int p1), .val (.int p2), .val (.int p3), .val (.int p4), .val (.int p5), .val (.int p6), .val (.int ((p1 &&& (2147483647 : Int32)) % (5 : Int32))), .val (.int (drawF p2)), .val (.int (drawF p3)), .val (.int (drawF p4)), .val (.int (drawF p5)), .unset, .unset, .unset, .unset, .unset] [(.int (drawF p2)), (.int ((p1 &&& (2147483647 : Int32)) % (5 : Int32)))])) _
    refine XS.iload X10.here hx rfl (hb hby at_37) rfl ?_
    show Steps p.tables e below (T10.setTop (mkF m 39 #[.val (.int p1), .val (.int p2), .val (.int p3), .val (.int p4), .val (.int p5), .val (.int p6), .val (.int ((p1 &&& (2147483647 : Int32)) % (5 : Int32))), .val (.int (drawF p2)), .val (.int (drawF p3)), .val (.int (drawF p4)), .val (.int (drawF p5)), .unset, .unset, .unset, .unset, .unset] [(.int (drawF p3)), (.int (drawF p2)), (.int ((p1 &&& (2147483647 : Int32)) % (5 : Int32)))])) _
    refine XS.iload X10.here hx rfl (hb hby at_39) rfl ?_
    show Steps p.tables e below (T10.setTop (mkF m 41 #[.val (.int p1), .val (.int p2), .val (.int p3), .val (.int p4), .val (.int p5), .val (.int p6), .val (.int ((p1 &&& (2147483647 : Int32)) % (5 : Int32))), .val (.int (drawF p2)), .val (.int (drawF p3)), .val (.int (drawF p4)), .val (.int (drawF p5)), .unset, .unset, .unset, .unset, .unset] [(.int (drawF p4)), (.int (drawF p3)), (.int (drawF p2)), (.int ((p1 &&& (2147483647 : Int32)) % (5 : Int32)))])) _
    refine XS.iload X10.here hx rfl (hb hby at_41) rfl ?_
    show Steps p.tables e below (T10.setTop (mkF m 43 #[.val (.int p1), .val (.int p2), .val (.int p3), .val (.int p4), .val (.int p5), .val (.int p6), .val (.int ((p1 &&& (2147483647 : Int32)) % (5 : Int32))), .val (.int (drawF p2)), .val (.int (drawF p3)), .val (.int (drawF p4)), .val (.int (drawF p5)), .unset, .unset, .unset, .unset, .unset] [(.int (drawF p5)), (.int (drawF p4)), (.int (drawF p3)), (.int (drawF p2)), (.int ((p1 &&& (2147483647 : Int32)) % (5 : Int32)))])) _
    refine st11 _ ?_
    show Steps p.tables e below (T11.setTop (mkF m 46 #[.val (.int p1), .val (.int p2), .val (.int p3), .val (.int p4), .val (.int p5), .val (.int p6), .val (.int ((p1 &&& (2147483647 : Int32)) % (5 : Int32))), .val (.int (drawF p2)), .val (.int (drawF p3)), .val (.int (drawF p4)), .val (.int (drawF p5)), .unset, .unset, .unset, .unset, .unset] [(.ref b11r)])) _
    refine XS.astore X11.here hx rfl (hb hby at_46) rfl rfl (l' := #[.val (.int p1), .val (.int p2), .val (.int p3), .val (.int p4), .val (.int p5), .val (.int p6), .val (.int ((p1 &&& (2147483647 : Int32)) % (5 : Int32))), .val (.int (drawF p2)), .val (.int (drawF p3)), .val (.int (drawF p4)), .val (.int (drawF p5)), .val (.ref b11r), .unset, .unset, .unset, .unset]) rfl ?_
    show Steps p.tables e below (T11.setTop (mkF m 48 #[.val (.int p1), .val (.int p2), .val (.int p3), .val (.int p4), .val (.int p5), .val (.int p6), .val (.int ((p1 &&& (2147483647 : Int32)) % (5 : Int32))), .val (.int (drawF p2)), .val (.int (drawF p3)), .val (.int (drawF p4)), .val (.int (drawF p5)), .val (.ref b11r), .unset, .unset, .unset, .unset] [])) _
    refine st12 _ ?_
    show Steps p.tables e below (T12.setTop (mkF m 51 #[.val (.int p1), .val (.int p2), .val (.int p3), .val (.int p4), .val (.int p5), .val (.int p6), .val (.int ((p1 &&& (2147483647 : Int32)) % (5 : Int32))), .val (.int (drawF p2)), .val (.int (drawF p3)), .val (.int (drawF p4)), .val (.int (drawF p5)), .val (.ref b11r), .unset, .unset, .unset, .unset] [(.ref b12)])) _
    refine XS.dup X12.here hx rfl (hb hby at_51) rfl rfl ?_
    show Steps p.tables e below (T12.setTop (mkF m 52 #[.val (.int p1), .val (.int p2), .val (.int p3), .val (.int p4), .val (.int p5), .val (.int p6), .val (.int ((p1 &&& (2147483647 : Int32)) % (5 : Int32))), .val (.int (drawF p2)), .val (.int (drawF p3)), .val (.int (drawF p4)), .val (.int (drawF p5)), .val (.ref b11r), .unset, .unset, .unset, .unset] [(.ref b12), (.ref b12)])) _
    refine XS.iload X12.here hx rfl (hb hby at_52) rfl ?_
    show Steps p.tables e below (T12.setTop (mkF m 54 #[.val (.int p1), .val (.int p2), .val (.int p3), .val (.int p4), .val (.int p5), .val (.int p6), .val (.int ((p1 &&& (2147483647 : Int32)) % (5 : Int32))), .val (.int (drawF p2)), .val (.int (drawF p3)), .val (.int (drawF p4)), .val (.int (drawF p5)), .val (.ref b11r), .unset, .unset, .unset, .unset] [(.int p6), (.ref b12), (.ref b12)])) _
    refine XS.i2b X12.here hx rfl (hb hby at_54) rfl ?_
    show Steps p.tables e below (T12.setTop (mkF m 55 #[.val (.int p1), .val (.int p2), .val (.int p3), .val (.int p4), .val (.int p5), .val (.int p6), .val (.int ((p1 &&& (2147483647 : Int32)) % (5 : Int32))), .val (.int (drawF p2)), .val (.int (drawF p3)), .val (.int (drawF p4)), .val (.int (drawF p5)), .val (.ref b11r), .unset, .unset, .unset, .unset] [(.int (p6.toInt8.toInt32)), (.ref b12), (.ref b12)])) _
    refine XS.aload X12.here hx rfl (hb hby at_55) rfl rfl ?_
    show Steps p.tables e below (T12.setTop (mkF m 57 #[.val (.int p1), .val (.int p2), .val (.int p3), .val (.int p4), .val (.int p5), .val (.int p6), .val (.int ((p1 &&& (2147483647 : Int32)) % (5 : Int32))), .val (.int (drawF p2)), .val (.int (drawF p3)), .val (.int (drawF p4)), .val (.int (drawF p5)), .val (.ref b11r), .unset, .unset, .unset, .unset] [(.ref b11r), (.int (p6.toInt8.toInt32)), (.ref b12), (.ref b12)])) _
    refine st13.trans ?_
    show Steps p.tables e below (T13.setTop (mkF m 60 #[.val (.int p1), .val (.int p2), .val (.int p3), .val (.int p4), .val (.int p5), .val (.int p6), .val (.int ((p1 &&& (2147483647 : Int32)) % (5 : Int32))), .val (.int (drawF p2)), .val (.int (drawF p3)), .val (.int (drawF p4)), .val (.int (drawF p5)), .val (.ref b11r), .unset, .unset, .unset, .unset] [(.ref b12)])) _
    refine XS.astore X13.here hx rfl (hb hby at_60) rfl rfl (l' := #[.val (.int p1), .val (.int p2), .val (.int p3), .val (.int p4), .val (.int p5), .val (.int p6), .val (.int ((p1 &&& (2147483647 : Int32)) % (5 : Int32))), .val (.int (drawF p2)), .val (.int (drawF p3)), .val (.int (drawF p4)), .val (.int (drawF p5)), .val (.ref b11r), .val (.ref b12), .unset, .unset, .unset]) rfl ?_
    show Steps p.tables e below (T13.setTop (mkF m 62 #[.val (.int p1), .val (.int p2), .val (.int p3), .val (.int p4), .val (.int p5), .val (.int p6), .val (.int ((p1 &&& (2147483647 : Int32)) % (5 : Int32))), .val (.int (drawF p2)), .val (.int (drawF p3)), .val (.int (drawF p4)), .val (.int (drawF p5)), .val (.ref b11r), .val (.ref b12), .unset, .unset, .unset] [])) _
    refine XS.aload X13.here hx rfl (hb hby at_62) rfl rfl ?_
    show Steps p.tables e below (T13.setTop (mkF m 64 #[.val (.int p1), .val (.int p2), .val (.int p3), .val (.int p4), .val (.int p5), .val (.int p6), .val (.int ((p1 &&& (2147483647 : Int32)) % (5 : Int32))), .val (.int (drawF p2)), .val (.int (drawF p3)), .val (.int (drawF p4)), .val (.int (drawF p5)), .val (.ref b11r), .val (.ref b12), .unset, .unset, .unset] [(.ref b12)])) _
    refine st14.trans ?_
    show Steps p.tables e below (T14.setTop (mkF m 67 #[.val (.int p1), .val (.int p2), .val (.int p3), .val (.int p4), .val (.int p5), .val (.int p6), .val (.int ((p1 &&& (2147483647 : Int32)) % (5 : Int32))), .val (.int (drawF p2)), .val (.int (drawF p3)), .val (.int (drawF p4)), .val (.int (drawF p5)), .val (.ref b11r), .val (.ref b12), .unset, .unset, .unset] [(.ref b14r)])) _
    refine XS.astore X14.here hx rfl (hb hby at_67) rfl rfl (l' := #[.val (.int p1), .val (.int p2), .val (.int p3), .val (.int p4), .val (.int p5), .val (.int p6), .val (.int ((p1 &&& (2147483647 : Int32)) % (5 : Int32))), .val (.int (drawF p2)), .val (.int (drawF p3)), .val (.int (drawF p4)), .val (.int (drawF p5)), .val (.ref b11r), .val (.ref b12), .val (.ref b14r), .unset, .unset]) rfl ?_
    show Steps p.tables e below (T14.setTop (mkF m 69 #[.val (.int p1), .val (.int p2), .val (.int p3), .val (.int p4), .val (.int p5), .val (.int p6), .val (.int ((p1 &&& (2147483647 : Int32)) % (5 : Int32))), .val (.int (drawF p2)), .val (.int (drawF p3)), .val (.int (drawF p4)), .val (.int (drawF p5)), .val (.ref b11r), .val (.ref b12), .val (.ref b14r), .unset, .unset] [])) _
    refine XS.iconst X14.here hx rfl (hb hby at_69) ?_
    show Steps p.tables e below (T14.setTop (mkF m 70 #[.val (.int p1), .val (.int p2), .val (.int p3), .val (.int p4), .val (.int p5), .val (.int p6), .val (.int ((p1 &&& (2147483647 : Int32)) % (5 : Int32))), .val (.int (drawF p2)), .val (.int (drawF p3)), .val (.int (drawF p4)), .val (.int (drawF p5)), .val (.ref b11r), .val (.ref b12), .val (.ref b14r), .unset, .unset] [(.int (0 : Int32))])) _
    refine XS.istore X14.here hx rfl (hb hby at_70) rfl (l' := #[.val (.int p1), .val (.int p2), .val (.int p3), .val (.int p4), .val (.int p5), .val (.int p6), .val (.int ((p1 &&& (2147483647 : Int32)) % (5 : Int32))), .val (.int (drawF p2)), .val (.int (drawF p3)), .val (.int (drawF p4)), .val (.int (drawF p5)), .val (.ref b11r), .val (.ref b12), .val (.ref b14r), .val (.int (0 : Int32)), .unset]) rfl ?_
    show Steps p.tables e below (T14.setTop (mkF m 72 #[.val (.int p1), .val (.int p2), .val (.int p3), .val (.int p4), .val (.int p5), .val (.int p6), .val (.int ((p1 &&& (2147483647 : Int32)) % (5 : Int32))), .val (.int (drawF p2)), .val (.int (drawF p3)), .val (.int (drawF p4)), .val (.int (drawF p5)), .val (.ref b11r), .val (.ref b12), .val (.ref b14r), .val (.int (0 : Int32)), .unset] [])) _
    refine blkB_0 (.val (.int p1)) (.val (.int p2)) (.val (.int p3)) (.val (.int p4)) (.val (.int p5)) (.val (.int p6)) ((p1 &&& (2147483647 : Int32)) % (5 : Int32)) (drawF p2) (.val (.int (drawF p3))) (.val (.int (drawF p4))) (.val (.int (drawF p5))) (.val (.ref b11r)) (.val (.ref b12)) (.val (.ref b14r)) (0 : Int32) (.unset) X14 hx hZ hw hby hml hown rfl _ ?_
    refine blkB_1 (.val (.int p1)) (.val (.int p2)) (.val (.int p3)) (.val (.int p4)) (.val (.int p5)) (.val (.int p6)) ((p1 &&& (2147483647 : Int32)) % (5 : Int32)) (.val (.int (drawF p2))) (drawF p3) (.val (.int (drawF p4))) (.val (.int (drawF p5))) (.val (.ref b11r)) (.val (.ref b12)) (.val (.ref b14r)) (stp 0 1 ((p1 &&& (2147483647 : Int32)) % (5 : Int32)) (drawF p2) (0 : Int32)) (.unset) X14 hx hZ hw hby hml hown rfl _ ?_
    refine blkB_2 (.val (.int p1)) (.val (.int p2)) (.val (.int p3)) (.val (.int p4)) (.val (.int p5)) (.val (.int p6)) ((p1 &&& (2147483647 : Int32)) % (5 : Int32)) (.val (.int (drawF p2))) (.val (.int (drawF p3))) (drawF p4) (.val (.int (drawF p5))) (.val (.ref b11r)) (.val (.ref b12)) (.val (.ref b14r)) (stp 1 2 ((p1 &&& (2147483647 : Int32)) % (5 : Int32)) (drawF p3) (stp 0 1 ((p1 &&& (2147483647 : Int32)) % (5 : Int32)) (drawF p2) (0 : Int32))) (.unset) X14 hx hZ hw hby hml hown rfl _ ?_
    refine blkB_3 (.val (.int p1)) (.val (.int p2)) (.val (.int p3)) (.val (.int p4)) (.val (.int p5)) (.val (.int p6)) ((p1 &&& (2147483647 : Int32)) % (5 : Int32)) (.val (.int (drawF p2))) (.val (.int (drawF p3))) (.val (.int (drawF p4))) (drawF p5) (.val (.ref b11r)) (.val (.ref b12)) (.val (.ref b14r)) (stp 2 3 ((p1 &&& (2147483647 : Int32)) % (5 : Int32)) (drawF p4) (stp 1 2 ((p1 &&& (2147483647 : Int32)) % (5 : Int32)) (drawF p3) (stp 0 1 ((p1 &&& (2147483647 : Int32)) % (5 : Int32)) (drawF p2) (0 : Int32)))) (.unset) X14 hx hZ hw hby hml hown rfl _ ?_
    show Steps p.tables e below (T14.setTop (mkF m 127 #[.val (.int p1), .val (.int p2), .val (.int p3), .val (.int p4), .val (.int p5), .val (.int p6), .val (.int ((p1 &&& (2147483647 : Int32)) % (5 : Int32))), .val (.int (drawF p2)), .val (.int (drawF p3)), .val (.int (drawF p4)), .val (.int (drawF p5)), .val (.ref b11r), .val (.ref b12), .val (.ref b14r), .val (.int (eOf ((p1 &&& (2147483647 : Int32)) % (5 : Int32)) (drawF p2) (drawF p3) (drawF p4) (drawF p5))), .unset] [])) _
    show Steps p.tables e below (T14.setTop (mkF m 127 #[.val (.int p1), .val (.int p2), .val (.int p3), .val (.int p4), .val (.int p5), .val (.int p6), .val (.int ((p1 &&& (2147483647 : Int32)) % (5 : Int32))), .val (.int (drawF p2)), .val (.int (drawF p3)), .val (.int (drawF p4)), .val (.int (drawF p5)), .val (.ref b11r), .val (.ref b12), .val (.ref b14r), .val (.int (eOf ((p1 &&& (2147483647 : Int32)) % (5 : Int32)) (drawF p2) (drawF p3) (drawF p4) (drawF p5))), .unset] [])) _
    refine XS.aload X14.here hx rfl (hb hby at_127) rfl rfl ?_
    show Steps p.tables e below (T14.setTop (mkF m 129 #[.val (.int p1), .val (.int p2), .val (.int p3), .val (.int p4), .val (.int p5), .val (.int p6), .val (.int ((p1 &&& (2147483647 : Int32)) % (5 : Int32))), .val (.int (drawF p2)), .val (.int (drawF p3)), .val (.int (drawF p4)), .val (.int (drawF p5)), .val (.ref b11r), .val (.ref b12), .val (.ref b14r), .val (.int (eOf ((p1 &&& (2147483647 : Int32)) % (5 : Int32)) (drawF p2) (drawF p3) (drawF p4) (drawF p5))), .unset] [(.ref b14r)])) _
    refine XS.ifnullNo X14.here hx rfl (hb hby at_129) rfl ?_
    show Steps p.tables e below (T14.setTop (mkF m 132 #[.val (.int p1), .val (.int p2), .val (.int p3), .val (.int p4), .val (.int p5), .val (.int p6), .val (.int ((p1 &&& (2147483647 : Int32)) % (5 : Int32))), .val (.int (drawF p2)), .val (.int (drawF p3)), .val (.int (drawF p4)), .val (.int (drawF p5)), .val (.ref b11r), .val (.ref b12), .val (.ref b14r), .val (.int (eOf ((p1 &&& (2147483647 : Int32)) % (5 : Int32)) (drawF p2) (drawF p3) (drawF p4) (drawF p5))), .unset] [])) _
    refine XS.aload X14.here hx rfl (hb hby at_132) rfl rfl ?_
    show Steps p.tables e below (T14.setTop (mkF m 134 #[.val (.int p1), .val (.int p2), .val (.int p3), .val (.int p4), .val (.int p5), .val (.int p6), .val (.int ((p1 &&& (2147483647 : Int32)) % (5 : Int32))), .val (.int (drawF p2)), .val (.int (drawF p3)), .val (.int (drawF p4)), .val (.int (drawF p5)), .val (.ref b11r), .val (.ref b12), .val (.ref b14r), .val (.int (eOf ((p1 &&& (2147483647 : Int32)) % (5 : Int32)) (drawF p2) (drawF p3) (drawF p4) (drawF p5))), .unset] [(.ref b14r)])) _
    refine X14.arraylength hx (by exact Ar_b14r.1) (State.isArrayOf_alike hZ.alike Ar_b14r.2.1) (g := (mkF m 134 #[.val (.int p1), .val (.int p2), .val (.int p3), .val (.int p4), .val (.int p5), .val (.int p6), .val (.int ((p1 &&& (2147483647 : Int32)) % (5 : Int32))), .val (.int (drawF p2)), .val (.int (drawF p3)), .val (.int (drawF p4)), .val (.int (drawF p5)), .val (.ref b11r), .val (.ref b12), .val (.ref b14r), .val (.int (eOf ((p1 &&& (2147483647 : Int32)) % (5 : Int32)) (drawF p2) (drawF p3) (drawF p4) (drawF p5))), .unset] [(.ref b14r)])) rfl rfl (hb hby at_134) _ ?_
    rw [len_of S_b14r N_b14r]
    show Steps p.tables e below (T14.setTop (mkF m 135 #[.val (.int p1), .val (.int p2), .val (.int p3), .val (.int p4), .val (.int p5), .val (.int p6), .val (.int ((p1 &&& (2147483647 : Int32)) % (5 : Int32))), .val (.int (drawF p2)), .val (.int (drawF p3)), .val (.int (drawF p4)), .val (.int (drawF p5)), .val (.ref b11r), .val (.ref b12), .val (.ref b14r), .val (.int (eOf ((p1 &&& (2147483647 : Int32)) % (5 : Int32)) (drawF p2) (drawF p3) (drawF p4) (drawF p5))), .unset] [(.int (eOf ((p1 &&& (2147483647 : Int32)) % (5 : Int32)) (drawF p2) (drawF p3) (drawF p4) (drawF p5)))])) _
    refine XS.iload X14.here hx rfl (hb hby at_135) rfl ?_
    show Steps p.tables e below (T14.setTop (mkF m 137 #[.val (.int p1), .val (.int p2), .val (.int p3), .val (.int p4), .val (.int p5), .val (.int p6), .val (.int ((p1 &&& (2147483647 : Int32)) % (5 : Int32))), .val (.int (drawF p2)), .val (.int (drawF p3)), .val (.int (drawF p4)), .val (.int (drawF p5)), .val (.ref b11r), .val (.ref b12), .val (.ref b14r), .val (.int (eOf ((p1 &&& (2147483647 : Int32)) % (5 : Int32)) (drawF p2) (drawF p3) (drawF p4) (drawF p5))), .unset] [(.int (eOf ((p1 &&& (2147483647 : Int32)) % (5 : Int32)) (drawF p2) (drawF p3) (drawF p4) (drawF p5))), (.int (eOf ((p1 &&& (2147483647 : Int32)) % (5 : Int32)) (drawF p2) (drawF p3) (drawF p4) (drawF p5)))])) _
    refine XS.icmpYes X14.here hx rfl (pc0 := 137) (pc' := 142) rfl (hb hby at_137) rfl (teq (rfl : (eOf ((p1 &&& (2147483647 : Int32)) % (5 : Int32)) (drawF p2) (drawF p3) (drawF p4) (drawF p5)) = (eOf ((p1 &&& (2147483647 : Int32)) % (5 : Int32)) (drawF p2) (drawF p3) (drawF p4) (drawF p5)))).1 (by decide) (by decide) ?_
    show Steps p.tables e below (T14.setTop (mkF m 142 #[.val (.int p1), .val (.int p2), .val (.int p3), .val (.int p4), .val (.int p5), .val (.int p6), .val (.int ((p1 &&& (2147483647 : Int32)) % (5 : Int32))), .val (.int (drawF p2)), .val (.int (drawF p3)), .val (.int (drawF p4)), .val (.int (drawF p5)), .val (.ref b11r), .val (.ref b12), .val (.ref b14r), .val (.int (eOf ((p1 &&& (2147483647 : Int32)) % (5 : Int32)) (drawF p2) (drawF p3) (drawF p4) (drawF p5))), .unset] [])) _
    refine blkC_0 (.val (.int p1)) (.val (.int p2)) (.val (.int p3)) (.val (.int p4)) (.val (.int p5)) (.val (.int p6)) (.val (.int ((p1 &&& (2147483647 : Int32)) % (5 : Int32)))) (drawF p2) (.val (.int (drawF p3))) (.val (.int (drawF p4))) (.val (.int (drawF p5))) (.val (.ref b11r)) (.val (.ref b12)) b14r (eOf ((p1 &&& (2147483647 : Int32)) % (5 : Int32)) (drawF p2) (drawF p3) (drawF p4) (drawF p5)) (.unset) X14 hx hZ hw hby hml hown rfl k14r us14 Vb14 (fun g => (hU14 _ (own_ltn g rfl)).trans ((own_at _ _ _ _ _ hn).1 (own_lt g hq.2.1))) _ ?_
    refine blkC_1 (.val (.int p1)) (.val (.int p2)) (.val (.int p3)) (.val (.int p4)) (.val (.int p5)) (.val (.int p6)) (.val (.int ((p1 &&& (2147483647 : Int32)) % (5 : Int32)))) (.val (.int (drawF p2))) (drawF p3) (.val (.int (drawF p4))) (.val (.int (drawF p5))) (.val (.ref b11r)) (.val (.ref b12)) b14r (eOf ((p1 &&& (2147483647 : Int32)) % (5 : Int32)) (drawF p2) (drawF p3) (drawF p4) (drawF p5)) (.unset) X14 hx hZ hw hby hml hown rfl k14r us14 Vb14 (fun g => (hU14 _ (own_ltn g rfl)).trans ((own_at _ _ _ _ _ hn).2.1 (own_lt g hq.2.1))) _ ?_
    refine blkC_2 (.val (.int p1)) (.val (.int p2)) (.val (.int p3)) (.val (.int p4)) (.val (.int p5)) (.val (.int p6)) (.val (.int ((p1 &&& (2147483647 : Int32)) % (5 : Int32)))) (.val (.int (drawF p2))) (.val (.int (drawF p3))) (drawF p4) (.val (.int (drawF p5))) (.val (.ref b11r)) (.val (.ref b12)) b14r (eOf ((p1 &&& (2147483647 : Int32)) % (5 : Int32)) (drawF p2) (drawF p3) (drawF p4) (drawF p5)) (.unset) X14 hx hZ hw hby hml hown rfl k14r us14 Vb14 (fun g => (hU14 _ (own_ltn g rfl)).trans ((own_at _ _ _ _ _ hn).2.2.1 (own_lt g hq.2.1))) _ ?_
    refine blkC_3 (.val (.int p1)) (.val (.int p2)) (.val (.int p3)) (.val (.int p4)) (.val (.int p5)) (.val (.int p6)) (.val (.int ((p1 &&& (2147483647 : Int32)) % (5 : Int32)))) (.val (.int (drawF p2))) (.val (.int (drawF p3))) (.val (.int (drawF p4))) (drawF p5) (.val (.ref b11r)) (.val (.ref b12)) b14r (eOf ((p1 &&& (2147483647 : Int32)) % (5 : Int32)) (drawF p2) (drawF p3) (drawF p4) (drawF p5)) (.unset) X14 hx hZ hw hby hml hown rfl k14r us14 Vb14 (fun g => (hU14 _ (own_ltn g rfl)).trans ((own_at _ _ _ _ _ hn).2.2.2 (own_lt g hq.2.1))) _ ?_
    show Steps p.tables e below (T14.setTop (mkF m 209 #[.val (.int p1), .val (.int p2), .val (.int p3), .val (.int p4), .val (.int p5), .val (.int p6), .val (.int ((p1 &&& (2147483647 : Int32)) % (5 : Int32))), .val (.int (drawF p2)), .val (.int (drawF p3)), .val (.int (drawF p4)), .val (.int (drawF p5)), .val (.ref b11r), .val (.ref b12), .val (.ref b14r), .val (.int (eOf ((p1 &&& (2147483647 : Int32)) % (5 : Int32)) (drawF p2) (drawF p3) (drawF p4) (drawF p5))), .unset] [])) _
    refine XS.aload X14.here hx rfl (hb hby at_209) rfl rfl ?_
    show Steps p.tables e below (T14.setTop (mkF m 211 #[.val (.int p1), .val (.int p2), .val (.int p3), .val (.int p4), .val (.int p5), .val (.int p6), .val (.int ((p1 &&& (2147483647 : Int32)) % (5 : Int32))), .val (.int (drawF p2)), .val (.int (drawF p3)), .val (.int (drawF p4)), .val (.int (drawF p5)), .val (.ref b11r), .val (.ref b12), .val (.ref b14r), .val (.int (eOf ((p1 &&& (2147483647 : Int32)) % (5 : Int32)) (drawF p2) (drawF p3) (drawF p4) (drawF p5))), .unset] [(.ref b12)])) _
    refine st15.trans ?_
    show Steps p.tables e below (T15.setTop (mkF m 214 #[.val (.int p1), .val (.int p2), .val (.int p3), .val (.int p4), .val (.int p5), .val (.int p6), .val (.int ((p1 &&& (2147483647 : Int32)) % (5 : Int32))), .val (.int (drawF p2)), .val (.int (drawF p3)), .val (.int (drawF p4)), .val (.int (drawF p5)), .val (.ref b11r), .val (.ref b12), .val (.ref b14r), .val (.int (eOf ((p1 &&& (2147483647 : Int32)) % (5 : Int32)) (drawF p2) (drawF p3) (drawF p4) (drawF p5))), .unset] [(.ref b11r)])) _
    refine XS.astore X15.here hx rfl (hb hby at_214) rfl rfl (l' := #[.val (.int p1), .val (.int p2), .val (.int p3), .val (.int p4), .val (.int p5), .val (.int p6), .val (.int ((p1 &&& (2147483647 : Int32)) % (5 : Int32))), .val (.int (drawF p2)), .val (.int (drawF p3)), .val (.int (drawF p4)), .val (.int (drawF p5)), .val (.ref b11r), .val (.ref b12), .val (.ref b14r), .val (.int (eOf ((p1 &&& (2147483647 : Int32)) % (5 : Int32)) (drawF p2) (drawF p3) (drawF p4) (drawF p5))), .val (.ref b11r)]) rfl ?_
    show Steps p.tables e below (T15.setTop (mkF m 216 #[.val (.int p1), .val (.int p2), .val (.int p3), .val (.int p4), .val (.int p5), .val (.int p6), .val (.int ((p1 &&& (2147483647 : Int32)) % (5 : Int32))), .val (.int (drawF p2)), .val (.int (drawF p3)), .val (.int (drawF p4)), .val (.int (drawF p5)), .val (.ref b11r), .val (.ref b12), .val (.ref b14r), .val (.int (eOf ((p1 &&& (2147483647 : Int32)) % (5 : Int32)) (drawF p2) (drawF p3) (drawF p4) (drawF p5))), .val (.ref b11r)] [])) _
    refine XS.aload X15.here hx rfl (hb hby at_216) rfl rfl ?_
    show Steps p.tables e below (T15.setTop (mkF m 218 #[.val (.int p1), .val (.int p2), .val (.int p3), .val (.int p4), .val (.int p5), .val (.int p6), .val (.int ((p1 &&& (2147483647 : Int32)) % (5 : Int32))), .val (.int (drawF p2)), .val (.int (drawF p3)), .val (.int (drawF p4)), .val (.int (drawF p5)), .val (.ref b11r), .val (.ref b12), .val (.ref b14r), .val (.int (eOf ((p1 &&& (2147483647 : Int32)) % (5 : Int32)) (drawF p2) (drawF p3) (drawF p4) (drawF p5))), .val (.ref b11r)] [(.ref b11r)])) _
    refine XS.ifnullNo X15.here hx rfl (hb hby at_218) rfl ?_
    show Steps p.tables e below (T15.setTop (mkF m 221 #[.val (.int p1), .val (.int p2), .val (.int p3), .val (.int p4), .val (.int p5), .val (.int p6), .val (.int ((p1 &&& (2147483647 : Int32)) % (5 : Int32))), .val (.int (drawF p2)), .val (.int (drawF p3)), .val (.int (drawF p4)), .val (.int (drawF p5)), .val (.ref b11r), .val (.ref b12), .val (.ref b14r), .val (.int (eOf ((p1 &&& (2147483647 : Int32)) % (5 : Int32)) (drawF p2) (drawF p3) (drawF p4) (drawF p5))), .val (.ref b11r)] [])) _
    refine XS.aload X15.here hx rfl (hb hby at_221) rfl rfl ?_
    show Steps p.tables e below (T15.setTop (mkF m 223 #[.val (.int p1), .val (.int p2), .val (.int p3), .val (.int p4), .val (.int p5), .val (.int p6), .val (.int ((p1 &&& (2147483647 : Int32)) % (5 : Int32))), .val (.int (drawF p2)), .val (.int (drawF p3)), .val (.int (drawF p4)), .val (.int (drawF p5)), .val (.ref b11r), .val (.ref b12), .val (.ref b14r), .val (.int (eOf ((p1 &&& (2147483647 : Int32)) % (5 : Int32)) (drawF p2) (drawF p3) (drawF p4) (drawF p5))), .val (.ref b11r)] [(.ref b11r)])) _
    refine X15.arraylength hx (by rw [hh15]; exact Ar_b11r.1) (State.isArrayOf_alike hZ.alike Ar_b11r.2.1) (g := (mkF m 223 #[.val (.int p1), .val (.int p2), .val (.int p3), .val (.int p4), .val (.int p5), .val (.int p6), .val (.int ((p1 &&& (2147483647 : Int32)) % (5 : Int32))), .val (.int (drawF p2)), .val (.int (drawF p3)), .val (.int (drawF p4)), .val (.int (drawF p5)), .val (.ref b11r), .val (.ref b12), .val (.ref b14r), .val (.int (eOf ((p1 &&& (2147483647 : Int32)) % (5 : Int32)) (drawF p2) (drawF p3) (drawF p4) (drawF p5))), .val (.ref b11r)] [(.ref b11r)])) rfl rfl (hb hby at_223) _ ?_
    rw [len_of S_b11r N_b11r]
    show Steps p.tables e below (T15.setTop (mkF m 224 #[.val (.int p1), .val (.int p2), .val (.int p3), .val (.int p4), .val (.int p5), .val (.int p6), .val (.int ((p1 &&& (2147483647 : Int32)) % (5 : Int32))), .val (.int (drawF p2)), .val (.int (drawF p3)), .val (.int (drawF p4)), .val (.int (drawF p5)), .val (.ref b11r), .val (.ref b12), .val (.ref b14r), .val (.int (eOf ((p1 &&& (2147483647 : Int32)) % (5 : Int32)) (drawF p2) (drawF p3) (drawF p4) (drawF p5))), .val (.ref b11r)] [(.int ((p1 &&& (2147483647 : Int32)) % (5 : Int32)))])) _
    refine XS.iload X15.here hx rfl (hb hby at_224) rfl ?_
    show Steps p.tables e below (T15.setTop (mkF m 226 #[.val (.int p1), .val (.int p2), .val (.int p3), .val (.int p4), .val (.int p5), .val (.int p6), .val (.int ((p1 &&& (2147483647 : Int32)) % (5 : Int32))), .val (.int (drawF p2)), .val (.int (drawF p3)), .val (.int (drawF p4)), .val (.int (drawF p5)), .val (.ref b11r), .val (.ref b12), .val (.ref b14r), .val (.int (eOf ((p1 &&& (2147483647 : Int32)) % (5 : Int32)) (drawF p2) (drawF p3) (drawF p4) (drawF p5))), .val (.ref b11r)] [(.int ((p1 &&& (2147483647 : Int32)) % (5 : Int32))), (.int ((p1 &&& (2147483647 : Int32)) % (5 : Int32)))])) _
    refine XS.icmpYes X15.here hx rfl (pc0 := 226) (pc' := 231) rfl (hb hby at_226) rfl (teq (rfl : ((p1 &&& (2147483647 : Int32)) % (5 : Int32)) = ((p1 &&& (2147483647 : Int32)) % (5 : Int32)))).1 (by decide) (by decide) ?_
    show Steps p.tables e below (T15.setTop (mkF m 231 #[.val (.int p1), .val (.int p2), .val (.int p3), .val (.int p4), .val (.int p5), .val (.int p6), .val (.int ((p1 &&& (2147483647 : Int32)) % (5 : Int32))), .val (.int (drawF p2)), .val (.int (drawF p3)), .val (.int (drawF p4)), .val (.int (drawF p5)), .val (.ref b11r), .val (.ref b12), .val (.ref b14r), .val (.int (eOf ((p1 &&& (2147483647 : Int32)) % (5 : Int32)) (drawF p2) (drawF p3) (drawF p4) (drawF p5))), .val (.ref b11r)] [])) _
    refine blkD_0 (.val (.int p1)) (.val (.int p2)) (.val (.int p3)) (.val (.int p4)) (.val (.int p5)) (.val (.int p6)) ((p1 &&& (2147483647 : Int32)) % (5 : Int32)) (drawF p2) (.val (.int (drawF p3))) (.val (.int (drawF p4))) (.val (.int (drawF p5))) (.val (.ref b11r)) (.val (.ref b12)) (.val (.ref b14r)) (.val (.int (eOf ((p1 &&& (2147483647 : Int32)) % (5 : Int32)) (drawF p2) (drawF p3) (drawF p4) (drawF p5)))) b11r X15 hx hZ hw hby hml hown hh15 k11r (vsOf ((p1 &&& (2147483647 : Int32)) % (5 : Int32)) (drawF p2) (drawF p3) (drawF p4) (drawF p5)) (((Vb11.ext E12).keep Kc13 (ninS (Nat.ne_of_lt (Nat.lt_of_lt_of_le Eb11.lt (Nat.le_of_eq g12.symm))) nin0)).keep Kc14 nin0) (fun g => (own_at _ _ _ _ _ hn).1 g) _ ?_
    refine blkD_1 (.val (.int p1)) (.val (.int p2)) (.val (.int p3)) (.val (.int p4)) (.val (.int p5)) (.val (.int p6)) ((p1 &&& (2147483647 : Int32)) % (5 : Int32)) (.val (.int (drawF p2))) (drawF p3) (.val (.int (drawF p4))) (.val (.int (drawF p5))) (.val (.ref b11r)) (.val (.ref b12)) (.val (.ref b14r)) (.val (.int (eOf ((p1 &&& (2147483647 : Int32)) % (5 : Int32)) (drawF p2) (drawF p3) (drawF p4) (drawF p5)))) b11r X15 hx hZ hw hby hml hown hh15 k11r (vsOf ((p1 &&& (2147483647 : Int32)) % (5 : Int32)) (drawF p2) (drawF p3) (drawF p4) (drawF p5)) (((Vb11.ext E12).keep Kc13 (ninS (Nat.ne_of_lt (Nat.lt_of_lt_of_le Eb11.lt (Nat.le_of_eq g12.symm))) nin0)).keep Kc14 nin0) (fun g => (own_at _ _ _ _ _ hn).2.1 g) _ ?_
    refine blkD_2 (.val (.int p1)) (.val (.int p2)) (.val (.int p3)) (.val (.int p4)) (.val (.int p5)) (.val (.int p6)) ((p1 &&& (2147483647 : Int32)) % (5 : Int32)) (.val (.int (drawF p2))) (.val (.int (drawF p3))) (drawF p4) (.val (.int (drawF p5))) (.val (.ref b11r)) (.val (.ref b12)) (.val (.ref b14r)) (.val (.int (eOf ((p1 &&& (2147483647 : Int32)) % (5 : Int32)) (drawF p2) (drawF p3) (drawF p4) (drawF p5)))) b11r X15 hx hZ hw hby hml hown hh15 k11r (vsOf ((p1 &&& (2147483647 : Int32)) % (5 : Int32)) (drawF p2) (drawF p3) (drawF p4) (drawF p5)) (((Vb11.ext E12).keep Kc13 (ninS (Nat.ne_of_lt (Nat.lt_of_lt_of_le Eb11.lt (Nat.le_of_eq g12.symm))) nin0)).keep Kc14 nin0) (fun g => (own_at _ _ _ _ _ hn).2.2.1 g) _ ?_
    refine blkD_3 (.val (.int p1)) (.val (.int p2)) (.val (.int p3)) (.val (.int p4)) (.val (.int p5)) (.val (.int p6)) ((p1 &&& (2147483647 : Int32)) % (5 : Int32)) (.val (.int (drawF p2))) (.val (.int (drawF p3))) (.val (.int (drawF p4))) (drawF p5) (.val (.ref b11r)) (.val (.ref b12)) (.val (.ref b14r)) (.val (.int (eOf ((p1 &&& (2147483647 : Int32)) % (5 : Int32)) (drawF p2) (drawF p3) (drawF p4) (drawF p5)))) b11r X15 hx hZ hw hby hml hown hh15 k11r (vsOf ((p1 &&& (2147483647 : Int32)) % (5 : Int32)) (drawF p2) (drawF p3) (drawF p4) (drawF p5)) (((Vb11.ext E12).keep Kc13 (ninS (Nat.ne_of_lt (Nat.lt_of_lt_of_le Eb11.lt (Nat.le_of_eq g12.symm))) nin0)).keep Kc14 nin0) (fun g => (own_at _ _ _ _ _ hn).2.2.2 g) _ ?_
    show Steps p.tables e below (T15.setTop (mkF m 298 #[.val (.int p1), .val (.int p2), .val (.int p3), .val (.int p4), .val (.int p5), .val (.int p6), .val (.int ((p1 &&& (2147483647 : Int32)) % (5 : Int32))), .val (.int (drawF p2)), .val (.int (drawF p3)), .val (.int (drawF p4)), .val (.int (drawF p5)), .val (.ref b11r), .val (.ref b12), .val (.ref b14r), .val (.int (eOf ((p1 &&& (2147483647 : Int32)) % (5 : Int32)) (drawF p2) (drawF p3) (drawF p4) (drawF p5))), .val (.ref b11r)] [])) _
    refine XS.iconst X15.here hx rfl (hb hby at_298) ?_
    show Steps p.tables e below (T15.setTop (mkF m 299 #[.val (.int p1), .val (.int p2), .val (.int p3), .val (.int p4), .val (.int p5), .val (.int p6), .val (.int ((p1 &&& (2147483647 : Int32)) % (5 : Int32))), .val (.int (drawF p2)), .val (.int (drawF p3)), .val (.int (drawF p4)), .val (.int (drawF p5)), .val (.ref b11r), .val (.ref b12), .val (.ref b14r), .val (.int (eOf ((p1 &&& (2147483647 : Int32)) % (5 : Int32)) (drawF p2) (drawF p3) (drawF p4) (drawF p5))), .val (.ref b11r)] [(.int (1 : Int32))])) _
    exact retN X15 hx (t := .boolean) Bd.returns (by simp) (hb hby at_299) hr
  · show Q0 Z p1 p2 p3 p4 p5 p6 h0 n0 _ T15.heap _
    rw [hh15]
    exact ⟨rfl, N15⟩
set_option maxRecDepth 65536 in
set_option maxHeartbeats 40000000 in
theorem comes_1 {Post : Tables → Env → Array Value → State → Outcome → State → Prop} (hpost : ∀ tb e args s v u, (limb_1_1.after args s (.returned v) u = true ∧ limb_1_2.after args s (.returned v) u = true ∧ True) → FrameEnd s (.returned v) u (Jvm.fieldLocs frame_1_writes args s ++ Jvm.arrayLocs frame_1_arrays args s ++ Jvm.staticLocs frame_1_statics s) 16 128 → Post tb e args s (.returned v) u) :
    ArmFor flags0 classFile x code maxLocals ret World_1 tables_1 room_1 Calls_1 rest_1 Pre_1 Post := by
  intro l hfl _ _ p e ha hc hk s m args below hf hA hF happ hP
  obtain ⟨hcalls, hrest, hpre⟩ := hP
  obtain ⟨-, -, -, hnamed, -, -, -, hat⟩ := (Spec.applies_iff hf).mp happ
  obtain ⟨hg, hn⟩ := and_e (Cond.before_iff.mp (show (Jvm.Cond.and given_1 narrow_1).before args s = true from hpre))
  obtain ⟨g16, g17⟩ := and_e hg
  obtain ⟨g18, g19⟩ := and_e g17
  obtain ⟨g20, g21⟩ := and_e g19
  obtain ⟨g22, g23⟩ := and_e g21
  obtain ⟨g24, g25⟩ := and_e g23
  obtain ⟨g26, g27⟩ := and_e g25
  obtain ⟨w0, w1, w2, w3, w4, w5, rfl⟩ : ∃ w0 w1 w2 w3 w4 w5 : Value, args = #[w0, w1, w2, w3, w4, w5] := by
    have hs : args.size = 6 := by simpa [Cond.value, given_1] using g16
    obtain ⟨L⟩ := args
    match L, hs with
    | [w0, w1, w2, w3, w4, w5], _ => exact ⟨w0, w1, w2, w3, w4, w5, rfl⟩
  have hw := fun d (hd : d ∈ tables_1) => atoms_spec (ws := Jvm.Cond.code x code maxLocals ret :: tables_1) hat d (List.mem_cons_of_mem _ hd)
  have hfit : Fit s := fun {y c} hc i hi => by
    obtain ⟨ha, rfl⟩ := Array.getElem?_eq_some_iff.mp hc
    have q := List.all_eq_true.mp ((Array.all_eq_true_iff_forall_mem.mp hF) _ (Array.getElem_mem ha)) i (List.mem_range.mpr hi)
    simpa [Array.getElem?_eq_getElem hi] using q
  obtain ⟨i0, ei0⟩ := is_v g18
  obtain rfl : w0 = (.int i0) := Option.some.inj ei0
  obtain ⟨i1, ei1⟩ := is_v g20
  obtain rfl : w1 = (.int i1) := Option.some.inj ei1
  obtain ⟨i2, ei2⟩ := is_v g22
  obtain rfl : w2 = (.int i2) := Option.some.inj ei2
  obtain ⟨i3, ei3⟩ := is_v g24
  obtain rfl : w3 = (.int i3) := Option.some.inj ei3
  obtain ⟨i4, ei4⟩ := is_v g26
  obtain rfl : w4 = (.int i4) := Option.some.inj ei4
  obtain ⟨i5, ei5⟩ := is_v g27
  obtain rfl : w5 = (.int i5) := Option.some.inj ei5
  obtain ⟨n, o, h1, h2, h3, _, L, rfl, ⟨rfl, N⟩, hq⟩ := rm0 l s _ hw tables_1 i0 i1 i2 i3 i4 i5 s.heap s.heap.size (Nat.le_refl _) (by decide) p e ha hc hk s m _ below hf ((Spec.applies_iff_loose hf).mp happ).1 ⟨rfl, State.Warmed39.refl s, rfl⟩ trivial
  refine ⟨n, _, h1, h2, h3, hpost _ _ _ _ _ _ ⟨Cond.after_iff.mpr rfl, Cond.after_iff.mpr (eq_i res_at (Term.int_eval (1)) rfl), trivial⟩ ⟨hq.1, hq.2.1, (hq.2.2.sift fun y hy => Or.inr (N y hy)).mono (by decide) (by decide)⟩⟩
theorem main_1_1 : Claimed_1_1 := comes_1 fun _ _ _ _ _ _ h hF => ⟨h.1, hF⟩
theorem main_1_2 : Claimed_1_2 := comes_1 fun _ _ _ _ _ _ h hF => ⟨h.2.1, hF⟩
end Jvm.Pilot.@@N@@

namespace Jvm.Pilot.@@N@@
open Jvm Jvm.ClassFile Sem Op Lib Jvm.Free Jvm.Stand Jvm.Pilot.@@N@@.Jvm.D
/-! MADE BY PROGRAM (witnessworld.py) out of the Statement's table words and the real class files: 12 classes; the members and pool entries that the words name. The judged class is class 1, her method 3. -/
namespace start1
open Jvm.ClassFile
def u (s : String) : CpInfo := .utf8 (stringToUtf16 s)
/-- a pool by its gaps: so many unusable entries, then the entry; so many at the end -/
def gap : Nat → List CpInfo → List CpInfo
  | 0, r => r
  | n + 1, r => .unusable :: gap n r
def poolList (es : List (Nat × CpInfo)) (last : Nat) : List CpInfo := es.foldr (fun e r => gap e.1 (e.2 :: r)) (gap last [])
def pool (es : List (Nat × CpInfo)) (last : Nat) : Array CpInfo := ⟨poolList es last⟩
def fileOf (pool : Array CpInfo) (this : Nat) (attrs : Array Attribute := #[]) (ms : Array MethodInfo := #[]) (fl : Nat := 33) (sup : Nat := 0) (ifs : Array Nat := #[]) (fds : Array FieldInfo := #[]) : ClassFile where
  minorVersion := 0
  majorVersion := 65
  constantPool := pool
  accessFlags := fl
  thisClass := this
  superClass := sup
  interfaces := ifs
  fields := fds
  methods := ms
  attributes := attrs
def plain (name : String) (sup : Option ClassId) : Class where
  name := name
  kind := .ordinary
  loader := none
  accessFlags := 33
  super := sup
  interfaces := #[]
  cf := none
  fields := #[]
  methods := #[]
  instanceTypes := #[]
  staticTypes := #[]
  resolved := #[]
  callSites := []
  init := .initialized
  statics := none
  mirror := none

def pool0 : Array CpInfo := pool [(5, u "<init>"), (0, u "()V"), (1, .class_ 10), (1, u "java/lang/Object"), (85, u "clone"), (0, u "()Ljava/lang/Object;")] 26

def k0c0 : Code := { maxStack := 0, maxLocals := 1, code := object_method_1_code, exceptionTable := #[], attributes := #[] }
def k0m0 : Method := { name := "<init>", desc := "()V", sig := { parameters := [], returnType := none }, accessFlags := 1, code := some k0c0 }
def k0m1 : Method := { name := "clone", desc := "()Ljava/lang/Object;", sig := { parameters := [], returnType := some (.object "java/lang/Object") }, accessFlags := 260, code := none }
/-- java/lang/Object -/
def k0 : Class := { plain "java/lang/Object" none with
  accessFlags := 33
  interfaces := #[]
  cf := some (fileOf pool0 8 #[] #[{ accessFlags := 1, nameIndex := 5, descriptorIndex := 6, attributes := #[] }, { accessFlags := 260, nameIndex := 96, descriptorIndex := 97, attributes := #[] }] 33 0 #[] #[])
  fields := #[]
  methods := #[k0m0, k0m1]
  instanceTypes := #[]
  staticTypes := #[]
  resolved := Array.replicate 124 none
  statics := none }

def pool1 : Array CpInfo := pool [(2, .class_ 4), (1, u "java/lang/Object"), (0, u "<init>"), (0, u "()V"), (0, .integer 2147483647), (0, .methodref 9 10), (0, .class_ 11), (0, .nameAndType 12 13), (0, u "com/example/votary/votary/MessageQueryTextPinLaw"), (0, u "draw"), (0, u "(I)B"), (0, .methodref 9 15), (0, .nameAndType 16 17), (0, u "make"), (0, u "(IBBBB)[B"), (0, .class_ 19), (0, u "com/example/votary/votary/Message"), (0, .methodref 18 21), (0, .nameAndType 5 22), (0, u "(B[B)V"), (0, .methodref 18 24), (0, .nameAndType 25 26), (0, u "queryText"), (0, u "()[B"), (0, .methodref 18 28), (0, .nameAndType 29 26), (0, u "body"), (3, u "law"), (0, u "(IIIIII)Z")] 4

def k1m0 : Method := { name := "<init>", desc := "()V", sig := { parameters := [], returnType := none }, accessFlags := 1, code := none }
def k1c1 : Code := { maxStack := 2, maxLocals := 1, code := method_2_code, exceptionTable := #[], attributes := #[] }
def k1m1 : Method := { name := "draw", desc := "(I)B", sig := { parameters := [.int], returnType := some .byte }, accessFlags := 10, code := some k1c1 }
def k1c2 : Code := { maxStack := 4, maxLocals := 5, code := method_3_code, exceptionTable := #[], attributes := #[] }
def k1m2 : Method := { name := "make", desc := "(IBBBB)[B", sig := { parameters := [.int, .byte, .byte, .byte, .byte], returnType := some (.array .byte) }, accessFlags := 10, code := some k1c2 }
def k1c3 : Code := { maxStack := 5, maxLocals := 16, code := code, exceptionTable := #[], attributes := #[] }
def k1m3 : Method := { name := "law", desc := "(IIIIII)Z", sig := { parameters := [.int, .int, .int, .int, .int, .int], returnType := some .boolean }, accessFlags := 9, code := some k1c3 }
/-- com/example/votary/votary/MessageQueryTextPinLaw -/
def k1 : Class := { plain "com/example/votary/votary/MessageQueryTextPinLaw" (some 0) with
  accessFlags := 49
  interfaces := #[]
  cf := some (fileOf pool1 9 #[] #[{ accessFlags := 1, nameIndex := 5, descriptorIndex := 6, attributes := #[] }, { accessFlags := 10, nameIndex := 12, descriptorIndex := 13, attributes := #[] }, { accessFlags := 10, nameIndex := 16, descriptorIndex := 17, attributes := #[] }, { accessFlags := 9, nameIndex := 33, descriptorIndex := 34, attributes := #[] }] 49 2 #[] #[])
  fields := #[]
  methods := #[k1m0, k1m1, k1m2, k1m3]
  instanceTypes := #[]
  staticTypes := #[]
  resolved := Array.replicate 39 none
  statics := none }

def pool2 : Array CpInfo := pool [(1, .methodref 2 3), (0, .class_ 4), (0, .nameAndType 5 6), (0, u "java/lang/Object"), (0, u "<init>"), (0, u "()V"), (0, .fieldref 8 9), (0, .class_ 10), (0, .nameAndType 11 12), (0, u "com/example/votary/votary/Message"), (0, u "type"), (0, u "B"), (0, .fieldref 8 14), (0, .nameAndType 15 16), (0, u "body"), (0, u "[B"), (0, .class_ 18), (0, u "com/example/votary/votary/Message$Reader"), (19, .class_ 39), (0, u "com/example/votary/votary/Message$Builder"), (55, .methodref 96 97), (0, .class_ 98), (0, .nameAndType 99 100), (0, u "java/util/Arrays"), (0, u "copyOf"), (0, u "([BI)[B"), (0, u "PROTOCOL_3_0"), (0, u "I"), (2, u "CANCEL_REQUEST"), (1, u "(B[B)V"), (3, u "()[B"), (22, u "queryText")] 6

def k2c0 : Code := { maxStack := 2, maxLocals := 3, code := prog_8_method_1_code, exceptionTable := #[], attributes := #[] }
def k2m0 : Method := { name := "<init>", desc := "(B[B)V", sig := { parameters := [.byte, (.array .byte)], returnType := none }, accessFlags := 0, code := some k2c0 }
def k2c1 : Code := { maxStack := 1, maxLocals := 1, code := prog_8_method_3_code, exceptionTable := #[], attributes := #[] }
def k2m1 : Method := { name := "body", desc := "()[B", sig := { parameters := [], returnType := some (.array .byte) }, accessFlags := 0, code := some k2c1 }
def k2c2 : Code := { maxStack := 3, maxLocals := 2, code := prog_8_method_21_code, exceptionTable := #[], attributes := #[] }
def k2m2 : Method := { name := "queryText", desc := "()[B", sig := { parameters := [], returnType := some (.array .byte) }, accessFlags := 0, code := some k2c2 }
/-- com/example/votary/votary/Message -/
def k2 : Class := { plain "com/example/votary/votary/Message" (some 0) with
  accessFlags := 48
  interfaces := #[]
  cf := some (fileOf pool2 8 #[.nestMembers #[17, 38]] #[{ accessFlags := 0, nameIndex := 5, descriptorIndex := 107, attributes := #[] }, { accessFlags := 0, nameIndex := 15, descriptorIndex := 111, attributes := #[] }, { accessFlags := 0, nameIndex := 134, descriptorIndex := 111, attributes := #[] }] 48 2 #[] #[{ accessFlags := 24, nameIndex := 101, descriptorIndex := 102, attributes := #[] }, { accessFlags := 24, nameIndex := 105, descriptorIndex := 102, attributes := #[] }, { accessFlags := 18, nameIndex := 11, descriptorIndex := 12, attributes := #[] }, { accessFlags := 18, nameIndex := 15, descriptorIndex := 16, attributes := #[] }])
  fields := #[{ name := "PROTOCOL_3_0", type := .int, accessFlags := 24, slot := 0, constantValue := 0 }, { name := "CANCEL_REQUEST", type := .int, accessFlags := 24, slot := 1, constantValue := 0 }, { name := "type", type := .byte, accessFlags := 18, slot := 0, constantValue := 0 }, { name := "body", type := (.array .byte), accessFlags := 18, slot := 1, constantValue := 0 }]
  methods := #[k2m0, k2m1, k2m2]
  instanceTypes := #[.byte, (.array .byte)]
  staticTypes := #[.int, .int]
  resolved := Array.replicate 141 none
  statics := none }

def pool3 : Array CpInfo := pool [(2, .class_ 4), (1, u "java/lang/Object"), (0, u "<init>"), (0, u "()V"), (7, .class_ 16), (1, u "java/util/Arrays"), (57, .class_ 76), (1, u "java/util/Arrays$NaturalOrder"), (32, u "()Ljava/lang/Object;"), (3, .class_ 115), (1, u "java/util/Arrays$LegacyMergeSort"), (1, u "Z"), (10, .nameAndType 129 109), (0, u "clone"), (20, .methodref 151 152), (0, .class_ 153), (0, .nameAndType 154 155), (0, u "java/lang/System"), (0, u "arraycopy"), (0, u "(Ljava/lang/Object;ILjava/lang/Object;II)V"), (146, u "copyOf"), (1, .methodref 305 306), (0, .class_ 307), (0, .nameAndType 308 309), (0, u "java/lang/Math"), (0, u "min"), (0, u "(II)I"), (0, .methodref 311 128), (0, .class_ 312), (0, u "[B"), (62, .class_ 376), (0, u "java/util/Arrays$ArrayList"), (68, u "$assertionsDisabled"), (269, u "MIN_ARRAY_SORT_GRAN"), (0, u "I"), (2, u "INSERTIONSORT_THRESHOLD"), (149, u "([BI)[B"), (105, .class_ 976), (0, u "java/util/Arrays$ArrayItr")] 52

def k3m0 : Method := { name := "<init>", desc := "()V", sig := { parameters := [], returnType := none }, accessFlags := 2, code := none }
def k3c1 : Code := { maxStack := 6, maxLocals := 3, code := jdk_65_method_121_code, exceptionTable := #[], attributes := #[] }
def k3m1 : Method := { name := "copyOf", desc := "([BI)[B", sig := { parameters := [(.array .byte), .int], returnType := some (.array .byte) }, accessFlags := 9, code := some k3c1 }
/-- java/util/Arrays -/
def k3 : Class := { plain "java/util/Arrays" (some 0) with
  accessFlags := 49
  interfaces := #[]
  cf := some (fileOf pool3 14 #[.nestMembers #[975, 375, 113, 74]] #[{ accessFlags := 2, nameIndex := 5, descriptorIndex := 6, attributes := #[] }, { accessFlags := 9, nameIndex := 302, descriptorIndex := 869, attributes := #[] }] 49 2 #[] #[{ accessFlags := 26, nameIndex := 715, descriptorIndex := 716, attributes := #[] }, { accessFlags := 26, nameIndex := 719, descriptorIndex := 716, attributes := #[] }, { accessFlags := 4120, nameIndex := 445, descriptorIndex := 117, attributes := #[] }])
  fields := #[{ name := "MIN_ARRAY_SORT_GRAN", type := .int, accessFlags := 26, slot := 0, constantValue := 0 }, { name := "INSERTIONSORT_THRESHOLD", type := .int, accessFlags := 26, slot := 1, constantValue := 0 }, { name := "$assertionsDisabled", type := .boolean, accessFlags := 4120, slot := 2, constantValue := 0 }]
  methods := #[k3m0, k3m1]
  instanceTypes := #[]
  staticTypes := #[.int, .int, .boolean]
  resolved := Array.replicate 1029 none
  statics := none }

def pool4 : Array CpInfo := pool [(1, .class_ 2), (0, u "java/lang/Cloneable"), (0, .class_ 4), (0, u "java/lang/Object")] 2

/-- java/lang/Cloneable -/
def k4 : Class := { plain "java/lang/Cloneable" (some 0) with
  accessFlags := 1537
  interfaces := #[]
  cf := some (fileOf pool4 1 #[] #[] 1537 3 #[] #[])
  fields := #[]
  methods := #[]
  instanceTypes := #[]
  staticTypes := #[]
  resolved := Array.replicate 7 none
  statics := none }

def pool5 : Array CpInfo := pool [(1, .class_ 2), (0, u "java/lang/Math"), (1, .class_ 6), (1, u "java/lang/Object"), (0, u "<init>"), (0, u "()V"), (89, .class_ 100), (1, u "java/lang/Math$RandomNumberGeneratorHolder"), (71, u "negativeZeroFloatBits"), (0, u "J"), (2, u "negativeZeroDoubleBits"), (24, u "min"), (43, u "$assertionsDisabled"), (0, u "Z"), (88, u "(II)I"), (2, u "twoToTheDoubleScaleDown"), (0, u "D"), (4, u "twoToTheDoubleScaleUp"), (9, u "E"), (3, u "PI"), (2, u "TAU"), (2, u "DEGREES_TO_RADIANS"), (0, u "RADIANS_TO_DEGREES")] 94

def k5m0 : Method := { name := "<init>", desc := "()V", sig := { parameters := [], returnType := none }, accessFlags := 2, code := none }
def k5c1 : Code := { maxStack := 2, maxLocals := 2, code := jdk_29_method_69_code, exceptionTable := #[], attributes := #[] }
def k5m1 : Method := { name := "min", desc := "(II)I", sig := { parameters := [.int, .int], returnType := some .int }, accessFlags := 9, code := some k5c1 }
/-- java/lang/Math -/
def k5 : Class := { plain "java/lang/Math" (some 0) with
  accessFlags := 49
  interfaces := #[]
  cf := some (fileOf pool5 1 #[.nestMembers #[98]] #[{ accessFlags := 2, nameIndex := 7, descriptorIndex := 8, attributes := #[] }, { accessFlags := 9, nameIndex := 201, descriptorIndex := 335, attributes := #[] }] 49 4 #[] #[{ accessFlags := 25, nameIndex := 354, descriptorIndex := 339, attributes := #[] }, { accessFlags := 25, nameIndex := 358, descriptorIndex := 339, attributes := #[] }, { accessFlags := 25, nameIndex := 361, descriptorIndex := 339, attributes := #[] }, { accessFlags := 26, nameIndex := 364, descriptorIndex := 339, attributes := #[] }, { accessFlags := 26, nameIndex := 365, descriptorIndex := 339, attributes := #[] }, { accessFlags := 26, nameIndex := 172, descriptorIndex := 173, attributes := #[] }, { accessFlags := 26, nameIndex := 176, descriptorIndex := 173, attributes := #[] }, { accessFlags := 8, nameIndex := 344, descriptorIndex := 339, attributes := #[] }, { accessFlags := 8, nameIndex := 338, descriptorIndex := 339, attributes := #[] }, { accessFlags := 4120, nameIndex := 245, descriptorIndex := 246, attributes := #[] }])
  fields := #[{ name := "E", type := .double, accessFlags := 25, slot := 0, constantValue := 0 }, { name := "PI", type := .double, accessFlags := 25, slot := 1, constantValue := 0 }, { name := "TAU", type := .double, accessFlags := 25, slot := 2, constantValue := 0 }, { name := "DEGREES_TO_RADIANS", type := .double, accessFlags := 26, slot := 3, constantValue := 0 }, { name := "RADIANS_TO_DEGREES", type := .double, accessFlags := 26, slot := 4, constantValue := 0 }, { name := "negativeZeroFloatBits", type := .long, accessFlags := 26, slot := 5, constantValue := 0 }, { name := "negativeZeroDoubleBits", type := .long, accessFlags := 26, slot := 6, constantValue := 0 }, { name := "twoToTheDoubleScaleUp", type := .double, accessFlags := 8, slot := 7, constantValue := 0 }, { name := "twoToTheDoubleScaleDown", type := .double, accessFlags := 8, slot := 8, constantValue := 0 }, { name := "$assertionsDisabled", type := .boolean, accessFlags := 4120, slot := 9, constantValue := 0 }]
  methods := #[k5m0, k5m1]
  instanceTypes := #[]
  staticTypes := #[.double, .double, .double, .double, .double, .long, .long, .double, .double, .boolean]
  resolved := Array.replicate 460 none
  statics := none }

def pool6 : Array CpInfo := pool [(2, .class_ 4), (1, u "java/lang/Object"), (0, u "<init>"), (0, u "()V"), (1, .class_ 10), (1, u "java/lang/System"), (0, u "allowSecurityManager"), (0, u "I"), (16, u "cons"), (0, u "Ljava/io/Console;"), (77, .class_ 110), (1, u "java/lang/System$CallersHolder"), (43, u "initialErrStream"), (0, u "Ljava/io/PrintStream;"), (19, u "security"), (0, u "Ljava/lang/SecurityManager;"), (31, .class_ 209), (0, u "java/lang/System$1"), (7, u "props"), (0, u "Ljava/util/Properties;"), (2, u "lineSeparator"), (0, u "Ljava/lang/String;"), (96, .class_ 321), (1, u "java/lang/System$LoggerFinder"), (5, .class_ 328), (0, u "java/lang/System$Logger"), (67, u "err"), (2, u "out"), (91, u "notSupportedJnuEncoding"), (15, u "in"), (17, u "initialIn"), (0, u "Ljava/io/InputStream;"), (35, u "bootLayer"), (0, u "Ljava/lang/ModuleLayer;"), (99, .class_ 664), (0, u "java/lang/System$2"), (9, u "NEVER"), (2, u "MAYBE"), (49, u "arraycopy"), (0, u "(Ljava/lang/Object;ILjava/lang/Object;II)V"), (72, .class_ 802), (0, u "java/lang/System$Logger$Level")] 31

def k6m0 : Method := { name := "<init>", desc := "()V", sig := { parameters := [], returnType := none }, accessFlags := 2, code := none }
def k6m1 : Method := { name := "arraycopy", desc := "(Ljava/lang/Object;ILjava/lang/Object;II)V", sig := { parameters := [(.object "java/lang/Object"), .int, (.object "java/lang/Object"), .int, .int], returnType := none }, accessFlags := 265, code := none }
/-- java/lang/System -/
def k6 : Class := { plain "java/lang/System" (some 0) with
  accessFlags := 49
  interfaces := #[]
  cf := some (fileOf pool6 8 #[.nestMembers #[319, 327, 801, 108, 663, 208]] #[{ accessFlags := 2, nameIndex := 5, descriptorIndex := 6, attributes := #[] }, { accessFlags := 265, nameIndex := 727, descriptorIndex := 728, attributes := #[] }] 49 2 #[] #[{ accessFlags := 25, nameIndex := 507, descriptorIndex := 526, attributes := #[] }, { accessFlags := 25, nameIndex := 399, descriptorIndex := 155, attributes := #[] }, { accessFlags := 25, nameIndex := 396, descriptorIndex := 155, attributes := #[] }, { accessFlags := 10, nameIndex := 525, descriptorIndex := 526, attributes := #[] }, { accessFlags := 26, nameIndex := 674, descriptorIndex := 12, attributes := #[] }, { accessFlags := 26, nameIndex := 677, descriptorIndex := 12, attributes := #[] }, { accessFlags := 10, nameIndex := 11, descriptorIndex := 12, attributes := #[] }, { accessFlags := 74, nameIndex := 175, descriptorIndex := 176, attributes := #[] }, { accessFlags := 10, nameIndex := 491, descriptorIndex := 222, attributes := #[] }, { accessFlags := 74, nameIndex := 29, descriptorIndex := 30, attributes := #[] }, { accessFlags := 74, nameIndex := 154, descriptorIndex := 155, attributes := #[] }, { accessFlags := 10, nameIndex := 217, descriptorIndex := 218, attributes := #[] }, { accessFlags := 10, nameIndex := 221, descriptorIndex := 222, attributes := #[] }, { accessFlags := 8, nameIndex := 562, descriptorIndex := 563, attributes := #[] }])
  fields := #[{ name := "in", type := (.object "java/io/InputStream"), accessFlags := 25, slot := 0, constantValue := 0 }, { name := "out", type := (.object "java/io/PrintStream"), accessFlags := 25, slot := 1, constantValue := 0 }, { name := "err", type := (.object "java/io/PrintStream"), accessFlags := 25, slot := 2, constantValue := 0 }, { name := "initialIn", type := (.object "java/io/InputStream"), accessFlags := 10, slot := 3, constantValue := 0 }, { name := "NEVER", type := .int, accessFlags := 26, slot := 4, constantValue := 0 }, { name := "MAYBE", type := .int, accessFlags := 26, slot := 5, constantValue := 0 }, { name := "allowSecurityManager", type := .int, accessFlags := 10, slot := 6, constantValue := 0 }, { name := "security", type := (.object "java/lang/SecurityManager"), accessFlags := 74, slot := 7, constantValue := 0 }, { name := "notSupportedJnuEncoding", type := (.object "java/lang/String"), accessFlags := 10, slot := 8, constantValue := 0 }, { name := "cons", type := (.object "java/io/Console"), accessFlags := 74, slot := 9, constantValue := 0 }, { name := "initialErrStream", type := (.object "java/io/PrintStream"), accessFlags := 74, slot := 10, constantValue := 0 }, { name := "props", type := (.object "java/util/Properties"), accessFlags := 10, slot := 11, constantValue := 0 }, { name := "lineSeparator", type := (.object "java/lang/String"), accessFlags := 10, slot := 12, constantValue := 0 }, { name := "bootLayer", type := (.object "java/lang/ModuleLayer"), accessFlags := 8, slot := 13, constantValue := 0 }]
  methods := #[k6m0, k6m1]
  instanceTypes := #[]
  staticTypes := #[(.object "java/io/InputStream"), (.object "java/io/PrintStream"), (.object "java/io/PrintStream"), (.object "java/io/InputStream"), .int, .int, .int, (.object "java/lang/SecurityManager"), (.object "java/lang/String"), (.object "java/io/Console"), (.object "java/io/PrintStream"), (.object "java/util/Properties"), (.object "java/lang/String"), (.object "java/lang/ModuleLayer")]
  resolved := Array.replicate 834 none
  statics := none }

def pool7 : Array CpInfo := pool [(1, u "java/io/Serializable"), (0, .class_ 1), (0, u "java/lang/Object"), (0, .class_ 3)] 3

/-- java/io/Serializable -/
def k7 : Class := { plain "java/io/Serializable" (some 0) with
  accessFlags := 1537
  interfaces := #[]
  cf := some (fileOf pool7 2 #[] #[] 1537 4 #[] #[])
  fields := #[]
  methods := #[]
  instanceTypes := #[]
  staticTypes := #[]
  resolved := Array.replicate 8 none
  statics := none }

/-- the primitive byte -/
def k8 : Class := { plain "byte" none with kind := .primitive 'B', accessFlags := 0x411 }
/-- [B -/
def k9 : Class := { plain "[B" (some 0) with kind := .array 8 .byte, interfaces := #[4, 7], accessFlags := 1041 }

/-- the primitive int -/
def k10 : Class := { plain "int" none with kind := .primitive 'I', accessFlags := 0x411 }
/-- [I -/
def k11 : Class := { plain "[I" (some 0) with kind := .array 10 .int, interfaces := #[4, 7], accessFlags := 1041 }

def heap : Heap := #[]
def classes : Array Class := #[k0, k1, k2, k3, k4, k5, k6, k7, k8, k9, k10, k11]
def interned : List (Array UInt16 × Addr) := []
def slotsUsed : Nat := 0
def theMethod : MethodId := ⟨1, 3⟩
def args0 : Array Value := #[.int 2, .int 4, .int 6, .int 1, .int 1, .int 5]
def aboutOver (below : List Frame) : State where
  vm := { classes := classes, interned := interned.toArray }
  heap := heap
  slotsUsed := slotsUsed
  threads := #[{ frames := .invoking theMethod args0 :: below }]
def below0 : List Frame := [.native { method := ⟨0, 0⟩, args := #[] }]
def about1 : State := aboutOver below0
def p0 : Program := .bare "" "" ""
def e0 : Env := launch0.env 0 0 0
theorem w_frames : about1.frames = Frame.invoking theMethod args0 :: below0 := rfl
set_option maxRecDepth 65536 in
theorem w_args : argsFit about1.vm theMethod args0 = true := by decide +kernel
set_option maxRecDepth 65536 in
theorem w_heap : heapFits about1 = true := by decide +kernel
set_option maxRecDepth 65536 in
theorem w_runnable : about1.curStatus? = some .runnable := by decide +kernel
set_option maxRecDepth 65536 in
theorem w_alone : about1.alone = true := by decide +kernel
set_option maxRecDepth 65536 in
theorem w_named : about1.methodNamed? x = some theMethod := by decide +kernel
set_option maxRecDepth 65536 in
theorem w_hears : about1.hears theMethod below0 = true := by decide +kernel
set_option maxRecDepth 65536 in
theorem w_ripe : about1.ripe theMethod args0 below0 = true := by decide +kernel
theorem w_running : about1.status = .running := rfl
set_option maxRecDepth 65536 in
theorem w_room : about1.hasRoom e0.platform room_1 = true :=
  launch0.hasRoom_least _ room_1 (by decide +kernel) (by decide +kernel) (by decide +kernel) (by decide +kernel) (by decide +kernel) (by decide +kernel)
theorem allAtoms_all (ts : List Jvm.Cond) (a : Array Jvm.Value) (st : Jvm.State) : (allAtoms ts).before a st = ts.all (fun c => c.before a st) := by
  induction ts with
  | nil => rfl
  | cons c t ih =>
    show (Jvm.Cond.and c (allAtoms t)).before a st = _
    rw [Jvm.Cond.before_and, ih, List.all_cons]
def words1 : List Jvm.Cond := Jvm.Cond.code x code maxLocals ret :: tables_1
/-- a 'code' word, met by the world's own term for the bytes: nothing is compared byte by byte -/
theorem code_word {y : MethodName} {bytes : ByteArray} {mx : Nat} {rt : Option FieldType} {a : Array Value} {s : State} {m : MethodId} {meth : Method} {c : Code} (h1 : s.methodNamed? y = some m) (h2 : s.vm.method? m = some meth) (h3 : meth.code = some c) (h4 : c.code = bytes)
    (h5 : (c.maxLocals == mx && c.exceptionTable.isEmpty && decide (c.maxStack ≤ mostOperands) && decide (meth.sig.returnType = rt) && !meth.locks && decide (parseMethodDescriptor y.desc = some meth.sig)) = true) : (Jvm.Cond.code y bytes mx rt).before a s = true := by
  simp only [Bool.and_eq_true, beq_iff_eq, Bool.not_eq_true', decide_eq_true_eq] at h5
  obtain ⟨⟨⟨⟨⟨g1, g2⟩, g3⟩, g4⟩, g5⟩, g6⟩ := h5
  simp [Cond.before, Cond.holds, Cond.value, h1, h2, h3, h4, g1, g2, g3, g4, g5, g6]
def isCode : Jvm.Cond → Bool
  | .code _ _ _ _ => true
  | _ => false
theorem all_split {L : List Jvm.Cond} {P : Jvm.Cond → Bool} (h1 : L.all (fun c => isCode c || P c) = true) (h2 : ∀ c ∈ L.filter isCode, P c = true) : L.all P = true := by
  refine List.all_eq_true.mpr fun c hc => ?_
  have h := List.all_eq_true.mp h1 c hc
  rcases Bool.eq_false_or_eq_true (isCode c) with hi | hi
  · exact h2 c (List.mem_filter.mpr ⟨hc, hi⟩)
  · simpa [hi] using h
set_option maxRecDepth 65536 in
theorem w_c0 : (Jvm.Cond.code x code maxLocals ret).before args0 about1 = true := code_word (m := ⟨1, 3⟩) (meth := k1m3) (c := k1c3) (by decide +kernel) rfl rfl rfl (by decide +kernel)
set_option maxRecDepth 65536 in
theorem w_c1 : (Jvm.Cond.code ({ cls := "com/example/votary/votary/MessageQueryTextPinLaw", name := "draw", desc := "(I)B" } : Jvm.MethodName) method_2_code (1 : Nat) (Option.some Jvm.ClassFile.FieldType.byte)).before args0 about1 = true := code_word (m := ⟨1, 1⟩) (meth := k1m1) (c := k1c1) (by decide +kernel) rfl rfl rfl (by decide +kernel)
set_option maxRecDepth 65536 in
theorem w_c2 : (Jvm.Cond.code ({ cls := "com/example/votary/votary/MessageQueryTextPinLaw", name := "make", desc := "(IBBBB)[B" } : Jvm.MethodName) method_3_code (5 : Nat) (Option.some (Jvm.ClassFile.FieldType.array Jvm.ClassFile.FieldType.byte))).before args0 about1 = true := code_word (m := ⟨1, 2⟩) (meth := k1m2) (c := k1c2) (by decide +kernel) rfl rfl rfl (by decide +kernel)
set_option maxRecDepth 65536 in
theorem w_c3 : (Jvm.Cond.code ({ cls := "com/example/votary/votary/Message", name := "<init>", desc := "(B[B)V" } : Jvm.MethodName) prog_8_method_1_code (3 : Nat) (Option.none : Option Jvm.ClassFile.FieldType)).before args0 about1 = true := code_word (m := ⟨2, 0⟩) (meth := k2m0) (c := k2c0) (by decide +kernel) rfl rfl rfl (by decide +kernel)
set_option maxRecDepth 65536 in
theorem w_c4 : (Jvm.Cond.code ({ cls := "java/lang/Object", name := "<init>", desc := "()V" } : Jvm.MethodName) object_method_1_code (1 : Nat) (Option.none : Option Jvm.ClassFile.FieldType)).before args0 about1 = true := code_word (m := ⟨0, 0⟩) (meth := k0m0) (c := k0c0) (by decide +kernel) rfl rfl rfl (by decide +kernel)
set_option maxRecDepth 65536 in
theorem w_c5 : (Jvm.Cond.code ({ cls := "com/example/votary/votary/Message", name := "queryText", desc := "()[B" } : Jvm.MethodName) prog_8_method_21_code (2 : Nat) (Option.some (Jvm.ClassFile.FieldType.array Jvm.ClassFile.FieldType.byte))).before args0 about1 = true := code_word (m := ⟨2, 2⟩) (meth := k2m2) (c := k2c2) (by decide +kernel) rfl rfl rfl (by decide +kernel)
set_option maxRecDepth 65536 in
theorem w_c6 : (Jvm.Cond.code ({ cls := "java/util/Arrays", name := "copyOf", desc := "([BI)[B" } : Jvm.MethodName) jdk_65_method_121_code (3 : Nat) (Option.some (Jvm.ClassFile.FieldType.array Jvm.ClassFile.FieldType.byte))).before args0 about1 = true := code_word (m := ⟨3, 1⟩) (meth := k3m1) (c := k3c1) (by decide +kernel) rfl rfl rfl (by decide +kernel)
set_option maxRecDepth 65536 in
theorem w_c7 : (Jvm.Cond.code ({ cls := "com/example/votary/votary/Message", name := "body", desc := "()[B" } : Jvm.MethodName) prog_8_method_3_code (1 : Nat) (Option.some (Jvm.ClassFile.FieldType.array Jvm.ClassFile.FieldType.byte))).before args0 about1 = true := code_word (m := ⟨2, 1⟩) (meth := k2m1) (c := k2c1) (by decide +kernel) rfl rfl rfl (by decide +kernel)
set_option maxRecDepth 65536 in
theorem w_c8 : (Jvm.Cond.code ({ cls := "java/lang/Math", name := "min", desc := "(II)I" } : Jvm.MethodName) jdk_29_method_69_code (2 : Nat) (Option.some Jvm.ClassFile.FieldType.int)).before args0 about1 = true := code_word (m := ⟨5, 1⟩) (meth := k5m1) (c := k5c1) (by decide +kernel) rfl rfl rfl (by decide +kernel)
def codes1 : List Jvm.Cond := [Jvm.Cond.code x code maxLocals ret, Jvm.Cond.code ({ cls := "com/example/votary/votary/MessageQueryTextPinLaw", name := "draw", desc := "(I)B" } : Jvm.MethodName) method_2_code (1 : Nat) (Option.some Jvm.ClassFile.FieldType.byte), Jvm.Cond.code ({ cls := "com/example/votary/votary/MessageQueryTextPinLaw", name := "make", desc := "(IBBBB)[B" } : Jvm.MethodName) method_3_code (5 : Nat) (Option.some (Jvm.ClassFile.FieldType.array Jvm.ClassFile.FieldType.byte)), Jvm.Cond.code ({ cls := "com/example/votary/votary/Message", name := "<init>", desc := "(B[B)V" } : Jvm.MethodName) prog_8_method_1_code (3 : Nat) (Option.none : Option Jvm.ClassFile.FieldType), Jvm.Cond.code ({ cls := "java/lang/Object", name := "<init>", desc := "()V" } : Jvm.MethodName) object_method_1_code (1 : Nat) (Option.none : Option Jvm.ClassFile.FieldType), Jvm.Cond.code ({ cls := "com/example/votary/votary/Message", name := "queryText", desc := "()[B" } : Jvm.MethodName) prog_8_method_21_code (2 : Nat) (Option.some (Jvm.ClassFile.FieldType.array Jvm.ClassFile.FieldType.byte)), Jvm.Cond.code ({ cls := "java/util/Arrays", name := "copyOf", desc := "([BI)[B" } : Jvm.MethodName) jdk_65_method_121_code (3 : Nat) (Option.some (Jvm.ClassFile.FieldType.array Jvm.ClassFile.FieldType.byte)), Jvm.Cond.code ({ cls := "com/example/votary/votary/Message", name := "body", desc := "()[B" } : Jvm.MethodName) prog_8_method_3_code (1 : Nat) (Option.some (Jvm.ClassFile.FieldType.array Jvm.ClassFile.FieldType.byte)), Jvm.Cond.code ({ cls := "java/lang/Math", name := "min", desc := "(II)I" } : Jvm.MethodName) jdk_29_method_69_code (2 : Nat) (Option.some Jvm.ClassFile.FieldType.int)]
set_option maxRecDepth 65536 in
theorem codes_eq : words1.filter isCode = codes1 := rfl
theorem w_codes : ∀ c ∈ words1.filter isCode, c.before args0 about1 = true := by
  rw [codes_eq]
  intro c hc
  simp only [codes1, List.mem_cons, List.not_mem_nil, or_false] at hc
  rcases hc with rfl | rfl | rfl | rfl | rfl | rfl | rfl | rfl | rfl
  · exact w_c0
  · exact w_c1
  · exact w_c2
  · exact w_c3
  · exact w_c4
  · exact w_c5
  · exact w_c6
  · exact w_c7
  · exact w_c8
set_option maxRecDepth 65536 in
theorem w_t1 : (words1.take 24).all (fun c => isCode c || c.before args0 about1) = true := by decide +kernel
set_option maxRecDepth 65536 in
theorem w_t2 : ((words1.drop 24).take 24).all (fun c => isCode c || c.before args0 about1) = true := by decide +kernel
set_option maxRecDepth 65536 in
theorem w_t3 : ((words1.drop 24).drop 24).all (fun c => isCode c || c.before args0 about1) = true := by decide +kernel
theorem w_tables : (allAtoms (Jvm.Cond.code x code maxLocals ret :: tables_1)).before args0 about1 = true := by
  rw [allAtoms_all]
  show words1.all (fun c => c.before args0 about1) = true
  refine all_split ?_ w_codes
  rw [← List.take_append_drop 24 words1, List.all_append, w_t1, ← List.take_append_drop 24 (words1.drop 24), List.all_append, w_t2, w_t3]
  rfl
set_option maxRecDepth 65536 in
theorem w_case : (Jvm.Cond.and given_1 narrow_1).before args0 about1 = true := by decide +kernel
theorem w_applies : (headSpec (Jvm.Cond.code x code maxLocals ret :: tables_1) room_1).applies x e0.platform about1 = true :=
  (Spec.applies_iff w_frames).mpr ⟨w_running, w_runnable, w_alone, w_named, w_hears, w_ripe, w_room, w_tables⟩
theorem atStart : AtStart classFile x code maxLocals ret World_1 tables_1 room_1 Calls_1 rest_1 Pre_1 launch0 p0 e0 about1 theMethod args0 below0 :=
  ⟨lists_1, trivial, launch0.admits_env _ _ _, launch0.least_env, fairChoices_fair.cas, fairChoices_fair.clock, w_frames, w_args, w_heap, w_applies, trivial, trivial, w_case⟩
end start1
theorem witness_1 : WitnessClaimed_1 := ⟨start1.p0, start1.e0, start1.about1, start1.theMethod, start1.args0, start1.below0, start1.atStart⟩
end Jvm.Pilot.@@N@@
